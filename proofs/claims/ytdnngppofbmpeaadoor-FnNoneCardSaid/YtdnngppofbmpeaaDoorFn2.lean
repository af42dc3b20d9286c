/- Proved here: what bigEndianUint and its kin do. No conditions but those that each theorem states. -/
import Derived.Test.YtdnngppofbmpeaaDoorFn1
namespace Go.Proofs.YtdnngppofbmpeaaDoor.Bm
open Go Go.RowKit

theorem or_comm' (k : IntKind) (x y : Int) : bits .or k x y = bits .or k y x := by
  simp only [bits]; rw [BitVec.or_comm]
theorem or32 {lo hi : Int} (i : Nat) (h0 : 0 ≤ lo) (h1 : lo < 2 ^ i) (h2 : 0 ≤ hi) (h3 : hi < 4294967296) (h4 : hi % 2 ^ i = 0) (h5 : lo < 4294967296) : bits .or .u32 lo hi = lo + hi := by
  rw [or_comm', bits_join .u32 32 (by decide) (fun n h0 h1 => by rw [IntKind.wrap_u32]; omega) i hi lo h2 h4 h3 h0 h1 h5]; omega
theorem or64 {lo hi : Int} (i : Nat) (h0 : 0 ≤ lo) (h1 : lo < 2 ^ i) (h2 : 0 ≤ hi) (h3 : hi < 18446744073709551616) (h4 : hi % 2 ^ i = 0) (h5 : lo < 18446744073709551616) : bits .or .u64 lo hi = lo + hi := by
  rw [or_comm', bits_join .u64 64 (by decide) (fun n h0 h1 => u64_in ⟨h0, h1⟩) i hi lo h2 h4 h3 h0 h1 h5]; omega

theorem dg8_gt {xs : List Int} (h : Dg 256 xs) (i : Nat) : 0 ≤ gt xs i ∧ gt xs i < 256 := Dg.getD (by omega) h i

section
variable {w0 : World} {M : Mem}
abbrev bytes (xs : List Int) : Obj := row .u8 5 xs

theorem beU32 {b o len cap : Nat} {xs : List Int} (hb : (b, bytes xs) ∈ M) (hl : 4 ≤ len) (hx : o + len ≤ xs.length) (hd : Dg 256 xs) :
    CS w0 78 [.slice (some ⟨b, o, none⟩) len cap] M (fun u M' => u = .int .u32 (gt xs (o + 3) + gt xs (o + 2) * 256 + gt xs (o + 1) * 65536 + gt xs o * 16777216) ∧ M' = M) := by
  have d0 := dg8_gt hd o
  have d1 := dg8_gt hd (o + 1)
  have d2 := dg8_gt hd (o + 2)
  have d3 := dg8_gt hd (o + 3)
  refine CS.of Tryd.func78 Tryd.ntmps78 rfl rfl ?_
  refine WC.seq ?_
  refine WC.region ?_
  refine WL.q (LX.assign rfl) rfl ?_
  refine WL.nil ?_
  refine thenK_normal ?_
  refine WC.seq ?_
  refine WC.region ?_
  refine WL.q (LX.move rfl) rfl ?_
  refine WL.q (LX.idxo rfl rfl rfl 3 rfl (by omega)) rfl ?_
  refine WL.q (LX.loadRow rfl rfl (by repeat first | assumption | exact List.mem_cons_self | refine List.mem_cons_of_mem _ ?_) (by omega)) rfl ?_
  refine WL.nil ?_
  refine thenK_normal ?_
  refine WC.seq ?_
  refine WC.draw [(0, 0), (0, 1), (0, 4), (0, 5), (0, 10), (0, 11), (0, 16), (0, 17), (1, 2), (0, 3), (1, 6), (0, 7), (0, 8), (0, 9), (1, 12), (0, 13), (0, 14), (0, 15), (1, 18), (0, 19), (0, 20), (0, 21), (0, 22)] M rfl (by kernel_rfl) rfl (by kernel_rfl) ?_
  refine DW.p rfl rfl (fun _ => LX.move rfl) rfl ?_
  refine DW.p rfl rfl (fun _ => LX.idxo rfl rfl rfl 3 rfl (by omega)) rfl ?_
  refine DW.p rfl rfl (fun _ => LX.move rfl) rfl ?_
  refine DW.p rfl rfl (fun _ => LX.idxo rfl rfl rfl 2 rfl (by omega)) rfl ?_
  refine DW.p rfl rfl (fun _ => LX.move rfl) rfl ?_
  refine DW.p rfl rfl (fun _ => LX.idxo rfl rfl rfl 1 rfl (by omega)) rfl ?_
  refine DW.p rfl rfl (fun _ => LX.move rfl) rfl ?_
  refine DW.p rfl rfl (fun _ => LX.eq (LX.idxo rfl rfl rfl 0 rfl (by omega)) (show _ = Value.pointer (some ⟨b, o, none⟩) by rw [Nat.add_zero])) rfl ?_
  refine DW.r rfl rfl (LX.loadRow rfl rfl (by repeat first | assumption | exact List.mem_cons_self | refine List.mem_cons_of_mem _ ?_) (by omega)) (fun _ h => h) rfl ?_
  refine DW.p rfl rfl (fun _ => LX.eq (LX.conv rfl rfl rfl) (show _ = Value.int .u32 (gt xs (o + 3)) by rw [IntKind.wrap_u32, Int.emod_eq_of_lt (by omega) (by omega)])) rfl ?_
  refine DW.r rfl rfl (LX.loadRow rfl rfl (by repeat first | assumption | exact List.mem_cons_self | refine List.mem_cons_of_mem _ ?_) (by omega)) (fun _ h => h) rfl ?_
  refine DW.p rfl rfl (fun _ => LX.eq (LX.conv rfl rfl rfl) (show _ = Value.int .u32 (gt xs (o + 2)) by rw [IntKind.wrap_u32, Int.emod_eq_of_lt (by omega) (by omega)])) rfl ?_
  refine DW.p rfl rfl (fun _ => LX.eq (LX.shl rfl rfl (by omega)) (show Value.int .u32 (IntKind.u32.wrap (gt xs (o + 2) * 256)) = Value.int .u32 (gt xs (o + 2) * 256) by rw [IntKind.wrap_u32, Int.emod_eq_of_lt (by omega) (by omega)])) rfl ?_
  refine DW.p rfl rfl (fun _ => LX.eq (LX.bin rfl rfl rfl) (by rw [or32 8 (by omega) (by omega) (by omega) (by omega) (by omega) (by omega)])) rfl ?_
  refine DW.r rfl rfl (LX.loadRow rfl rfl (by repeat first | assumption | exact List.mem_cons_self | refine List.mem_cons_of_mem _ ?_) (by omega)) (fun _ h => h) rfl ?_
  refine DW.p rfl rfl (fun _ => LX.eq (LX.conv rfl rfl rfl) (show _ = Value.int .u32 (gt xs (o + 1)) by rw [IntKind.wrap_u32, Int.emod_eq_of_lt (by omega) (by omega)])) rfl ?_
  refine DW.p rfl rfl (fun _ => LX.eq (LX.shl rfl rfl (by omega)) (show Value.int .u32 (IntKind.u32.wrap (gt xs (o + 1) * 65536)) = Value.int .u32 (gt xs (o + 1) * 65536) by rw [IntKind.wrap_u32, Int.emod_eq_of_lt (by omega) (by omega)])) rfl ?_
  refine DW.p rfl rfl (fun _ => LX.eq (LX.bin rfl rfl rfl) (by rw [or32 16 (by omega) (by omega) (by omega) (by omega) (by omega) (by omega)])) rfl ?_
  refine DW.r rfl rfl (LX.loadRow rfl rfl (by repeat first | assumption | exact List.mem_cons_self | refine List.mem_cons_of_mem _ ?_) (by omega)) (fun _ h => h) rfl ?_
  refine DW.p rfl rfl (fun _ => LX.eq (LX.conv rfl rfl rfl) (show _ = Value.int .u32 (gt xs o) by rw [IntKind.wrap_u32, Int.emod_eq_of_lt (by omega) (by omega)])) rfl ?_
  refine DW.p rfl rfl (fun _ => LX.eq (LX.shl rfl rfl (by omega)) (show Value.int .u32 (IntKind.u32.wrap (gt xs o * 16777216)) = Value.int .u32 (gt xs o * 16777216) by rw [IntKind.wrap_u32, Int.emod_eq_of_lt (by omega) (by omega)])) rfl ?_
  refine DW.p rfl rfl (fun _ => LX.eq (LX.bin rfl rfl rfl) (by rw [or32 24 (by omega) (by omega) (by omega) (by omega) (by omega) (by omega)])) rfl ?_
  refine DW.p rfl rfl (fun _ => LX.assign rfl) rfl ?_
  refine DW.nil ?_
  refine thenK_normal ?_
  refine WC.ret ?_
  exact KR.one (.inl rfl) rfl rfl ⟨rfl, rfl⟩

/-- eight bytes from o on, the highest first -/
def be8 (xs : List Int) (o : Nat) : Int := dv 256 (sliceL xs o 8).reverse

theorem sliceL_succ (xs : List Int) (o k : Nat) (h : o + k < xs.length) : sliceL xs o (k + 1) = gt xs o :: sliceL xs (o + 1) k := by
  unfold sliceL
  rw [List.drop_eq_getElem_cons (by omega), List.take_succ_cons, gt_eq (by omega)]

theorem be8_eq {xs : List Int} {o : Nat} (h : o + 8 ≤ xs.length) : be8 xs o = gt xs (o + 7) + gt xs (o + 6) * 256 + gt xs (o + 5) * 65536 + gt xs (o + 4) * 16777216 + (gt xs (o + 3) + gt xs (o + 2) * 256 + gt xs (o + 1) * 65536 + gt xs o * 16777216) * 4294967296 := by
  unfold be8
  rw [sliceL_succ _ _ _ (by omega), sliceL_succ _ _ _ (by omega), sliceL_succ _ _ _ (by omega), sliceL_succ _ _ _ (by omega), sliceL_succ _ _ _ (by omega), sliceL_succ _ _ _ (by omega), sliceL_succ _ _ _ (by omega), sliceL_succ _ _ _ (by omega)]
  simp only [sliceL, List.take_zero, List.reverse_cons, List.reverse_nil, List.nil_append, List.cons_append, dv_cons, dv_nil, Nat.add_assoc, Nat.reduceAdd]
  omega

theorem beU64 {b o len cap : Nat} {xs : List Int} (hb : (b, bytes xs) ∈ M) (hl : 8 ≤ len) (hc : len ≤ cap) (hx : o + len ≤ xs.length) (hd : Dg 256 xs) :
    CS w0 77 [.slice (some ⟨b, o, none⟩) len cap] M (fun u M' => u = .int .u64 (be8 xs o) ∧ M' = M) := by
  have d0 := dg8_gt hd o
  have d1 := dg8_gt hd (o + 1)
  have d2 := dg8_gt hd (o + 2)
  have d3 := dg8_gt hd (o + 3)
  have d4 := dg8_gt hd (o + 4)
  have d5 := dg8_gt hd (o + 5)
  have d6 := dg8_gt hd (o + 6)
  have d7 := dg8_gt hd (o + 7)
  have he := be8_eq (xs := xs) (o := o) (by omega)
  refine CS.of Tryd.func77 Tryd.ntmps77 rfl rfl ?_
  refine WC.seq ?_
  refine WC.region ?_
  refine WL.q (LX.assign rfl) rfl ?_
  refine WL.nil ?_
  refine thenK_normal ?_
  refine WC.seq ?_
  refine WC.region ?_
  refine WL.q (LX.move rfl) rfl ?_
  refine WL.q (LX.idxo rfl rfl rfl 7 rfl (by omega)) rfl ?_
  refine WL.q (LX.loadRow rfl rfl (by repeat first | assumption | exact List.mem_cons_self | refine List.mem_cons_of_mem _ ?_) (by omega)) rfl ?_
  refine WL.nil ?_
  refine thenK_normal ?_
  refine WC.seq ?_
  refine WC.draw [(0, 0), (0, 4), (0, 5), (2, 1), (0, 2), (0, 3), (2, 6), (0, 7), (0, 8), (0, 9)] M rfl (by kernel_rfl) rfl (by kernel_rfl) ?_
  refine DW.p rfl rfl (fun _ => LX.move rfl) rfl ?_
  refine DW.p rfl rfl (fun _ => LX.move rfl) rfl ?_
  refine DW.p rfl rfl (fun _ => LX.sliceFrom rfl rfl rfl 4 rfl (by omega) (by omega) (by omega)) rfl ?_
  refine DW.fval rfl rfl (EX.call rfl (fun _ => by kernel_rfl) (beU32 hb (by omega) hx hd)) (fun _ h => h) rfl ?_
  refine DW.p rfl rfl (fun _ => LX.convU rfl rfl rfl (by omega)) rfl ?_
  refine DW.p rfl rfl (fun _ => LX.eq (LX.shl rfl rfl (by omega)) (show Value.int .u64 (IntKind.u64.wrap (_ * 4294967296)) = Value.int .u64 ((gt xs (o + 3) + gt xs (o + 2) * 256 + gt xs (o + 1) * 65536 + gt xs o * 16777216) * 4294967296) by rw [u64_in (by omega)])) rfl ?_
  refine DW.fval rfl rfl (EX.call rfl (fun _ => by kernel_rfl) (show CS w0 _ [.slice (some ⟨b, o + 4, none⟩) _ _] M (fun u M' => u = .int .u32 (gt xs (o + 7) + gt xs (o + 6) * 256 + gt xs (o + 5) * 65536 + gt xs (o + 4) * 16777216) ∧ M' = M) from beU32 (o := o + 4) hb (by omega) (by omega) hd)) (fun _ h => h) rfl ?_
  refine DW.p rfl rfl (fun _ => LX.convU rfl rfl rfl (by omega)) rfl ?_
  refine DW.p rfl rfl (fun _ => LX.eq (LX.bin rfl rfl rfl) (show _ = Value.int .u64 (be8 xs o) by rw [or_comm', or64 32 (by omega) (by omega) (by omega) (by omega) (by omega) (by omega), he])) rfl ?_
  refine DW.p rfl rfl (fun _ => LX.assign rfl) rfl ?_
  refine DW.nil ?_
  refine thenK_normal ?_
  refine WC.ret ?_
  exact KR.one (.inl rfl) rfl rfl ⟨rfl, rfl⟩

theorem beUint {b o len cap : Nat} {xs : List Int} (hb : (b, bytes xs) ∈ M) (hl : 8 ≤ len) (hc : len ≤ cap) (hx : o + len ≤ xs.length) (hd : Dg 256 xs) :
    CS w0 67 [.slice (some ⟨b, o, none⟩) len cap] M (fun u M' => u = .int .u64 (be8 xs o) ∧ M' = M) := by
  refine CS.of Tryd.func67 Tryd.ntmps67 rfl rfl ?_
  refine WC.seq ?_
  refine WC.region ?_
  refine WL.q (LX.assign rfl) rfl ?_
  refine WL.nil ?_
  refine thenK_normal ?_
  refine WC.seq ?_
  refine WC.yes rfl ?_
  refine WC.seq ?_
  refine WC.region ?_
  refine WL.q (LX.move rfl) rfl ?_
  refine WL.call (beU64 hb hl hc hx hd) rfl (fun _ => by kernel_rfl) rfl ?_
  refine WL.q (LX.assign rfl) rfl ?_
  refine WL.nil ?_
  refine thenK_normal ?_
  refine WC.ret ?_
  refine thenK_ret ?_
  exact KR.one (.inl rfl) rfl rfl ⟨rfl, rfl⟩

/-- bytes in memory: a slice that reads as bs -/
def Bsl (M : Mem) (A : Option Addr) (bs : List Int) (cap : Nat) : Prop :=
  bs = [] ∨ ∃ b full, A = some ⟨b, 0, none⟩ ∧ (b, bytes full) ∈ M ∧ bs.length ≤ full.length ∧ full.take bs.length = bs ∧ Dg 256 full ∧ bs.length ≤ cap

theorem tru {p : Prop} [Decidable p] (h : p) : Value.bool (decide p) = Value.bool true := congrArg _ (decide_eq_true h)
theorem fls {p : Prop} [Decidable p] (h : ¬ p) : Value.bool (decide p) = Value.bool false := congrArg _ (decide_eq_false h)

theorem gt_set_eq {xs : List Int} {i : Nat} (h : i < xs.length) (v : Int) : gt (xs.set i v) i = v := by
  rw [gt_eq (by simpa using h)]; simp
theorem gt_set_ne {xs : List Int} {i j : Nat} (h : i ≠ j) (v : Int) : gt (xs.set i v) j = gt xs j := by
  unfold gt
  rw [List.getD_eq_getElem?_getD, List.getD_eq_getElem?_getD, List.getElem?_set_ne h]
theorem take_set_le {xs : List Int} {i k : Nat} (h : k ≤ i) (v : Int) : (xs.set i v).take k = xs.take k := by
  rw [List.take_set_of_le h]
theorem dv_take_set {b : Int} {xs : List Int} {k : Nat} (h : k < xs.length) (v : Int) : dv b ((xs.set k v).take (k + 1)) = dv b (xs.take k) + b ^ k * v := by
  rw [dv_take_succ _ _ _ (by simpa using h), take_set_le (Nat.le_refl _)]; simp

theorem W64_pow (k : Nat) : W64 ^ k = 256 ^ (8 * k) := by
  have : W64 = 256 ^ 8 := rfl
  rw [this, ← Int.pow_mul]

/-- the k-th word of bytes, the lowest first -/
theorem be8_rev {full bs : List Int} {k : Nat} (hl : bs.length ≤ full.length) (ht : full.take bs.length = bs) (hk : 8 * k + 8 ≤ bs.length) :
    be8 full (bs.length - 8 * k - 8) = dv 256 (sliceL bs.reverse (8 * k) 8) := by
  unfold be8
  congr 1
  have h1 : sliceL full (bs.length - 8 * k - 8) 8 = sliceL bs (bs.length - 8 * k - 8) 8 := by
    rw [← ht]
    unfold sliceL
    rw [List.drop_take, List.take_take, List.length_take]
    congr 1
    omega
  rw [h1]
  unfold sliceL
  apply List.ext_getElem?
  intro i
  by_cases hi : i < 8
  · rw [List.getElem?_reverse (by simp; omega)]
    rw [List.getElem?_take, if_pos (by simp; omega), List.getElem?_drop, List.getElem?_take, if_pos hi, List.getElem?_drop, List.getElem?_reverse (by omega)]
    congr 1
    simp
    omega
  · rw [List.getElem?_eq_none (by simp; omega), List.getElem?_eq_none (by simp; omega)]
theorem dv_take8 {bs : List Int} {k : Nat} (hk : 8 * k + 8 ≤ bs.length) : dv 256 (bs.take (8 * (k + 1))) = dv 256 (bs.take (8 * k)) + 256 ^ (8 * k) * dv 256 (sliceL bs (8 * k) 8) := by
  have : bs.take (8 * (k + 1)) = bs.take (8 * k) ++ sliceL bs (8 * k) 8 := by
    unfold sliceL
    rw [← List.take_add]
    congr 1
  rw [this, dv_append, List.length_take, Nat.min_eq_left (by omega)]
theorem be8_wd {xs : List Int} {o : Nat} (hd : Dg 256 xs) (h : o + 8 ≤ xs.length) : wd (be8 xs o) := by
  have hg : Dg 256 (sliceL xs o 8).reverse := fun x hx => hd x (List.mem_of_mem_drop (List.mem_of_mem_take (List.mem_reverse.1 hx)))
  have h1 := dv_lt (b := 256) (by omega) hg
  have h2 := dv_nonneg (b := 256) (by omega) hg
  rw [List.length_reverse, sliceL_length _ _ _ h] at h1
  exact ⟨h2, h1⟩

def SB1 (n L : Nat) (bs xs : List Int) (s : Nat × List Int) : Prop :=
  s.1 ≤ n ∧ 8 * s.1 ≤ bs.length ∧ s.2.length = xs.length ∧ Dg W64 s.2 ∧ dv W64 (s.2.take s.1) = dv 256 (bs.reverse.take (8 * s.1)) ∧ ∀ i, s.1 ≤ i → i < n → gt s.2 i = 0

theorem SB1.next {n : Nat} {bs xs full : List Int} {k : Nat} {ys : List Int} (h : SB1 n bs.length bs xs (k, ys)) (hn : n ≤ xs.length) (hk : k < n) (h8 : 8 * k + 8 ≤ bs.length) (hl : bs.length ≤ full.length) (ht : full.take bs.length = bs) (hd : Dg 256 full) :
    SB1 n bs.length bs xs (k + 1, ys.set k (be8 full (bs.length - 8 * k - 8))) := by
  obtain ⟨h1, h2, h3, h4, h5, h6⟩ := h
  have hw := be8_wd (xs := full) (o := bs.length - 8 * k - 8) hd (by omega)
  simp only at h1 h2 h3 h4 h5 h6
  refine ⟨hk, by simp only; omega, by simpa using h3, h4.set hw.1 hw.2 _, ?_, fun i hi hin => ?_⟩
  · simp only
    rw [dv_take_set (by omega), h5, dv_take8 (by simp; omega), be8_rev hl ht h8, W64_pow]
  · simp only at hi
    rw [gt_set_ne (by omega)]
    exact h6 i (by omega) hin
end
end Go.Proofs.YtdnngppofbmpeaaDoor.Bm
