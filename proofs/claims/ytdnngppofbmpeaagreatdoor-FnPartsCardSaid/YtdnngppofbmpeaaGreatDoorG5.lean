/- Proved here: what setBytes does, where the bytes fit; what slices.Clone of bytes and resetToBytes of a new number do; what newModulus does at 0 and 1 and at an even number above 1; what NewModulus does at 0 and 1 and at an even number above 1. Conditions: none but those that each theorem states. -/
import Derived.Test.YtdnngppofbmpeaaGreatDoorG4
namespace Go.Proofs.YtdnngppofbmpeaaGreatDoor.Bm
open Go Go.RowKit

theorem dv_take_zero {b : Int} {zs : List Int} {k n : Nat} (hk : k ≤ n) (hn : n ≤ zs.length) (h : ∀ i, k ≤ i → i < n → gt zs i = 0) : dv b (zs.take n) = dv b (zs.take k) := by
  induction n with
  | zero => obtain rfl : k = 0 := by omega
            rfl
  | succ n ih =>
    by_cases he : k = n + 1
    · subst he; rfl
    · have := h n (by omega) (by omega)
      rw [gt_eq (by omega)] at this
      rw [dv_take_succ _ _ _ (by omega), this, ih (by omega) (by omega) (fun i hi hin => h i hi (by omega))]
      simp

theorem sliceL_snoc (xs : List Int) (o k : Nat) (h : o + k < xs.length) : sliceL xs o (k + 1) = sliceL xs o k ++ [gt xs (o + k)] := by
  unfold sliceL
  rw [List.take_succ_eq_append_getElem (by simp; omega), gt_eq h]
  simp
theorem dv_slice_snoc {b : Int} {xs : List Int} {o k : Nat} (h : o + k < xs.length) : dv b (sliceL xs o (k + 1)) = dv b (sliceL xs o k) + b ^ k * gt xs (o + k) := by
  rw [sliceL_snoc _ _ _ h, dv_snoc, sliceL_length _ _ _ (by omega)]

theorem gt_reverse {xs : List Int} {i : Nat} (h : i < xs.length) : gt xs.reverse i = gt xs (xs.length - 1 - i) := by
  rw [gt_eq (by simpa using h), gt_eq (by omega), List.getElem_reverse]
theorem gt_take {xs : List Int} {i k : Nat} (h : i < k) : gt (xs.take k) i = gt xs i := by
  unfold gt
  rw [List.getD_eq_getElem?_getD, List.getD_eq_getElem?_getD, List.getElem?_take, if_pos h]

def SB2 (n k : Nat) (bs ys : List Int) (s : Nat × List Int) : Prop :=
  s.1 ≤ bs.length - 8 * k ∧ s.2.length = ys.length ∧ Dg W64 s.2 ∧ s.2.take k = ys.take k ∧ (k < n → gt s.2 k = dv 256 (sliceL bs.reverse (8 * k) s.1)) ∧ ∀ i, k < i → i < n → gt s.2 i = 0

theorem dg_slice {b : Int} {xs : List Int} (h : Dg b xs) (o k : Nat) : Dg b (sliceL xs o k) := fun x hx => h x (List.mem_of_mem_drop (List.mem_of_mem_take hx))
theorem dg_rev {b : Int} {xs : List Int} (h : Dg b xs) : Dg b xs.reverse := fun x hx => h x (List.mem_reverse.1 hx)

theorem pow256 (q : Nat) : (256 : Int) ^ q = 2 ^ (8 * q) := by
  have : (256 : Int) = 2 ^ 8 := rfl
  rw [this, ← Int.pow_mul]
theorem pow256_lt {q : Nat} (h : q < 8) : (256 : Int) ^ q * 256 ≤ 18446744073709551616 := by
  have : q = 0 ∨ q = 1 ∨ q = 2 ∨ q = 3 ∨ q = 4 ∨ q = 5 ∨ q = 6 ∨ q = 7 := by omega
  rcases this with rfl | rfl | rfl | rfl | rfl | rfl | rfl | rfl <;> decide

theorem SB2.byte {k q : Nat} {bs full : List Int} (hl : bs.length ≤ full.length) (ht : full.take bs.length = bs) (h : q < bs.length - 8 * k) : gt full (bs.length - 8 * k - q - 1) = gt bs.reverse (8 * k + q) := by
  rw [gt_reverse (by omega)]
  have : gt bs (bs.length - 1 - (8 * k + q)) = gt full (bs.length - 1 - (8 * k + q)) := by
    rw [← ht, gt_take (by rw [List.length_take]; omega)]
  rw [this]
  congr 1
  omega

/-- one byte more -/
theorem SB2.or {k q : Nat} {bs : List Int} (hb : Dg 256 bs) (h : q < bs.length - 8 * k) (h8 : q < 8) :
    bits .or .u64 (dv 256 (sliceL bs.reverse (8 * k) q)) (IntKind.u64.wrap (gt bs.reverse (8 * k + q) * 2 ^ (min (8 * (q : Int)).toNat 64))) = dv 256 (sliceL bs.reverse (8 * k) (q + 1)) ∧
    wd (dv 256 (sliceL bs.reverse (8 * k) (q + 1))) := by
  have hr := dg_rev hb
  have hg := dg8_gt hr (8 * k + q)
  have h1 := dv_lt (b := 256) (by omega) (dg_slice hr (8 * k) q)
  have h2 := dv_nonneg (b := 256) (by omega) (dg_slice hr (8 * k) q)
  rw [sliceL_length _ _ _ (by simp; omega)] at h1
  have h3 := dv_slice_snoc (b := 256) (xs := bs.reverse) (o := 8 * k) (k := q) (by simp; omega)
  have h4 := pow256_lt h8
  have hp : (0 : Int) < 256 ^ q := Int.pow_pos (by omega)
  have h5 : (256 : Int) ^ q * gt bs.reverse (8 * k + q) ≤ 256 ^ q * 255 := Int.mul_le_mul_of_nonneg_left (by omega) (by omega)
  have h6 : 0 ≤ (256 : Int) ^ q * gt bs.reverse (8 * k + q) := Int.mul_nonneg (by omega) hg.1
  have h7 : gt bs.reverse (8 * k + q) * 2 ^ (min (8 * (q : Int)).toNat 64) = 256 ^ q * gt bs.reverse (8 * k + q) := by
    have : min (8 * (q : Int)).toNat 64 = 8 * q := by omega
    rw [this, ← pow256, Int.mul_comm]
  rw [h7, u64_in (by omega), h3]
  refine ⟨or64 (8 * q) h2 (by rw [← pow256]; exact h1) h6 (by omega) (by rw [← pow256]; exact Int.mul_emod_right _ _) (by omega), ?_⟩
  unfold wd W64
  omega

theorem SB2.next {n k q : Nat} {bs ys zs : List Int} (h : SB2 n k bs ys (q, zs)) (hb : Dg 256 bs) (hn : n ≤ ys.length) (hk : k < n) (hq : q < bs.length - 8 * k) (h8 : q < 8) :
    SB2 n k bs ys (q + 1, zs.set k (dv 256 (sliceL bs.reverse (8 * k) (q + 1)))) := by
  obtain ⟨h1, h2, h3, h4, h5, h6⟩ := h
  have hw := (SB2.or hb hq h8).2
  simp only at h1 h2 h3 h4 h5 h6
  refine ⟨hq, by simpa using h2, h3.set hw.1 hw.2 _, by simp only; rw [take_set_le (Nat.le_refl _), h4], fun _ => by simp only; rw [gt_set_eq (by omega)], fun i hi hin => by simp only; rw [gt_set_ne (by omega)]; exact h6 i hi hin⟩

theorem SB2.end {n k : Nat} {bs ys zs xs : List Int} (h1 : SB1 n bs.length bs xs (k, ys)) (h2 : SB2 n k bs ys (bs.length - 8 * k, zs)) (hn : n ≤ xs.length) (hL : bs.length ≤ 8 * n) (hx : ¬ (k < n ∧ 8 ≤ bs.length - 8 * k)) :
    dv W64 (zs.take n) = dv 256 bs.reverse := by
  obtain ⟨a1, a2, a3, a4, a5, a6⟩ := h1
  obtain ⟨b1, b2, b3, b4, b5, b6⟩ := h2
  simp only at a1 a2 a3 a4 a5 a6 b1 b2 b3 b4 b5 b6
  by_cases hk : k < n
  · rw [dv_take_zero (k := k + 1) (by omega) (by omega) (fun i hi hin => b6 i (by omega) hin), dv_take_succ _ _ _ (by omega), b4, a5, ← gt_eq, b5 hk, W64_pow]
    have : bs.reverse = bs.reverse.take (8 * k) ++ sliceL bs.reverse (8 * k) (bs.length - 8 * k) := by
      unfold sliceL
      rw [List.take_of_length_le (l := bs.reverse.drop (8 * k)) (by simp), List.take_append_drop]
    conv => rhs; rw [this, dv_append, List.length_take, Nat.min_eq_left (by simp; omega)]
  · obtain rfl : k = n := by omega
    rw [b4, a5, List.take_of_length_le (by simp; omega)]

section
variable {w0 : World} {M : Mem}
/-- setBytes, where there are no more bytes than there is room for -/
theorem setBytes {p l n cap : Nat} {A : Option Addr} {xs bs : List Int} (hb : Bsl M A bs cap) (hbd : Dg 256 bs) (hn : n ≤ xs.length) (hN : xs.length ≤ 1000) (hz : ∀ i, i < n → gt xs i = 0) (hL : bs.length ≤ 8 * n) (hd : Dg W64 xs) :
    CS w0 77 [ptr p, .slice A bs.length cap] ((p, natO l n xs.length) :: (l, words xs) :: M)
      (fun u M' => u = .nilIface ∧ ∃ ys, ys.length = xs.length ∧ Dg W64 ys ∧ dv W64 (ys.take n) = dv 256 bs.reverse ∧ M' = (p, natO l n xs.length) :: (l, words ys) :: M) := by
  refine CS.of Tryz.func77 Tryz.ntmps77 rfl rfl (WC.seq (WC.region (WL.q (LX.assign rfl) rfl (WL.nil (thenK_normal (WC.seq (WC.region (WL.q (LX.move rfl) rfl (WL.q (LX.len rfl rfl rfl) rfl (WL.q (LX.assign rfl) rfl (WL.q (LX.assign rfl) rfl (WL.nil (thenK_normal ?_)))))))))))))
  refine WC.cut (fun E' M' => ∃ k ys, SB1 n bs.length bs xs (k, ys) ∧ ¬ (k < n ∧ 8 ≤ bs.length - 8 * k) ∧ Sub [(0, ptr p), (1, .slice A bs.length cap), (5, .int .i64 (bs.length - 8 * k : Nat)), (6, .int .i64 k)] E' ∧ M' = (p, natO l n xs.length) :: (l, words ys) :: M) ?_ ?_
  · refine WC.block ?_
    refine WC.loopS (fun s : Nat × List Int => [(0, ptr p), (1, .slice A bs.length cap), (5, .int .i64 (bs.length - 8 * s.1 : Nat)), (6, .int .i64 s.1)]) (fun s => (p, natO l n xs.length) :: (l, words s.2) :: M) (SB1 n bs.length bs xs) (fun s => n - s.1) (0, xs)
      ⟨Nat.zero_le _, Nat.zero_le _, rfl, hd, by simp, fun i _ hi => hz i hi⟩ (.cons rfl (.cons rfl (.cons rfl (.cons rfl .nil)))) rfl ?_
    rintro ⟨k, ys⟩ hs
    dsimp only
    by_cases hc : k < n ∧ 8 ≤ bs.length - 8 * k
    · obtain ⟨hkn, h8⟩ := hc
      rcases hb with rfl | ⟨b, full, rfl, hm, hfl, hft, hfd, hcap⟩
      · simp at h8
      have hyl : ys.length = xs.length := hs.2.2.1
      have hk8 := hs.2.1
      simp only at hk8
      refine WC.seq (WC.seq (WC.region (WL.q (LX.move rfl) rfl (WL.q (LX.move rfl) rfl (WL.q (LX.nilCheck rfl) rfl (WL.q (LX.field0 rfl rfl) rfl ?_))))))
      refine WL.q (LX.load rfl rfl (by repeat first | assumption | exact List.mem_cons_self | refine List.mem_cons_of_mem _ ?_) rfl) rfl ?_
      refine WL.q (LX.len rfl rfl rfl) rfl (WL.q (LX.eq (LX.bin rfl rfl rfl) (tru (by omega))) rfl (WL.q (LX.move rfl) rfl (WL.yes rfl rfl (WL.q (LX.move rfl) rfl (WL.yes rfl rfl (WL.q (LX.eq (LX.bin rfl rfl rfl) (tru (by omega))) rfl (WL.q (LX.pickT rfl rfl) rfl (WL.nil (thenK_normal (WC.yes rfl (WC.skip (thenK_normal (WC.block ?_)))))))))))))
      refine WC.seq (WC.draw [(0, 0), (0, 1), (0, 2), (0, 4), (0, 5), (0, 6), (0, 7), (0, 8), (0, 9), (1, 3), (2, 10), (0, 11), (2, 12)] ((p, natO l n xs.length) :: (l, words ys) :: M) rfl (by kernel_rfl) rfl (by kernel_rfl) (DW.p rfl rfl (fun _ => LX.move rfl) rfl (DW.p rfl rfl (fun _ => LX.nilCheck rfl) rfl (DW.p rfl rfl (fun _ => LX.field0 rfl rfl) rfl (DW.p rfl rfl (fun _ => LX.move rfl) rfl (DW.p rfl rfl (fun _ => LX.move rfl) rfl (DW.p rfl rfl (fun _ => LX.move rfl) rfl (DW.p rfl rfl (fun _ => LX.eq (LX.subI rfl rfl (by omega)) (show _ = Value.int .i64 ((bs.length - 8 * k - 8 : Nat) : Int) by congr 1; omega)) rfl (DW.p rfl rfl (fun _ => LX.move rfl) rfl (DW.p rfl rfl (fun _ => LX.sliceLH rfl rfl rfl rfl (bs.length - 8 * k - 8) (bs.length - 8 * k) rfl rfl (by omega) (by omega) (by omega)) rfl ?_))))))))))
      refine DW.r rfl rfl (LX.load rfl rfl (by repeat first | assumption | exact List.mem_cons_self | refine List.mem_cons_of_mem _ ?_) rfl) (fun _ h => h) rfl ?_
      refine DW.fval rfl rfl (EX.call rfl (fun _ => by kernel_rfl) (beUint (o := 0 + (bs.length - 8 * k - 8)) (by repeat first | assumption | exact List.mem_cons_self | refine List.mem_cons_of_mem _ ?_) (by omega) (by omega) (by omega) hfd)) (fun _ h => h) rfl ?_
      rw [Nat.zero_add]
      refine DW.p rfl rfl (fun _ => LX.idx1 rfl rfl rfl _ rfl (by omega)) rfl ?_
      refine DW.tput rfl rfl (EX.storeRow rfl rfl rfl (by repeat first | assumption | exact List.mem_cons_self | refine List.mem_cons_of_mem _ ?_) (by omega) (by repeat first | exact Upd.here | apply Upd.there)) (by kernel_rfl) ?_
      refine DW.nil (thenK_normal (WC.seq (WC.region (WL.q (LX.move rfl) rfl (WL.q (LX.eq (LX.subI rfl rfl (by omega)) (show _ = Value.int .i64 ((bs.length - 8 * (k + 1) : Nat) : Int) by congr 1; omega)) rfl (WL.q (LX.assign rfl) rfl (WL.nil (thenK_normal (WC.region (WL.q (LX.move rfl) rfl (WL.q (LX.addI rfl rfl (by omega)) rfl (WL.q (LX.assign rfl) rfl (WL.nil ?_)))))))))))))
      refine blockK_normal ?_
      exact loopS_next (k + 1, ys.set k (be8 full (bs.length - 8 * k - 8))) (hs.next hn hkn (by omega) hfl hft hfd) (by simp only; omega) (.cons rfl (.cons rfl (.cons rfl (.cons rfl .nil)))) rfl
    · have hyl : ys.length = xs.length := hs.2.2.1
      by_cases hkn : k < n
      · skip
        refine WC.seq (WC.seq (WC.region (WL.q (LX.move rfl) rfl (WL.q (LX.move rfl) rfl (WL.q (LX.nilCheck rfl) rfl (WL.q (LX.field0 rfl rfl) rfl ?_))))))
        refine WL.q (LX.load rfl rfl (by repeat first | assumption | exact List.mem_cons_self | refine List.mem_cons_of_mem _ ?_) rfl) rfl ?_
        refine WL.q (LX.len rfl rfl rfl) rfl (WL.q (LX.eq (LX.bin rfl rfl rfl) (tru (by omega))) rfl (WL.q (LX.move rfl) rfl (WL.yes rfl rfl (WL.q (LX.move rfl) rfl (WL.yes rfl rfl (WL.q (LX.eq (LX.bin rfl rfl rfl) (fls (by omega))) rfl (WL.q (LX.pickT rfl rfl) rfl (WL.nil (thenK_normal (WC.no rfl (WC.exit (thenK_exit (loopS_exit ?_)))))))))))))
        refine blockK_same ?_
        exact ⟨k, ys, hs, hc, (.cons rfl (.cons rfl (.cons rfl (.cons rfl .nil)))), rfl⟩
      · skip
        refine WC.seq (WC.seq (WC.region (WL.q (LX.move rfl) rfl (WL.q (LX.move rfl) rfl (WL.q (LX.nilCheck rfl) rfl (WL.q (LX.field0 rfl rfl) rfl ?_))))))
        refine WL.q (LX.load rfl rfl (by repeat first | assumption | exact List.mem_cons_self | refine List.mem_cons_of_mem _ ?_) rfl) rfl ?_
        refine WL.q (LX.len rfl rfl rfl) rfl (WL.q (LX.eq (LX.bin rfl rfl rfl) (fls (by omega))) rfl (WL.q (LX.move rfl) rfl (WL.no rfl rfl (by decide) rfl (WL.no rfl rfl (by decide) rfl (WL.q (LX.pickF rfl rfl) rfl (WL.nil (thenK_normal (WC.no rfl (WC.exit (thenK_exit (loopS_exit (blockK_same ?_))))))))))))
        exact ⟨k, ys, hs, hc, (.cons rfl (.cons rfl (.cons rfl (.cons rfl .nil)))), rfl⟩
  · skip
    rintro E' M' ⟨k, ys, hs, hx, hE, rfl⟩
    have hyl : ys.length = xs.length := hs.2.2.1
    have hk8 := hs.2.1
    have hkn' := hs.1
    simp only at hk8 hkn'
    refine WC.cutE _ hE (WC.seq (WC.seq (WC.region (WL.q (LX.assign rfl) rfl (WL.nil (thenK_normal (WC.block ?_)))))))
    refine WC.loopS (fun s : Nat × List Int => [(0, ptr p), (1, .slice A bs.length cap), (5, .int .i64 (bs.length - 8 * k - s.1 : Nat)), (6, .int .i64 k), (7, .int .i64 (8 * (s.1 : Int)))]) (fun s => (p, natO l n xs.length) :: (l, words s.2) :: M) (SB2 n k bs ys) (fun s => bs.length - 8 * k - s.1) (0, ys)
      ⟨Nat.zero_le _, rfl, hs.2.2.2.1, rfl, fun hk => (hs.2.2.2.2.2 k (Nat.le_refl _) hk).trans (by simp [sliceL]), fun i hi hin => hs.2.2.2.2.2 i (by simp only; omega) hin⟩ (.cons rfl (.cons rfl (.cons rfl (.cons rfl (.cons rfl .nil))))) rfl ?_
    rintro ⟨q, zs⟩ hq
    dsimp only
    have hzl : zs.length = ys.length := hq.2.1
    have hq1 := hq.1
    simp only at hq1
    by_cases hc : q < bs.length - 8 * k
    · have hkn : k < n := by omega
      have hq8 : q < 8 := by omega
      rcases hb with rfl | ⟨b, full, rfl, hm, hfl, hft, hfd, hcap⟩
      · simp at hc
      refine WC.seq (WC.seq (WC.region (WL.q (LX.move rfl) rfl (WL.q (LX.eq (LX.bin rfl rfl rfl) (tru (by omega))) rfl (WL.q (LX.move rfl) rfl (WL.yes rfl rfl (WL.q (LX.move rfl) rfl (WL.yes rfl rfl (WL.q (LX.move rfl) rfl (WL.yes rfl rfl (WL.q (LX.nilCheck rfl) rfl (WL.yes rfl rfl (WL.q (LX.field0 rfl rfl) rfl ?_)))))))))))))
      refine WL.yes rfl rfl ?_
      refine WL.q (LX.load rfl rfl (by repeat first | assumption | exact List.mem_cons_self | refine List.mem_cons_of_mem _ ?_) rfl) rfl ?_
      refine WL.yes rfl rfl (WL.q (LX.len rfl rfl rfl) rfl (WL.yes rfl rfl (WL.q (LX.eq (LX.bin rfl rfl rfl) (tru (by omega))) rfl (WL.q (LX.pickT rfl rfl) rfl (WL.q (LX.move rfl) rfl (WL.yes rfl rfl (WL.q (LX.move rfl) rfl (WL.yes rfl rfl (WL.q (LX.eq (LX.bin rfl rfl rfl) (tru (by omega))) rfl (WL.q (LX.pickT rfl rfl) rfl (WL.nil (thenK_normal (WC.yes rfl ?_)))))))))))))
      refine WC.skip (thenK_normal (WC.seq (WC.block (WC.seq (WC.draw [(0, 0), (0, 1), (0, 2), (0, 4), (0, 7), (0, 8), (0, 9), (0, 10), (0, 13), (1, 3), (0, 5), (1, 6), (1, 11), (0, 12), (0, 14), (0, 15), (0, 16), (2, 17)] ((p, natO l n xs.length) :: (l, words zs) :: M) rfl (by kernel_rfl) rfl (by kernel_rfl) (DW.p rfl rfl (fun _ => LX.move rfl) rfl (DW.p rfl rfl (fun _ => LX.nilCheck rfl) rfl (DW.p rfl rfl (fun _ => LX.field0 rfl rfl) rfl (DW.p rfl rfl (fun _ => LX.move rfl) rfl (DW.p rfl rfl (fun _ => LX.move rfl) rfl (DW.p rfl rfl (fun _ => LX.move rfl) rfl (DW.p rfl rfl (fun _ => LX.eq (LX.subI rfl rfl (by omega)) (show _ = Value.int .i64 ((bs.length - 8 * k - q - 1 : Nat) : Int) by congr 1; omega)) rfl (DW.p rfl rfl (fun _ => LX.idx1 rfl rfl rfl _ rfl (by omega)) rfl ?_)))))))))))))
      refine DW.p rfl rfl (fun _ => LX.move rfl) rfl ?_
      refine DW.r rfl rfl (LX.load rfl rfl (by repeat first | assumption | exact List.mem_cons_self | refine List.mem_cons_of_mem _ ?_) rfl) (fun _ h => h) rfl ?_
      refine DW.p rfl rfl (fun _ => LX.idx1 rfl rfl rfl _ rfl (by omega)) rfl ?_
      refine DW.r rfl rfl (LX.eq (LX.loadRow rfl rfl (by repeat first | assumption | exact List.mem_cons_self | refine List.mem_cons_of_mem _ ?_) (by omega)) (show _ = Value.int .u64 (dv 256 (sliceL bs.reverse (8 * k) q)) by rw [hq.2.2.2.2.1 hkn])) (fun _ h => h) rfl ?_
      refine DW.r rfl rfl (LX.eq (LX.loadRow rfl rfl (by repeat first | assumption | exact List.mem_cons_self | refine List.mem_cons_of_mem _ ?_) (by omega)) (show _ = Value.int .u8 (gt bs.reverse (8 * k + q)) by rw [SB2.byte hfl hft hc])) (fun _ h => h) rfl ?_
      refine DW.p rfl rfl (fun _ => LX.convU rfl rfl rfl (by have := dg8_gt (dg_rev hbd) (8 * k + q); omega)) rfl (DW.p rfl rfl (fun _ => LX.shl rfl rfl (by omega)) rfl (DW.p rfl rfl (fun _ => LX.eq (LX.bin rfl rfl rfl) (congrArg (Value.int .u64) (SB2.or hbd hc hq8).1)) rfl (DW.p rfl rfl (fun _ => LX.idx1 rfl rfl rfl _ rfl (by omega)) rfl ?_)))
      refine DW.tput rfl rfl (EX.storeRow rfl rfl rfl (by repeat first | assumption | exact List.mem_cons_self | refine List.mem_cons_of_mem _ ?_) (by omega) (by repeat first | exact Upd.here | apply Upd.there)) (by kernel_rfl) ?_
      refine DW.nil (thenK_normal (WC.region (WL.q (LX.move rfl) rfl (WL.q (LX.eq (LX.subI rfl rfl (by omega)) (show _ = Value.int .i64 ((bs.length - 8 * k - (q + 1) : Nat) : Int) by congr 1; omega)) rfl (WL.q (LX.assign rfl) rfl (WL.nil (blockK_normal (thenK_normal (WC.region (WL.q (LX.move rfl) rfl (WL.q (LX.eq (LX.addI rfl rfl (by omega)) (show _ = Value.int .i64 (8 * ((q + 1 : Nat) : Int)) by congr 1)) rfl (WL.q (LX.assign rfl) rfl (WL.nil ?_)))))))))))))
      exact loopS_next (q + 1, zs.set k (dv 256 (sliceL bs.reverse (8 * k) (q + 1)))) (hq.next hbd (by omega) hkn hc hq8) (by show bs.length - 8 * k - (q + 1) < bs.length - 8 * k - q; omega) (.cons rfl (.cons rfl (.cons rfl (.cons rfl (.cons rfl .nil))))) rfl
    · obtain rfl : q = bs.length - 8 * k := by omega
      by_cases hkn : k < n
      · skip
        refine WC.seq (WC.seq (WC.region (WL.q (LX.move rfl) rfl (WL.q (LX.eq (LX.bin rfl rfl rfl) (tru (by omega))) rfl (WL.q (LX.move rfl) rfl (WL.yes rfl rfl (WL.q (LX.move rfl) rfl (WL.yes rfl rfl (WL.q (LX.move rfl) rfl (WL.yes rfl rfl (WL.q (LX.nilCheck rfl) rfl (WL.yes rfl rfl (WL.q (LX.field0 rfl rfl) rfl ?_)))))))))))))
        refine WL.yes rfl rfl ?_
        refine WL.q (LX.load rfl rfl (by repeat first | assumption | exact List.mem_cons_self | refine List.mem_cons_of_mem _ ?_) rfl) rfl ?_
        refine WL.yes rfl rfl (WL.q (LX.len rfl rfl rfl) rfl (WL.yes rfl rfl (WL.q (LX.eq (LX.bin rfl rfl rfl) (tru (by omega))) rfl (WL.q (LX.pickT rfl rfl) rfl (WL.q (LX.move rfl) rfl (WL.yes rfl rfl (WL.q (LX.move rfl) rfl (WL.yes rfl rfl (WL.q (LX.eq (LX.bin rfl rfl rfl) (fls (by omega))) rfl (WL.q (LX.pickT rfl rfl) rfl (WL.nil (thenK_normal (WC.no rfl ?_)))))))))))))
        refine WC.exit (thenK_exit (loopS_exit (blockK_same (thenK_normal (WC.seq (WC.seq (WC.region (WL.q (LX.move rfl) rfl (WL.q (LX.bin rfl rfl rfl) rfl (WL.nil (thenK_normal ?_)))))))))))
        refine WC.test rfl (fun h => absurd h (by omega)) (fun _ => ?_)
        refine WC.skip (thenK_normal (WC.seq (WC.region (WL.q (LX.assign rfl) rfl (WL.nil (thenK_normal (WC.ret ?_)))))))
        exact KR.one (.inl rfl) rfl rfl ⟨rfl, zs, by omega, hq.2.2.1, SB2.end hs hq hn hL hx, rfl⟩
      · skip
        refine WC.seq (WC.seq (WC.region (WL.q (LX.move rfl) rfl (WL.q (LX.eq (LX.bin rfl rfl rfl) (tru (by omega))) rfl (WL.q (LX.move rfl) rfl (WL.yes rfl rfl (WL.q (LX.move rfl) rfl (WL.yes rfl rfl (WL.q (LX.move rfl) rfl (WL.yes rfl rfl (WL.q (LX.nilCheck rfl) rfl (WL.yes rfl rfl (WL.q (LX.field0 rfl rfl) rfl ?_)))))))))))))
        refine WL.yes rfl rfl ?_
        refine WL.q (LX.load rfl rfl (by repeat first | assumption | exact List.mem_cons_self | refine List.mem_cons_of_mem _ ?_) rfl) rfl ?_
        refine WL.yes rfl rfl (WL.q (LX.len rfl rfl rfl) rfl (WL.yes rfl rfl (WL.q (LX.eq (LX.bin rfl rfl rfl) (fls (by omega))) rfl (WL.q (LX.pickT rfl rfl) rfl (WL.q (LX.move rfl) rfl (WL.no rfl rfl (by decide) rfl (WL.no rfl rfl (by decide) rfl (WL.q (LX.pickF rfl rfl) rfl (WL.nil (thenK_normal (WC.no rfl (WC.exit (thenK_exit ?_)))))))))))))
        refine loopS_exit (blockK_same (thenK_normal (WC.seq (WC.seq (WC.region (WL.q (LX.move rfl) rfl (WL.q (LX.bin rfl rfl rfl) rfl (WL.nil (thenK_normal ?_)))))))))
        refine WC.test rfl (fun h => absurd h (by omega)) (fun _ => ?_)
        refine WC.skip (thenK_normal (WC.seq (WC.region (WL.q (LX.assign rfl) rfl (WL.nil (thenK_normal (WC.ret ?_)))))))
        exact KR.one (.inl rfl) rfl rfl ⟨rfl, zs, by omega, hq.2.2.1, SB2.end hs hq hn hL hx, rfl⟩
end
end Go.Proofs.YtdnngppofbmpeaaGreatDoor.Bm
namespace Go.Proofs.YtdnngppofbmpeaaGreatDoor.Bm
open Go Go.RowKit

def isU8 (v : Value) : Prop := ∃ q, v = .int .u8 q ∧ 0 ≤ q ∧ q < 256
theorem Bsl.mono {M N : Mem} {A : Option Addr} {bs : List Int} {cap : Nat} (h : Bsl M A bs cap) (hs : ∀ p ∈ M, p ∈ N) : Bsl N A bs cap := by
  rcases h with h | ⟨b, full, h1, h2, h3⟩
  · exact .inl h
  · exact .inr ⟨b, full, h1, hs _ h2, h3⟩

/-- memory that reads as bytes, be it the call's own or what was there -/
def Src (w0 : World) (M : Mem) (A : Option Addr) (bs : List Int) : Prop :=
  bs = [] ∨ ∃ b o d T fr, A = some ⟨b, o, none⟩ ∧ (∀ w, HW w0 M w → w.heap[b]? = some (.cells (d : List Value).toArray T fr)) ∧ o + bs.length ≤ d.length ∧ sliceL d o bs.length = bs.map (Value.int .u8)

theorem Own.bsl {u : Value} {bs : List Int} {M M' : Mem} (h : Own isU8 5 u (bs.map (Value.int .u8)) M M') : ∃ A cap N, u = .slice A bs.length cap ∧ M' = N ++ M ∧ Bsl N A bs cap := by
  rcases h with ⟨rfl, h, rfl⟩ | ⟨b, c, rfl, hl, ht, rfl, hG⟩
  · have : bs = [] := by simpa using h
    subst this
    exact ⟨none, 0, [], rfl, rfl, .inl rfl⟩
  · obtain ⟨full, rfl⟩ := ints_of (k := .u8) (fun u hu => let ⟨q, h, _⟩ := hG u hu; ⟨q, h⟩)
    simp only [List.length_map] at hl ht
    refine ⟨some ⟨b, 0, none⟩, full.length, [(b, bytes full)], by simp, rfl, .inr ⟨b, full, rfl, by simp, hl, ?_, ?_, hl⟩⟩
    · rw [← List.map_take] at ht
      have key : ∀ (a c : List Int), a.map (Value.int .u8) = c.map (Value.int .u8) → a = c := by
        intro a
        induction a with
        | nil => intro c h; cases c <;> simp_all
        | cons x a ih => intro c h; cases c with
          | nil => simp at h
          | cons y c => simp only [List.map_cons, List.cons.injEq, Value.int.injEq, true_and] at h; rw [h.1, ih c h.2]
      exact key _ _ ht
    · intro x hx
      obtain ⟨q, h1, h2⟩ := hG (.int .u8 x) (List.mem_map.2 ⟨x, hx, rfl⟩)
      cases h1
      exact h2

section
variable {w0 : World} {M : Mem}
/-- slices.Clone of bytes -/
theorem cloneB {A : Option Addr} {bs : List Int} {cap : Nat} (hs : Src w0 M A bs) (hd : Dg 256 bs) (hl : bs.length ≤ 2147483647) :
    CS w0 17 [.slice A bs.length cap] M (fun u M' => ∃ A' cap' N, u = .slice A' bs.length cap' ∧ M' = N ++ M ∧ Bsl N A' bs cap') := by
  refine CS.of Tryz.func17 Tryz.ntmps17 rfl rfl (WC.seq (WC.region (WL.q (LX.assign rfl) rfl (WL.nil (thenK_normal (WC.seq (WC.seq (WC.region (WL.q (LX.move rfl) rfl (WL.q (LX.isNil rfl rfl) rfl (WL.nil (thenK_normal ?_))))))))))))
  refine WC.cond rfl (fun h => ?_) (fun h => ?_)
  · refine WC.seq (WC.region (WL.q (LX.assign rfl) rfl (WL.nil (thenK_normal (WC.ret (thenK_ret ?_))))))
    obtain rfl : A = none := by simpa using h
    have : bs = [] := by
      rcases hs with h | ⟨_, _, _, _, _, h, _⟩
      · exact h
      · cases h
    subst this
    exact KR.one (.inl rfl) rfl rfl ⟨none, 0, [], rfl, rfl, .inl rfl⟩
  · refine WC.skip (thenK_normal (WC.seq (WC.region (WL.step rfl (EX.bslice (e := 5) (cs := []) rfl (fun _ => by kernel_rfl)) ?_))))
    rintro _ _ ⟨b, rfl, rfl⟩
    refine WL.q (LX.move rfl) rfl ?_
    have hown : Own isU8 5 (.slice (some ⟨b, 0, none⟩) 0 0) [] M ((b, .cells (#[] : Array Value) 5 (0, 0)) :: M) := .inr ⟨b, [], rfl, Nat.le_refl _, rfl, rfl, by simp⟩
    rcases hs with rfl | ⟨b', o, d, T, fr, rfl, hm, ho, hsl⟩
    · obtain ⟨a, rfl⟩ : ∃ a, A = some a := by cases A with
        | none => simp at h
        | some a => exact ⟨a, rfl⟩
      refine WL.q (LX.append0 rfl (Nat.le_refl _) rfl rfl rfl rfl) rfl (WL.q (LX.assign rfl) rfl (WL.nil (thenK_normal (WC.ret ?_))))
      exact KR.one (.inl rfl) rfl rfl (hown.bsl (bs := []))
    · skip
      refine WL.appendOwn (EX.append (ds := bs.map (Value.int .u8)) rfl hown rfl rfl rfl rfl rfl ⟨0, rfl, by omega, by omega⟩ ?_ (fun w hw => hm w ⟨hw.below, fun p hp => hw.has p (List.mem_cons_of_mem _ hp)⟩) ho hsl ?_ (by simp; omega)) rfl ?_
      · intro u hu; obtain ⟨q, hq, rfl⟩ := List.mem_map.1 hu; exact ⟨q, rfl, hd q hq⟩
      · intro u hu; obtain ⟨q, hq, rfl⟩ := List.mem_map.1 hu; rfl
      rintro v M' hv
      refine WL.q (LX.assign rfl) rfl (WL.nil (thenK_normal (WC.ret ?_)))
      exact KR.one (.inl rfl) rfl rfl hv.bsl

theorem gt_rep {k i : Nat} {xs : List Int} (h : i < k) : gt (List.replicate k 0 ++ xs) i = 0 := by
  unfold gt
  rw [List.getD_eq_getElem?_getD, List.getElem?_append_left (by simpa using h), List.getElem?_replicate]
  simp [h]

theorem panic_free : True := trivial

/-- resetToBytes of a new number: the words of the bytes, without zeros at the end -/
theorem resetToBytes {p l cap : Nat} {A : Option Addr} {bs : List Int} (hb : Bsl M A bs cap) (hbd : Dg 256 bs) (hL : bs.length ≤ 248) :
    CS w0 31 [ptr p, .slice A bs.length cap] ((p, natO l 0 32) :: (l, words (List.replicate 32 0)) :: M)
      (fun u M' => u = ptr p ∧ ∃ m ys, ys.length = 32 ∧ Dg W64 ys ∧ m ≤ 32 ∧ dv W64 (ys.take m) = dv 256 bs.reverse ∧ (m = 0 ∨ gt ys (m - 1) ≠ 0) ∧ M' = (p, natO l m 32) :: (l, words ys) :: M) := by
  refine CS.of Tryz.func31 Tryz.ntmps31 rfl rfl (WC.seq (WC.region (WL.q (LX.assign rfl) rfl (WL.nil (thenK_normal (WC.seq (WC.region (WL.q (LX.move rfl) rfl (WL.q (LX.move rfl) rfl (WL.q (LX.len rfl rfl rfl) rfl (WL.q (LX.addI rfl rfl (by omega)) rfl (WL.q (LX.subI rfl rfl (by omega)) rfl (WL.q (LX.eq (LX.quoI rfl rfl (by omega) (by omega)) (show _ = Value.int .i64 (((bs.length + 7) / 8 : Nat) : Int) by congr 1; omega)) rfl ?_)))))))))))))
  refine WL.val (EX.call rfl (fun _ => by kernel_rfl) (CS.pm (by repeat first | exact Pm.done | (apply Pm.step; repeat first | exact Rem.here | apply Rem.there)) (nreset (n := (bs.length + 7) / 8) (a := 0) (xs := List.replicate 32 0) (by simp; omega) (Nat.zero_le _) (by simp)))) rfl ?_
  simp only [List.length_replicate, Nat.max_zero]
  refine WL.nil (thenK_normal (WC.seq (WC.seq (WC.region (WL.q (LX.move rfl) rfl (WL.q (LX.move rfl) rfl ?_))))))
  have hl2 : (List.replicate ((bs.length + 7) / 8) (0 : Int) ++ (List.replicate 32 0).drop ((bs.length + 7) / 8)).length = 32 := by simp; omega
  have h3 := setBytes (w0 := w0) (M := M) (p := p) (l := l) (n := (bs.length + 7) / 8) (xs := List.replicate ((bs.length + 7) / 8) (0 : Int) ++ (List.replicate 32 0).drop ((bs.length + 7) / 8)) hb hbd (by omega) (by omega)
    (fun i hi => gt_rep hi) (by omega) ((Dg.replicate W64_pos _).append ((Dg.replicate W64_pos _).drop _))
  rw [hl2] at h3
  refine WL.callR h3 rfl (fun _ => by kernel_rfl) rfl ?_
  rintro _ _ ⟨rfl, ys, hy1, hy2, hy3, rfl⟩
  refine WL.q (LX.assign rfl) rfl (WL.nil (thenK_normal (WC.seq (WC.region (WL.q (LX.move rfl) rfl (WL.q (LX.errNe rfl) rfl (WL.nil (thenK_normal (WC.no rfl (WC.skip (thenK_normal (WC.seq (WC.region ?_)))))))))))))
  refine WL.q (LX.move rfl) rfl ?_
  have h4 := trim (w0 := w0) (M := M) (p := p) (l := l) (n := (bs.length + 7) / 8) (xs := ys) (by omega) (by omega)
  rw [hy1] at h4
  refine WL.callR (CS.pm (by repeat first | exact Pm.done | (apply Pm.step; repeat first | exact Rem.here | apply Rem.there)) h4) rfl (fun _ => by kernel_rfl) rfl ?_
  rintro _ _ ⟨rfl, m, hm1, hm2, hm3, rfl⟩
  refine WL.q (LX.assign rfl) rfl (WL.nil (thenK_normal (WC.ret ?_)))
  exact KR.one (.inl rfl) rfl rfl ⟨rfl, m, ys, hy1, hy2, by omega, by rw [hm2, hy3], hm3, rfl⟩
end
end Go.Proofs.YtdnngppofbmpeaaGreatDoor.Bm
namespace Go.Proofs.YtdnngppofbmpeaaGreatDoor.Bm
open Go Go.RowKit

theorem b1_is {p : Prop} [Decidable p] (h : p) : b1 p = 1 := by unfold b1; simp [h]
theorem b1_not {p : Prop} [Decidable p] (h : ¬ p) : b1 p = 0 := by unfold b1; simp [h]

section
variable {w0 : World} {M : Mem}
/-- newModulus of 0 or 1: an error -/
theorem newModulusErr {p l n : Nat} {xs : List Int} (hp : (p, natO l n xs.length) ∈ M) (hl : (l, words xs) ∈ M) (hn : n ≤ xs.length) (hN : xs.length ≤ 1000) (hd : Dg W64 xs) (h1 : dv W64 (xs.take n) ≤ 1) :
    CS w0 32 [ptr p] M (fun u M' => (∃ b, u = .tuple #[.pointer none, .iface 137 (ptr b)]) ∧ M' = M) := by
  refine CS.post (R := fun u M' => ∃ c o, (∃ b, u = .tuple #[.pointer none, .iface 137 (ptr b)]) ∧ M' = (c, o) :: M) ?_ (fun v M' ⟨b, o, h1, h2⟩ => ⟨M, h2 ▸ .cons _ (List.Sublist.refl _), h1, rfl⟩)
  have h0 := dv_nonneg W64_pos (hd.take n)
  refine CS.of Tryz.func32 Tryz.ntmps32 rfl rfl (WC.seq (WC.region (WL.q (LX.assign rfl) rfl (WL.q (LX.assign rfl) rfl (WL.nil (thenK_normal (WC.seq (WC.region (WL.q (LX.move rfl) rfl (WL.q (LX.build (v := .agg #[ptr p, .bool false, .int .u64 0, .pointer none]) rfl (fun _ => by kernel_rfl)) rfl ?_))))))))))
  
  refine WL.step rfl (EX.box rfl) ?_
  rintro _ _ ⟨q, rfl, rfl⟩
  refine WL.q (LX.assign rfl) rfl (WL.nil (thenK_normal (WC.seq (WC.seq (WC.region (WL.q (LX.move rfl) rfl (WL.q (LX.nilCheck rfl) rfl (WL.q (LX.field0 rfl rfl) rfl ?_))))))))
  refine WL.q (LX.load rfl rfl (by repeat first | assumption | exact List.mem_cons_self | refine List.mem_cons_of_mem _ ?_) rfl) rfl ?_
  have hp' := List.mem_cons_of_mem (q, Obj.cells (Value.agg #[ptr p, .bool false, .int .u64 0, .pointer none]).cells 117 (0, 0)) hp
  have hl' := List.mem_cons_of_mem (q, Obj.cells (Value.agg #[ptr p, .bool false, .int .u64 0, .pointer none]).cells 117 (0, 0)) hl
  refine WL.call (isZero hp' hl' hn hN hd) rfl (fun _ => by kernel_rfl) rfl ?_
  by_cases hz : dv W64 (xs.take n) = 0
  · rw [b1_is hz]
    refine WL.q (LX.bin rfl rfl rfl) rfl (WL.q (LX.move rfl) rfl (WL.no rfl rfl (by decide) rfl (WL.no rfl rfl (by decide) rfl (WL.no rfl rfl (by decide) rfl (WL.no rfl rfl (by decide) rfl (WL.no rfl rfl (by decide) rfl (WL.no rfl rfl (by decide) rfl (WL.q (LX.pickT rfl rfl) rfl (WL.nil (thenK_normal (WC.yes rfl (WC.seq (WC.region ?_)))))))))))))
    refine WL.callR errNew rfl (fun _ => by kernel_rfl) rfl ?_
    rintro _ _ ⟨⟨b, rfl⟩, rfl⟩
    refine WL.q (LX.assign rfl) rfl (WL.q (LX.assign rfl) rfl (WL.nil (thenK_normal (WC.ret (thenK_ret ?_)))))
    exact KR.two (.inl rfl) rfl rfl rfl ⟨_, _, ⟨b, rfl⟩, rfl⟩
  · rw [b1_not hz]
    refine WL.q (LX.bin rfl rfl rfl) rfl (WL.q (LX.move rfl) rfl (WL.yes rfl rfl (WL.q (LX.move rfl) rfl (WL.yes rfl rfl (WL.q (LX.nilCheck rfl) rfl (WL.yes rfl rfl (WL.q (LX.field0 rfl rfl) rfl (WL.yes rfl rfl ?_))))))))
    refine WL.q (LX.load rfl rfl (by repeat first | assumption | exact List.mem_cons_self | refine List.mem_cons_of_mem _ ?_) rfl) rfl ?_
    refine WL.yes rfl rfl (WL.callR (isOne hp' hl' hn hN hd) rfl (fun _ => by kernel_rfl) rfl ?_)
    rintro _ _ ⟨rfl, rfl⟩
    rw [b1_is (show dv W64 (xs.take n) = 1 by omega)]
    refine WL.yes rfl rfl (WL.q (LX.bin rfl rfl rfl) rfl (WL.q (LX.pickF rfl rfl) rfl (WL.nil (thenK_normal (WC.yes rfl (WC.seq (WC.region (WL.callR errNew rfl (fun _ => by kernel_rfl) rfl ?_))))))))
    rintro _ _ ⟨⟨b, rfl⟩, rfl⟩
    refine WL.q (LX.assign rfl) rfl (WL.q (LX.assign rfl) rfl (WL.nil (thenK_normal (WC.ret (thenK_ret ?_)))))
    exact KR.two (.inl rfl) rfl rfl rfl ⟨_, _, ⟨b, rfl⟩, rfl⟩

/-- newModulus of an even number: only the number is kept -/
theorem newModulusEven {p l n : Nat} {xs : List Int} (hp : (p, natO l n xs.length) ∈ M) (hl : (l, words xs) ∈ M) (hn : n ≤ xs.length) (hN : xs.length ≤ 1000) (hd : Dg W64 xs) (h1 : 1 < dv W64 (xs.take n)) (h2 : dv W64 (xs.take n) % 2 = 0) :
    CS w0 32 [ptr p] M (fun u M' => ∃ q, u = .tuple #[ptr q, .nilIface] ∧ M' = (q, Obj.cells #[ptr p, .bool false, .int .u64 0, .pointer none] 117) :: M) := by
  refine CS.of Tryz.func32 Tryz.ntmps32 rfl rfl (WC.seq (WC.region (WL.q (LX.assign rfl) rfl (WL.q (LX.assign rfl) rfl (WL.nil (thenK_normal (WC.seq (WC.region (WL.q (LX.move rfl) rfl (WL.q (LX.build (v := .agg #[ptr p, .bool false, .int .u64 0, .pointer none]) rfl (fun _ => by kernel_rfl)) rfl ?_))))))))))
  
  refine WL.step rfl (EX.box rfl) ?_
  rintro _ _ ⟨q, rfl, rfl⟩
  refine WL.q (LX.assign rfl) rfl (WL.nil (thenK_normal (WC.seq (WC.seq (WC.region (WL.q (LX.move rfl) rfl (WL.q (LX.nilCheck rfl) rfl (WL.q (LX.field0 rfl rfl) rfl ?_))))))))
  refine WL.q (LX.load rfl rfl (by repeat first | assumption | exact List.mem_cons_self | refine List.mem_cons_of_mem _ ?_) rfl) rfl ?_
  have hp' := List.mem_cons_of_mem (q, Obj.cells (Value.agg #[ptr p, .bool false, .int .u64 0, .pointer none]).cells 117 (0, 0)) hp
  have hl' := List.mem_cons_of_mem (q, Obj.cells (Value.agg #[ptr p, .bool false, .int .u64 0, .pointer none]).cells 117 (0, 0)) hl
  refine WL.call (isZero hp' hl' hn hN hd) rfl (fun _ => by kernel_rfl) rfl ?_
  rw [b1_not (show ¬ dv W64 (xs.take n) = 0 by omega)]
  refine WL.q (LX.bin rfl rfl rfl) rfl (WL.q (LX.move rfl) rfl (WL.yes rfl rfl (WL.q (LX.move rfl) rfl (WL.yes rfl rfl (WL.q (LX.nilCheck rfl) rfl (WL.yes rfl rfl (WL.q (LX.field0 rfl rfl) rfl (WL.yes rfl rfl ?_))))))))
  refine WL.q (LX.load rfl rfl (by repeat first | assumption | exact List.mem_cons_self | refine List.mem_cons_of_mem _ ?_) rfl) rfl ?_
  refine WL.yes rfl rfl (WL.callR (isOne hp' hl' hn hN hd) rfl (fun _ => by kernel_rfl) rfl ?_)
  rintro _ _ ⟨rfl, rfl⟩
  rw [b1_not (show ¬ dv W64 (xs.take n) = 1 by omega)]
  refine WL.yes rfl rfl (WL.q (LX.bin rfl rfl rfl) rfl (WL.q (LX.pickF rfl rfl) rfl (WL.nil (thenK_normal (WC.no rfl (WC.skip (thenK_normal (WC.seq (WC.seq (WC.region (WL.q (LX.move rfl) rfl (WL.q (LX.nilCheck rfl) rfl (WL.q (LX.field0 rfl rfl) rfl ?_)))))))))))))
  refine WL.q (LX.load rfl rfl (by repeat first | assumption | exact List.mem_cons_self | refine List.mem_cons_of_mem _ ?_) rfl) rfl ?_
  refine WL.call (isOdd hp' hl' hn hN hd) rfl (fun _ => by kernel_rfl) rfl ?_
  rw [h2]
  refine WL.q (LX.bin rfl rfl rfl) rfl (WL.nil (thenK_normal (WC.no rfl (WC.skip (thenK_normal (WC.seq (WC.region (WL.q (LX.move rfl) rfl (WL.q (LX.assign rfl) rfl (WL.q (LX.assign rfl) rfl (WL.nil (thenK_normal (WC.ret ?_)))))))))))))
  exact KR.two (.inl rfl) rfl rfl rfl ⟨q, rfl, rfl⟩
end
end Go.Proofs.YtdnngppofbmpeaaGreatDoor.Bm
namespace Go.Proofs.YtdnngppofbmpeaaGreatDoor.Bm
open Go Go.RowKit

section
variable {w0 : World} {M : Mem}
/-- NewModulus of 0 or 1: an error -/
theorem newModErr {A : Option Addr} {bs : List Int} {cap : Nat} (hb : Bsl M A bs cap) (hbd : Dg 256 bs) (hL : bs.length ≤ 248) (h1 : dv 256 bs.reverse ≤ 1) :
    CS w0 16 [.slice A bs.length cap] M (fun u M' => (∃ b, u = .tuple #[.pointer none, .iface 137 (ptr b)]) ∧ M' = M) := by
  refine CS.post (R := fun u M' => ∃ p l o o', (∃ b, u = .tuple #[.pointer none, .iface 137 (ptr b)]) ∧ M' = (p, o) :: (l, o') :: M) ?_ (fun v M' ⟨p, l, o, o', h1, h2⟩ => ⟨M, h2 ▸ .cons _ (.cons _ (List.Sublist.refl _)), h1, rfl⟩)
  refine CS.of Tryz.func16 Tryz.ntmps16 rfl rfl (WC.seq (WC.region (WL.q (LX.assign rfl) rfl (WL.q (LX.assign rfl) rfl (WL.nil (thenK_normal (WC.seq (WC.region (WL.callR newNat rfl (fun _ => by kernel_rfl) rfl ?_)))))))))
  rintro _ _ ⟨p, l, rfl, rfl⟩
  refine WL.q (LX.move rfl) rfl (WL.callR (resetToBytes hb hbd hL) rfl (fun _ => by kernel_rfl) rfl ?_)
  rintro _ _ ⟨rfl, m, ys, hy, hyd, hm, hv, hz, rfl⟩
  refine WL.q (LX.assign rfl) rfl (WL.nil (thenK_normal (WC.seq (WC.region (WL.q (LX.move rfl) rfl ?_)))))
  have h3 := newModulusErr (w0 := w0) (M := (p, natO l m 32) :: (l, words ys) :: M) (p := p) (l := l) (n := m) (xs := ys) (by rw [hy]; exact List.mem_cons_self) (List.mem_cons_of_mem _ List.mem_cons_self) (by omega) (by omega) hyd (by rw [hv]; exact h1)
  refine WL.callR h3 rfl (fun _ => by kernel_rfl) rfl ?_
  rintro _ _ ⟨⟨b, rfl⟩, rfl⟩
  refine WL.q (LX.extract rfl rfl) rfl (WL.q (LX.extract rfl rfl) rfl (WL.q (LX.assign rfl) rfl (WL.q (LX.assign rfl) rfl (WL.nil (thenK_normal (WC.ret ?_))))))
  exact KR.two (.inl rfl) rfl rfl rfl ⟨_, _, _, _, ⟨b, rfl⟩, rfl⟩

/-- NewModulus of an even number above 1 -/
theorem newModEven {A : Option Addr} {bs : List Int} {cap : Nat} (hb : Bsl M A bs cap) (hbd : Dg 256 bs) (hL : bs.length ≤ 248) (h1 : 1 < dv 256 bs.reverse) (h2 : dv 256 bs.reverse % 2 = 0) :
    CS w0 16 [.slice A bs.length cap] M (fun u M' => ∃ q p l m ys, ys.length = 32 ∧ Dg W64 ys ∧ m ≤ 32 ∧ dv W64 (ys.take m) = dv 256 bs.reverse ∧ (m = 0 ∨ gt ys (m - 1) ≠ 0) ∧
      u = .tuple #[ptr q, .nilIface] ∧ M' = (q, Obj.cells #[ptr p, .bool false, .int .u64 0, .pointer none] 117) :: (p, natO l m 32) :: (l, words ys) :: M) := by
  refine CS.of Tryz.func16 Tryz.ntmps16 rfl rfl (WC.seq (WC.region (WL.q (LX.assign rfl) rfl (WL.q (LX.assign rfl) rfl (WL.nil (thenK_normal (WC.seq (WC.region (WL.callR newNat rfl (fun _ => by kernel_rfl) rfl ?_)))))))))
  rintro _ _ ⟨p, l, rfl, rfl⟩
  refine WL.q (LX.move rfl) rfl (WL.callR (resetToBytes hb hbd hL) rfl (fun _ => by kernel_rfl) rfl ?_)
  rintro _ _ ⟨rfl, m, ys, hy, hyd, hm, hv, hz, rfl⟩
  refine WL.q (LX.assign rfl) rfl (WL.nil (thenK_normal (WC.seq (WC.region (WL.q (LX.move rfl) rfl ?_)))))
  have h3 := newModulusEven (w0 := w0) (M := (p, natO l m 32) :: (l, words ys) :: M) (p := p) (l := l) (n := m) (xs := ys) (by rw [hy]; exact List.mem_cons_self) (List.mem_cons_of_mem _ List.mem_cons_self) (by omega) (by omega) hyd (by rw [hv]; exact h1) (by rw [hv]; exact h2)
  refine WL.callR h3 rfl (fun _ => by kernel_rfl) rfl ?_
  rintro _ _ ⟨q, rfl, rfl⟩
  refine WL.q (LX.extract rfl rfl) rfl (WL.q (LX.extract rfl rfl) rfl (WL.q (LX.assign rfl) rfl (WL.q (LX.assign rfl) rfl (WL.nil (thenK_normal (WC.ret ?_))))))
  exact KR.two (.inl rfl) rfl rfl rfl ⟨q, p, l, m, ys, hy, hyd, hm, hv, hz, rfl, rfl⟩

/-- Bits -/
theorem natBits {p l n c : Nat} (hp : (p, natO l n c) ∈ M) : CS w0 21 [ptr p] M (fun u M' => u = .slice (some ⟨l, 0, none⟩) n c ∧ M' = M) := by
  refine CS.of Tryz.func21 Tryz.ntmps21 rfl rfl (WC.seq (WC.region (WL.q (LX.assign rfl) rfl (WL.nil (thenK_normal (WC.seq (WC.region (WL.q (LX.move rfl) rfl (WL.q (LX.nilCheck rfl) rfl (WL.q (LX.field0 rfl rfl) rfl ?_))))))))))
  refine WL.q (LX.load rfl rfl (by repeat first | assumption | exact List.mem_cons_self | refine List.mem_cons_of_mem _ ?_) rfl) rfl ?_
  refine WL.q (LX.assign rfl) rfl (WL.nil (thenK_normal (WC.ret ?_)))
  exact KR.one (.inl rfl) rfl rfl ⟨rfl, rfl⟩
end
end Go.Proofs.YtdnngppofbmpeaaGreatDoor.Bm
