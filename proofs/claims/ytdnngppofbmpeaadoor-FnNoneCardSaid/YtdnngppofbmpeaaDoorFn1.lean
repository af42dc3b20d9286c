/- Proved here: what NewNat, reset, IsZero, IsOne, IsOdd, trim and errors.New do. No conditions but those that each theorem states. -/
import Derived.Test.YtdnngppofbmpeaaDoorDv
import Derived.Test.YtdnngppofbmpeaaDoorEx1
namespace Go.Proofs.YtdnngppofbmpeaaDoor.Bm
open Go Go.RowKit

theorem max_cast (n a : Nat) : (if (n : Int) < (a : Int) then (a : Int) else (n : Int)) = ((max n a : Nat) : Int) := by split <;> omega

section
variable {w0 : World} {M : Mem}
theorem newNat : CS w0 8 [] M (fun u M' => ∃ p l, u = ptr p ∧ M' = (p, natO l 0 32) :: (l, words (List.replicate 32 0)) :: M) := by
  refine CS.of Tryd.func8 Tryd.ntmps8 rfl rfl ?_
  refine WC.seq ?_
  refine WC.region ?_
  refine WL.q (LX.assign rfl) rfl ?_
  refine WL.nil ?_
  refine thenK_normal ?_
  refine WC.seq ?_
  refine WC.region ?_
  refine WL.step rfl (EX.make rfl rfl rfl rfl 0 32 rfl rfl (by decide) (by decide) (by decide)) ?_
  rintro _ _ ⟨l, rfl, rfl⟩
  refine WL.q (LX.assign rfl) rfl ?_
  refine WL.nil ?_
  refine thenK_normal ?_
  refine WC.seq ?_
  refine WC.region ?_
  refine WL.q (LX.move rfl) rfl ?_
  refine WL.q (LX.build (v := .agg #[.slice (some ⟨l, 0, none⟩) 0 32]) rfl (fun _ => by kernel_rfl)) rfl ?_
  
  refine WL.step rfl (EX.box rfl) ?_
  rintro _ _ ⟨p, rfl, rfl⟩
  refine WL.q (LX.assign rfl) rfl ?_
  refine WL.nil ?_
  refine thenK_normal ?_
  refine WC.ret ?_
  exact KR.one (.inl rfl) rfl rfl ⟨p, l, rfl, rfl⟩

/-- reset: n words of zero -/
theorem nreset {p l a n : Nat} {xs : List Int} (hn : n ≤ xs.length) (ha : a ≤ xs.length) (hx : xs.length ≤ 1000) :
    CS w0 40 [ptr p, .int .i64 n] ((p, natO l a xs.length) :: (l, words xs) :: M)
      (fun u M' => u = ptr p ∧ M' = (p, natO l n xs.length) :: (l, words (List.replicate (max n a) 0 ++ xs.drop (max n a))) :: M) := by
  refine CS.of Tryd.func40 Tryd.ntmps40 rfl rfl ?_
  refine WC.seq ?_
  refine WC.region ?_
  refine WL.q (LX.assign rfl) rfl ?_
  refine WL.nil ?_
  refine thenK_normal ?_
  refine WC.seq ?_
  refine WC.seq ?_
  refine WC.region ?_
  refine WL.q (LX.move rfl) rfl ?_
  refine WL.q (LX.nilCheck rfl) rfl ?_
  refine WL.q (LX.field0 rfl rfl) rfl ?_
  refine WL.q (LX.load rfl rfl (by repeat first | assumption | exact List.mem_cons_self | refine List.mem_cons_of_mem _ ?_) rfl) rfl ?_
  refine WL.q (LX.cap rfl rfl rfl) rfl ?_
  refine WL.q (LX.move rfl) rfl ?_
  refine WL.q (LX.bin rfl rfl rfl) rfl ?_
  refine WL.nil ?_
  refine thenK_normal ?_
  refine WC.test rfl (fun h => absurd h (by omega)) (fun _ => ?_)
  refine WC.skip ?_
  refine thenK_normal ?_
  refine WC.seq ?_
  refine WC.draw [(0, 0), (0, 1), (0, 2), (0, 4), (0, 5), (0, 6), (0, 7), (1, 3), (1, 8), (0, 9), (0, 10), (0, 11), (2, 12)] [(p, natO l a xs.length)] rfl (by kernel_rfl) rfl (by kernel_rfl) ?_
  refine DW.p rfl rfl (fun _ => LX.move rfl) rfl ?_
  refine DW.p rfl rfl (fun _ => LX.nilCheck rfl) rfl ?_
  refine DW.p rfl rfl (fun _ => LX.field0 rfl rfl) rfl ?_
  refine DW.p rfl rfl (fun _ => LX.move rfl) rfl ?_
  refine DW.p rfl rfl (fun _ => LX.move rfl) rfl ?_
  refine DW.p rfl rfl (fun _ => LX.nilCheck rfl) rfl ?_
  refine DW.p rfl rfl (fun _ => LX.field0 rfl rfl) rfl ?_
  refine DW.r rfl rfl (LX.load rfl rfl (by repeat first | assumption | exact List.mem_cons_self | refine List.mem_cons_of_mem _ ?_) rfl) (fun q hq => by simp at hq; subst hq; exact List.mem_cons_self) rfl ?_
  refine DW.r rfl rfl (LX.load rfl rfl (by repeat first | assumption | exact List.mem_cons_self | refine List.mem_cons_of_mem _ ?_) rfl) (fun q hq => by simp at hq; subst hq; exact List.mem_cons_self) rfl ?_
  refine DW.p rfl rfl (fun _ => LX.len rfl rfl rfl) rfl ?_
  refine DW.p rfl rfl (fun _ => LX.eq (LX.max rfl rfl) (by rw [max_cast])) rfl ?_
  refine DW.p rfl rfl (fun _ => LX.sliceTo rfl rfl rfl _ rfl (by omega)) rfl ?_
  refine DW.fput rfl rfl (EX.clear rfl rfl rfl rfl (by repeat first | assumption | exact List.mem_cons_self | refine List.mem_cons_of_mem _ ?_) (by omega) (by repeat first | exact Upd.here | apply Upd.there)) (fun q hq => by simp at hq; subst hq; exact List.mem_cons_self) ?_
  refine DW.nil ?_
  refine thenK_normal ?_
  refine WC.seq ?_
  refine WC.region ?_
  refine WL.q (LX.move rfl) rfl ?_
  refine WL.q (LX.move rfl) rfl ?_
  refine WL.q (LX.nilCheck rfl) rfl ?_
  refine WL.q (LX.field0 rfl rfl) rfl ?_
  refine WL.q (LX.load rfl rfl (by repeat first | assumption | exact List.mem_cons_self | refine List.mem_cons_of_mem _ ?_) rfl) rfl ?_
  refine WL.q (LX.move rfl) rfl ?_
  refine WL.q (LX.sliceTo rfl rfl rfl _ rfl (by omega)) rfl ?_
  refine WL.q (LX.nilCheck rfl) rfl ?_
  refine WL.q (LX.field0 rfl rfl) rfl ?_
  refine WL.put (EX.storeC rfl rfl rfl (by repeat first | assumption | exact List.mem_cons_self | refine List.mem_cons_of_mem _ ?_) rfl rfl (by repeat first | exact Upd.here | apply Upd.there)) ?_
  refine WL.nil ?_
  refine thenK_normal ?_
  refine WC.seq ?_
  refine WC.region ?_
  refine WL.q (LX.move rfl) rfl ?_
  refine WL.q (LX.assign rfl) rfl ?_
  refine WL.nil ?_
  refine thenK_normal ?_
  refine WC.ret ?_
  exact KR.one (.inl rfl) rfl rfl ⟨rfl, rfl⟩

theorem and_b1 (p q : Prop) [Decidable p] [Decidable q] : bits .and .u64 (b1 p) (b1 q) = b1 (p ∧ q) := by
  unfold b1; by_cases hp : p <;> by_cases hq : q <;> simp [hp, hq] <;> rfl
theorem b1_congr {p q : Prop} [Decidable p] [Decidable q] (h : p ↔ q) : b1 p = b1 q := by unfold b1; simp [h]

theorem W64_pos : 0 < W64 := by unfold W64; omega
theorem dg_gt {xs : List Int} (h : Dg W64 xs) (i : Nat) : wd (gt xs i) := Dg.getD W64_pos h i

theorem dv_take0 {xs : List Int} (h : Dg W64 xs) {i : Nat} (hi : i < xs.length) : (dv W64 (xs.take i) = 0 ∧ gt xs i = 0) ↔ dv W64 (xs.take (i + 1)) = 0 := by
  rw [dv_take_succ _ _ _ hi, gt_eq hi]
  have h1 := dv_nonneg W64_pos (h.take i)
  have h2 := (h.get hi).1
  have h3 := Int.mul_nonneg (Int.le_of_lt (pow_pos W64_pos i)) h2
  constructor
  · rintro ⟨e1, e2⟩; rw [e1, e2]; simp
  · intro e
    refine ⟨by omega, ?_⟩
    have h4 : W64 ^ i * xs[i] = 0 := by omega
    rcases Int.mul_eq_zero.1 h4 with h5 | h5
    · have := pow_pos W64_pos i; omega
    · exact h5

/-- IsZero -/
theorem isZero {p l n : Nat} {xs : List Int} (hp : (p, natO l n xs.length) ∈ M) (hl : (l, words xs) ∈ M) (hn : n ≤ xs.length) (hN : xs.length ≤ 1000) (hd : Dg W64 xs) :
    CS w0 31 [ptr p] M (fun u M' => u = .int .u64 (b1 (dv W64 (xs.take n) = 0)) ∧ M' = M) := by
  refine CS.of Tryd.func31 Tryd.ntmps31 rfl rfl ?_
  refine WC.seq ?_
  refine WC.region ?_
  refine WL.q (LX.assign rfl) rfl ?_
  refine WL.nil ?_
  refine thenK_normal ?_
  refine WC.seq ?_
  refine WC.region ?_
  refine WL.q (LX.move rfl) rfl ?_
  refine WL.q (LX.nilCheck rfl) rfl ?_
  refine WL.q (LX.field0 rfl rfl) rfl ?_
  refine WL.q (LX.load rfl rfl (by repeat first | assumption | exact List.mem_cons_self | refine List.mem_cons_of_mem _ ?_) rfl) rfl ?_
  refine WL.q (LX.len rfl rfl rfl) rfl ?_
  refine WL.q (LX.assign rfl) rfl ?_
  refine WL.nil ?_
  refine thenK_normal ?_
  refine WC.seq ?_
  refine WC.region ?_
  refine WL.q (LX.move rfl) rfl ?_
  refine WL.q (LX.nilCheck rfl) rfl ?_
  refine WL.q (LX.field0 rfl rfl) rfl ?_
  refine WL.q (LX.load rfl rfl (by repeat first | assumption | exact List.mem_cons_self | refine List.mem_cons_of_mem _ ?_) rfl) rfl ?_
  refine WL.q (LX.move rfl) rfl ?_
  refine WL.q (LX.sliceTo rfl rfl rfl _ rfl (by omega)) rfl ?_
  refine WL.q (LX.assign rfl) rfl ?_
  refine WL.nil ?_
  refine thenK_normal ?_
  refine WC.seq ?_
  refine WC.region ?_
  refine WL.q (LX.assign rfl) rfl ?_
  refine WL.nil ?_
  refine thenK_normal ?_
  refine WC.seq ?_
  refine WC.seq ?_
  refine WC.region ?_
  refine WL.q (LX.assign rfl) rfl ?_
  refine WL.nil ?_
  refine thenK_normal ?_
  refine WC.block ?_
  refine WC.loopS (fun i => [(3, .int .i64 n), (4, .slice (some ⟨l, 0, none⟩) n xs.length), (5, .int .u64 (b1 (dv W64 (xs.take i) = 0))), (6, .int .i64 i)]) (fun _ => M) (fun i => i ≤ n) (fun i => n - i) 0 (Nat.zero_le _) (.cons rfl (.cons rfl (.cons rfl (.cons rfl .nil)))) rfl ?_
  intro i hi
  refine WC.seq ?_
  refine WC.seq ?_
  refine WC.region ?_
  refine WL.q (LX.move rfl) rfl ?_
  refine WL.q (LX.move rfl) rfl ?_
  refine WL.q (LX.bin rfl rfl rfl) rfl ?_
  refine WL.nil ?_
  refine thenK_normal ?_
  refine WC.test rfl (fun hlt => ?_) (fun hge => ?_)
  · refine WC.skip ?_
    refine thenK_normal ?_
    refine WC.seq ?_
    refine WC.block ?_
    refine WC.region ?_
    refine WL.q (LX.move rfl) rfl ?_
    refine WL.q (LX.move rfl) rfl ?_
    refine WL.q (LX.move rfl) rfl ?_
    refine WL.q (LX.idx1 rfl rfl rfl _ rfl (by omega)) rfl ?_
    refine WL.q (LX.loadRow rfl rfl (by repeat first | assumption | exact List.mem_cons_self | refine List.mem_cons_of_mem _ ?_) (by omega)) rfl ?_
    refine WL.call (ctEq (dg_gt hd i) wd_zero) rfl (fun _ => by kernel_rfl) rfl ?_
    refine WL.q (LX.eq (LX.bin rfl rfl rfl) (by rw [and_b1, b1_congr (dv_take0 hd (by omega))])) rfl ?_
    refine WL.q (LX.assign rfl) rfl ?_
    refine WL.nil ?_
    refine blockK_normal ?_
    refine thenK_normal ?_
    refine WC.region ?_
    refine WL.q (LX.move rfl) rfl ?_
    refine WL.q (LX.addI rfl rfl (by omega)) rfl ?_
    refine WL.q (LX.assign rfl) rfl ?_
    refine WL.nil ?_
    exact loopS_next (i + 1) (by omega) (by omega) (.cons rfl (.cons rfl (.cons rfl (.cons rfl .nil)))) rfl
  · refine WC.exit ?_
    refine thenK_exit ?_
    refine loopS_exit ?_
    refine blockK_same ?_
    refine thenK_normal ?_
    refine WC.seq ?_
    refine WC.region ?_
    refine WL.q (LX.move rfl) rfl ?_
    refine WL.q (LX.assign rfl) rfl ?_
    refine WL.nil ?_
    refine thenK_normal ?_
    refine WC.ret ?_
    obtain rfl : i = n := by omega
    exact KR.one (.inl rfl) rfl rfl ⟨rfl, rfl⟩

theorem W64_gt1 : 1 < W64 := by unfold W64; omega
theorem dv_take1 {xs : List Int} (h : Dg W64 xs) {i : Nat} (h0 : 1 ≤ i) (hi : i < xs.length) : (dv W64 (xs.take i) = 1 ∧ gt xs i = 0) ↔ dv W64 (xs.take (i + 1)) = 1 := by
  rw [dv_take_succ _ _ _ hi, gt_eq hi]
  have h1 := dv_nonneg W64_pos (h.take i)
  have h2 := (h.get hi).1
  have h5 : W64 ≤ W64 ^ i := by
    obtain ⟨j, rfl⟩ : ∃ j, i = j + 1 := ⟨i - 1, by omega⟩
    rw [Int.pow_succ]
    have := pow_pos W64_pos j
    have h6 : 1 * W64 ≤ W64 ^ j * W64 := Int.mul_le_mul_of_nonneg_right (by omega) (Int.le_of_lt W64_pos)
    omega
  constructor
  · rintro ⟨e1, e2⟩; rw [e1, e2]; simp
  · intro e
    have hz : xs[i] = 0 := by
      rcases Int.lt_or_le 0 xs[i] with h7 | h7
      · have h8 : W64 ^ i * 1 ≤ W64 ^ i * xs[i] := Int.mul_le_mul_of_nonneg_left (by omega) (by have := W64_pos; omega)
        have := W64_gt1
        omega
      · omega
    rw [hz] at e
    exact ⟨by simpa using e, hz⟩

/-- IsOne -/
theorem isOne {p l n : Nat} {xs : List Int} (hp : (p, natO l n xs.length) ∈ M) (hl : (l, words xs) ∈ M) (hn : n ≤ xs.length) (hN : xs.length ≤ 1000) (hd : Dg W64 xs) :
    CS w0 32 [ptr p] M (fun u M' => u = .int .u64 (b1 (dv W64 (xs.take n) = 1)) ∧ M' = M) := by
  refine CS.of Tryd.func32 Tryd.ntmps32 rfl rfl ?_
  refine WC.seq ?_
  refine WC.region ?_
  refine WL.q (LX.assign rfl) rfl ?_
  refine WL.nil ?_
  refine thenK_normal ?_
  refine WC.seq ?_
  refine WC.region ?_
  refine WL.q (LX.move rfl) rfl ?_
  refine WL.q (LX.nilCheck rfl) rfl ?_
  refine WL.q (LX.field0 rfl rfl) rfl ?_
  refine WL.q (LX.load rfl rfl (by repeat first | assumption | exact List.mem_cons_self | refine List.mem_cons_of_mem _ ?_) rfl) rfl ?_
  refine WL.q (LX.len rfl rfl rfl) rfl ?_
  refine WL.q (LX.assign rfl) rfl ?_
  refine WL.nil ?_
  refine thenK_normal ?_
  refine WC.seq ?_
  refine WC.region ?_
  refine WL.q (LX.move rfl) rfl ?_
  refine WL.q (LX.nilCheck rfl) rfl ?_
  refine WL.q (LX.field0 rfl rfl) rfl ?_
  refine WL.q (LX.load rfl rfl (by repeat first | assumption | exact List.mem_cons_self | refine List.mem_cons_of_mem _ ?_) rfl) rfl ?_
  refine WL.q (LX.move rfl) rfl ?_
  refine WL.q (LX.sliceTo rfl rfl rfl _ rfl (by omega)) rfl ?_
  refine WL.q (LX.assign rfl) rfl ?_
  refine WL.nil ?_
  refine thenK_normal ?_
  refine WC.seq ?_
  refine WC.seq ?_
  refine WC.region ?_
  refine WL.q (LX.move rfl) rfl ?_
  refine WL.q (LX.len rfl rfl rfl) rfl ?_
  refine WL.q (LX.bin rfl rfl rfl) rfl ?_
  refine WL.nil ?_
  refine thenK_normal ?_
  refine WC.test rfl (fun h0 => ?_) (fun h0 => ?_)
  · refine WC.seq ?_
    refine WC.region ?_
    refine WL.q (LX.assign rfl) rfl ?_
    refine WL.nil ?_
    refine thenK_normal ?_
    refine WC.ret ?_
    refine thenK_ret ?_
    obtain rfl : n = 0 := by omega
    exact KR.one (.inl rfl) rfl rfl ⟨by simp [b1], rfl⟩
  · refine WC.skip ?_
    refine thenK_normal ?_
    refine WC.seq ?_
    refine WC.region ?_
    refine WL.q (LX.move rfl) rfl ?_
    refine WL.q (LX.idx1 rfl rfl rfl 0 rfl (by omega)) rfl ?_
    refine WL.q (LX.loadRow rfl rfl (by repeat first | assumption | exact List.mem_cons_self | refine List.mem_cons_of_mem _ ?_) (by omega)) rfl ?_
    refine WL.call (ctEq (dg_gt hd 0) (by unfold wd W64; omega)) rfl (fun _ => by kernel_rfl) rfl ?_
    refine WL.q (LX.assign rfl) rfl ?_
    refine WL.nil ?_
    refine thenK_normal ?_
    refine WC.seq ?_
    refine WC.seq ?_
    refine WC.region ?_
    refine WL.q (LX.assign rfl) rfl ?_
    refine WL.nil ?_
    refine thenK_normal ?_
    refine WC.block ?_
    refine WC.loopS (fun i => [(3, .int .i64 n), (4, .slice (some ⟨l, 0, none⟩) n xs.length), (5, .int .u64 (b1 (dv W64 (xs.take i) = 1))), (6, .int .i64 i)]) (fun _ => M) (fun i => 1 ≤ i ∧ i ≤ n) (fun i => n - i) 1 ⟨Nat.le_refl _, by omega⟩ ?_ rfl ?_
    · refine .cons rfl (.cons rfl (.cons ?_ (.cons rfl .nil)))
      have h1 : gt xs 0 = dv W64 (xs.take 1) := by
        rw [dv_take_succ _ _ _ (by omega), gt_eq (by omega)]; simp
      show some (Value.int IntKind.u64 (b1 (gt xs 0 = 1))) = _
      rw [h1]
    rintro i ⟨hi1, hi⟩
    refine WC.seq ?_
    refine WC.seq ?_
    refine WC.region ?_
    refine WL.q (LX.move rfl) rfl ?_
    refine WL.q (LX.move rfl) rfl ?_
    refine WL.q (LX.bin rfl rfl rfl) rfl ?_
    refine WL.nil ?_
    refine thenK_normal ?_
    refine WC.test rfl (fun hlt => ?_) (fun hge => ?_)
    · refine WC.skip ?_
      refine thenK_normal ?_
      refine WC.seq ?_
      refine WC.block ?_
      refine WC.region ?_
      refine WL.q (LX.move rfl) rfl ?_
      refine WL.q (LX.move rfl) rfl ?_
      refine WL.q (LX.move rfl) rfl ?_
      refine WL.q (LX.idx1 rfl rfl rfl _ rfl (by omega)) rfl ?_
      refine WL.q (LX.loadRow rfl rfl (by repeat first | assumption | exact List.mem_cons_self | refine List.mem_cons_of_mem _ ?_) (by omega)) rfl ?_
      refine WL.call (ctEq (dg_gt hd i) wd_zero) rfl (fun _ => by kernel_rfl) rfl ?_
      refine WL.q (LX.eq (LX.bin rfl rfl rfl) (by rw [and_b1, b1_congr (dv_take1 hd hi1 (by omega))])) rfl ?_
      refine WL.q (LX.assign rfl) rfl ?_
      refine WL.nil ?_
      refine blockK_normal ?_
      refine thenK_normal ?_
      refine WC.region ?_
      refine WL.q (LX.move rfl) rfl ?_
      refine WL.q (LX.addI rfl rfl (by omega)) rfl ?_
      refine WL.q (LX.assign rfl) rfl ?_
      refine WL.nil ?_
      exact loopS_next (i + 1) ⟨by omega, by omega⟩ (by omega) (.cons rfl (.cons rfl (.cons rfl (.cons rfl .nil)))) rfl
    · refine WC.exit ?_
      refine thenK_exit ?_
      refine loopS_exit ?_
      refine blockK_same ?_
      refine thenK_normal ?_
      refine WC.seq ?_
      refine WC.region ?_
      refine WL.q (LX.move rfl) rfl ?_
      refine WL.q (LX.assign rfl) rfl ?_
      refine WL.nil ?_
      refine thenK_normal ?_
      refine WC.ret ?_
      obtain rfl : i = n := by omega
      exact KR.one (.inl rfl) rfl rfl ⟨rfl, rfl⟩

theorem and_one {x : Int} (h : wd x) : bits .and .u64 x 1 = x % 2 :=
  bits_mask .u64 64 (by decide) (fun n h0 h1 => u64_in ⟨h0, h1⟩) 1 (by decide) x h.1 h.2
theorem dv_mod2 {xs : List Int} {n : Nat} (h0 : 0 < n) (hn : n ≤ xs.length) : dv W64 (xs.take n) % 2 = gt xs 0 % 2 := by
  cases xs with
  | nil => simp at hn; omega
  | cons x r =>
    obtain ⟨k, rfl⟩ : ∃ k, n = k + 1 := ⟨n - 1, by omega⟩
    simp only [List.take_succ_cons, dv_cons]
    show _ = x % 2
    unfold W64
    omega

/-- IsOdd -/
theorem isOdd {p l n : Nat} {xs : List Int} (hp : (p, natO l n xs.length) ∈ M) (hl : (l, words xs) ∈ M) (hn : n ≤ xs.length) (hN : xs.length ≤ 1000) (hd : Dg W64 xs) :
    CS w0 33 [ptr p] M (fun u M' => u = .int .u64 (dv W64 (xs.take n) % 2) ∧ M' = M) := by
  refine CS.of Tryd.func33 Tryd.ntmps33 rfl rfl ?_
  refine WC.seq ?_
  refine WC.region ?_
  refine WL.q (LX.assign rfl) rfl ?_
  refine WL.nil ?_
  refine thenK_normal ?_
  refine WC.seq ?_
  refine WC.seq ?_
  refine WC.region ?_
  refine WL.q (LX.move rfl) rfl ?_
  refine WL.q (LX.nilCheck rfl) rfl ?_
  refine WL.q (LX.field0 rfl rfl) rfl ?_
  refine WL.q (LX.load rfl rfl (by repeat first | assumption | exact List.mem_cons_self | refine List.mem_cons_of_mem _ ?_) rfl) rfl ?_
  refine WL.q (LX.len rfl rfl rfl) rfl ?_
  refine WL.q (LX.bin rfl rfl rfl) rfl ?_
  refine WL.nil ?_
  refine thenK_normal ?_
  refine WC.test rfl (fun h0 => ?_) (fun h0 => ?_)
  · refine WC.seq ?_
    refine WC.region ?_
    refine WL.q (LX.assign rfl) rfl ?_
    refine WL.nil ?_
    refine thenK_normal ?_
    refine WC.ret ?_
    refine thenK_ret ?_
    obtain rfl : n = 0 := by omega
    exact KR.one (.inl rfl) rfl rfl ⟨by simp, rfl⟩
  · refine WC.skip ?_
    refine thenK_normal ?_
    refine WC.seq ?_
    refine WC.region ?_
    refine WL.q (LX.move rfl) rfl ?_
    refine WL.q (LX.nilCheck rfl) rfl ?_
    refine WL.q (LX.field0 rfl rfl) rfl ?_
    refine WL.q (LX.load rfl rfl (by repeat first | assumption | exact List.mem_cons_self | refine List.mem_cons_of_mem _ ?_) rfl) rfl ?_
    refine WL.q (LX.idx1 rfl rfl rfl 0 rfl (by omega)) rfl ?_
    refine WL.q (LX.loadRow rfl rfl (by repeat first | assumption | exact List.mem_cons_self | refine List.mem_cons_of_mem _ ?_) (by omega)) rfl ?_
    refine WL.q (LX.eq (LX.bin rfl rfl rfl) (by rw [and_one (dg_gt hd 0), ← dv_mod2 (n := n) (by omega) hn])) rfl ?_
    refine WL.q (LX.assign rfl) rfl ?_
    refine WL.nil ?_
    refine thenK_normal ?_
    refine WC.ret ?_
    exact KR.one (.inl rfl) rfl rfl ⟨rfl, rfl⟩

theorem dv_take_trim {xs : List Int} {j : Nat} (h0 : 0 < j) (hj : j ≤ xs.length) (hz : gt xs (j - 1) = 0) : dv W64 (xs.take (j - 1)) = dv W64 (xs.take j) := by
  obtain ⟨k, rfl⟩ : ∃ k, j = k + 1 := ⟨j - 1, by omega⟩
  simp only [Nat.add_sub_cancel] at hz ⊢
  rw [gt_eq (by omega)] at hz
  rw [dv_take_succ _ _ _ (by omega), hz]; simp

/-- trim -/
theorem trim {p l n : Nat} {xs : List Int} (hn : n ≤ xs.length) (hN : xs.length ≤ 1000) :
    CS w0 42 [ptr p] ((p, natO l n xs.length) :: (l, words xs) :: M)
      (fun u M' => u = ptr p ∧ ∃ m, m ≤ n ∧ dv W64 (xs.take m) = dv W64 (xs.take n) ∧ (m = 0 ∨ gt xs (m - 1) ≠ 0) ∧ M' = (p, natO l m xs.length) :: (l, words xs) :: M) := by
  refine CS.of Tryd.func42 Tryd.ntmps42 rfl rfl ?_
  refine WC.seq ?_
  refine WC.region ?_
  refine WL.q (LX.assign rfl) rfl ?_
  refine WL.nil ?_
  refine thenK_normal ?_
  refine WC.seq ?_
  refine WC.seq ?_
  refine WC.region ?_
  refine WL.q (LX.move rfl) rfl ?_
  refine WL.q (LX.nilCheck rfl) rfl ?_
  refine WL.q (LX.field0 rfl rfl) rfl ?_
  refine WL.q (LX.load rfl rfl (by repeat first | assumption | exact List.mem_cons_self | refine List.mem_cons_of_mem _ ?_) rfl) rfl ?_
  refine WL.q (LX.len rfl rfl rfl) rfl ?_
  refine WL.q (LX.subI rfl rfl (by omega)) rfl ?_
  refine WL.q (LX.assign rfl) rfl ?_
  refine WL.nil ?_
  refine thenK_normal ?_
  refine WC.block ?_
  refine WC.loopS (fun j : Nat => [(0, ptr p), (3, .int .i64 ((j : Int) - 1))]) (fun j => (p, natO l j xs.length) :: (l, words xs) :: M) (fun j => j ≤ n ∧ dv W64 (xs.take j) = dv W64 (xs.take n)) (fun j => j) n ⟨Nat.le_refl _, rfl⟩ (.cons rfl (.cons rfl .nil)) rfl ?_
  rintro j ⟨hj, hv⟩
  refine WC.seq ?_
  refine WC.seq ?_
  refine WC.region ?_
  refine WL.q (LX.move rfl) rfl ?_
  refine WL.q (LX.bin rfl rfl rfl) rfl ?_
  refine WL.nil ?_
  refine thenK_normal ?_
  refine WC.test rfl (fun hlt => ?_) (fun hge => ?_)
  · refine WC.skip ?_
    refine thenK_normal ?_
    refine WC.seq ?_
    refine WC.block ?_
    refine WC.seq ?_
    refine WC.seq ?_
    refine WC.region ?_
    refine WL.q (LX.move rfl) rfl ?_
    refine WL.q (LX.nilCheck rfl) rfl ?_
    refine WL.q (LX.field0 rfl rfl) rfl ?_
    refine WL.q (LX.load rfl rfl (by repeat first | assumption | exact List.mem_cons_self | refine List.mem_cons_of_mem _ ?_) rfl) rfl ?_
    refine WL.q (LX.move rfl) rfl ?_
    refine WL.q (LX.idx1 rfl rfl rfl (j - 1) (by omega) (by omega)) rfl ?_
    refine WL.q (LX.loadRow rfl rfl (by repeat first | assumption | exact List.mem_cons_self | refine List.mem_cons_of_mem _ ?_) (by omega)) rfl ?_
    refine WL.q (LX.bin rfl rfl rfl) rfl ?_
    refine WL.nil ?_
    refine thenK_normal ?_
    refine WC.testN rfl (fun hz => ?_) (fun hz => ?_)
    · refine WC.exit ?_
      refine thenK_exit ?_
      refine blockK_other rfl ?_
      refine thenK_exit ?_
      refine loopS_exit ?_
      refine blockK_same ?_
      refine thenK_normal ?_
      refine WC.seq ?_
      refine WC.region ?_
      refine WL.q (LX.move rfl) rfl ?_
      refine WL.q (LX.assign rfl) rfl ?_
      refine WL.nil ?_
      refine thenK_normal ?_
      refine WC.ret ?_
      exact KR.one (.inl rfl) rfl rfl ⟨rfl, j, hj, hv, .inr hz, rfl⟩
    · refine WC.skip ?_
      refine thenK_normal ?_
      refine WC.region ?_
      refine WL.q (LX.move rfl) rfl ?_
      refine WL.q (LX.move rfl) rfl ?_
      refine WL.q (LX.nilCheck rfl) rfl ?_
      refine WL.q (LX.field0 rfl rfl) rfl ?_
      refine WL.q (LX.load rfl rfl (by repeat first | assumption | exact List.mem_cons_self | refine List.mem_cons_of_mem _ ?_) rfl) rfl ?_
      refine WL.q (LX.move rfl) rfl ?_
      refine WL.q (LX.sliceTo rfl rfl rfl (j - 1) (by omega) (by omega)) rfl ?_
      refine WL.q (LX.nilCheck rfl) rfl ?_
      refine WL.q (LX.field0 rfl rfl) rfl ?_
      refine WL.put (EX.storeC rfl rfl rfl (by repeat first | assumption | exact List.mem_cons_self | refine List.mem_cons_of_mem _ ?_) rfl rfl (by repeat first | exact Upd.here | apply Upd.there)) ?_
      refine WL.nil ?_
      refine blockK_normal ?_
      refine thenK_normal ?_
      refine WC.region ?_
      refine WL.q (LX.move rfl) rfl ?_
      refine WL.q (LX.eq (LX.subI rfl rfl (by omega)) (show _ = Value.int IntKind.i64 (((j - 1 : Nat) : Int) - 1) by congr 1; omega)) rfl ?_
      refine WL.q (LX.assign rfl) rfl ?_
      refine WL.nil ?_
      exact loopS_next (j - 1) ⟨by omega, by rw [dv_take_trim (by omega) (by omega) hz, hv]⟩ (by omega) (.cons rfl (.cons rfl .nil)) rfl
  · refine WC.exit ?_
    refine thenK_exit ?_
    refine loopS_exit ?_
    refine blockK_same ?_
    refine thenK_normal ?_
    refine WC.seq ?_
    refine WC.region ?_
    refine WL.q (LX.move rfl) rfl ?_
    refine WL.q (LX.assign rfl) rfl ?_
    refine WL.nil ?_
    refine thenK_normal ?_
    refine WC.ret ?_
    obtain rfl : j = 0 := by omega
    exact KR.one (.inl rfl) rfl rfl ⟨rfl, 0, hj, hv, .inl rfl, rfl⟩

/-- an error -/
theorem errNew {s : ByteArray} : CS w0 43 [.string s] M (fun u M' => (∃ b, u = .iface 94 (ptr b)) ∧ M' = M) := by
  refine CS.post (R := fun u M' => ∃ b o, u = .iface 94 (ptr b) ∧ M' = (b, o) :: M) ?_ (fun v M' ⟨b, o, h1, h2⟩ => ⟨M, h2 ▸ .cons _ (List.Sublist.refl _), ⟨b, h1⟩, rfl⟩)
  refine CS.of Tryd.func43 Tryd.ntmps43 rfl rfl ?_
  refine WC.seq ?_
  refine WC.region ?_
  refine WL.q (LX.assign rfl) rfl ?_
  refine WL.nil ?_
  refine thenK_normal ?_
  refine WC.seq ?_
  refine WC.region ?_
  refine WL.q (LX.move rfl) rfl ?_
  refine WL.q (LX.build (v := .agg #[.string s]) rfl (fun _ => by kernel_rfl)) rfl ?_
  
  refine WL.step rfl (EX.box rfl) ?_
  rintro _ _ ⟨b, rfl, rfl⟩
  
  refine WL.q (LX.iface rfl (fun _ => by kernel_rfl)) rfl ?_
  refine WL.q (LX.assign rfl) rfl ?_
  refine WL.nil ?_
  refine thenK_normal ?_
  refine WC.ret ?_
  exact KR.one (.inl rfl) rfl rfl ⟨b, _, rfl, rfl⟩
end
end Go.Proofs.YtdnngppofbmpeaaDoor.Bm
