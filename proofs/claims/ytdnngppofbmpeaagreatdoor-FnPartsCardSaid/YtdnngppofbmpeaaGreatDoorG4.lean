/- Proved here: what NewNat, reset, IsZero, IsOne, IsOdd, trim and errors.New do; what bigEndianUint and its kin do. Conditions: none but those that each theorem states. -/
import Derived.Test.YtdnngppofbmpeaaGreatDoorG3
namespace Go.Proofs.YtdnngppofbmpeaaGreatDoor.Bm
open Go Go.RowKit

theorem max_cast (n a : Nat) : (if (n : Int) < (a : Int) then (a : Int) else (n : Int)) = ((max n a : Nat) : Int) := by split <;> omega

section
variable {w0 : World} {M : Mem}
theorem newNat : CS w0 19 [] M (fun u M' => ∃ p l, u = ptr p ∧ M' = (p, natO l 0 32) :: (l, words (List.replicate 32 0)) :: M) := by
  refine CS.of Tryz.func19 Tryz.ntmps19 rfl rfl (WC.seq (WC.region (WL.q (LX.assign rfl) rfl (WL.nil (thenK_normal (WC.seq (WC.region (WL.step rfl (EX.make rfl rfl rfl rfl 0 32 rfl rfl (by decide) (by decide) (by decide)) ?_))))))))
  rintro _ _ ⟨l, rfl, rfl⟩
  refine WL.q (LX.assign rfl) rfl (WL.nil (thenK_normal (WC.seq (WC.region (WL.q (LX.move rfl) rfl (WL.q (LX.build (v := .agg #[.slice (some ⟨l, 0, none⟩) 0 32]) rfl (fun _ => by kernel_rfl)) rfl ?_))))))
  
  refine WL.step rfl (EX.box rfl) ?_
  rintro _ _ ⟨p, rfl, rfl⟩
  refine WL.q (LX.assign rfl) rfl (WL.nil (thenK_normal (WC.ret ?_)))
  exact KR.one (.inl rfl) rfl rfl ⟨p, l, rfl, rfl⟩

/-- reset: n words of zero -/
theorem nreset {p l a n : Nat} {xs : List Int} (hn : n ≤ xs.length) (ha : a ≤ xs.length) (hx : xs.length ≤ 1000) :
    CS w0 76 [ptr p, .int .i64 n] ((p, natO l a xs.length) :: (l, words xs) :: M)
      (fun u M' => u = ptr p ∧ M' = (p, natO l n xs.length) :: (l, words (List.replicate (max n a) 0 ++ xs.drop (max n a))) :: M) := by
  refine CS.of Tryz.func76 Tryz.ntmps76 rfl rfl (WC.seq (WC.region (WL.q (LX.assign rfl) rfl (WL.nil (thenK_normal (WC.seq (WC.seq (WC.region (WL.q (LX.move rfl) rfl (WL.q (LX.nilCheck rfl) rfl (WL.q (LX.field0 rfl rfl) rfl ?_)))))))))))
  refine WL.q (LX.load rfl rfl (by repeat first | assumption | exact List.mem_cons_self | refine List.mem_cons_of_mem _ ?_) rfl) rfl ?_
  refine WL.q (LX.cap rfl rfl rfl) rfl (WL.q (LX.move rfl) rfl (WL.q (LX.bin rfl rfl rfl) rfl (WL.nil (thenK_normal ?_))))
  refine WC.test rfl (fun h => absurd h (by omega)) (fun _ => ?_)
  refine WC.skip (thenK_normal (WC.seq (WC.draw [(0, 0), (0, 1), (0, 2), (0, 4), (0, 5), (0, 6), (0, 7), (1, 3), (1, 8), (0, 9), (0, 10), (0, 11), (2, 12)] [(p, natO l a xs.length)] rfl (by kernel_rfl) rfl (by kernel_rfl) (DW.p rfl rfl (fun _ => LX.move rfl) rfl (DW.p rfl rfl (fun _ => LX.nilCheck rfl) rfl (DW.p rfl rfl (fun _ => LX.field0 rfl rfl) rfl (DW.p rfl rfl (fun _ => LX.move rfl) rfl (DW.p rfl rfl (fun _ => LX.move rfl) rfl (DW.p rfl rfl (fun _ => LX.nilCheck rfl) rfl (DW.p rfl rfl (fun _ => LX.field0 rfl rfl) rfl ?_))))))))))
  refine DW.r rfl rfl (LX.load rfl rfl (by repeat first | assumption | exact List.mem_cons_self | refine List.mem_cons_of_mem _ ?_) rfl) (fun q hq => by simp at hq; subst hq; exact List.mem_cons_self) rfl ?_
  refine DW.r rfl rfl (LX.load rfl rfl (by repeat first | assumption | exact List.mem_cons_self | refine List.mem_cons_of_mem _ ?_) rfl) (fun q hq => by simp at hq; subst hq; exact List.mem_cons_self) rfl ?_
  refine DW.p rfl rfl (fun _ => LX.len rfl rfl rfl) rfl (DW.p rfl rfl (fun _ => LX.eq (LX.max rfl rfl) (by rw [max_cast])) rfl ?_)
  refine DW.p rfl rfl (fun _ => LX.sliceTo rfl rfl rfl _ rfl (by omega)) rfl ?_
  refine DW.fput rfl rfl (EX.clear rfl rfl rfl rfl (by repeat first | assumption | exact List.mem_cons_self | refine List.mem_cons_of_mem _ ?_) (by omega) (by repeat first | exact Upd.here | apply Upd.there)) (fun q hq => by simp at hq; subst hq; exact List.mem_cons_self) ?_
  refine DW.nil (thenK_normal (WC.seq (WC.region (WL.q (LX.move rfl) rfl (WL.q (LX.move rfl) rfl (WL.q (LX.nilCheck rfl) rfl (WL.q (LX.field0 rfl rfl) rfl ?_)))))))
  refine WL.q (LX.load rfl rfl (by repeat first | assumption | exact List.mem_cons_self | refine List.mem_cons_of_mem _ ?_) rfl) rfl ?_
  refine WL.q (LX.move rfl) rfl (WL.q (LX.sliceTo rfl rfl rfl _ rfl (by omega)) rfl (WL.q (LX.nilCheck rfl) rfl (WL.q (LX.field0 rfl rfl) rfl ?_)))
  refine WL.put (EX.storeC rfl rfl rfl (by repeat first | assumption | exact List.mem_cons_self | refine List.mem_cons_of_mem _ ?_) rfl rfl (by repeat first | exact Upd.here | apply Upd.there)) ?_
  refine WL.nil (thenK_normal (WC.seq (WC.region (WL.q (LX.move rfl) rfl (WL.q (LX.assign rfl) rfl (WL.nil (thenK_normal (WC.ret ?_))))))))
  exact KR.one (.inl rfl) rfl rfl ⟨rfl, rfl⟩

theorem and_b1 (p q : Prop) [Decidable p] [Decidable q] : bits .and .u64 (b1 p) (b1 q) = b1 (p ∧ q) := by
  unfold b1; by_cases hp : p <;> by_cases hq : q <;> simp [hp, hq] <;> rfl
theorem b1_congr {p q : Prop} [Decidable p] [Decidable q] (h : p ↔ q) : b1 p = b1 q := by unfold b1; simp [h]

theorem W64_pos : 0 < W64 := by unfold W64; omega
theorem dg_gt {xs : List Int} (h : Dg W64 xs) (i : Nat) : wd (gt xs i) := Dg.getD W64_pos h i

theorem dv_take0 {xs : List Int} (h : Dg W64 xs) {i : Nat} (hi : i < xs.length) : (dv W64 (xs.take i) = 0 ∧ gt xs i = 0) ↔ dv W64 (xs.take (i + 1)) = 0 := by
  rw [dv_take_succ _ _ _ hi, gt_eq hi]
  have h1 := dv_nonneg W64_pos (h.take i)
  have h2 := (h.get hi).1
  have h3 := Int.mul_nonneg (Int.le_of_lt (pow_pos W64_pos i)) h2
  constructor
  · rintro ⟨e1, e2⟩; rw [e1, e2]; simp
  · intro e
    refine ⟨by omega, ?_⟩
    have h4 : W64 ^ i * xs[i] = 0 := by omega
    rcases Int.mul_eq_zero.1 h4 with h5 | h5
    · have := pow_pos W64_pos i; omega
    · exact h5

/-- IsZero -/
theorem isZero {p l n : Nat} {xs : List Int} (hp : (p, natO l n xs.length) ∈ M) (hl : (l, words xs) ∈ M) (hn : n ≤ xs.length) (hN : xs.length ≤ 1000) (hd : Dg W64 xs) :
    CS w0 51 [ptr p] M (fun u M' => u = .int .u64 (b1 (dv W64 (xs.take n) = 0)) ∧ M' = M) := by
  refine CS.of Tryz.func51 Tryz.ntmps51 rfl rfl (WC.seq (WC.region (WL.q (LX.assign rfl) rfl (WL.nil (thenK_normal (WC.seq (WC.region (WL.q (LX.move rfl) rfl (WL.q (LX.nilCheck rfl) rfl (WL.q (LX.field0 rfl rfl) rfl ?_))))))))))
  refine WL.q (LX.load rfl rfl (by repeat first | assumption | exact List.mem_cons_self | refine List.mem_cons_of_mem _ ?_) rfl) rfl ?_
  refine WL.q (LX.len rfl rfl rfl) rfl (WL.q (LX.assign rfl) rfl (WL.nil (thenK_normal (WC.seq (WC.region (WL.q (LX.move rfl) rfl (WL.q (LX.nilCheck rfl) rfl (WL.q (LX.field0 rfl rfl) rfl ?_))))))))
  refine WL.q (LX.load rfl rfl (by repeat first | assumption | exact List.mem_cons_self | refine List.mem_cons_of_mem _ ?_) rfl) rfl ?_
  refine WL.q (LX.move rfl) rfl (WL.q (LX.sliceTo rfl rfl rfl _ rfl (by omega)) rfl (WL.q (LX.assign rfl) rfl (WL.nil (thenK_normal (WC.seq (WC.region (WL.q (LX.assign rfl) rfl (WL.nil (thenK_normal (WC.seq (WC.seq (WC.region (WL.q (LX.assign rfl) rfl ?_)))))))))))))
  refine WL.nil (thenK_normal (WC.block (WC.loopS (fun i => [(3, .int .i64 n), (4, .slice (some ⟨l, 0, none⟩) n xs.length), (5, .int .u64 (b1 (dv W64 (xs.take i) = 0))), (6, .int .i64 i)]) (fun _ => M) (fun i => i ≤ n) (fun i => n - i) 0 (Nat.zero_le _) (.cons rfl (.cons rfl (.cons rfl (.cons rfl .nil)))) rfl ?_)))
  intro i hi
  refine WC.seq (WC.seq (WC.region (WL.q (LX.move rfl) rfl (WL.q (LX.move rfl) rfl (WL.q (LX.bin rfl rfl rfl) rfl (WL.nil (thenK_normal ?_)))))))
  refine WC.test rfl (fun hlt => ?_) (fun hge => ?_)
  · refine WC.skip (thenK_normal (WC.seq (WC.block (WC.region (WL.q (LX.move rfl) rfl (WL.q (LX.move rfl) rfl (WL.q (LX.move rfl) rfl (WL.q (LX.idx1 rfl rfl rfl _ rfl (by omega)) rfl ?_))))))))
    refine WL.q (LX.loadRow rfl rfl (by repeat first | assumption | exact List.mem_cons_self | refine List.mem_cons_of_mem _ ?_) (by omega)) rfl ?_
    refine WL.call (ctEq (dg_gt hd i) wd_zero) rfl (fun _ => by kernel_rfl) rfl (WL.q (LX.eq (LX.bin rfl rfl rfl) (by rw [and_b1, b1_congr (dv_take0 hd (by omega))])) rfl ?_)
    refine WL.q (LX.assign rfl) rfl (WL.nil (blockK_normal (thenK_normal (WC.region (WL.q (LX.move rfl) rfl (WL.q (LX.addI rfl rfl (by omega)) rfl (WL.q (LX.assign rfl) rfl (WL.nil ?_))))))))
    exact loopS_next (i + 1) (by omega) (by omega) (.cons rfl (.cons rfl (.cons rfl (.cons rfl .nil)))) rfl
  · refine WC.exit (thenK_exit (loopS_exit (blockK_same (thenK_normal (WC.seq (WC.region (WL.q (LX.move rfl) rfl (WL.q (LX.assign rfl) rfl (WL.nil (thenK_normal (WC.ret ?_)))))))))))
    obtain rfl : i = n := by omega
    exact KR.one (.inl rfl) rfl rfl ⟨rfl, rfl⟩

theorem W64_gt1 : 1 < W64 := by unfold W64; omega
theorem dv_take1 {xs : List Int} (h : Dg W64 xs) {i : Nat} (h0 : 1 ≤ i) (hi : i < xs.length) : (dv W64 (xs.take i) = 1 ∧ gt xs i = 0) ↔ dv W64 (xs.take (i + 1)) = 1 := by
  rw [dv_take_succ _ _ _ hi, gt_eq hi]
  have h1 := dv_nonneg W64_pos (h.take i)
  have h2 := (h.get hi).1
  have h5 : W64 ≤ W64 ^ i := by
    obtain ⟨j, rfl⟩ : ∃ j, i = j + 1 := ⟨i - 1, by omega⟩
    rw [Int.pow_succ]
    have := pow_pos W64_pos j
    have h6 : 1 * W64 ≤ W64 ^ j * W64 := Int.mul_le_mul_of_nonneg_right (by omega) (Int.le_of_lt W64_pos)
    omega
  constructor
  · rintro ⟨e1, e2⟩; rw [e1, e2]; simp
  · intro e
    have hz : xs[i] = 0 := by
      rcases Int.lt_or_le 0 xs[i] with h7 | h7
      · have h8 : W64 ^ i * 1 ≤ W64 ^ i * xs[i] := Int.mul_le_mul_of_nonneg_left (by omega) (by have := W64_pos; omega)
        have := W64_gt1
        omega
      · omega
    rw [hz] at e
    exact ⟨by simpa using e, hz⟩

/-- IsOne -/
theorem isOne {p l n : Nat} {xs : List Int} (hp : (p, natO l n xs.length) ∈ M) (hl : (l, words xs) ∈ M) (hn : n ≤ xs.length) (hN : xs.length ≤ 1000) (hd : Dg W64 xs) :
    CS w0 52 [ptr p] M (fun u M' => u = .int .u64 (b1 (dv W64 (xs.take n) = 1)) ∧ M' = M) := by
  refine CS.of Tryz.func52 Tryz.ntmps52 rfl rfl (WC.seq (WC.region (WL.q (LX.assign rfl) rfl (WL.nil (thenK_normal (WC.seq (WC.region (WL.q (LX.move rfl) rfl (WL.q (LX.nilCheck rfl) rfl (WL.q (LX.field0 rfl rfl) rfl ?_))))))))))
  refine WL.q (LX.load rfl rfl (by repeat first | assumption | exact List.mem_cons_self | refine List.mem_cons_of_mem _ ?_) rfl) rfl ?_
  refine WL.q (LX.len rfl rfl rfl) rfl (WL.q (LX.assign rfl) rfl (WL.nil (thenK_normal (WC.seq (WC.region (WL.q (LX.move rfl) rfl (WL.q (LX.nilCheck rfl) rfl (WL.q (LX.field0 rfl rfl) rfl ?_))))))))
  refine WL.q (LX.load rfl rfl (by repeat first | assumption | exact List.mem_cons_self | refine List.mem_cons_of_mem _ ?_) rfl) rfl ?_
  refine WL.q (LX.move rfl) rfl (WL.q (LX.sliceTo rfl rfl rfl _ rfl (by omega)) rfl (WL.q (LX.assign rfl) rfl (WL.nil (thenK_normal (WC.seq (WC.seq (WC.region (WL.q (LX.move rfl) rfl (WL.q (LX.len rfl rfl rfl) rfl (WL.q (LX.bin rfl rfl rfl) rfl (WL.nil (thenK_normal ?_))))))))))))
  refine WC.test rfl (fun h0 => ?_) (fun h0 => ?_)
  · refine WC.seq (WC.region (WL.q (LX.assign rfl) rfl (WL.nil (thenK_normal (WC.ret (thenK_ret ?_))))))
    obtain rfl : n = 0 := by omega
    exact KR.one (.inl rfl) rfl rfl ⟨by simp [b1], rfl⟩
  · refine WC.skip (thenK_normal (WC.seq (WC.region (WL.q (LX.move rfl) rfl (WL.q (LX.idx1 rfl rfl rfl 0 rfl (by omega)) rfl ?_)))))
    refine WL.q (LX.loadRow rfl rfl (by repeat first | assumption | exact List.mem_cons_self | refine List.mem_cons_of_mem _ ?_) (by omega)) rfl ?_
    refine WL.call (ctEq (dg_gt hd 0) (by unfold wd W64; omega)) rfl (fun _ => by kernel_rfl) rfl (WL.q (LX.assign rfl) rfl (WL.nil (thenK_normal (WC.seq (WC.seq (WC.region (WL.q (LX.assign rfl) rfl (WL.nil (thenK_normal (WC.block ?_))))))))))
    refine WC.loopS (fun i => [(3, .int .i64 n), (4, .slice (some ⟨l, 0, none⟩) n xs.length), (5, .int .u64 (b1 (dv W64 (xs.take i) = 1))), (6, .int .i64 i)]) (fun _ => M) (fun i => 1 ≤ i ∧ i ≤ n) (fun i => n - i) 1 ⟨Nat.le_refl _, by omega⟩ ?_ rfl ?_
    · refine .cons rfl (.cons rfl (.cons ?_ (.cons rfl .nil)))
      have h1 : gt xs 0 = dv W64 (xs.take 1) := by
        rw [dv_take_succ _ _ _ (by omega), gt_eq (by omega)]; simp
      show some (Value.int IntKind.u64 (b1 (gt xs 0 = 1))) = _
      rw [h1]
    rintro i ⟨hi1, hi⟩
    refine WC.seq (WC.seq (WC.region (WL.q (LX.move rfl) rfl (WL.q (LX.move rfl) rfl (WL.q (LX.bin rfl rfl rfl) rfl (WL.nil (thenK_normal ?_)))))))
    refine WC.test rfl (fun hlt => ?_) (fun hge => ?_)
    · refine WC.skip (thenK_normal (WC.seq (WC.block (WC.region (WL.q (LX.move rfl) rfl (WL.q (LX.move rfl) rfl (WL.q (LX.move rfl) rfl (WL.q (LX.idx1 rfl rfl rfl _ rfl (by omega)) rfl ?_))))))))
      refine WL.q (LX.loadRow rfl rfl (by repeat first | assumption | exact List.mem_cons_self | refine List.mem_cons_of_mem _ ?_) (by omega)) rfl ?_
      refine WL.call (ctEq (dg_gt hd i) wd_zero) rfl (fun _ => by kernel_rfl) rfl (WL.q (LX.eq (LX.bin rfl rfl rfl) (by rw [and_b1, b1_congr (dv_take1 hd hi1 (by omega))])) rfl ?_)
      refine WL.q (LX.assign rfl) rfl (WL.nil (blockK_normal (thenK_normal (WC.region (WL.q (LX.move rfl) rfl (WL.q (LX.addI rfl rfl (by omega)) rfl (WL.q (LX.assign rfl) rfl (WL.nil ?_))))))))
      exact loopS_next (i + 1) ⟨by omega, by omega⟩ (by omega) (.cons rfl (.cons rfl (.cons rfl (.cons rfl .nil)))) rfl
    · refine WC.exit (thenK_exit (loopS_exit (blockK_same (thenK_normal (WC.seq (WC.region (WL.q (LX.move rfl) rfl (WL.q (LX.assign rfl) rfl (WL.nil (thenK_normal (WC.ret ?_)))))))))))
      obtain rfl : i = n := by omega
      exact KR.one (.inl rfl) rfl rfl ⟨rfl, rfl⟩

theorem and_one {x : Int} (h : wd x) : bits .and .u64 x 1 = x % 2 :=
  bits_mask .u64 64 (by decide) (fun n h0 h1 => u64_in ⟨h0, h1⟩) 1 (by decide) x h.1 h.2
theorem dv_mod2 {xs : List Int} {n : Nat} (h0 : 0 < n) (hn : n ≤ xs.length) : dv W64 (xs.take n) % 2 = gt xs 0 % 2 := by
  cases xs with
  | nil => simp at hn; omega
  | cons x r =>
    obtain ⟨k, rfl⟩ : ∃ k, n = k + 1 := ⟨n - 1, by omega⟩
    simp only [List.take_succ_cons, dv_cons]
    show _ = x % 2
    unfold W64
    omega

/-- IsOdd -/
theorem isOdd {p l n : Nat} {xs : List Int} (hp : (p, natO l n xs.length) ∈ M) (hl : (l, words xs) ∈ M) (hn : n ≤ xs.length) (hN : xs.length ≤ 1000) (hd : Dg W64 xs) :
    CS w0 53 [ptr p] M (fun u M' => u = .int .u64 (dv W64 (xs.take n) % 2) ∧ M' = M) := by
  refine CS.of Tryz.func53 Tryz.ntmps53 rfl rfl (WC.seq (WC.region (WL.q (LX.assign rfl) rfl (WL.nil (thenK_normal (WC.seq (WC.seq (WC.region (WL.q (LX.move rfl) rfl (WL.q (LX.nilCheck rfl) rfl (WL.q (LX.field0 rfl rfl) rfl ?_)))))))))))
  refine WL.q (LX.load rfl rfl (by repeat first | assumption | exact List.mem_cons_self | refine List.mem_cons_of_mem _ ?_) rfl) rfl ?_
  refine WL.q (LX.len rfl rfl rfl) rfl (WL.q (LX.bin rfl rfl rfl) rfl (WL.nil (thenK_normal ?_)))
  refine WC.test rfl (fun h0 => ?_) (fun h0 => ?_)
  · refine WC.seq (WC.region (WL.q (LX.assign rfl) rfl (WL.nil (thenK_normal (WC.ret (thenK_ret ?_))))))
    obtain rfl : n = 0 := by omega
    exact KR.one (.inl rfl) rfl rfl ⟨by simp, rfl⟩
  · refine WC.skip (thenK_normal (WC.seq (WC.region (WL.q (LX.move rfl) rfl (WL.q (LX.nilCheck rfl) rfl (WL.q (LX.field0 rfl rfl) rfl ?_))))))
    refine WL.q (LX.load rfl rfl (by repeat first | assumption | exact List.mem_cons_self | refine List.mem_cons_of_mem _ ?_) rfl) rfl ?_
    refine WL.q (LX.idx1 rfl rfl rfl 0 rfl (by omega)) rfl ?_
    refine WL.q (LX.loadRow rfl rfl (by repeat first | assumption | exact List.mem_cons_self | refine List.mem_cons_of_mem _ ?_) (by omega)) rfl ?_
    refine WL.q (LX.eq (LX.bin rfl rfl rfl) (by rw [and_one (dg_gt hd 0), ← dv_mod2 (n := n) (by omega) hn])) rfl ?_
    refine WL.q (LX.assign rfl) rfl (WL.nil (thenK_normal (WC.ret ?_)))
    exact KR.one (.inl rfl) rfl rfl ⟨rfl, rfl⟩

theorem dv_take_trim {xs : List Int} {j : Nat} (h0 : 0 < j) (hj : j ≤ xs.length) (hz : gt xs (j - 1) = 0) : dv W64 (xs.take (j - 1)) = dv W64 (xs.take j) := by
  obtain ⟨k, rfl⟩ : ∃ k, j = k + 1 := ⟨j - 1, by omega⟩
  simp only [Nat.add_sub_cancel] at hz ⊢
  rw [gt_eq (by omega)] at hz
  rw [dv_take_succ _ _ _ (by omega), hz]; simp

/-- trim -/
theorem trim {p l n : Nat} {xs : List Int} (hn : n ≤ xs.length) (hN : xs.length ≤ 1000) :
    CS w0 78 [ptr p] ((p, natO l n xs.length) :: (l, words xs) :: M)
      (fun u M' => u = ptr p ∧ ∃ m, m ≤ n ∧ dv W64 (xs.take m) = dv W64 (xs.take n) ∧ (m = 0 ∨ gt xs (m - 1) ≠ 0) ∧ M' = (p, natO l m xs.length) :: (l, words xs) :: M) := by
  refine CS.of Tryz.func78 Tryz.ntmps78 rfl rfl (WC.seq (WC.region (WL.q (LX.assign rfl) rfl (WL.nil (thenK_normal (WC.seq (WC.seq (WC.region (WL.q (LX.move rfl) rfl (WL.q (LX.nilCheck rfl) rfl (WL.q (LX.field0 rfl rfl) rfl ?_)))))))))))
  refine WL.q (LX.load rfl rfl (by repeat first | assumption | exact List.mem_cons_self | refine List.mem_cons_of_mem _ ?_) rfl) rfl ?_
  refine WL.q (LX.len rfl rfl rfl) rfl (WL.q (LX.subI rfl rfl (by omega)) rfl (WL.q (LX.assign rfl) rfl (WL.nil (thenK_normal (WC.block (WC.loopS (fun j : Nat => [(0, ptr p), (3, .int .i64 ((j : Int) - 1))]) (fun j => (p, natO l j xs.length) :: (l, words xs) :: M) (fun j => j ≤ n ∧ dv W64 (xs.take j) = dv W64 (xs.take n)) (fun j => j) n ⟨Nat.le_refl _, rfl⟩ (.cons rfl (.cons rfl .nil)) rfl ?_))))))
  rintro j ⟨hj, hv⟩
  refine WC.seq (WC.seq (WC.region (WL.q (LX.move rfl) rfl (WL.q (LX.bin rfl rfl rfl) rfl (WL.nil (thenK_normal ?_))))))
  refine WC.test rfl (fun hlt => ?_) (fun hge => ?_)
  · refine WC.skip (thenK_normal (WC.seq (WC.block (WC.seq (WC.seq (WC.region (WL.q (LX.move rfl) rfl (WL.q (LX.nilCheck rfl) rfl (WL.q (LX.field0 rfl rfl) rfl ?_)))))))))
    refine WL.q (LX.load rfl rfl (by repeat first | assumption | exact List.mem_cons_self | refine List.mem_cons_of_mem _ ?_) rfl) rfl ?_
    refine WL.q (LX.move rfl) rfl (WL.q (LX.idx1 rfl rfl rfl (j - 1) (by omega) (by omega)) rfl ?_)
    refine WL.q (LX.loadRow rfl rfl (by repeat first | assumption | exact List.mem_cons_self | refine List.mem_cons_of_mem _ ?_) (by omega)) rfl ?_
    refine WL.q (LX.bin rfl rfl rfl) rfl (WL.nil (thenK_normal ?_))
    refine WC.testN rfl (fun hz => ?_) (fun hz => ?_)
    · refine WC.exit (thenK_exit (blockK_other rfl (thenK_exit (loopS_exit (blockK_same (thenK_normal (WC.seq (WC.region (WL.q (LX.move rfl) rfl (WL.q (LX.assign rfl) rfl (WL.nil (thenK_normal (WC.ret ?_)))))))))))))
      exact KR.one (.inl rfl) rfl rfl ⟨rfl, j, hj, hv, .inr hz, rfl⟩
    · refine WC.skip (thenK_normal (WC.region (WL.q (LX.move rfl) rfl (WL.q (LX.move rfl) rfl (WL.q (LX.nilCheck rfl) rfl (WL.q (LX.field0 rfl rfl) rfl ?_))))))
      refine WL.q (LX.load rfl rfl (by repeat first | assumption | exact List.mem_cons_self | refine List.mem_cons_of_mem _ ?_) rfl) rfl ?_
      refine WL.q (LX.move rfl) rfl (WL.q (LX.sliceTo rfl rfl rfl (j - 1) (by omega) (by omega)) rfl (WL.q (LX.nilCheck rfl) rfl (WL.q (LX.field0 rfl rfl) rfl ?_)))
      refine WL.put (EX.storeC rfl rfl rfl (by repeat first | assumption | exact List.mem_cons_self | refine List.mem_cons_of_mem _ ?_) rfl rfl (by repeat first | exact Upd.here | apply Upd.there)) ?_
      refine WL.nil (blockK_normal (thenK_normal (WC.region (WL.q (LX.move rfl) rfl (WL.q (LX.eq (LX.subI rfl rfl (by omega)) (show _ = Value.int IntKind.i64 (((j - 1 : Nat) : Int) - 1) by congr 1; omega)) rfl (WL.q (LX.assign rfl) rfl (WL.nil ?_)))))))
      exact loopS_next (j - 1) ⟨by omega, by rw [dv_take_trim (by omega) (by omega) hz, hv]⟩ (by omega) (.cons rfl (.cons rfl .nil)) rfl
  · refine WC.exit (thenK_exit (loopS_exit (blockK_same (thenK_normal (WC.seq (WC.region (WL.q (LX.move rfl) rfl (WL.q (LX.assign rfl) rfl (WL.nil (thenK_normal (WC.ret ?_)))))))))))
    obtain rfl : j = 0 := by omega
    exact KR.one (.inl rfl) rfl rfl ⟨rfl, 0, hj, hv, .inl rfl, rfl⟩

/-- an error -/
theorem errNew {s : ByteArray} : CS w0 79 [.string s] M (fun u M' => (∃ b, u = .iface 137 (ptr b)) ∧ M' = M) := by
  refine CS.post (R := fun u M' => ∃ b o, u = .iface 137 (ptr b) ∧ M' = (b, o) :: M) ?_ (fun v M' ⟨b, o, h1, h2⟩ => ⟨M, h2 ▸ .cons _ (List.Sublist.refl _), ⟨b, h1⟩, rfl⟩)
  refine CS.of Tryz.func79 Tryz.ntmps79 rfl rfl (WC.seq (WC.region (WL.q (LX.assign rfl) rfl (WL.nil (thenK_normal (WC.seq (WC.region (WL.q (LX.move rfl) rfl (WL.q (LX.build (v := .agg #[.string s]) rfl (fun _ => by kernel_rfl)) rfl ?_)))))))))
  
  refine WL.step rfl (EX.box rfl) ?_
  rintro _ _ ⟨b, rfl, rfl⟩
  
  refine WL.q (LX.iface rfl (fun _ => by kernel_rfl)) rfl (WL.q (LX.assign rfl) rfl (WL.nil (thenK_normal (WC.ret ?_))))
  exact KR.one (.inl rfl) rfl rfl ⟨b, _, rfl, rfl⟩
end
end Go.Proofs.YtdnngppofbmpeaaGreatDoor.Bm
namespace Go.Proofs.YtdnngppofbmpeaaGreatDoor.Bm
open Go Go.RowKit

theorem or_comm' (k : IntKind) (x y : Int) : bits .or k x y = bits .or k y x := by
  simp only [bits]; rw [BitVec.or_comm]
theorem or32 {lo hi : Int} (i : Nat) (h0 : 0 ≤ lo) (h1 : lo < 2 ^ i) (h2 : 0 ≤ hi) (h3 : hi < 4294967296) (h4 : hi % 2 ^ i = 0) (h5 : lo < 4294967296) : bits .or .u32 lo hi = lo + hi := by
  rw [or_comm', bits_join .u32 32 (by decide) (fun n h0 h1 => by rw [IntKind.wrap_u32]; omega) i hi lo h2 h4 h3 h0 h1 h5]; omega
theorem or64 {lo hi : Int} (i : Nat) (h0 : 0 ≤ lo) (h1 : lo < 2 ^ i) (h2 : 0 ≤ hi) (h3 : hi < 18446744073709551616) (h4 : hi % 2 ^ i = 0) (h5 : lo < 18446744073709551616) : bits .or .u64 lo hi = lo + hi := by
  rw [or_comm', bits_join .u64 64 (by decide) (fun n h0 h1 => u64_in ⟨h0, h1⟩) i hi lo h2 h4 h3 h0 h1 h5]; omega

theorem dg8_gt {xs : List Int} (h : Dg 256 xs) (i : Nat) : 0 ≤ gt xs i ∧ gt xs i < 256 := Dg.getD (by omega) h i

section
variable {w0 : World} {M : Mem}
abbrev bytes (xs : List Int) : Obj := row .u8 5 xs

theorem beU32 {b o len cap : Nat} {xs : List Int} (hb : (b, bytes xs) ∈ M) (hl : 4 ≤ len) (hx : o + len ≤ xs.length) (hd : Dg 256 xs) :
    CS w0 117 [.slice (some ⟨b, o, none⟩) len cap] M (fun u M' => u = .int .u32 (gt xs (o + 3) + gt xs (o + 2) * 256 + gt xs (o + 1) * 65536 + gt xs o * 16777216) ∧ M' = M) := by
  have d0 := dg8_gt hd o
  have d1 := dg8_gt hd (o + 1)
  have d2 := dg8_gt hd (o + 2)
  have d3 := dg8_gt hd (o + 3)
  refine CS.of Tryz.func117 Tryz.ntmps117 rfl rfl (WC.seq (WC.region (WL.q (LX.assign rfl) rfl (WL.nil (thenK_normal (WC.seq (WC.region (WL.q (LX.move rfl) rfl (WL.q (LX.idxo rfl rfl rfl 3 rfl (by omega)) rfl ?_)))))))))
  refine WL.q (LX.loadRow rfl rfl (by repeat first | assumption | exact List.mem_cons_self | refine List.mem_cons_of_mem _ ?_) (by omega)) rfl ?_
  refine WL.nil (thenK_normal (WC.seq (WC.draw [(0, 0), (0, 1), (0, 4), (0, 5), (0, 10), (0, 11), (0, 16), (0, 17), (1, 2), (0, 3), (1, 6), (0, 7), (0, 8), (0, 9), (1, 12), (0, 13), (0, 14), (0, 15), (1, 18), (0, 19), (0, 20), (0, 21), (0, 22)] M rfl (by kernel_rfl) rfl (by kernel_rfl) (DW.p rfl rfl (fun _ => LX.move rfl) rfl (DW.p rfl rfl (fun _ => LX.idxo rfl rfl rfl 3 rfl (by omega)) rfl (DW.p rfl rfl (fun _ => LX.move rfl) rfl (DW.p rfl rfl (fun _ => LX.idxo rfl rfl rfl 2 rfl (by omega)) rfl (DW.p rfl rfl (fun _ => LX.move rfl) rfl (DW.p rfl rfl (fun _ => LX.idxo rfl rfl rfl 1 rfl (by omega)) rfl (DW.p rfl rfl (fun _ => LX.move rfl) rfl (DW.p rfl rfl (fun _ => LX.eq (LX.idxo rfl rfl rfl 0 rfl (by omega)) (show _ = Value.pointer (some ⟨b, o, none⟩) by rw [Nat.add_zero])) rfl ?_)))))))))))
  refine DW.r rfl rfl (LX.loadRow rfl rfl (by repeat first | assumption | exact List.mem_cons_self | refine List.mem_cons_of_mem _ ?_) (by omega)) (fun _ h => h) rfl ?_
  refine DW.p rfl rfl (fun _ => LX.eq (LX.conv rfl rfl rfl) (show _ = Value.int .u32 (gt xs (o + 3)) by rw [IntKind.wrap_u32, Int.emod_eq_of_lt (by omega) (by omega)])) rfl ?_
  refine DW.r rfl rfl (LX.loadRow rfl rfl (by repeat first | assumption | exact List.mem_cons_self | refine List.mem_cons_of_mem _ ?_) (by omega)) (fun _ h => h) rfl ?_
  refine DW.p rfl rfl (fun _ => LX.eq (LX.conv rfl rfl rfl) (show _ = Value.int .u32 (gt xs (o + 2)) by rw [IntKind.wrap_u32, Int.emod_eq_of_lt (by omega) (by omega)])) rfl (DW.p rfl rfl (fun _ => LX.eq (LX.shl rfl rfl (by omega)) (show Value.int .u32 (IntKind.u32.wrap (gt xs (o + 2) * 256)) = Value.int .u32 (gt xs (o + 2) * 256) by rw [IntKind.wrap_u32, Int.emod_eq_of_lt (by omega) (by omega)])) rfl (DW.p rfl rfl (fun _ => LX.eq (LX.bin rfl rfl rfl) (by rw [or32 8 (by omega) (by omega) (by omega) (by omega) (by omega) (by omega)])) rfl ?_))
  refine DW.r rfl rfl (LX.loadRow rfl rfl (by repeat first | assumption | exact List.mem_cons_self | refine List.mem_cons_of_mem _ ?_) (by omega)) (fun _ h => h) rfl ?_
  refine DW.p rfl rfl (fun _ => LX.eq (LX.conv rfl rfl rfl) (show _ = Value.int .u32 (gt xs (o + 1)) by rw [IntKind.wrap_u32, Int.emod_eq_of_lt (by omega) (by omega)])) rfl (DW.p rfl rfl (fun _ => LX.eq (LX.shl rfl rfl (by omega)) (show Value.int .u32 (IntKind.u32.wrap (gt xs (o + 1) * 65536)) = Value.int .u32 (gt xs (o + 1) * 65536) by rw [IntKind.wrap_u32, Int.emod_eq_of_lt (by omega) (by omega)])) rfl (DW.p rfl rfl (fun _ => LX.eq (LX.bin rfl rfl rfl) (by rw [or32 16 (by omega) (by omega) (by omega) (by omega) (by omega) (by omega)])) rfl ?_))
  refine DW.r rfl rfl (LX.loadRow rfl rfl (by repeat first | assumption | exact List.mem_cons_self | refine List.mem_cons_of_mem _ ?_) (by omega)) (fun _ h => h) rfl ?_
  refine DW.p rfl rfl (fun _ => LX.eq (LX.conv rfl rfl rfl) (show _ = Value.int .u32 (gt xs o) by rw [IntKind.wrap_u32, Int.emod_eq_of_lt (by omega) (by omega)])) rfl (DW.p rfl rfl (fun _ => LX.eq (LX.shl rfl rfl (by omega)) (show Value.int .u32 (IntKind.u32.wrap (gt xs o * 16777216)) = Value.int .u32 (gt xs o * 16777216) by rw [IntKind.wrap_u32, Int.emod_eq_of_lt (by omega) (by omega)])) rfl (DW.p rfl rfl (fun _ => LX.eq (LX.bin rfl rfl rfl) (by rw [or32 24 (by omega) (by omega) (by omega) (by omega) (by omega) (by omega)])) rfl ?_))
  refine DW.p rfl rfl (fun _ => LX.assign rfl) rfl (DW.nil (thenK_normal (WC.ret ?_)))
  exact KR.one (.inl rfl) rfl rfl ⟨rfl, rfl⟩

/-- eight bytes from o on, the highest first -/
def be8 (xs : List Int) (o : Nat) : Int := dv 256 (sliceL xs o 8).reverse

theorem sliceL_succ (xs : List Int) (o k : Nat) (h : o + k < xs.length) : sliceL xs o (k + 1) = gt xs o :: sliceL xs (o + 1) k := by
  unfold sliceL
  rw [List.drop_eq_getElem_cons (by omega), List.take_succ_cons, gt_eq (by omega)]

theorem be8_eq {xs : List Int} {o : Nat} (h : o + 8 ≤ xs.length) : be8 xs o = gt xs (o + 7) + gt xs (o + 6) * 256 + gt xs (o + 5) * 65536 + gt xs (o + 4) * 16777216 + (gt xs (o + 3) + gt xs (o + 2) * 256 + gt xs (o + 1) * 65536 + gt xs o * 16777216) * 4294967296 := by
  unfold be8
  rw [sliceL_succ _ _ _ (by omega), sliceL_succ _ _ _ (by omega), sliceL_succ _ _ _ (by omega), sliceL_succ _ _ _ (by omega), sliceL_succ _ _ _ (by omega), sliceL_succ _ _ _ (by omega), sliceL_succ _ _ _ (by omega), sliceL_succ _ _ _ (by omega)]
  simp only [sliceL, List.take_zero, List.reverse_cons, List.reverse_nil, List.nil_append, List.cons_append, dv_cons, dv_nil, Nat.add_assoc, Nat.reduceAdd]
  omega

theorem beU64 {b o len cap : Nat} {xs : List Int} (hb : (b, bytes xs) ∈ M) (hl : 8 ≤ len) (hc : len ≤ cap) (hx : o + len ≤ xs.length) (hd : Dg 256 xs) :
    CS w0 116 [.slice (some ⟨b, o, none⟩) len cap] M (fun u M' => u = .int .u64 (be8 xs o) ∧ M' = M) := by
  have d0 := dg8_gt hd o
  have d1 := dg8_gt hd (o + 1)
  have d2 := dg8_gt hd (o + 2)
  have d3 := dg8_gt hd (o + 3)
  have d4 := dg8_gt hd (o + 4)
  have d5 := dg8_gt hd (o + 5)
  have d6 := dg8_gt hd (o + 6)
  have d7 := dg8_gt hd (o + 7)
  have he := be8_eq (xs := xs) (o := o) (by omega)
  refine CS.of Tryz.func116 Tryz.ntmps116 rfl rfl (WC.seq (WC.region (WL.q (LX.assign rfl) rfl (WL.nil (thenK_normal (WC.seq (WC.region (WL.q (LX.move rfl) rfl (WL.q (LX.idxo rfl rfl rfl 7 rfl (by omega)) rfl ?_)))))))))
  refine WL.q (LX.loadRow rfl rfl (by repeat first | assumption | exact List.mem_cons_self | refine List.mem_cons_of_mem _ ?_) (by omega)) rfl ?_
  refine WL.nil (thenK_normal (WC.seq (WC.draw [(0, 0), (0, 4), (0, 5), (2, 1), (0, 2), (0, 3), (2, 6), (0, 7), (0, 8), (0, 9)] M rfl (by kernel_rfl) rfl (by kernel_rfl) (DW.p rfl rfl (fun _ => LX.move rfl) rfl (DW.p rfl rfl (fun _ => LX.move rfl) rfl (DW.p rfl rfl (fun _ => LX.sliceFrom rfl rfl rfl 4 rfl (by omega) (by omega) (by omega)) rfl (DW.fval rfl rfl (EX.call rfl (fun _ => by kernel_rfl) (beU32 hb (by omega) hx hd)) (fun _ h => h) rfl (DW.p rfl rfl (fun _ => LX.convU rfl rfl rfl (by omega)) rfl (DW.p rfl rfl (fun _ => LX.eq (LX.shl rfl rfl (by omega)) (show Value.int .u64 (IntKind.u64.wrap (_ * 4294967296)) = Value.int .u64 ((gt xs (o + 3) + gt xs (o + 2) * 256 + gt xs (o + 1) * 65536 + gt xs o * 16777216) * 4294967296) by rw [u64_in (by omega)])) rfl (DW.fval rfl rfl (EX.call rfl (fun _ => by kernel_rfl) (show CS w0 _ [.slice (some ⟨b, o + 4, none⟩) _ _] M (fun u M' => u = .int .u32 (gt xs (o + 7) + gt xs (o + 6) * 256 + gt xs (o + 5) * 65536 + gt xs (o + 4) * 16777216) ∧ M' = M) from beU32 (o := o + 4) hb (by omega) (by omega) hd)) (fun _ h => h) rfl (DW.p rfl rfl (fun _ => LX.convU rfl rfl rfl (by omega)) rfl (DW.p rfl rfl (fun _ => LX.eq (LX.bin rfl rfl rfl) (show _ = Value.int .u64 (be8 xs o) by rw [or_comm', or64 32 (by omega) (by omega) (by omega) (by omega) (by omega) (by omega), he])) rfl (DW.p rfl rfl (fun _ => LX.assign rfl) rfl ?_)))))))))))))
  refine DW.nil (thenK_normal (WC.ret ?_))
  exact KR.one (.inl rfl) rfl rfl ⟨rfl, rfl⟩

theorem beUint {b o len cap : Nat} {xs : List Int} (hb : (b, bytes xs) ∈ M) (hl : 8 ≤ len) (hc : len ≤ cap) (hx : o + len ≤ xs.length) (hd : Dg 256 xs) :
    CS w0 104 [.slice (some ⟨b, o, none⟩) len cap] M (fun u M' => u = .int .u64 (be8 xs o) ∧ M' = M) := by
  refine CS.of Tryz.func104 Tryz.ntmps104 rfl rfl (WC.seq (WC.region (WL.q (LX.assign rfl) rfl (WL.nil (thenK_normal (WC.seq (WC.yes rfl (WC.seq (WC.region (WL.q (LX.move rfl) rfl (WL.call (beU64 hb hl hc hx hd) rfl (fun _ => by kernel_rfl) rfl (WL.q (LX.assign rfl) rfl (WL.nil ?_)))))))))))))
  refine thenK_normal (WC.ret (thenK_ret ?_))
  exact KR.one (.inl rfl) rfl rfl ⟨rfl, rfl⟩

/-- bytes in memory: a slice that reads as bs -/
def Bsl (M : Mem) (A : Option Addr) (bs : List Int) (cap : Nat) : Prop :=
  bs = [] ∨ ∃ b full, A = some ⟨b, 0, none⟩ ∧ (b, bytes full) ∈ M ∧ bs.length ≤ full.length ∧ full.take bs.length = bs ∧ Dg 256 full ∧ bs.length ≤ cap

theorem tru {p : Prop} [Decidable p] (h : p) : Value.bool (decide p) = Value.bool true := congrArg _ (decide_eq_true h)
theorem fls {p : Prop} [Decidable p] (h : ¬ p) : Value.bool (decide p) = Value.bool false := congrArg _ (decide_eq_false h)

theorem gt_set_eq {xs : List Int} {i : Nat} (h : i < xs.length) (v : Int) : gt (xs.set i v) i = v := by
  rw [gt_eq (by simpa using h)]; simp
theorem gt_set_ne {xs : List Int} {i j : Nat} (h : i ≠ j) (v : Int) : gt (xs.set i v) j = gt xs j := by
  unfold gt
  rw [List.getD_eq_getElem?_getD, List.getD_eq_getElem?_getD, List.getElem?_set_ne h]
theorem take_set_le {xs : List Int} {i k : Nat} (h : k ≤ i) (v : Int) : (xs.set i v).take k = xs.take k := by
  rw [List.take_set_of_le h]
theorem dv_take_set {b : Int} {xs : List Int} {k : Nat} (h : k < xs.length) (v : Int) : dv b ((xs.set k v).take (k + 1)) = dv b (xs.take k) + b ^ k * v := by
  rw [dv_take_succ _ _ _ (by simpa using h), take_set_le (Nat.le_refl _)]; simp

theorem W64_pow (k : Nat) : W64 ^ k = 256 ^ (8 * k) := by
  have : W64 = 256 ^ 8 := rfl
  rw [this, ← Int.pow_mul]

/-- the k-th word of bytes, the lowest first -/
theorem be8_rev {full bs : List Int} {k : Nat} (hl : bs.length ≤ full.length) (ht : full.take bs.length = bs) (hk : 8 * k + 8 ≤ bs.length) :
    be8 full (bs.length - 8 * k - 8) = dv 256 (sliceL bs.reverse (8 * k) 8) := by
  unfold be8
  congr 1
  have h1 : sliceL full (bs.length - 8 * k - 8) 8 = sliceL bs (bs.length - 8 * k - 8) 8 := by
    rw [← ht]
    unfold sliceL
    rw [List.drop_take, List.take_take, List.length_take]
    congr 1
    omega
  rw [h1]
  unfold sliceL
  apply List.ext_getElem?
  intro i
  by_cases hi : i < 8
  · rw [List.getElem?_reverse (by simp; omega)]
    rw [List.getElem?_take, if_pos (by simp; omega), List.getElem?_drop, List.getElem?_take, if_pos hi, List.getElem?_drop, List.getElem?_reverse (by omega)]
    congr 1
    simp
    omega
  · rw [List.getElem?_eq_none (by simp; omega), List.getElem?_eq_none (by simp; omega)]
theorem dv_take8 {bs : List Int} {k : Nat} (hk : 8 * k + 8 ≤ bs.length) : dv 256 (bs.take (8 * (k + 1))) = dv 256 (bs.take (8 * k)) + 256 ^ (8 * k) * dv 256 (sliceL bs (8 * k) 8) := by
  have : bs.take (8 * (k + 1)) = bs.take (8 * k) ++ sliceL bs (8 * k) 8 := by
    unfold sliceL
    rw [← List.take_add]
    congr 1
  rw [this, dv_append, List.length_take, Nat.min_eq_left (by omega)]
theorem be8_wd {xs : List Int} {o : Nat} (hd : Dg 256 xs) (h : o + 8 ≤ xs.length) : wd (be8 xs o) := by
  have hg : Dg 256 (sliceL xs o 8).reverse := fun x hx => hd x (List.mem_of_mem_drop (List.mem_of_mem_take (List.mem_reverse.1 hx)))
  have h1 := dv_lt (b := 256) (by omega) hg
  have h2 := dv_nonneg (b := 256) (by omega) hg
  rw [List.length_reverse, sliceL_length _ _ _ h] at h1
  exact ⟨h2, h1⟩

def SB1 (n L : Nat) (bs xs : List Int) (s : Nat × List Int) : Prop :=
  s.1 ≤ n ∧ 8 * s.1 ≤ bs.length ∧ s.2.length = xs.length ∧ Dg W64 s.2 ∧ dv W64 (s.2.take s.1) = dv 256 (bs.reverse.take (8 * s.1)) ∧ ∀ i, s.1 ≤ i → i < n → gt s.2 i = 0

theorem SB1.next {n : Nat} {bs xs full : List Int} {k : Nat} {ys : List Int} (h : SB1 n bs.length bs xs (k, ys)) (hn : n ≤ xs.length) (hk : k < n) (h8 : 8 * k + 8 ≤ bs.length) (hl : bs.length ≤ full.length) (ht : full.take bs.length = bs) (hd : Dg 256 full) :
    SB1 n bs.length bs xs (k + 1, ys.set k (be8 full (bs.length - 8 * k - 8))) := by
  obtain ⟨h1, h2, h3, h4, h5, h6⟩ := h
  have hw := be8_wd (xs := full) (o := bs.length - 8 * k - 8) hd (by omega)
  simp only at h1 h2 h3 h4 h5 h6
  refine ⟨hk, by simp only; omega, by simpa using h3, h4.set hw.1 hw.2 _, ?_, fun i hi hin => ?_⟩
  · simp only
    rw [dv_take_set (by omega), h5, dv_take8 (by simp; omega), be8_rev hl ht h8, W64_pow]
  · simp only at hi
    rw [gt_set_ne (by omega)]
    exact h6 i (by omega) hin
end
end Go.Proofs.YtdnngppofbmpeaaGreatDoor.Bm
