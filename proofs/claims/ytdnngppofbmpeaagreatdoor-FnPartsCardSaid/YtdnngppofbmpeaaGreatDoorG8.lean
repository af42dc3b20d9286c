/- Proved here: what ShiftRightByOne, bitLen, BitLenVarTime, BitLen, Size and ShiftRightVarTime do; what ShiftRightVarTime does; what bits.Len, bits.TrailingZeros, TrailingZeroBitsVarTime and minusInverseModW do. Conditions: none but those that each theorem states. -/
import Derived.Test.YtdnngppofbmpeaaGreatDoorG7
namespace Go.Proofs.YtdnngppofbmpeaaGreatDoor.Bm
open Go Go.RowKit

/-- k bits -/
structure IsBl (x : Int) (k : Nat) : Prop where
  nn : 0 ≤ x
  lt : x < 2 ^ k
  ge : k = 0 ∨ 2 ^ (k - 1) ≤ x
theorem pow2_pos (k : Nat) : (0 : Int) < 2 ^ k := Int.pow_pos (by omega)
theorem pow2_le {a b : Nat} (h : a ≤ b) : (2 : Int) ^ a ≤ 2 ^ b := by
  have h1 : (2 : Nat) ^ a ≤ 2 ^ b := Nat.pow_le_pow_right (by omega) h
  have h2 : ((2 ^ a : Nat) : Int) ≤ ((2 ^ b : Nat) : Int) := Int.ofNat_le.2 h1
  simpa using h2
theorem pow2_succ (k : Nat) : (2 : Int) ^ (k + 1) = 2 * 2 ^ k := by rw [Int.pow_succ]; omega
theorem IsBl.le {x y : Int} {j k : Nat} (h : IsBl x j) (h' : IsBl y k) (hxy : x ≤ y) : j ≤ k := by
  rcases h.ge with h1 | h1
  · omega
  · rcases Nat.lt_or_ge k j with h2 | h2
    · have := pow2_le (show k ≤ j - 1 by omega)
      have := h'.lt
      omega
    · exact h2
theorem IsBl.uniq {x : Int} {j k : Nat} (h : IsBl x j) (h' : IsBl x k) : j = k := by
  have := h.le h' (by omega); have := h'.le h (by omega); omega
theorem IsBl.zero : IsBl 0 0 := ⟨by omega, by decide, .inl rfl⟩
theorem IsBl.of0 {x : Int} (h : IsBl x 0) : x = 0 := by have := h.nn; have := h.lt; simp at this; omega
theorem IsBl.half {x : Int} {k : Nat} (h : IsBl (x / 2) k) (hx : 0 < x) : IsBl x (k + 1) := by
  have h1 := h.lt
  refine ⟨by omega, ?_, .inr ?_⟩
  · rw [pow2_succ]; omega
  · rw [Nat.add_sub_cancel]
    rcases h.ge with h2 | h2
    · subst h2; simp; omega
    · cases k with
      | zero => simp; omega
      | succ k => rw [pow2_succ]; simp at h2; omega
theorem IsBl.high {a x : Int} {i k : Nat} (hx : IsBl x k) (h0 : 0 ≤ a) (h1 : a < 2 ^ i) (hk : 0 < x) : IsBl (a + 2 ^ i * x) (i + k) := by
  have hp := pow2_pos i
  have hx1 := hx.lt
  refine ⟨by have := Int.mul_nonneg (Int.le_of_lt hp) hx.nn; omega, ?_, ?_⟩
  · rw [Int.pow_add]
    have h2 : 2 ^ i * (x + 1) ≤ 2 ^ i * 2 ^ k := Int.mul_le_mul_of_nonneg_left (by omega) (Int.le_of_lt hp)
    rw [Int.mul_add, Int.mul_one] at h2
    omega
  · rcases hx.ge with h2 | h2
    · subst h2; have := hx.of0; omega
    · refine .inr ?_
      have hk0 : 0 < k := by
        cases k with
        | zero => have := hx.of0; omega
        | succ k => omega
      rw [show i + k - 1 = i + (k - 1) by omega, Int.pow_add]
      have h3 : (2 : Int) ^ i * 2 ^ (k - 1) ≤ 2 ^ i * x := Int.mul_le_mul_of_nonneg_left h2 (Int.le_of_lt hp)
      omega

theorem W64_two (i : Nat) : W64 ^ i = 2 ^ (64 * i) := by
  have : W64 = 2 ^ 64 := by unfold W64; decide
  rw [this, ← Int.pow_mul]

section
variable {w0 : World} {M : Mem}
/-- ShiftRightByOne -/
theorem shr1 {p l n c : Nat} {X : Int} {xs : List Int} (hx : NV n c X xs) :
    CS w0 48 [ptr p] ((p, natO l n c) :: (l, words xs) :: M)
      (fun u M' => ∃ zs, u = ptr p ∧ NV n c (X / 2) zs ∧ M' = (p, natO l n c) :: (l, words zs) :: M) := by
  refine CS.of Tryz.func48 Tryz.ntmps48 rfl rfl (WC.seq (WC.region (WL.q (LX.assign rfl) rfl (WL.nil (thenK_normal (WC.seq (WC.region (WL.q (LX.move rfl) rfl (WL.callR (rshift1 bt_zero hx) rfl (fun _ => by kernel_rfl) rfl ?_)))))))))
  rintro _ _ ⟨zs, rfl, hz, rfl⟩
  rw [Int.mul_zero, Int.add_zero] at hz
  refine WL.nil (thenK_normal (WC.seq (WC.region (WL.q (LX.move rfl) rfl (WL.q (LX.assign rfl) rfl (WL.nil (thenK_normal (WC.ret ?_))))))))
  exact KR.one (.inl rfl) rfl rfl ⟨zs, rfl, hz, rfl⟩

/-- bitLen -/
theorem nbitLen {x : Int} (hx : wd x) : CS w0 84 [.int .u64 x] M (fun u M' => (∃ k : Nat, u = .int .i64 k ∧ k ≤ 64 ∧ IsBl x k) ∧ M' = M) := by
  have hx' := wd_def hx
  refine CS.of Tryz.func84 Tryz.ntmps84 rfl rfl (WC.seq (WC.region (WL.q (LX.assign rfl) rfl (WL.nil (thenK_normal (WC.seq (WC.region (WL.q (LX.assign rfl) rfl (WL.nil (thenK_normal (WC.seq (WC.block ?_))))))))))))
  refine WC.loopS (fun s : Nat × Int => [(0, .int .u64 s.2), (3, .int .i64 s.1)]) (fun _ => M)
    (fun s => s.1 ≤ 64 ∧ 0 ≤ s.2 ∧ s.2 < 2 ^ (64 - s.1) ∧ ∀ k, IsBl s.2 k → IsBl x (k + s.1)) (fun s => 64 - s.1) (0, x)
    ⟨Nat.zero_le _, hx'.1, by simpa using hx'.2, fun k h => h⟩ (.cons rfl (.cons rfl .nil)) rfl ?_
  rintro ⟨i, y⟩ ⟨hi, hy0, hy1, hk⟩
  dsimp only at hi hy0 hy1 hk ⊢
  have h1 : min (1 : Int).toNat IntKind.u64.bits = 1 := by decide
  refine WC.seq (WC.seq (WC.region (WL.q (LX.move rfl) rfl (WL.q (LX.bin rfl rfl rfl) rfl (WL.nil (thenK_normal ?_))))))
  refine WC.testN rfl (fun hne => ?_) (fun heq => ?_)
  · have hy64 : i < 64 := by
      rcases Nat.lt_or_ge i 64 with h | h
      · exact h
      · rw [show 64 - i = 0 by omega] at hy1; simp at hy1; omega
    refine WC.skip (thenK_normal (WC.block (WC.seq (WC.region (WL.q (LX.move rfl) rfl (WL.q (LX.addI rfl rfl (by omega)) rfl (WL.q (LX.assign rfl) rfl (WL.nil (thenK_normal (WC.region (WL.q (LX.move rfl) rfl (WL.q (LX.eq (LX.shr rfl rfl (by omega) (by omega)) (by rw [h1, Int.pow_one])) rfl ?_))))))))))))
    refine WL.q (LX.assign rfl) rfl (WL.nil (blockK_normal ?_))
    refine loopS_next (i + 1, y / 2) ⟨by omega, by omega, ?_, ?_⟩ (by simp; omega) (.cons rfl (.cons rfl .nil)) rfl
    · have := pow2_succ (64 - (i + 1))
      rw [show 64 - (i + 1) + 1 = 64 - i by omega] at this
      dsimp only
      omega
    · intro k hb
      have := hk (k + 1) (hb.half (by omega))
      rwa [show k + 1 + i = k + (i + 1) by omega] at this
  · refine WC.exit (thenK_exit (loopS_exit (blockK_same (thenK_normal (WC.seq (WC.region (WL.q (LX.move rfl) rfl (WL.q (LX.assign rfl) rfl (WL.nil (thenK_normal (WC.ret ?_)))))))))))
    subst heq
    have := hk 0 IsBl.zero
    rw [Nat.zero_add] at this
    exact KR.one (.inl rfl) rfl rfl ⟨⟨i, rfl, hi, this⟩, rfl⟩

/-- BitLenVarTime -/
theorem nbitLenVar {p l n c : Nat} {X : Int} {xs : List Int} (hx : NV n c X xs) (hp : (p, natO l n c) ∈ M) (hl : (l, words xs) ∈ M) :
    CS w0 54 [ptr p] M (fun u M' => (∃ k : Nat, u = .int .i64 k ∧ k ≤ 64 * n ∧ IsBl X k) ∧ M' = M) := by
  obtain ⟨hxl, hxn, hxs, hxd, hxv⟩ := id hx
  refine CS.of Tryz.func54 Tryz.ntmps54 rfl rfl (WC.seq (WC.region (WL.q (LX.assign rfl) rfl (WL.nil (thenK_normal (WC.seq (WC.region (WL.q (LX.move rfl) rfl (WL.q (LX.nilCheck rfl) rfl (WL.q (LX.field0 rfl rfl) rfl ?_))))))))))
  refine WL.q (LX.load rfl rfl (by repeat first | assumption | exact List.mem_cons_self | refine List.mem_cons_of_mem _ ?_) rfl) rfl ?_
  refine WL.q (LX.len rfl rfl rfl) rfl (WL.q (LX.assign rfl) rfl (WL.nil (thenK_normal (WC.seq (WC.region (WL.q (LX.move rfl) rfl (WL.q (LX.nilCheck rfl) rfl (WL.q (LX.field0 rfl rfl) rfl ?_))))))))
  refine WL.q (LX.load rfl rfl (by repeat first | assumption | exact List.mem_cons_self | refine List.mem_cons_of_mem _ ?_) rfl) rfl ?_
  refine WL.q (LX.move rfl) rfl (WL.q (LX.sliceTo rfl rfl rfl _ rfl (by omega)) rfl (WL.q (LX.assign rfl) rfl (WL.nil (thenK_normal (WC.seq (WC.seq (WC.region (WL.q (LX.move rfl) rfl (WL.q (LX.subI rfl rfl (by omega)) rfl (WL.q (LX.assign rfl) rfl (WL.nil (thenK_normal (WC.block ?_)))))))))))))
  refine WC.loopS (fun j : Nat => [(3, .int .i64 n), (4, .slice (some ⟨l, 0, none⟩) n c), (5, .int .i64 ((j : Int) - 1))]) (fun _ => M) (fun j => j ≤ n ∧ dv W64 (xs.take j) = X) (fun j => j) n ⟨Nat.le_refl _, hxv⟩ (.cons rfl (.cons rfl (.cons rfl .nil))) rfl ?_
  rintro j ⟨hj, hv⟩
  have hj1 : (j : Int) - 1 ≥ 0 → ((j : Int) - 1) = ((j - 1 : Nat) : Int) := by omega
  refine WC.seq (WC.seq (WC.region (WL.q (LX.move rfl) rfl (WL.q (LX.bin rfl rfl rfl) rfl (WL.nil (thenK_normal ?_))))))
  refine WC.test rfl (fun hlt => ?_) (fun hge => ?_)
  · refine WC.skip (thenK_normal (WC.seq (WC.block (WC.seq (WC.region (WL.q (LX.move rfl) rfl (WL.q (LX.move rfl) rfl (WL.q (LX.idx1 rfl rfl rfl (j - 1) (by omega) (by omega)) rfl ?_))))))))
    refine WL.q (LX.loadRow rfl rfl (by repeat first | assumption | exact List.mem_cons_self | refine List.mem_cons_of_mem _ ?_) (by omega)) rfl ?_
    refine WL.q (LX.bin rfl rfl rfl) rfl (WL.nil (thenK_normal ?_))
    refine WC.testN rfl (fun hz => ?_) (fun hz => ?_)
    · refine WC.seq (WC.region (WL.q (LX.move rfl) rfl (WL.q (LX.mulI rfl rfl (by omega)) rfl (WL.q (LX.move rfl) rfl (WL.q (LX.move rfl) rfl (WL.q (LX.idx1 rfl rfl rfl (j - 1) (by omega) (by omega)) rfl ?_))))))
      refine WL.q (LX.loadRow rfl rfl (by repeat first | assumption | exact List.mem_cons_self | refine List.mem_cons_of_mem _ ?_) (by omega)) rfl ?_
      refine WL.callR (nbitLen (dg_gt hxd (j - 1))) rfl (fun _ => by kernel_rfl) rfl ?_
      rintro _ _ ⟨⟨k, rfl, hk, hb⟩, rfl⟩
      refine WL.q (LX.addI rfl rfl (by omega)) rfl (WL.q (LX.assign rfl) rfl (WL.nil (thenK_normal (WC.ret (blockK_ret (thenK_ret (loopS_ret (blockK_ret (thenK_ret ?_)))))))))
      refine KR.one (.inl rfl) rfl rfl ⟨⟨64 * (j - 1) + k, ?_, by omega, ?_⟩, rfl⟩
      · congr 1; omega
      · have h1 := dv_take_gt W64 (xs := xs) (i := j - 1) (by omega)
        rw [show j - 1 + 1 = j by omega, hv, W64_two] at h1
        rw [h1]
        refine hb.high (dv_nonneg W64_pos (hxd.take _)) ?_ (by have := (dg_gt hxd (j - 1)).1; omega)
        have := dv_lt W64_pos (hxd.take (j - 1))
        rwa [List.length_take, Nat.min_eq_left (by omega), W64_two] at this
    · refine WC.skip (blockK_normal (thenK_normal (WC.region (WL.q (LX.move rfl) rfl (WL.q (LX.eq (LX.subI rfl rfl (by omega)) (show _ = Value.int IntKind.i64 (((j - 1 : Nat) : Int) - 1) by congr 1; omega)) rfl (WL.q (LX.assign rfl) rfl (WL.nil ?_)))))))
      exact loopS_next (j - 1) ⟨by omega, by rw [dv_take_trim (by omega) (by omega) hz, hv]⟩ (by omega) (.cons rfl (.cons rfl (.cons rfl .nil))) rfl
  · refine WC.exit (thenK_exit (loopS_exit (blockK_same (thenK_normal (WC.seq (WC.region (WL.q (LX.assign rfl) rfl (WL.nil (thenK_normal (WC.ret ?_))))))))))
    obtain rfl : j = 0 := by omega
    refine KR.one (.inl rfl) rfl rfl ⟨⟨0, rfl, by omega, ?_⟩, rfl⟩
    have : X = 0 := by rw [← hv]; rfl
    rw [this]; exact IsBl.zero

theorem modBitLen {q pm lm n cm : Nat} {odd : Bool} {m0 V : Int} {rv : Value} {ms : List Int} (hM : MdR M q pm lm n cm odd m0 rv ms V) :
    CS w0 105 [ptr q] M (fun u M' => (∃ k : Nat, u = .int .i64 k ∧ k ≤ 64 * n ∧ IsBl V k) ∧ M' = M) := by
  obtain ⟨hq, hp, hl, hv⟩ := hM
  refine CS.of Tryz.func105 Tryz.ntmps105 rfl rfl (WC.seq (WC.region (WL.q (LX.assign rfl) rfl (WL.nil (thenK_normal (WC.seq (WC.region (WL.q (LX.move rfl) rfl (WL.q (LX.nilCheck rfl) rfl (WL.q (LX.field0 rfl rfl) rfl ?_))))))))))
  refine WL.q (LX.load rfl rfl (by repeat first | assumption | exact List.mem_cons_self | refine List.mem_cons_of_mem _ ?_) rfl) rfl ?_
  refine WL.callR (nbitLenVar hv hp hl) rfl (fun _ => by kernel_rfl) rfl ?_
  rintro _ _ ⟨⟨k, rfl, hk, hb⟩, rfl⟩
  refine WL.q (LX.assign rfl) rfl (WL.nil (thenK_normal (WC.ret ?_)))
  exact KR.one (.inl rfl) rfl rfl ⟨⟨k, rfl, hk, hb⟩, rfl⟩

theorem modSize {q pm lm n cm : Nat} {odd : Bool} {m0 V : Int} {rv : Value} {ms : List Int} (hM : MdR M q pm lm n cm odd m0 rv ms V) :
    CS w0 101 [ptr q] M (fun u M' => (∃ k : Nat, u = .int .i64 ((k + 7) / 8 : Nat) ∧ k ≤ 64 * n ∧ IsBl V k) ∧ M' = M) := by
  have hs := hM.nv.small
  have hn := hM.nv.le
  refine CS.of Tryz.func101 Tryz.ntmps101 rfl rfl (WC.seq (WC.region (WL.q (LX.assign rfl) rfl (WL.nil (thenK_normal (WC.seq (WC.region (WL.q (LX.move rfl) rfl (WL.callR (modBitLen hM) rfl (fun _ => by kernel_rfl) rfl ?_)))))))))
  rintro _ _ ⟨⟨k, rfl, hk, hb⟩, rfl⟩
  refine WL.q (LX.addI rfl rfl (by omega)) rfl (WL.q (LX.eq (LX.quoI rfl rfl (by omega) (by omega)) (show _ = Value.int .i64 (((k + 7) / 8 : Nat) : Int) by congr 1)) rfl (WL.q (LX.assign rfl) rfl (WL.nil (thenK_normal (WC.ret ?_)))))
  exact KR.one (.inl rfl) rfl rfl ⟨⟨k, rfl, hk, hb⟩, rfl⟩
end
end Go.Proofs.YtdnngppofbmpeaaGreatDoor.Bm
namespace Go.Proofs.YtdnngppofbmpeaaGreatDoor.Bm
open Go Go.RowKit

theorem pow_split {s : Nat} (h : s ≤ 64) : (18446744073709551616 : Int) = 2 ^ s * 2 ^ (64 - s) := by
  rw [← Int.pow_add, show s + (64 - s) = 64 by omega]; decide
theorem mod_scale {a y b : Int} (ha : 0 < a) : (y * a) % (b * a) = a * (y % b) := by
  rw [Int.mul_comm y a, Int.mul_comm b a, Int.mul_emod_mul_of_pos _ _ ha]

theorem shr_or {x y : Int} {s : Nat} (hs : s < 64) (hx : wd x) : bits .or .u64 (x / 2 ^ (min (s : Int).toNat IntKind.u64.bits)) (IntKind.u64.wrap (y * 2 ^ (min ((64 : Int) - s).toNat IntKind.u64.bits))) = x / 2 ^ s + 2 ^ (64 - s) * (y % 2 ^ s) ∧ wd (x / 2 ^ s + 2 ^ (64 - s) * (y % 2 ^ s)) := by
  have hb : IntKind.u64.bits = 64 := rfl
  have h1 : min (s : Int).toNat IntKind.u64.bits = s := by rw [hb]; omega
  have h2 : min ((64 : Int) - s).toNat IntKind.u64.bits = 64 - s := by rw [hb]; omega
  have hx := wd_def hx
  have hp := pow2_pos s
  have hq := pow2_pos (64 - s)
  have hW := pow_split (s := s) (by omega)
  rw [h1, h2]
  have h4 : IntKind.u64.wrap (y * 2 ^ (64 - s)) = 2 ^ (64 - s) * (y % 2 ^ s) := by
    have : IntKind.u64.wrap (y * 2 ^ (64 - s)) = (y * 2 ^ (64 - s)) % 18446744073709551616 := IntKind.wrap_u64 _
    rw [this, hW, mod_scale hq]
  have h5 : 0 ≤ x / 2 ^ s := Int.ediv_nonneg hx.1 (Int.le_of_lt hp)
  have h6 : x / 2 ^ s < 2 ^ (64 - s) := Int.ediv_lt_of_lt_mul hp (by rw [Int.mul_comm, ← hW]; exact hx.2)
  have h7 := Int.emod_nonneg y (show (2 : Int) ^ s ≠ 0 by omega)
  have h8 := Int.emod_lt_of_pos y hp
  have h9 : (2 : Int) ^ (64 - s) * (y % 2 ^ s + 1) ≤ 2 ^ (64 - s) * 2 ^ s := Int.mul_le_mul_of_nonneg_left (by omega) (Int.le_of_lt hq)
  rw [Int.mul_comm _ (2 ^ s), ← hW, Int.mul_add, Int.mul_one] at h9
  have h10 : 0 ≤ (2 : Int) ^ (64 - s) * (y % 2 ^ s) := Int.mul_nonneg (Int.le_of_lt hq) h7
  rw [h4]
  refine ⟨or64 (64 - s) h5 h6 h10 (by omega) (Int.mul_emod_right _ _) (by omega), ?_⟩
  unfold wd W64
  omega

/-- words of x, nought beyond n -/
def GG (n : Nat) (xs : List Int) (j : Nat) : Int := if j < n then gt xs j else 0
def SS (n sl : Nat) (xs : List Int) (i : Nat) : Int := dv W64 (((xs.take n).drop sl).take i)
theorem SS_succ {n sl i : Nat} {xs : List Int} (hn : n ≤ xs.length) : SS n sl xs (i + 1) = SS n sl xs i + W64 ^ i * GG n xs (sl + i) := by
  unfold SS GG
  have hl : ((xs.take n).drop sl).length = n - sl := by simp; omega
  split
  · rename_i h
    rw [dv_take_gt _ (by omega)]
    congr 2
    unfold gt
    rw [List.getD_eq_getElem?_getD, List.getD_eq_getElem?_getD, List.getElem?_drop, List.getElem?_take, if_pos h]
  · have a1 : ((xs.take n).drop sl).take (i + 1) = (xs.take n).drop sl := List.take_of_length_le (by omega)
    have a2 : ((xs.take n).drop sl).take i = (xs.take n).drop sl := List.take_of_length_le (by omega)
    rw [a1, a2]; simp
theorem SS_end {n sl : Nat} {xs : List Int} (hn : n ≤ xs.length) (hd : Dg W64 xs) : SS n sl xs n = dv W64 (xs.take n) / W64 ^ sl := by
  have hl : ((xs.take n).drop sl).length = n - sl := by simp; omega
  unfold SS
  rw [List.take_of_length_le (by omega)]
  have hp := pow_pos W64_pos sl
  rcases Nat.lt_or_ge sl n with h | h
  · rw [dv_split W64 (xs.take n) sl (by simp; omega)]
    have h1 := dv_nonneg W64_pos ((hd.take n).take sl)
    have h2 := dv_lt W64_pos ((hd.take n).take sl)
    rw [show ((xs.take n).take sl).length = sl by simp; omega] at h2
    rw [Int.add_mul_ediv_left _ _ (by omega), Int.ediv_eq_zero_of_lt h1 h2, Int.zero_add]
  · rw [List.drop_eq_nil_of_le (by simp; omega)]
    have h1 := dv_nonneg W64_pos (hd.take n)
    have h2 := dv_lt W64_pos (hd.take n)
    have h3 : W64 ^ (xs.take n).length ≤ W64 ^ sl := by
      rw [W64_two, W64_two]; exact pow2_le (by simp; omega)
    rw [Int.ediv_eq_zero_of_lt h1 (by omega)]; rfl

theorem shv_step {D r S A g y p q W z : Int} (h : p * D + r = S + A * (g % p)) (hz : z = g / p + q * y) (hW : W = p * q) : p * (D + A * z) + r = S + A * g + (A * W) * y := by
  have hg : g = p * (g / p) + g % p := (Int.mul_ediv_add_emod g p).symm
  subst hz hW
  generalize g / p = a at *
  generalize g % p = b at *
  subst hg
  grind

section
variable {w0 : World} {M : Mem}
/-- ShiftRightVarTime -/
theorem nshr {p l n c N : Nat} {X : Int} {xs : List Int} (hx : NV n c X xs) (hN : N ≤ 1000) :
    CS w0 47 [ptr p, .int .u64 N] ((p, natO l n c) :: (l, words xs) :: M)
      (fun u M' => ∃ zs, u = ptr p ∧ NV n c (X / 2 ^ N) zs ∧ M' = (p, natO l n c) :: (l, words zs) :: M) := by
  obtain ⟨hxl, hxn, hxs, hxd, hxv⟩ := id hx
  have hsh : N % 64 < 64 := Nat.mod_lt _ (by omega)
  have h0 : ∀ i zs, St c xs i zs → i = n → 2 ^ (N % 64) * dv W64 (zs.take i) + GG n xs (N / 64) % 2 ^ (N % 64) = SS n (N / 64) xs i + W64 ^ i * (GG n xs (N / 64 + i) % 2 ^ (N % 64)) → NV n c (X / 2 ^ N) zs := by
    intro i zs hst hi hv
    subst hi
    refine ⟨hst.len, hxn, hxs, hst.dg, ?_⟩
    have h1 : GG i xs (N / 64 + i) = 0 := by unfold GG; rw [if_neg (by omega)]
    rw [h1, SS_end (by omega) hxd, hxv] at hv
    have hp := pow2_pos (N % 64)
    have h2 := Int.emod_nonneg (GG i xs (N / 64)) (show (2 : Int) ^ (N % 64) ≠ 0 by omega)
    have h3 := Int.emod_lt_of_pos (GG i xs (N / 64)) hp
    have h4 : (2 : Int) ^ N = W64 ^ (N / 64) * 2 ^ (N % 64) := by
      rw [W64_two, ← Int.pow_add]; congr 1; omega
    rw [h4, ← Int.ediv_ediv_of_nonneg (Int.le_of_lt (pow_pos W64_pos _))]
    simp only [Int.zero_emod, Int.mul_zero, Int.add_zero] at hv
    rw [← hv, Int.add_comm, Int.add_mul_ediv_left _ _ (by omega), Int.ediv_eq_zero_of_lt h2 h3, Int.zero_add]
  have hstart : 2 ^ (N % 64) * dv W64 (xs.take 0) + GG n xs (N / 64) % 2 ^ (N % 64) = SS n (N / 64) xs 0 + W64 ^ 0 * (GG n xs (N / 64 + 0) % 2 ^ (N % 64)) := by
    simp [SS]
  have hGG : ∀ j, wd (GG n xs j) := by
    intro j; unfold GG; split
    · exact dg_gt hxd j
    · exact wd_zero
  refine CS.of Tryz.func47 Tryz.ntmps47 rfl rfl (WC.seq (WC.region (WL.q (LX.assign rfl) rfl (WL.nil (thenK_normal (WC.seq (WC.region (WL.q (LX.move rfl) rfl (WL.q (LX.nilCheck rfl) rfl (WL.q (LX.field0 rfl rfl) rfl ?_))))))))))
  refine WL.q (LX.load rfl rfl (by repeat first | assumption | exact List.mem_cons_self | refine List.mem_cons_of_mem _ ?_) rfl) rfl ?_
  refine WL.q (LX.len rfl rfl rfl) rfl (WL.q (LX.assign rfl) rfl (WL.nil (thenK_normal (WC.seq (WC.region (WL.q (LX.move rfl) rfl (WL.q (LX.nilCheck rfl) rfl (WL.q (LX.field0 rfl rfl) rfl ?_))))))))
  refine WL.q (LX.load rfl rfl (by repeat first | assumption | exact List.mem_cons_self | refine List.mem_cons_of_mem _ ?_) rfl) rfl ?_
  refine WL.q (LX.move rfl) rfl (WL.q (LX.sliceTo rfl rfl rfl _ rfl (by omega)) rfl (WL.q (LX.assign rfl) rfl (WL.nil (thenK_normal (WC.seq (WC.region (WL.q (LX.move rfl) rfl (WL.q (LX.rem rfl rfl (by omega) (by omega)) rfl (WL.q (LX.eq (LX.conv rfl rfl rfl) (show _ = Value.int .i64 ((N % 64 : Nat) : Int) by rw [i64_in (by omega)]; congr 1)) rfl (WL.q (LX.assign rfl) rfl (WL.nil (thenK_normal (WC.seq ?_)))))))))))))
  refine WC.region (WL.q (LX.move rfl) rfl (WL.q (LX.quoU rfl rfl (by omega) (by omega)) rfl (WL.q (LX.eq (LX.conv rfl rfl rfl) (show _ = Value.int .i64 ((N / 64 : Nat) : Int) by rw [i64_in (by omega)]; congr 1)) rfl (WL.q (LX.assign rfl) rfl (WL.nil (thenK_normal (WC.seq (WC.region (WL.q (LX.assign rfl) rfl (WL.nil (thenK_normal (WC.seq (WC.seq ?_)))))))))))))
  refine WC.region (WL.q (LX.move rfl) rfl (WL.q (LX.move rfl) rfl (WL.q (LX.bin rfl rfl rfl) rfl (WL.nil (thenK_normal ?_)))))
  refine WC.test rfl (fun hsl => ?_) (fun hsl => ?_)
  · skip
    refine WC.region (WL.q (LX.move rfl) rfl (WL.q (LX.move rfl) rfl (WL.q (LX.eq (LX.sliceFrom rfl rfl rfl (N / 64) rfl (by omega) (by omega) (by omega)) (by rw [Nat.zero_add])) rfl ?_)))
    refine WL.q (LX.assign rfl) rfl (WL.nil (thenK_normal (WC.seq (WC.seq (WC.region (WL.q (LX.move rfl) rfl (WL.q (LX.len rfl rfl rfl) rfl (WL.q (LX.move rfl) rfl (WL.nil (thenK_normal (WC.block ?_)))))))))))
    refine WC.loopS (fun s : Nat × List Int => [(0, ptr p), (5, .int .i64 n), (6, .slice (some ⟨l, 0, none⟩) n c), (7, .int .i64 ((N % 64 : Nat) : Int)), (9, .slice (some ⟨l, N / 64, none⟩) (n - N / 64) (c - N / 64)), (35, .int .i64 n), (36, .int .i64 s.1)]) (fun s => (p, natO l n c) :: (l, words s.2) :: M)
      (fun s => s.1 ≤ n ∧ St c xs s.1 s.2 ∧ 2 ^ (N % 64) * dv W64 (s.2.take s.1) + GG n xs (N / 64) % 2 ^ (N % 64) = SS n (N / 64) xs s.1 + W64 ^ s.1 * (GG n xs (N / 64 + s.1) % 2 ^ (N % 64))) (fun s => n - s.1) (0, xs)
      ⟨Nat.zero_le _, St.start hxl hxd, hstart⟩ (.cons rfl (.cons rfl (.cons rfl (.cons rfl (.cons rfl (.cons rfl (.cons rfl .nil))))))) rfl ?_
    rintro ⟨i, zs⟩ ⟨hi, hst, hv⟩
    dsimp only at hi hst hv ⊢
    have hzl := hst.len
    refine WC.seq (WC.region (WL.q (LX.bin rfl rfl rfl) rfl (WL.nil (thenK_normal (WC.seq ?_)))))
    refine WC.test rfl (fun hlt => ?_) (fun hge => ?_)
    · have hor := shr_or (x := GG n xs (N / 64 + i)) (y := GG n xs (N / 64 + (i + 1))) hsh (hGG _)
      have hnext : ∀ z, z = GG n xs (N / 64 + i) / 2 ^ (N % 64) + 2 ^ (64 - N % 64) * (GG n xs (N / 64 + (i + 1)) % 2 ^ (N % 64)) → (i + 1 ≤ n ∧ St c xs (i + 1) (zs.set i z) ∧ 2 ^ (N % 64) * dv W64 ((zs.set i z).take (i + 1)) + GG n xs (N / 64) % 2 ^ (N % 64) = SS n (N / 64) xs (i + 1) + W64 ^ (i + 1) * (GG n xs (N / 64 + (i + 1)) % 2 ^ (N % 64))) := by
        intro z hz
        refine ⟨by omega, hst.next (hz ▸ hor.2), ?_⟩
        rw [dv_take_set (by omega), SS_succ (by omega), Int.pow_succ]
        exact shv_step hv hz (by unfold W64; exact pow_split (by omega))
      refine WC.skip (thenK_normal (WC.seq (WC.block (WC.seq (WC.region (WL.q (LX.move rfl) rfl (WL.q (LX.assign rfl) rfl (WL.nil (thenK_normal (WC.seq (WC.seq (WC.region (WL.q (LX.move rfl) rfl ?_)))))))))))))
      refine WL.q (LX.move rfl) rfl (WL.q (LX.len rfl rfl rfl) rfl (WL.q (LX.bin rfl rfl rfl) rfl (WL.nil (thenK_normal ?_))))
      refine WC.test rfl (fun hz => ?_) (fun hnz => ?_)
      · refine WC.seq (WC.region (WL.q (LX.move rfl) rfl (WL.q (LX.move rfl) rfl (WL.q (LX.idx1 rfl rfl rfl _ rfl (by omega)) rfl ?_))))
        refine WL.put (EX.storeRow rfl rfl rfl (by repeat first | assumption | exact List.mem_cons_self | refine List.mem_cons_of_mem _ ?_) (by omega) (by repeat first | exact Upd.here | apply Upd.there)) ?_
        refine WL.nil (thenK_normal (WC.exit (thenK_exit (blockK_same (thenK_normal (WC.region (WL.q (LX.addI rfl rfl (by omega)) rfl (WL.q (LX.move rfl) rfl (WL.nil ?_)))))))))
        refine loopS_next (i + 1, zs.set i 0) (hnext 0 ?_) (by simp; omega) (.cons rfl (.cons rfl (.cons rfl (.cons rfl (.cons rfl (.cons rfl (.cons rfl .nil))))))) rfl
        have e1 : GG n xs (N / 64 + i) = 0 := by unfold GG; rw [if_neg (by omega)]
        have e2 : GG n xs (N / 64 + (i + 1)) = 0 := by unfold GG; rw [if_neg (by omega)]
        rw [e1, e2]; simp
      · have hg : ∀ j, N / 64 + j < n → i ≤ N / 64 + j → gt zs (N / 64 + j) = GG n xs (N / 64 + j) := by
          intro j hj hij; unfold GG; rw [if_pos hj, gt_drop hst.drop hij]
        have hx0 := wd_def (hGG (N / 64 + i))
        refine WC.skip (thenK_normal (WC.seq (WC.region (WL.q (LX.move rfl) rfl (WL.q (LX.move rfl) rfl (WL.q (LX.move rfl) rfl (WL.q (LX.move rfl) rfl (WL.q (LX.idxo rfl rfl rfl i rfl (by omega)) rfl ?_))))))))
        refine WL.q (LX.eq (LX.loadRow rfl rfl (by repeat first | assumption | exact List.mem_cons_self | refine List.mem_cons_of_mem _ ?_) (by omega)) (by rw [hg i (by omega) (by omega)])) rfl ?_
        refine WL.q (LX.move rfl) rfl (WL.q (LX.shr rfl rfl (by omega) (by omega)) rfl (WL.q (LX.idx1 rfl rfl rfl _ rfl (by omega)) rfl ?_))
        refine WL.put (EX.storeRow rfl rfl rfl (by repeat first | assumption | exact List.mem_cons_self | refine List.mem_cons_of_mem _ ?_) (by omega) (by repeat first | exact Upd.here | apply Upd.there)) ?_
        refine WL.nil (thenK_normal (WC.seq (WC.region (WL.q (LX.move rfl) rfl (WL.q (LX.addI rfl rfl (by omega)) rfl (WL.q (LX.move rfl) rfl (WL.q (LX.len rfl rfl rfl) rfl (WL.q (LX.bin rfl rfl rfl) rfl (WL.nil (thenK_normal ?_))))))))))
        have hsl2 : (zs.set i (GG n xs (N / 64 + i) / 2 ^ (min ((N % 64 : Nat) : Int).toNat IntKind.u64.bits))).length = c := by simpa using hzl
        refine WC.test rfl (fun hlt2 => ?_) (fun hge2 => ?_)
        · have hy0 := hGG (N / 64 + (i + 1))
          refine WC.draw [(0, 0), (0, 1), (0, 2), (0, 4), (0, 5), (0, 6), (0, 7), (0, 9), (0, 10), (1, 3), (1, 8), (0, 11), (0, 12), (0, 13), (2, 14)] [(l, words (zs.set i (GG n xs (N / 64 + i) / 2 ^ (min ((N % 64 : Nat) : Int).toNat IntKind.u64.bits))))] rfl (by kernel_rfl) rfl (by kernel_rfl) (DW.p rfl rfl (fun _ => LX.move rfl) rfl (DW.p rfl rfl (fun _ => LX.move rfl) rfl (DW.p rfl rfl (fun _ => LX.idx1 rfl rfl rfl _ rfl (by omega)) rfl (DW.p rfl rfl (fun _ => LX.move rfl) rfl (DW.p rfl rfl (fun _ => LX.move rfl) rfl (DW.p rfl rfl (fun _ => LX.addI rfl rfl (by omega)) rfl (DW.p rfl rfl (fun _ => LX.idxo rfl rfl rfl (i + 1) rfl (by omega)) rfl (DW.p rfl rfl (fun _ => LX.move rfl) rfl (DW.p rfl rfl (fun _ => LX.subI rfl rfl (by omega)) rfl ?_)))))))))
          refine DW.r rfl rfl (LX.eq (LX.loadRow rfl rfl (by repeat first | assumption | exact List.mem_cons_self | refine List.mem_cons_of_mem _ ?_) (by omega)) (by rw [gt_set_eq (by omega)])) (fun q hq => by simp at hq; subst hq; exact List.mem_cons_of_mem _ List.mem_cons_self) rfl ?_
          refine DW.r rfl rfl (LX.eq (LX.loadRow rfl rfl (by repeat first | assumption | exact List.mem_cons_self | refine List.mem_cons_of_mem _ ?_) (by omega)) (by rw [gt_set_ne (by omega), hg (i + 1) (by omega) (by omega)])) (fun q hq => by simp at hq; subst hq; exact List.mem_cons_of_mem _ List.mem_cons_self) rfl ?_
          refine DW.p rfl rfl (fun _ => LX.shl rfl rfl (by omega)) rfl (DW.p rfl rfl (fun _ => LX.eq (LX.bin rfl rfl rfl) (by rw [hor.1])) rfl ?_)
          refine DW.p rfl rfl (fun _ => LX.idx1 rfl rfl rfl _ rfl (by omega)) rfl ?_
          refine DW.tput rfl rfl (EX.storeRow rfl rfl rfl (by repeat first | assumption | exact List.mem_cons_self | refine List.mem_cons_of_mem _ ?_) (by omega) (by repeat first | exact Upd.here | apply Upd.there)) (by kernel_rfl) ?_
          refine DW.nil (blockK_normal (thenK_normal (WC.region (WL.q (LX.addI rfl rfl (by omega)) rfl (WL.q (LX.move rfl) rfl (WL.nil ?_))))))
          rw [List.set_set]
          exact loopS_next (i + 1, _) (hnext _ rfl) (by simp; omega) (.cons rfl (.cons rfl (.cons rfl (.cons rfl (.cons rfl (.cons rfl (.cons rfl .nil))))))) rfl
        · refine WC.skip (blockK_normal (thenK_normal (WC.region (WL.q (LX.addI rfl rfl (by omega)) rfl (WL.q (LX.move rfl) rfl (WL.nil ?_))))))
          have e2 : GG n xs (N / 64 + (i + 1)) = 0 := by unfold GG; rw [if_neg (by omega)]
          refine loopS_next (i + 1, _) (hnext _ ?_) (by simp; omega) (.cons rfl (.cons rfl (.cons rfl (.cons rfl (.cons rfl (.cons rfl (.cons rfl .nil))))))) rfl
          rw [e2]
          have hb : min ((N % 64 : Nat) : Int).toNat IntKind.u64.bits = N % 64 := by
            have : IntKind.u64.bits = 64 := rfl
            rw [this]; omega
          rw [hb]; simp

    · refine WC.exit (thenK_exit (loopS_exit (blockK_same (thenK_normal (WC.seq (WC.region (WL.q (LX.move rfl) rfl (WL.q (LX.assign rfl) rfl (WL.nil (thenK_normal (WC.ret ?_)))))))))))
      obtain rfl : i = n := by omega
      exact KR.one (.inl rfl) rfl rfl ⟨zs, rfl, h0 i zs hst rfl hv, rfl⟩
  · skip
    refine WC.skip (thenK_normal (WC.seq (WC.seq (WC.region (WL.q (LX.move rfl) rfl (WL.q (LX.len rfl rfl rfl) rfl (WL.q (LX.move rfl) rfl (WL.nil (thenK_normal (WC.block ?_))))))))))
    refine WC.loopS (fun s : Nat × List Int => [(0, ptr p), (5, .int .i64 n), (6, .slice (some ⟨l, 0, none⟩) n c), (7, .int .i64 ((N % 64 : Nat) : Int)), (9, .slice none 0 0), (35, .int .i64 n), (36, .int .i64 s.1)]) (fun s => (p, natO l n c) :: (l, words s.2) :: M)
      (fun s => s.1 ≤ n ∧ St c xs s.1 s.2 ∧ 2 ^ (N % 64) * dv W64 (s.2.take s.1) + GG n xs (N / 64) % 2 ^ (N % 64) = SS n (N / 64) xs s.1 + W64 ^ s.1 * (GG n xs (N / 64 + s.1) % 2 ^ (N % 64))) (fun s => n - s.1) (0, xs)
      ⟨Nat.zero_le _, St.start hxl hxd, hstart⟩ (.cons rfl (.cons rfl (.cons rfl (.cons rfl (.cons rfl (.cons rfl (.cons rfl .nil))))))) rfl ?_
    rintro ⟨i, zs⟩ ⟨hi, hst, hv⟩
    dsimp only at hi hst hv ⊢
    have hzl := hst.len
    refine WC.seq (WC.region (WL.q (LX.bin rfl rfl rfl) rfl (WL.nil (thenK_normal (WC.seq ?_)))))
    refine WC.test rfl (fun hlt => ?_) (fun hge => ?_)
    · have hor := shr_or (x := GG n xs (N / 64 + i)) (y := GG n xs (N / 64 + (i + 1))) hsh (hGG _)
      have hnext : ∀ z, z = GG n xs (N / 64 + i) / 2 ^ (N % 64) + 2 ^ (64 - N % 64) * (GG n xs (N / 64 + (i + 1)) % 2 ^ (N % 64)) → (i + 1 ≤ n ∧ St c xs (i + 1) (zs.set i z) ∧ 2 ^ (N % 64) * dv W64 ((zs.set i z).take (i + 1)) + GG n xs (N / 64) % 2 ^ (N % 64) = SS n (N / 64) xs (i + 1) + W64 ^ (i + 1) * (GG n xs (N / 64 + (i + 1)) % 2 ^ (N % 64))) := by
        intro z hz
        refine ⟨by omega, hst.next (hz ▸ hor.2), ?_⟩
        rw [dv_take_set (by omega), SS_succ (by omega), Int.pow_succ]
        exact shv_step hv hz (by unfold W64; exact pow_split (by omega))
      refine WC.skip (thenK_normal (WC.seq (WC.block (WC.seq (WC.region (WL.q (LX.move rfl) rfl (WL.q (LX.assign rfl) rfl (WL.nil (thenK_normal (WC.seq (WC.seq (WC.region (WL.q (LX.move rfl) rfl ?_)))))))))))))
      refine WL.q (LX.move rfl) rfl (WL.q (LX.len rfl rfl rfl) rfl (WL.q (LX.bin rfl rfl rfl) rfl (WL.nil (thenK_normal ?_))))
      refine WC.test rfl (fun _ => ?_) (fun h => absurd h (by omega))
      refine WC.seq (WC.region (WL.q (LX.move rfl) rfl (WL.q (LX.move rfl) rfl (WL.q (LX.idx1 rfl rfl rfl _ rfl (by omega)) rfl ?_))))
      refine WL.put (EX.storeRow rfl rfl rfl (by repeat first | assumption | exact List.mem_cons_self | refine List.mem_cons_of_mem _ ?_) (by omega) (by repeat first | exact Upd.here | apply Upd.there)) ?_
      refine WL.nil (thenK_normal (WC.exit (thenK_exit (blockK_same (thenK_normal (WC.region (WL.q (LX.addI rfl rfl (by omega)) rfl (WL.q (LX.move rfl) rfl (WL.nil ?_)))))))))
      refine loopS_next (i + 1, zs.set i 0) (hnext 0 ?_) (by simp; omega) (.cons rfl (.cons rfl (.cons rfl (.cons rfl (.cons rfl (.cons rfl (.cons rfl .nil))))))) rfl
      have e1 : GG n xs (N / 64 + i) = 0 := by unfold GG; rw [if_neg (by omega)]
      have e2 : GG n xs (N / 64 + (i + 1)) = 0 := by unfold GG; rw [if_neg (by omega)]
      rw [e1, e2]; simp

    · refine WC.exit (thenK_exit (loopS_exit (blockK_same (thenK_normal (WC.seq (WC.region (WL.q (LX.move rfl) rfl (WL.q (LX.assign rfl) rfl (WL.nil (thenK_normal (WC.ret ?_)))))))))))
      obtain rfl : i = n := by omega
      exact KR.one (.inl rfl) rfl rfl ⟨zs, rfl, h0 i zs hst rfl hv, rfl⟩
end
end Go.Proofs.YtdnngppofbmpeaaGreatDoor.Bm
namespace Go.Proofs.YtdnngppofbmpeaaGreatDoor.Bm
open Go Go.RowKit

/-- arrays: length and element -/
def ar : Nat → Option (Nat × Nat)
  | 158 => some (64, 5)
  | 128 => some (15, 64)
  | _ => none
theorem ar_ok {t e n : Nat} (h : ar t = some (n, e)) (w : World) : (underlying t).run P w = .ok (.array n e) w ∧ (sizeOf e).run P w = .ok 1 w ∧ 2 ≤ n := by
  unfold ar at h
  split at h <;> first | (cases h; exact ⟨by kernel_rfl, by kernel_rfl, by decide⟩) | cases h

section
variable {n : Nat} {w0 : World} {E : Env} {M : Mem} {dst : Option Nat} {ty : TypeId} {pos : String} {aft : Array Edge} {g : Option (Nat × Bool)}
theorem LX.idxA {t len e b o : Nat} {x y : Operand} {k : IntKind} {i : Int} (hx : ev E x = some (.pointer (some ⟨b, o, none⟩))) (hy : ev E y = some (.int k i))
    (ht : ar t = some (len, e)) (j : Nat) (hj : i = (j : Int)) (hl : j < len) :
    LX n w0 ⟨dst, .indexAddr t x y, ty, pos, aft, g⟩ E M (.pointer (some ⟨b, o + j, none⟩)) := by
  refine ⟨fun a w ha _ => ?_⟩
  have e1 := ha.eval hx
  have e2 := ha.eval hy
  obtain ⟨h1, h2, h4⟩ := ar_ok ht w
  subst hj
  have h3 : (0 : Int) ≤ (j : Int) ∧ (j : Int) < (len : Int) := by omega
  simp [execOp, e1, e2, Instr.indexAt, asIntOf, h1, h2, add_addr, hl, Instr.sureAddr]

theorem str_und (w : World) : (underlying 9).run P w = .ok .string w := by kernel_rfl

/-- a byte of a string -/
theorem LX.strIdx {x y : Operand} {k : IntKind} {i : Int} {s : ByteArray} (L : List Nat) (hx : ev E x = some (.string s)) (hy : ev E y = some (.int k i))
    (hL : s.data.toList.map (·.toNat) = L) (j : Nat) (hj : i = (j : Int)) (hl : j < L.length) :
    LX n w0 ⟨dst, .index 9 x y, ty, pos, aft, g⟩ E M (.int .u8 (L[j] : Nat)) := by
  refine ⟨fun a w ha _ => ?_⟩
  have e1 := ha.eval hx
  have e2 := ha.eval hy
  subst hj hL
  have h1 : j < s.size := by simpa using hl
  have h2 : s[j]? = some s[j] := by simp [h1]
  have h3 : (List.map (fun x => x.toNat) s.data.toList)[j] = s[j].toNat := by simp; rfl
  simp [execOp, e1, e2, Instr.index, asIntOf, h1]
  rfl

theorem LX.loadC {t : Nat} {x : Operand} {b i : Nat} {v : Value} (hx : ev E x = some (.pointer (some ⟨b, i, none⟩))) (ht : c1 t = true) (hm : w0.cell? ⟨b, i, none⟩ = some v) :
    LX n w0 ⟨dst, .load t x, ty, pos, aft, g⟩ E M v := by
  refine ⟨fun a w ha hw => ?_⟩
  have e1 := ha.eval hx
  have hb : b < w0.heap.size := by
    rcases Nat.lt_or_ge b w0.heap.size with h | h
    · exact h
    · simp [World.cell?, Array.getElem?_eq_none h] at hm
  have hc : w.cell? ⟨b, i, none⟩ = some v := by rw [hw.below.cell hb]; exact hm
  simp [execOp, e1, Instr.loadAt, Instr.sureAddr, loadVar, c1_ok ht w, loadCells, loadCellsFrom, hc, Addr.add]
end

def tab64 : List Int := (List.range 64).map fun j => (((List.range 64).find? fun i => 2 ^ i * 285870213051353865 % 18446744073709551616 / 288230376151711744 == j).getD 0 : Nat)
def len8 : List Nat := [0, 1, 2, 2, 3, 3, 3, 3, 4, 4, 4, 4, 4, 4, 4, 4, 5, 5, 5, 5, 5, 5, 5, 5, 5, 5, 5, 5, 5, 5, 5, 5, 6, 6, 6, 6, 6, 6, 6, 6, 6, 6, 6, 6, 6, 6, 6, 6, 6, 6, 6, 6, 6, 6, 6, 6, 6, 6, 6, 6, 6, 6, 6, 6, 7, 7, 7, 7, 7, 7, 7, 7, 7, 7, 7, 7, 7, 7, 7, 7, 7, 7, 7, 7, 7, 7, 7, 7, 7, 7, 7, 7, 7, 7, 7, 7, 7, 7, 7, 7, 7, 7, 7, 7, 7, 7, 7, 7, 7, 7, 7, 7, 7, 7, 7, 7, 7, 7, 7, 7, 7, 7, 7, 7, 7, 7, 7, 7, 8, 8, 8, 8, 8, 8, 8, 8, 8, 8, 8, 8, 8, 8, 8, 8, 8, 8, 8, 8, 8, 8, 8, 8, 8, 8, 8, 8, 8, 8, 8, 8, 8, 8, 8, 8, 8, 8, 8, 8, 8, 8, 8, 8, 8, 8, 8, 8, 8, 8, 8, 8, 8, 8, 8, 8, 8, 8, 8, 8, 8, 8, 8, 8, 8, 8, 8, 8, 8, 8, 8, 8, 8, 8, 8, 8, 8, 8, 8, 8, 8, 8, 8, 8, 8, 8, 8, 8, 8, 8, 8, 8, 8, 8, 8, 8, 8, 8, 8, 8, 8, 8, 8, 8, 8, 8, 8, 8, 8, 8, 8, 8, 8, 8, 8, 8, 8, 8, 8, 8, 8, 8, 8, 8, 8, 8, 8, 8]
/-- the table of math/bits lies where it is read -/
def Tab (w0 : World) : Prop := ∀ i, i < 64 → w0.cell? ⟨1, i, none⟩ = some (.int .u8 (gt tab64 i))

end Go.Proofs.YtdnngppofbmpeaaGreatDoor.Bm
