/- Proved here: what bits.Len, bits.TrailingZeros, TrailingZeroBitsVarTime and minusInverseModW do; what bits.TrailingZeros, TrailingZeroBitsVarTime and minusInverseModW do; what bits.Mul and addMulVVW do; what addMulVVW does. Conditions: none but those that each theorem states. -/
import Derived.Test.YtdnngppofbmpeaaGreatDoorG8
namespace Go.Proofs.YtdnngppofbmpeaaGreatDoor.Bm
open Go Go.RowKit

theorem len8_bl : ∀ j : Nat, j < 256 → (0 ≤ (j : Int) ∧ (j : Int) < 2 ^ (len8.getD j 0) ∧ (len8.getD j 0 = 0 ∨ (2 : Int) ^ (len8.getD j 0 - 1) ≤ (j : Int))) := by decide +kernel
theorem len8_len : len8.length = 256 := by decide +kernel
theorem len8_le : ∀ j : Nat, j < 256 → len8.getD j 0 ≤ 8 := by decide +kernel
theorem IsBl.shift {x : Int} {k i : Nat} (h : IsBl (x / 2 ^ i) k) (hx : 2 ^ i ≤ x) : IsBl x (k + i) := by
  have hp := pow2_pos i
  have h0 : 0 < x / 2 ^ i := by
    have := Int.le_ediv_of_mul_le hp (show 1 * 2 ^ i ≤ x by omega)
    omega
  have := h.high (a := x % 2 ^ i) (i := i) (Int.emod_nonneg _ (by omega)) (Int.emod_lt_of_pos _ hp) h0
  rw [Int.emod_add_mul_ediv] at this
  rwa [Nat.add_comm]

theorem len8_get (j : Nat) (h : j < 256) : len8[j]'(by rw [len8_len]; exact h) = len8.getD j 0 := by
  rw [List.getD_eq_getElem?_getD, List.getElem?_eq_getElem]; rfl
theorem u8_in {n : Int} (h : 0 ≤ n ∧ n < 256) : IntKind.u8.wrap n = n := by
  have : IntKind.u8.wrap n = n % 256 := by simp [IntKind.wrap, IntKind.bits, IntKind.signed]
  rw [this]; omega

section
variable {w0 : World} {M : Mem}
theorem bitsLen64 {x : Int} (hx : wd x) : CS w0 111 [.int .u64 x] M (fun u M' => (∃ k : Nat, u = .int .i64 k ∧ k ≤ 64 ∧ IsBl x k) ∧ M' = M) := by
  have hx := wd_def hx
  have kk : ∀ k, IsBl x k → IsBl x (k + 0) := fun _ h => h
  refine CS.of Tryz.func111 Tryz.ntmps111 rfl rfl (WC.seq (WC.region (WL.q (LX.assign rfl) rfl (WL.nil (thenK_normal (WC.seq (WC.seq (WC.region (WL.q (LX.move rfl) rfl (WL.q (LX.bin rfl rfl rfl) rfl (WL.nil (thenK_normal ?_))))))))))))
  refine WC.test rfl (fun h0 => ?_) (fun h0 => ?_)
  · have k0 : ∀ k, IsBl (x / 4294967296) k → IsBl x (k + 32) := fun k h => by have := kk _ (h.shift (i := 32) (by omega)); rwa [Nat.add_assoc] at this
    refine WC.seq (WC.region (WL.q (LX.move rfl) rfl (WL.q (LX.eq (LX.shr rfl rfl (by omega) (by omega)) (show _ = Value.int .u64 (x / 4294967296) by rw [show (2 : Int) ^ (min (32 : Int).toNat IntKind.u64.bits) = 4294967296 by decide])) rfl (WL.q (LX.assign rfl) rfl (WL.nil (thenK_normal (WC.region (WL.q (LX.assign rfl) rfl (WL.nil (thenK_normal (WC.seq (WC.seq (WC.region ?_)))))))))))))
    refine WL.q (LX.move rfl) rfl (WL.q (LX.bin rfl rfl rfl) rfl (WL.nil (thenK_normal ?_)))
    refine WC.test rfl (fun h1 => ?_) (fun h1 => ?_)
    · have k1 : ∀ k, IsBl ((x / 4294967296) / 65536) k → IsBl x (k + 48) := fun k h => by have := k0 _ (h.shift (i := 16) (by omega)); rwa [Nat.add_assoc] at this
      refine WC.seq (WC.region (WL.q (LX.move rfl) rfl (WL.q (LX.eq (LX.shr rfl rfl (by omega) (by omega)) (show _ = Value.int .u64 ((x / 4294967296) / 65536) by rw [show (2 : Int) ^ (min (16 : Int).toNat IntKind.u64.bits) = 65536 by decide])) rfl (WL.q (LX.assign rfl) rfl (WL.nil (thenK_normal (WC.region (WL.q (LX.move rfl) rfl (WL.q (LX.addI rfl rfl (by omega)) rfl (WL.q (LX.assign rfl) rfl (WL.nil (thenK_normal (WC.seq ?_)))))))))))))
      refine WC.seq (WC.region (WL.q (LX.move rfl) rfl (WL.q (LX.bin rfl rfl rfl) rfl (WL.nil (thenK_normal ?_)))))
      refine WC.test rfl (fun h2 => ?_) (fun h2 => ?_)
      · have k2 : ∀ k, IsBl (((x / 4294967296) / 65536) / 256) k → IsBl x (k + 56) := fun k h => by have := k1 _ (h.shift (i := 8) (by omega)); rwa [Nat.add_assoc] at this
        have hy8 := len8_bl ((((x / 4294967296) / 65536) / 256)).toNat (by omega)
        have hy9 := len8_le ((((x / 4294967296) / 65536) / 256)).toNat (by omega)
        rw [show (((((x / 4294967296) / 65536) / 256)).toNat : Int) = (((x / 4294967296) / 65536) / 256) by omega] at hy8
        have hg := len8_get ((((x / 4294967296) / 65536) / 256)).toNat (by omega)
        refine WC.seq (WC.region (WL.q (LX.move rfl) rfl (WL.q (LX.eq (LX.shr rfl rfl (by omega) (by omega)) (show _ = Value.int .u64 (((x / 4294967296) / 65536) / 256) by rw [show (2 : Int) ^ (min (8 : Int).toNat IntKind.u64.bits) = 256 by decide])) rfl (WL.q (LX.assign rfl) rfl (WL.nil (thenK_normal (WC.region (WL.q (LX.move rfl) rfl (WL.q (LX.addI rfl rfl (by omega)) rfl (WL.q (LX.assign rfl) rfl (WL.nil (thenK_normal (WC.seq ?_)))))))))))))
        refine WC.region (WL.q (LX.move rfl) rfl (WL.q (LX.move rfl) rfl (WL.q (LX.eq (LX.conv rfl rfl rfl) (by rw [u8_in (by omega)])) rfl ?_)))
        refine WL.q (LX.eq (LX.strIdx len8 rfl rfl (by kernel_rfl) ((((x / 4294967296) / 65536) / 256)).toNat (by omega) (by rw [len8_len]; omega)) (show _ = Value.int .u8 ((len8.getD ((((x / 4294967296) / 65536) / 256)).toNat 0 : Nat) : Int) by rw [hg])) rfl ?_
        refine WL.q (LX.convI rfl rfl rfl (by omega)) rfl (WL.q (LX.addI rfl rfl (by omega)) rfl (WL.q (LX.assign rfl) rfl (WL.nil (thenK_normal (WC.ret ?_)))))
        exact KR.one (.inl rfl) rfl rfl ⟨⟨56 + len8.getD ((((x / 4294967296) / 65536) / 256)).toNat 0, rfl, by omega, Nat.add_comm _ _ ▸ k2 _ ⟨hy8.1, hy8.2.1, hy8.2.2⟩⟩, rfl⟩
      · skip
        have hy8 := len8_bl (((x / 4294967296) / 65536)).toNat (by omega)
        have hy9 := len8_le (((x / 4294967296) / 65536)).toNat (by omega)
        rw [show ((((x / 4294967296) / 65536)).toNat : Int) = ((x / 4294967296) / 65536) by omega] at hy8
        have hg := len8_get (((x / 4294967296) / 65536)).toNat (by omega)
        refine WC.skip (thenK_normal (WC.seq (WC.region (WL.q (LX.move rfl) rfl (WL.q (LX.move rfl) rfl (WL.q (LX.eq (LX.conv rfl rfl rfl) (by rw [u8_in (by omega)])) rfl ?_))))))
        refine WL.q (LX.eq (LX.strIdx len8 rfl rfl (by kernel_rfl) (((x / 4294967296) / 65536)).toNat (by omega) (by rw [len8_len]; omega)) (show _ = Value.int .u8 ((len8.getD (((x / 4294967296) / 65536)).toNat 0 : Nat) : Int) by rw [hg])) rfl ?_
        refine WL.q (LX.convI rfl rfl rfl (by omega)) rfl (WL.q (LX.addI rfl rfl (by omega)) rfl (WL.q (LX.assign rfl) rfl (WL.nil (thenK_normal (WC.ret ?_)))))
        exact KR.one (.inl rfl) rfl rfl ⟨⟨48 + len8.getD (((x / 4294967296) / 65536)).toNat 0, rfl, by omega, Nat.add_comm _ _ ▸ k1 _ ⟨hy8.1, hy8.2.1, hy8.2.2⟩⟩, rfl⟩
    · refine WC.skip (thenK_normal (WC.seq (WC.seq (WC.region (WL.q (LX.move rfl) rfl (WL.q (LX.bin rfl rfl rfl) rfl (WL.nil (thenK_normal ?_))))))))
      refine WC.test rfl (fun h2 => ?_) (fun h2 => ?_)
      · have k2 : ∀ k, IsBl ((x / 4294967296) / 256) k → IsBl x (k + 40) := fun k h => by have := k0 _ (h.shift (i := 8) (by omega)); rwa [Nat.add_assoc] at this
        have hy8 := len8_bl (((x / 4294967296) / 256)).toNat (by omega)
        have hy9 := len8_le (((x / 4294967296) / 256)).toNat (by omega)
        rw [show ((((x / 4294967296) / 256)).toNat : Int) = ((x / 4294967296) / 256) by omega] at hy8
        have hg := len8_get (((x / 4294967296) / 256)).toNat (by omega)
        refine WC.seq (WC.region (WL.q (LX.move rfl) rfl (WL.q (LX.eq (LX.shr rfl rfl (by omega) (by omega)) (show _ = Value.int .u64 ((x / 4294967296) / 256) by rw [show (2 : Int) ^ (min (8 : Int).toNat IntKind.u64.bits) = 256 by decide])) rfl (WL.q (LX.assign rfl) rfl (WL.nil (thenK_normal (WC.region (WL.q (LX.move rfl) rfl (WL.q (LX.addI rfl rfl (by omega)) rfl (WL.q (LX.assign rfl) rfl (WL.nil (thenK_normal (WC.seq ?_)))))))))))))
        refine WC.region (WL.q (LX.move rfl) rfl (WL.q (LX.move rfl) rfl (WL.q (LX.eq (LX.conv rfl rfl rfl) (by rw [u8_in (by omega)])) rfl ?_)))
        refine WL.q (LX.eq (LX.strIdx len8 rfl rfl (by kernel_rfl) (((x / 4294967296) / 256)).toNat (by omega) (by rw [len8_len]; omega)) (show _ = Value.int .u8 ((len8.getD (((x / 4294967296) / 256)).toNat 0 : Nat) : Int) by rw [hg])) rfl ?_
        refine WL.q (LX.convI rfl rfl rfl (by omega)) rfl (WL.q (LX.addI rfl rfl (by omega)) rfl (WL.q (LX.assign rfl) rfl (WL.nil (thenK_normal (WC.ret ?_)))))
        exact KR.one (.inl rfl) rfl rfl ⟨⟨40 + len8.getD (((x / 4294967296) / 256)).toNat 0, rfl, by omega, Nat.add_comm _ _ ▸ k2 _ ⟨hy8.1, hy8.2.1, hy8.2.2⟩⟩, rfl⟩
      · skip
        have hy8 := len8_bl ((x / 4294967296)).toNat (by omega)
        have hy9 := len8_le ((x / 4294967296)).toNat (by omega)
        rw [show (((x / 4294967296)).toNat : Int) = (x / 4294967296) by omega] at hy8
        have hg := len8_get ((x / 4294967296)).toNat (by omega)
        refine WC.skip (thenK_normal (WC.seq (WC.region (WL.q (LX.move rfl) rfl (WL.q (LX.move rfl) rfl (WL.q (LX.eq (LX.conv rfl rfl rfl) (by rw [u8_in (by omega)])) rfl ?_))))))
        refine WL.q (LX.eq (LX.strIdx len8 rfl rfl (by kernel_rfl) ((x / 4294967296)).toNat (by omega) (by rw [len8_len]; omega)) (show _ = Value.int .u8 ((len8.getD ((x / 4294967296)).toNat 0 : Nat) : Int) by rw [hg])) rfl ?_
        refine WL.q (LX.convI rfl rfl rfl (by omega)) rfl (WL.q (LX.addI rfl rfl (by omega)) rfl (WL.q (LX.assign rfl) rfl (WL.nil (thenK_normal (WC.ret ?_)))))
        exact KR.one (.inl rfl) rfl rfl ⟨⟨32 + len8.getD ((x / 4294967296)).toNat 0, rfl, by omega, Nat.add_comm _ _ ▸ k0 _ ⟨hy8.1, hy8.2.1, hy8.2.2⟩⟩, rfl⟩
  · refine WC.skip (thenK_normal (WC.seq (WC.seq (WC.region (WL.q (LX.move rfl) rfl (WL.q (LX.bin rfl rfl rfl) rfl (WL.nil (thenK_normal ?_))))))))
    refine WC.test rfl (fun h1 => ?_) (fun h1 => ?_)
    · have k1 : ∀ k, IsBl (x / 65536) k → IsBl x (k + 16) := fun k h => by have := kk _ (h.shift (i := 16) (by omega)); rwa [Nat.add_assoc] at this
      refine WC.seq (WC.region (WL.q (LX.move rfl) rfl (WL.q (LX.eq (LX.shr rfl rfl (by omega) (by omega)) (show _ = Value.int .u64 (x / 65536) by rw [show (2 : Int) ^ (min (16 : Int).toNat IntKind.u64.bits) = 65536 by decide])) rfl (WL.q (LX.assign rfl) rfl (WL.nil (thenK_normal (WC.region (WL.q (LX.move rfl) rfl (WL.q (LX.addI rfl rfl (by omega)) rfl (WL.q (LX.assign rfl) rfl (WL.nil (thenK_normal (WC.seq ?_)))))))))))))
      refine WC.seq (WC.region (WL.q (LX.move rfl) rfl (WL.q (LX.bin rfl rfl rfl) rfl (WL.nil (thenK_normal ?_)))))
      refine WC.test rfl (fun h2 => ?_) (fun h2 => ?_)
      · have k2 : ∀ k, IsBl ((x / 65536) / 256) k → IsBl x (k + 24) := fun k h => by have := k1 _ (h.shift (i := 8) (by omega)); rwa [Nat.add_assoc] at this
        have hy8 := len8_bl (((x / 65536) / 256)).toNat (by omega)
        have hy9 := len8_le (((x / 65536) / 256)).toNat (by omega)
        rw [show ((((x / 65536) / 256)).toNat : Int) = ((x / 65536) / 256) by omega] at hy8
        have hg := len8_get (((x / 65536) / 256)).toNat (by omega)
        refine WC.seq (WC.region (WL.q (LX.move rfl) rfl (WL.q (LX.eq (LX.shr rfl rfl (by omega) (by omega)) (show _ = Value.int .u64 ((x / 65536) / 256) by rw [show (2 : Int) ^ (min (8 : Int).toNat IntKind.u64.bits) = 256 by decide])) rfl (WL.q (LX.assign rfl) rfl (WL.nil (thenK_normal (WC.region (WL.q (LX.move rfl) rfl (WL.q (LX.addI rfl rfl (by omega)) rfl (WL.q (LX.assign rfl) rfl (WL.nil (thenK_normal (WC.seq ?_)))))))))))))
        refine WC.region (WL.q (LX.move rfl) rfl (WL.q (LX.move rfl) rfl (WL.q (LX.eq (LX.conv rfl rfl rfl) (by rw [u8_in (by omega)])) rfl ?_)))
        refine WL.q (LX.eq (LX.strIdx len8 rfl rfl (by kernel_rfl) (((x / 65536) / 256)).toNat (by omega) (by rw [len8_len]; omega)) (show _ = Value.int .u8 ((len8.getD (((x / 65536) / 256)).toNat 0 : Nat) : Int) by rw [hg])) rfl ?_
        refine WL.q (LX.convI rfl rfl rfl (by omega)) rfl (WL.q (LX.addI rfl rfl (by omega)) rfl (WL.q (LX.assign rfl) rfl (WL.nil (thenK_normal (WC.ret ?_)))))
        exact KR.one (.inl rfl) rfl rfl ⟨⟨24 + len8.getD (((x / 65536) / 256)).toNat 0, rfl, by omega, Nat.add_comm _ _ ▸ k2 _ ⟨hy8.1, hy8.2.1, hy8.2.2⟩⟩, rfl⟩
      · skip
        have hy8 := len8_bl ((x / 65536)).toNat (by omega)
        have hy9 := len8_le ((x / 65536)).toNat (by omega)
        rw [show (((x / 65536)).toNat : Int) = (x / 65536) by omega] at hy8
        have hg := len8_get ((x / 65536)).toNat (by omega)
        refine WC.skip (thenK_normal (WC.seq (WC.region (WL.q (LX.move rfl) rfl (WL.q (LX.move rfl) rfl (WL.q (LX.eq (LX.conv rfl rfl rfl) (by rw [u8_in (by omega)])) rfl ?_))))))
        refine WL.q (LX.eq (LX.strIdx len8 rfl rfl (by kernel_rfl) ((x / 65536)).toNat (by omega) (by rw [len8_len]; omega)) (show _ = Value.int .u8 ((len8.getD ((x / 65536)).toNat 0 : Nat) : Int) by rw [hg])) rfl ?_
        refine WL.q (LX.convI rfl rfl rfl (by omega)) rfl (WL.q (LX.addI rfl rfl (by omega)) rfl (WL.q (LX.assign rfl) rfl (WL.nil (thenK_normal (WC.ret ?_)))))
        exact KR.one (.inl rfl) rfl rfl ⟨⟨16 + len8.getD ((x / 65536)).toNat 0, rfl, by omega, Nat.add_comm _ _ ▸ k1 _ ⟨hy8.1, hy8.2.1, hy8.2.2⟩⟩, rfl⟩
    · refine WC.skip (thenK_normal (WC.seq (WC.seq (WC.region (WL.q (LX.move rfl) rfl (WL.q (LX.bin rfl rfl rfl) rfl (WL.nil (thenK_normal ?_))))))))
      refine WC.test rfl (fun h2 => ?_) (fun h2 => ?_)
      · have k2 : ∀ k, IsBl (x / 256) k → IsBl x (k + 8) := fun k h => by have := kk _ (h.shift (i := 8) (by omega)); rwa [Nat.add_assoc] at this
        have hy8 := len8_bl ((x / 256)).toNat (by omega)
        have hy9 := len8_le ((x / 256)).toNat (by omega)
        rw [show (((x / 256)).toNat : Int) = (x / 256) by omega] at hy8
        have hg := len8_get ((x / 256)).toNat (by omega)
        refine WC.seq (WC.region (WL.q (LX.move rfl) rfl (WL.q (LX.eq (LX.shr rfl rfl (by omega) (by omega)) (show _ = Value.int .u64 (x / 256) by rw [show (2 : Int) ^ (min (8 : Int).toNat IntKind.u64.bits) = 256 by decide])) rfl (WL.q (LX.assign rfl) rfl (WL.nil (thenK_normal (WC.region (WL.q (LX.move rfl) rfl (WL.q (LX.addI rfl rfl (by omega)) rfl (WL.q (LX.assign rfl) rfl (WL.nil (thenK_normal (WC.seq ?_)))))))))))))
        refine WC.region (WL.q (LX.move rfl) rfl (WL.q (LX.move rfl) rfl (WL.q (LX.eq (LX.conv rfl rfl rfl) (by rw [u8_in (by omega)])) rfl ?_)))
        refine WL.q (LX.eq (LX.strIdx len8 rfl rfl (by kernel_rfl) ((x / 256)).toNat (by omega) (by rw [len8_len]; omega)) (show _ = Value.int .u8 ((len8.getD ((x / 256)).toNat 0 : Nat) : Int) by rw [hg])) rfl ?_
        refine WL.q (LX.convI rfl rfl rfl (by omega)) rfl (WL.q (LX.addI rfl rfl (by omega)) rfl (WL.q (LX.assign rfl) rfl (WL.nil (thenK_normal (WC.ret ?_)))))
        exact KR.one (.inl rfl) rfl rfl ⟨⟨8 + len8.getD ((x / 256)).toNat 0, rfl, by omega, Nat.add_comm _ _ ▸ k2 _ ⟨hy8.1, hy8.2.1, hy8.2.2⟩⟩, rfl⟩
      · skip
        have hy8 := len8_bl (x).toNat (by omega)
        have hy9 := len8_le (x).toNat (by omega)
        rw [show ((x).toNat : Int) = x by omega] at hy8
        have hg := len8_get (x).toNat (by omega)
        refine WC.skip (thenK_normal (WC.seq (WC.region (WL.q (LX.move rfl) rfl (WL.q (LX.move rfl) rfl (WL.q (LX.eq (LX.conv rfl rfl rfl) (by rw [u8_in (by omega)])) rfl ?_))))))
        refine WL.q (LX.eq (LX.strIdx len8 rfl rfl (by kernel_rfl) (x).toNat (by omega) (by rw [len8_len]; omega)) (show _ = Value.int .u8 ((len8.getD (x).toNat 0 : Nat) : Int) by rw [hg])) rfl ?_
        refine WL.q (LX.convI rfl rfl rfl (by omega)) rfl (WL.q (LX.addI rfl rfl (by omega)) rfl (WL.q (LX.assign rfl) rfl (WL.nil (thenK_normal (WC.ret ?_)))))
        exact KR.one (.inl rfl) rfl rfl ⟨⟨0 + len8.getD (x).toNat 0, rfl, by omega, Nat.add_comm _ _ ▸ kk _ ⟨hy8.1, hy8.2.1, hy8.2.2⟩⟩, rfl⟩

theorem bitsLen {x : Int} (hx : wd x) : CS w0 98 [.int .u64 x] M (fun u M' => (∃ k : Nat, u = .int .i64 k ∧ k ≤ 64 ∧ IsBl x k) ∧ M' = M) := by
  refine CS.of Tryz.func98 Tryz.ntmps98 rfl rfl (WC.seq (WC.region (WL.q (LX.assign rfl) rfl (WL.nil (thenK_normal (WC.seq (WC.no rfl (WC.skip (thenK_normal (WC.seq (WC.region (WL.q (LX.move rfl) rfl (WL.callR (bitsLen64 hx) rfl (fun _ => by kernel_rfl) rfl ?_)))))))))))))
  rintro _ _ ⟨⟨k, rfl, hk, hb⟩, rfl⟩
  refine WL.q (LX.assign rfl) rfl (WL.nil (thenK_normal (WC.ret ?_)))
  exact KR.one (.inl rfl) rfl rfl ⟨⟨k, rfl, hk, hb⟩, rfl⟩

/-- a number other than 0: its lowest bit -/
theorem low_bit : ∀ a : Nat, 0 < a → ∃ k m : Nat, a = 2 ^ k * (2 * m + 1) := by
  intro a
  induction a using Nat.strongRecOn with
  | ind a ih =>
    intro h
    rcases Nat.mod_two_eq_zero_or_one a with h1 | h1
    · obtain ⟨k, m, hk⟩ := ih (a / 2) (by omega) (by omega)
      exact ⟨k + 1, m, by rw [Nat.pow_succ, Nat.mul_comm (2 ^ k) 2, Nat.mul_assoc, ← hk]; omega⟩
    · exact ⟨0, a / 2, by simp; omega⟩

theorem and_neg {k m : Nat} (h : 2 ^ k * (2 * m + 1) < 18446744073709551616) : 2 ^ k * (2 * m + 1) &&& (2 ^ 64 - 2 ^ k * (2 * m + 1)) = 2 ^ k := by
  have hp : 0 < 2 ^ k := Nat.two_pow_pos k
  have h0 : 2 ^ k * (2 * m + 1) = 2 ^ k * (2 * m) + 2 ^ k := by rw [Nat.mul_add, Nat.mul_one]
  have h1 : 2 ^ 64 - 2 ^ k * (2 * m + 1) = 2 ^ 64 - ((2 ^ k * (2 * m) + (2 ^ k - 1)) + 1) := by omega
  apply Nat.eq_of_testBit_eq
  intro i
  rw [Nat.testBit_and, h1, Nat.testBit_two_pow_sub_succ (by omega), Nat.testBit_two_pow_mul, Nat.testBit_two_pow_mul_add _ (by omega), Nat.testBit_two_pow]
  rcases Nat.lt_trichotomy i k with h2 | h2 | h2
  · simp [show ¬ k ≤ i by omega, show ¬ k = i by omega]
  · subst h2
    have : i < 64 := by
      rcases Nat.lt_or_ge i 64 with h3 | h3
      · exact h3
      · have h4 : 2 ^ 64 ≤ 2 ^ i := Nat.pow_le_pow_right (by omega) h3
        have h5 : 2 ^ i * 1 ≤ 2 ^ i * (2 * m + 1) := Nat.mul_le_mul_left _ (by omega)
        omega
    simp [this]
  · rw [if_neg (by omega)]
    obtain ⟨j, rfl⟩ : ∃ j, i = k + (j + 1) := ⟨i - k - 1, by omega⟩
    rw [show k + (j + 1) - k = j + 1 by omega]
    have e : (2 * m + 1).testBit (j + 1) = (2 * m).testBit (j + 1) := by
      rw [Nat.testBit_succ, Nat.testBit_succ]; congr 1; omega
    rw [e]
    simp
    intro h6 _
    exact h6
end
end Go.Proofs.YtdnngppofbmpeaaGreatDoor.Bm
namespace Go.Proofs.YtdnngppofbmpeaaGreatDoor.Bm
open Go Go.RowKit

theorem tab_ok : ∀ k : Nat, k < 64 → gt tab64 ((2 ^ k * 285870213051353865 % 18446744073709551616) / 288230376151711744) = (k : Int) ∧ (2 ^ k * 285870213051353865 % 18446744073709551616) / 288230376151711744 < 64 := by decide +kernel

/-- how many bits below the lowest that is 1 -/
structure IsTz (x : Int) (k : Nat) : Prop where
  dvd : x % 2 ^ k = 0
  odd : x / 2 ^ k % 2 = 1

theorem tz_word {x : Int} (hx : wd x) (h0 : x ≠ 0) : ∃ k : Nat, k < 64 ∧ IsTz x k ∧ bits .and .u64 x (IntKind.u64.wrap (0 - x)) = ((2 ^ k : Nat) : Int) := by
  obtain ⟨a, rfl, ha⟩ := wd_nat hx
  obtain ⟨k, m, hk⟩ := low_bit a (by omega)
  have hp : 0 < 2 ^ k := Nat.two_pow_pos k
  have hk64 : k < 64 := by
    rcases Nat.lt_or_ge k 64 with h | h
    · exact h
    · have h4 : 2 ^ 64 ≤ 2 ^ k := Nat.pow_le_pow_right (by omega) h
      have h5 : 2 ^ k * 1 ≤ 2 ^ k * (2 * m + 1) := Nat.mul_le_mul_left _ (by omega)
      omega
  refine ⟨k, hk64, ⟨?_, ?_⟩, ?_⟩
  · have : a % 2 ^ k = 0 := by rw [hk]; exact Nat.mul_mod_right _ _
    exact_mod_cast this
  · have : a / 2 ^ k % 2 = 1 := by rw [hk, Nat.mul_div_cancel_left _ hp]; omega
    exact_mod_cast this
  · have h1 : IntKind.u64.wrap (0 - (a : Int)) = ((2 ^ 64 - a : Nat) : Int) := by
      rw [IntKind.wrap_u64]; omega
    rw [h1, bits_and_u64_nat a (2 ^ 64 - a) ha (by omega)]
    congr 1
    rw [hk]
    exact and_neg (by omega)

theorem mul_idx (a : Nat) : IntKind.u64.wrap ((a : Int) * 285870213051353865) / 2 ^ (min (58 : Int).toNat IntKind.u64.bits) = (((a * 285870213051353865 % 18446744073709551616) / 288230376151711744 : Nat) : Int) := by
  rw [IntKind.wrap_u64, show (2 : Int) ^ (min (58 : Int).toNat IntKind.u64.bits) = 288230376151711744 by decide]
  omega

section
variable {w0 : World} {M : Mem}
theorem tz64 {x : Int} (hT : Tab w0) (hx : wd x) (h0 : x ≠ 0) : CS w0 113 [.int .u64 x] M (fun u M' => (∃ k : Nat, u = .int .i64 k ∧ k < 64 ∧ IsTz x k) ∧ M' = M) := by
  obtain ⟨k, hk, ht, hw⟩ := tz_word hx h0
  obtain ⟨h1, h2⟩ := tab_ok k hk
  have hi := mul_idx (2 ^ k)
  refine CS.of Tryz.func113 Tryz.ntmps113 rfl rfl (WC.seq (WC.region (WL.q (LX.assign rfl) rfl (WL.nil (thenK_normal (WC.seq (WC.seq (WC.region (WL.q (LX.move rfl) rfl (WL.q (LX.bin rfl rfl rfl) rfl (WL.nil (thenK_normal ?_))))))))))))
  refine WC.test rfl (fun h => absurd h h0) (fun _ => ?_)
  refine WC.skip (thenK_normal (WC.seq (WC.region (WL.q (LX.move rfl) rfl (WL.q (LX.move rfl) rfl (WL.q (LX.neg rfl) rfl (WL.q (LX.eq (LX.bin rfl rfl rfl) (by rw [hw])) rfl ?_)))))))
  refine WL.q (LX.bin rfl rfl rfl) rfl (WL.q (LX.eq (LX.shr rfl rfl (by omega) (by rw [IntKind.wrap_u64]; omega)) (by rw [hi])) rfl ?_)
  refine WL.q (LX.eq (LX.idxA rfl rfl rfl _ rfl h2) (by rw [Nat.zero_add])) rfl ?_
  refine WL.q (LX.loadC rfl rfl (hT _ h2)) rfl (WL.q (LX.convI rfl rfl rfl (by omega)) rfl (WL.q (LX.assign rfl) rfl (WL.nil (thenK_normal (WC.ret ?_)))))
  exact KR.one (.inl rfl) rfl rfl ⟨⟨k, by rw [h1], hk, ht⟩, rfl⟩

theorem tz {x : Int} (hT : Tab w0) (hx : wd x) (h0 : x ≠ 0) : CS w0 102 [.int .u64 x] M (fun u M' => (∃ k : Nat, u = .int .i64 k ∧ k < 64 ∧ IsTz x k) ∧ M' = M) := by
  refine CS.of Tryz.func102 Tryz.ntmps102 rfl rfl (WC.seq (WC.region (WL.q (LX.assign rfl) rfl (WL.nil (thenK_normal (WC.seq (WC.no rfl (WC.skip (thenK_normal (WC.seq (WC.region (WL.q (LX.move rfl) rfl (WL.callR (tz64 hT hx h0) rfl (fun _ => by kernel_rfl) rfl ?_)))))))))))))
  rintro _ _ ⟨⟨k, rfl, hk, hb⟩, rfl⟩
  refine WL.q (LX.assign rfl) rfl (WL.nil (thenK_normal (WC.ret ?_)))
  exact KR.one (.inl rfl) rfl rfl ⟨⟨k, rfl, hk, hb⟩, rfl⟩

theorem IsTz.high {a x : Int} {i k : Nat} (h : IsTz x k) (ha : a = 0) : IsTz (a + 2 ^ i * x) (i + k) := by
  subst ha
  have hp := pow2_pos i
  have hq := pow2_pos k
  rw [Int.zero_add]
  refine ⟨?_, ?_⟩
  · rw [Int.pow_add, Int.mul_emod_mul_of_pos _ _ hp, h.dvd, Int.mul_zero]
  · rw [Int.pow_add, Int.mul_ediv_mul_of_pos _ _ hp, h.odd]
theorem IsTz.low {x y : Int} {k j : Nat} (h : IsTz x k) (hj : k < j) : IsTz (x + 2 ^ j * y) k := by
  have hq := pow2_pos k
  obtain ⟨d, rfl⟩ : ∃ d, j = k + (d + 1) := ⟨j - k - 1, by omega⟩
  have e : x + 2 ^ (k + (d + 1)) * y = x + 2 ^ k * (2 * (2 ^ d * y)) := by rw [Int.pow_add, pow2_succ]; grind
  rw [e]
  refine ⟨by rw [Int.add_mul_emod_self_left]; exact h.dvd, ?_⟩
  rw [Int.add_mul_ediv_left _ _ (by omega)]
  have := h.odd
  omega

/-- TrailingZeroBitsVarTime of a number above 0 -/
theorem ntz {p l n c : Nat} {X : Int} {xs : List Int} (hT : Tab w0) (hx : NV n c X xs) (hp : (p, natO l n c) ∈ M) (hl : (l, words xs) ∈ M) (h0 : X ≠ 0) :
    CS w0 59 [ptr p] M (fun u M' => (∃ k : Nat, u = .int .u64 k ∧ k < 64 * n ∧ IsTz X k) ∧ M' = M) := by
  obtain ⟨hxl, hxn, hxs, hxd, hxv⟩ := id hx
  refine CS.of Tryz.func59 Tryz.ntmps59 rfl rfl (WC.seq (WC.region (WL.q (LX.assign rfl) rfl (WL.nil (thenK_normal (WC.seq (WC.region (WL.q (LX.assign rfl) rfl (WL.nil (thenK_normal (WC.seq (WC.region (WL.q (LX.move rfl) rfl ?_)))))))))))))
  refine WL.q (LX.nilCheck rfl) rfl (WL.q (LX.field0 rfl rfl) rfl ?_)
  refine WL.q (LX.load rfl rfl (by repeat first | assumption | exact List.mem_cons_self | refine List.mem_cons_of_mem _ ?_) rfl) rfl ?_
  refine WL.q (LX.assign rfl) rfl (WL.nil (thenK_normal (WC.seq (WC.seq (WC.region (WL.q (LX.move rfl) rfl (WL.q (LX.len rfl rfl rfl) rfl (WL.q (LX.move rfl) rfl (WL.nil (thenK_normal (WC.block (WC.loopS (fun j : Nat => [(3, .int .u64 ((64 * j : Nat) : Int)), (11, .slice (some ⟨l, 0, none⟩) n c), (12, .int .i64 n), (13, .int .i64 j)]) (fun _ => M) (fun j => j ≤ n ∧ dv W64 (xs.take j) = 0) (fun j => n - j) 0 ⟨Nat.zero_le _, rfl⟩ (.cons rfl (.cons rfl (.cons rfl (.cons rfl .nil)))) rfl ?_))))))))))))
  rintro j ⟨hj, hv⟩
  have hx1 := dg_gt hxd j
  refine WC.seq (WC.region (WL.q (LX.bin rfl rfl rfl) rfl (WL.nil (thenK_normal (WC.seq ?_)))))
  refine WC.test rfl (fun hlt => ?_) (fun hge => ?_)
  · refine WC.skip (thenK_normal (WC.seq (WC.block (WC.seq (WC.region (WL.q (LX.idx1 rfl rfl rfl _ rfl (by omega)) rfl ?_))))))
    refine WL.q (LX.loadRow rfl rfl (by repeat first | assumption | exact List.mem_cons_self | refine List.mem_cons_of_mem _ ?_) (by omega)) rfl ?_
    refine WL.q (LX.assign rfl) rfl (WL.nil (thenK_normal (WC.seq (WC.seq (WC.region (WL.q (LX.move rfl) rfl (WL.q (LX.bin rfl rfl rfl) rfl (WL.nil (thenK_normal ?_)))))))))
    refine WC.test rfl (fun hz => ?_) (fun hz => ?_)
    · refine WC.seq (WC.region (WL.q (LX.move rfl) rfl (WL.q (LX.eq (LX.bin rfl rfl rfl) (show _ = Value.int .u64 ((64 * (j + 1) : Nat) : Int) by rw [u64_in (by omega)]; congr 1)) rfl (WL.q (LX.assign rfl) rfl (WL.nil (thenK_normal (WC.exit (thenK_exit (blockK_same (thenK_normal (WC.region (WL.q (LX.addI rfl rfl (by omega)) rfl (WL.q (LX.move rfl) rfl ?_)))))))))))))
      refine WL.nil ?_
      exact loopS_next (j + 1) ⟨by omega, by rw [dv_take_gt W64 (by omega), hv, hz]; simp⟩ (by omega) (.cons rfl (.cons rfl (.cons rfl (.cons rfl .nil)))) rfl
    · refine WC.skip (thenK_normal (WC.seq (WC.region (WL.q (LX.move rfl) rfl (WL.q (LX.move rfl) rfl (WL.callR (tz hT hx1 hz) rfl (fun _ => by kernel_rfl) rfl ?_))))))
      rintro _ _ ⟨⟨k, rfl, hk, ht⟩, rfl⟩
      refine WL.q (LX.convU rfl rfl rfl (by omega)) rfl (WL.q (LX.eq (LX.bin rfl rfl rfl) (show _ = Value.int .u64 ((64 * j + k : Nat) : Int) by rw [u64_in (by omega)]; congr 1)) rfl (WL.q (LX.assign rfl) rfl (WL.nil (thenK_normal (WC.exit (blockK_other rfl (thenK_exit (loopS_exit (blockK_same (thenK_normal (WC.seq (WC.region (WL.q (LX.move rfl) rfl ?_)))))))))))))
      refine WL.q (LX.assign rfl) rfl (WL.nil (thenK_normal (WC.ret ?_)))
      refine KR.one (.inl rfl) rfl rfl ⟨⟨64 * j + k, rfl, by omega, ?_⟩, rfl⟩
      rw [← hxv, dv_split W64 (xs.take n) (j + 1) (by simp; omega), List.take_take, Nat.min_eq_left (by omega), dv_take_gt W64 (by omega), W64_two, W64_two]
      exact (ht.high hv).low (by omega)
  · refine WC.exit (thenK_exit (loopS_exit (blockK_same (thenK_normal (WC.seq (WC.region (WL.q (LX.move rfl) rfl (WL.q (LX.assign rfl) rfl (WL.nil (thenK_normal (WC.ret ?_)))))))))))
    obtain rfl : j = n := by omega
    exact absurd (hxv.symm.trans hv) h0

theorem W64_2 : W64 = 2 ^ 64 := by unfold W64; decide
theorem dvd_of_mod {a b : Int} (h : a % b = 0) : ∃ c, a = b * c := Int.dvd_of_emod_eq_zero h

/-- the step of Newton's -/
theorem newton {x y : Int} {e : Nat} (he : e ≤ 64) (h : ∃ t, x * y = 1 + 2 ^ e * t) : ∃ t, x * (IntKind.u64.wrap (y * IntKind.u64.wrap (2 - IntKind.u64.wrap (x * y)))) = 1 + 2 ^ (min 64 (2 * e)) * t := by
  obtain ⟨t, ht⟩ := h
  simp only [IntKind.wrap_u64]
  have hW : (18446744073709551616 : Int) = 2 ^ 64 := by decide
  rw [hW]
  generalize hA : (2 : Int) ^ 64 = A
  have e1 := Int.mul_ediv_add_emod (x * y) A
  have e2 := Int.mul_ediv_add_emod (2 - x * y % A) A
  have e3 := Int.mul_ediv_add_emod (y * ((2 - x * y % A) % A)) A
  generalize x * y / A = q1 at *
  generalize x * y % A = r1 at *
  generalize (2 - r1) / A = q2 at *
  generalize (2 - r1) % A = r2 at *
  generalize y * r2 / A = q3 at *
  generalize y * r2 % A = r3 at *
  obtain ⟨u, hu⟩ : ∃ u, A = 2 ^ (min 64 (2 * e)) * u := ⟨2 ^ (64 - min 64 (2 * e)), by rw [← hA, ← Int.pow_add]; congr 1; omega⟩
  obtain ⟨v, hv⟩ : ∃ v, (2 : Int) ^ e * 2 ^ e = 2 ^ (min 64 (2 * e)) * v := ⟨2 ^ (2 * e - min 64 (2 * e)), by rw [← Int.pow_add, ← Int.pow_add]; congr 1; omega⟩
  generalize (2 : Int) ^ (min 64 (2 * e)) = B at *
  generalize (2 : Int) ^ e = C at *
  refine ⟨- v * t * t - u * x * q3 + u * (x * y) * (q1 - q2), ?_⟩
  grind

/-- minusInverseModW of an odd number -/
theorem minv {x : Int} (hx : wd x) (ho : x % 2 = 1) : CS w0 80 [.int .u64 x] M (fun u M' => (∃ r, u = .int .u64 r ∧ wd r ∧ (x * r + 1) % W64 = 0) ∧ M' = M) := by
  refine CS.of Tryz.func80 Tryz.ntmps80 rfl rfl (WC.seq (WC.region (WL.q (LX.assign rfl) rfl (WL.nil (thenK_normal (WC.seq (WC.region (WL.q (LX.move rfl) rfl (WL.q (LX.assign rfl) rfl (WL.nil (thenK_normal (WC.seq (WC.seq ?_)))))))))))))
  refine WC.region (WL.q (LX.assign rfl) rfl (WL.nil (thenK_normal (WC.block ?_))))
  refine WC.loopS (fun s : Nat × Int => [(0, .int .u64 x), (3, .int .u64 s.2), (4, .int .i64 s.1)]) (fun _ => M) (fun s => s.1 ≤ 5 ∧ wd s.2 ∧ ∃ t, x * s.2 = 1 + 2 ^ (min 64 (3 * 2 ^ s.1)) * t) (fun s => 5 - s.1) (0, x) ⟨by omega, hx, ?_⟩ (.cons rfl (.cons rfl (.cons rfl .nil))) rfl ?_
  · have h1 : (x * x) % 8 = 1 := by
      rw [Int.mul_emod]
      have : x % 8 = 1 ∨ x % 8 = 3 ∨ x % 8 = 5 ∨ x % 8 = 7 := by omega
      rcases this with h | h | h | h <;> rw [h] <;> rfl
    exact ⟨x * x / 8, by have : (2 : Int) ^ (min 64 (3 * 2 ^ 0)) = 8 := by decide
                         dsimp only; rw [this]; omega⟩
  rintro ⟨i, y⟩ ⟨hi, hy, ht⟩
  dsimp only at hi hy ht ⊢
  refine WC.seq (WC.seq (WC.region (WL.q (LX.move rfl) rfl (WL.q (LX.bin rfl rfl rfl) rfl (WL.nil (thenK_normal ?_))))))
  refine WC.test rfl (fun hlt => ?_) (fun hge => ?_)
  · refine WC.skip (thenK_normal (WC.seq (WC.block (WC.region (WL.q (LX.move rfl) rfl (WL.q (LX.move rfl) rfl (WL.q (LX.move rfl) rfl (WL.q (LX.bin rfl rfl rfl) rfl (WL.q (LX.bin rfl rfl rfl) rfl (WL.q (LX.bin rfl rfl rfl) rfl (WL.q (LX.assign rfl) rfl (WL.nil (blockK_normal ?_)))))))))))))
    refine thenK_normal (WC.region (WL.q (LX.move rfl) rfl (WL.q (LX.addI rfl rfl (by omega)) rfl (WL.q (LX.assign rfl) rfl (WL.nil ?_)))))
    refine loopS_next (i + 1, _) ⟨by omega, ?_, ?_⟩ (by simp; omega) (.cons rfl (.cons rfl (.cons rfl .nil))) rfl
    · dsimp only; rw [IntKind.wrap_u64]; exact wd_mod _
    · have := newton (e := min 64 (3 * 2 ^ i)) (by omega) ht
      have e : min 64 (2 * min 64 (3 * 2 ^ i)) = min 64 (3 * 2 ^ (i + 1)) := by rw [Nat.pow_succ]; omega
      rwa [e] at this
  · refine WC.exit (thenK_exit (loopS_exit (blockK_same (thenK_normal (WC.seq (WC.region (WL.q (LX.move rfl) rfl (WL.q (LX.neg rfl) rfl (WL.q (LX.assign rfl) rfl (WL.nil (thenK_normal (WC.ret ?_))))))))))))
    obtain rfl : i = 5 := by omega
    refine KR.one (.inl rfl) rfl rfl ⟨⟨_, rfl, ?_, ?_⟩, rfl⟩
    · rw [IntKind.wrap_u64]; exact wd_mod _
    · obtain ⟨t, ht⟩ := ht
      rw [show min 64 (3 * 2 ^ 5) = 64 by decide, ← W64_2] at ht
      rw [IntKind.wrap_u64]
      have e1 := Int.mul_ediv_add_emod (0 - y) 18446744073709551616
      generalize (0 - y) / 18446744073709551616 = q at *
      generalize (0 - y) % 18446744073709551616 = r at *
      have : x * r + 1 = W64 * (- t - x * q) := by unfold W64 at *; grind
      rw [this, Int.mul_emod_right]
end
end Go.Proofs.YtdnngppofbmpeaaGreatDoor.Bm
namespace Go.Proofs.YtdnngppofbmpeaaGreatDoor.Bm
open Go Go.RowKit

theorem mask32 {x : Int} (h : wd x) : bits .and .u64 x 4294967295 = x % 4294967296 :=
  bits_mask .u64 64 (by decide) (fun n h0 h1 => u64_in ⟨h0, h1⟩) 32 (by decide) x h.1 h.2
theorem sh32 {x : Int} : x / 2 ^ (min (32 : Int).toNat IntKind.u64.bits) = x / 4294967296 := by rw [show (2 : Int) ^ (min (32 : Int).toNat IntKind.u64.bits) = 4294967296 by decide]
theorem mul_bd {a b : Int} (ha : 0 ≤ a ∧ a < 4294967296) (hb : 0 ≤ b ∧ b < 4294967296) : 0 ≤ a * b ∧ a * b ≤ 18446744065119617025 := by
  refine ⟨Int.mul_nonneg ha.1 hb.1, ?_⟩
  have : a * b ≤ 4294967295 * 4294967295 := Int.mul_le_mul (by omega) (by omega) hb.1 (by omega)
  omega
theorem mul_parts (x y : Int) : x * y = (x / 4294967296) * (y / 4294967296) * 18446744073709551616 + ((x / 4294967296) * (y % 4294967296) + (x % 4294967296) * (y / 4294967296)) * 4294967296 + (x % 4294967296) * (y % 4294967296) := by
  have h1 := Int.mul_ediv_add_emod x 4294967296
  have h2 := Int.mul_ediv_add_emod y 4294967296
  generalize x / 4294967296 = x1 at *
  generalize x % 4294967296 = x0 at *
  generalize y / 4294967296 = y1 at *
  generalize y % 4294967296 = y0 at *
  subst h1 h2
  grind
theorem mul_hi {a b c d p : Int} (ha : 0 ≤ a ∧ a ≤ 18446744065119617025) (hb : 0 ≤ b ∧ b ≤ 18446744065119617025) (hc : 0 ≤ c ∧ c ≤ 18446744065119617025) (hd : 0 ≤ d ∧ d ≤ 18446744065119617025) (hp : p = d * 18446744073709551616 + (b + c) * 4294967296 + a) :
    d + (b + a / 4294967296) / 4294967296 + ((b + a / 4294967296) % 4294967296 + c) / 4294967296 = p / 18446744073709551616 := by omega

section
variable {w0 : World} {M : Mem}
theorem mul64 {x y : Int} (hx : wd x) (hy : wd y) : CS w0 123 [.int .u64 x, .int .u64 y] M (fun v M' => v = .tuple #[.int .u64 (x * y / W64), .int .u64 (x * y % W64)] ∧ M' = M) := by
  have hx' := wd_def hx
  have hy' := wd_def hy
  have ha := mul_bd (a := x % 4294967296) (b := y % 4294967296) (by omega) (by omega)
  have hb := mul_bd (a := x / 4294967296) (b := y % 4294967296) (by omega) (by omega)
  have hc := mul_bd (a := x % 4294967296) (b := y / 4294967296) (by omega) (by omega)
  have hd := mul_bd (a := x / 4294967296) (b := y / 4294967296) (by omega) (by omega)
  have hp := mul_parts x y
  have hh := mul_hi ha hb hc hd hp
  have hlt : x * y / 18446744073709551616 < 18446744073709551616 := by omega
  have h0 : 0 ≤ x * y := Int.mul_nonneg hx'.1 hy'.1
  refine CS.of Tryz.func123 Tryz.ntmps123 rfl rfl (WC.seq (WC.region (WL.q (LX.assign rfl) rfl (WL.q (LX.assign rfl) rfl (WL.nil (thenK_normal (WC.seq (WC.region (WL.q (LX.move rfl) rfl (WL.q (LX.eq (LX.bin rfl rfl rfl) (by rw [mask32 hx])) rfl ?_))))))))))
  refine WL.q (LX.assign rfl) rfl (WL.nil (thenK_normal (WC.seq (WC.region (WL.q (LX.move rfl) rfl (WL.q (LX.eq (LX.shr rfl rfl (by omega) (by omega)) (by rw [sh32])) rfl ?_))))))
  refine WL.q (LX.assign rfl) rfl (WL.nil (thenK_normal (WC.seq (WC.region (WL.q (LX.move rfl) rfl (WL.q (LX.eq (LX.bin rfl rfl rfl) (by rw [mask32 hy])) rfl ?_))))))
  refine WL.q (LX.assign rfl) rfl (WL.nil (thenK_normal (WC.seq (WC.region (WL.q (LX.move rfl) rfl (WL.q (LX.eq (LX.shr rfl rfl (by omega) (by omega)) (by rw [sh32])) rfl ?_))))))
  refine WL.q (LX.assign rfl) rfl (WL.nil (thenK_normal (WC.seq (WC.region (WL.q (LX.move rfl) rfl (WL.q (LX.move rfl) rfl (WL.q (LX.eq (LX.bin rfl rfl rfl) (by rw [u64_in (by omega)])) rfl ?_)))))))
  refine WL.q (LX.assign rfl) rfl (WL.nil (thenK_normal (WC.seq (WC.region (WL.q (LX.move rfl) rfl (WL.q (LX.move rfl) rfl (WL.q (LX.eq (LX.bin rfl rfl rfl) (by rw [u64_in (by omega)])) rfl ?_)))))))
  refine WL.q (LX.move rfl) rfl (WL.q (LX.eq (LX.shr rfl rfl (by omega) (by omega)) (by rw [sh32])) rfl ?_)
  refine WL.q (LX.eq (LX.bin rfl rfl rfl) (by rw [u64_in (by omega)])) rfl ?_
  refine WL.q (LX.assign rfl) rfl (WL.nil (thenK_normal (WC.seq (WC.region (WL.q (LX.move rfl) rfl (WL.q (LX.eq (LX.bin rfl rfl rfl) (by rw [mask32 (by unfold wd W64; omega)])) rfl ?_))))))
  refine WL.q (LX.assign rfl) rfl (WL.nil (thenK_normal (WC.seq (WC.region (WL.q (LX.move rfl) rfl (WL.q (LX.eq (LX.shr rfl rfl (by omega) (by omega)) (by rw [sh32])) rfl ?_))))))
  refine WL.q (LX.assign rfl) rfl (WL.nil (thenK_normal (WC.seq (WC.region (WL.q (LX.move rfl) rfl (WL.q (LX.move rfl) rfl (WL.q (LX.move rfl) rfl (WL.q (LX.eq (LX.bin rfl rfl rfl) (by rw [u64_in (by omega)])) rfl ?_))))))))
  refine WL.q (LX.eq (LX.bin rfl rfl rfl) (by rw [u64_in (by omega)])) rfl ?_
  refine WL.q (LX.assign rfl) rfl (WL.nil (thenK_normal (WC.seq (WC.region (WL.q (LX.move rfl) rfl (WL.q (LX.move rfl) rfl (WL.q (LX.eq (LX.bin rfl rfl rfl) (by rw [u64_in (by omega)])) rfl ?_)))))))
  refine WL.q (LX.move rfl) rfl (WL.q (LX.eq (LX.bin rfl rfl rfl) (by rw [u64_in (by omega)])) rfl ?_)
  refine WL.q (LX.move rfl) rfl (WL.q (LX.eq (LX.shr rfl rfl (by omega) (by omega)) (by rw [sh32])) rfl ?_)
  refine WL.q (LX.eq (LX.bin rfl rfl rfl) (by rw [hh, u64_in (by omega)])) rfl ?_
  refine WL.q (LX.assign rfl) rfl (WL.nil (thenK_normal (WC.seq (WC.region (WL.q (LX.move rfl) rfl (WL.q (LX.move rfl) rfl (WL.q (LX.eq (LX.bin rfl rfl rfl) (by rw [IntKind.wrap_u64])) rfl ?_)))))))
  refine WL.q (LX.assign rfl) rfl (WL.nil (thenK_normal (WC.ret ?_)))
  exact KR.two (.inl rfl) rfl rfl rfl ⟨rfl, rfl⟩
theorem bitsMul {x y : Int} (hx : wd x) (hy : wd y) : CS w0 109 [.int .u64 x, .int .u64 y] M (fun v M' => v = .tuple #[.int .u64 (x * y / W64), .int .u64 (x * y % W64)] ∧ M' = M) := by
  refine CS.of Tryz.func109 Tryz.ntmps109 rfl rfl (WC.seq (WC.region (WL.q (LX.assign rfl) rfl (WL.q (LX.assign rfl) rfl (WL.nil (thenK_normal (WC.seq (WC.no rfl (WC.skip (thenK_normal (WC.seq (WC.region (WL.q (LX.move rfl) rfl ?_)))))))))))))
  refine WL.q (LX.move rfl) rfl (WL.call (mul64 hx hy) rfl (fun _ => by kernel_rfl) rfl (WL.q (LX.move rfl) rfl (WL.q (LX.extract rfl rfl) rfl (WL.q (LX.extract rfl rfl) rfl (WL.q (LX.assign rfl) rfl (WL.q (LX.assign rfl) rfl (WL.nil (thenK_normal (WC.seq (WC.region (WL.q (LX.move rfl) rfl (WL.q (LX.move rfl) rfl (WL.q (LX.assign rfl) rfl ?_)))))))))))))
  refine WL.q (LX.assign rfl) rfl (WL.nil (thenK_normal (WC.ret ?_)))
  exact KR.two (.inl rfl) rfl rfl rfl ⟨rfl, rfl⟩

/-- what one word of addMulVVW gives: z + x*y + carry -/
theorem amv_step {p z k : Int} (hp0 : 0 ≤ p) (hp : p ≤ 18446744073709551615 * 18446744073709551615) (hz : wd z) (hk : wd k) :
    sumW (sumW (p / W64) 0 (sumC (p % W64) z 0)) 0 (sumC (sumW (p % W64) z 0) k 0) = (p + z + k) / W64 ∧ sumW (sumW (p % W64) z 0) k 0 = (p + z + k) % W64 := by
  have hz := wd_def hz
  have hk := wd_def hk
  unfold sumW sumC W64
  constructor <;> omega
end
end Go.Proofs.YtdnngppofbmpeaaGreatDoor.Bm
namespace Go.Proofs.YtdnngppofbmpeaaGreatDoor.Bm
open Go Go.RowKit

theorem sliceL_set {xs : List Int} {o j : Nat} {v : Int} : sliceL (xs.set (o + j) v) o j = sliceL xs o j := by
  unfold sliceL
  rw [List.drop_set, if_neg (by omega), show o + j - o = j by omega, take_set_le (Nat.le_refl _)]
theorem dv_slice_set {xs : List Int} {o j : Nat} {v : Int} (h : o + j < xs.length) : dv W64 (sliceL (xs.set (o + j) v) o (j + 1)) = dv W64 (sliceL xs o j) + W64 ^ j * v := by
  rw [dv_slice_snoc (by simpa using h), sliceL_set, gt_set_eq h]

/-- zs' is zs but for the places from o to j -/
structure Wn (o j : Nat) (zs zs' : List Int) : Prop where
  len : zs'.length = zs.length
  dg : Dg W64 zs'
  lo : zs'.take o = zs.take o
  hi : zs'.drop (o + j) = zs.drop (o + j)
theorem Wn.next {o j : Nat} {zs zs' : List Int} (h : Wn o j zs zs') {v : Int} (hv : wd v) : Wn o (j + 1) zs (zs'.set (o + j) v) :=
  ⟨by rw [List.length_set]; exact h.len, h.dg.set hv.1 hv.2 _, by rw [take_set_le (by omega)]; exact h.lo, by rw [← Nat.add_assoc, drop_set_gt]; exact drop_next h.hi⟩

theorem amv_lin {S S' A X y x k z p r W c : Int} (h : S' + A * k = S + y * X) (hp : p = x * y) (hr : r + W * c = p + z + k) : S' + A * r + (A * W) * c = S + A * z + y * (X + A * x) := by
  subst hp; grind
theorem mul_word {x y : Int} (hx : wd x) (hy : wd y) : 0 ≤ x * y ∧ x * y ≤ 18446744073709551615 * 18446744073709551615 := by
  have hx := wd_def hx
  have hy := wd_def hy
  exact ⟨Int.mul_nonneg hx.1 hy.1, Int.mul_le_mul (by omega) (by omega) hy.1 (by omega)⟩

section
variable {w0 : World} {M : Mem}
theorem amv {lz o n cz lx nx cx : Nat} {zs xs : List Int} {y : Int} (hz : o + n ≤ zs.length) (hzs : zs.length ≤ 1000) (hzd : Dg W64 zs) (hx : n ≤ xs.length) (hxd : Dg W64 xs) (hnx : n ≤ nx) (hy : wd y) (hn : 0 < n) (hlx : (lx, words xs) ∈ M) :
    CS w0 94 [.slice (some ⟨lz, o, none⟩) n cz, .slice (some ⟨lx, 0, none⟩) nx cx, .int .u64 y] ((lz, words zs) :: M)
      (fun u M' => ∃ zs' k, wd k ∧ u = .int .u64 k ∧ Wn o n zs zs' ∧ dv W64 (sliceL zs' o n) + W64 ^ n * k = dv W64 (sliceL zs o n) + y * dv W64 (xs.take n) ∧ M' = (lz, words zs') :: M) := by
  refine CS.of Tryz.func94 Tryz.ntmps94 rfl rfl (WC.seq (WC.region (WL.q (LX.assign rfl) rfl (WL.nil (thenK_normal (WC.seq (WC.region (WL.q (LX.move rfl) rfl (WL.q (LX.move rfl) rfl (WL.q (LX.len rfl rfl rfl) rfl (WL.q (LX.subI rfl rfl (by omega)) rfl (WL.q (LX.idx1 rfl rfl rfl (n - 1) (by omega) (by omega)) rfl ?_))))))))))))
  refine WL.q (LX.loadRow rfl rfl (by repeat first | assumption | exact List.mem_cons_self | refine List.mem_cons_of_mem _ ?_) (by omega)) rfl ?_
  refine WL.nil (thenK_normal (WC.seq (WC.seq (WC.region (WL.q (LX.move rfl) rfl (WL.q (LX.len rfl rfl rfl) rfl (WL.q (LX.move rfl) rfl (WL.nil (thenK_normal (WC.block ?_))))))))))
  refine WC.loopS (fun s : Nat × List Int × Int => [(0, .slice (some ⟨lz, o, none⟩) n cz), (1, .slice (some ⟨lx, 0, none⟩) nx cx), (2, .int .u64 y), (6, .int .u64 s.2.2), (18, .int .i64 n), (19, .int .i64 s.1)]) (fun s => (lz, words s.2.1) :: M)
    (fun s => s.1 ≤ n ∧ Wn o s.1 zs s.2.1 ∧ wd s.2.2 ∧ dv W64 (sliceL s.2.1 o s.1) + W64 ^ s.1 * s.2.2 = dv W64 (sliceL zs o s.1) + y * dv W64 (xs.take s.1)) (fun s => n - s.1) (0, zs, 0)
    ⟨Nat.zero_le _, ⟨rfl, hzd, rfl, rfl⟩, wd_zero, by simp [sliceL]⟩ (.cons rfl (.cons rfl (.cons rfl (.cons rfl (.cons rfl (.cons rfl .nil)))))) rfl ?_
  rintro ⟨j, us, k⟩ ⟨hj, hw, hk, hv⟩
  dsimp only at hj hw hk hv ⊢
  have hul := hw.len
  have hx1 := dg_gt hxd j
  have hz1 := dg_gt hw.dg (o + j)
  have hze : gt us (o + j) = gt zs (o + j) := gt_drop hw.hi (Nat.le_refl _)
  have hp := mul_word hx1 hy
  have hp' : wd (gt xs j * y / W64) ∧ wd (gt xs j * y % W64) := ⟨by unfold wd W64; omega, wd_mod _⟩
  refine WC.seq (WC.region (WL.q (LX.bin rfl rfl rfl) rfl (WL.nil (thenK_normal (WC.seq ?_)))))
  refine WC.test rfl (fun hlt => ?_) (fun hge => ?_)
  · refine WC.skip (thenK_normal (WC.seq (WC.block (WC.seq (WC.region (WL.q (LX.move rfl) rfl (WL.q (LX.assign rfl) rfl (WL.nil (thenK_normal (WC.seq (WC.region (WL.q (LX.move rfl) rfl (WL.q (LX.move rfl) rfl ?_)))))))))))))
    refine WL.q (LX.idx1 rfl rfl rfl _ rfl (by omega)) rfl ?_
    refine WL.q (LX.loadRow rfl rfl (by repeat first | assumption | exact List.mem_cons_self | refine List.mem_cons_of_mem _ ?_) (by omega)) rfl ?_
    refine WL.q (LX.move rfl) rfl (WL.call (bitsMul hx1 hy) rfl (fun _ => by kernel_rfl) rfl (WL.q (LX.move rfl) rfl (WL.q (LX.extract rfl rfl) rfl (WL.q (LX.extract rfl rfl) rfl (WL.q (LX.assign rfl) rfl (WL.q (LX.assign rfl) rfl (WL.nil (thenK_normal (WC.seq (WC.region (WL.q (LX.move rfl) rfl (WL.q (LX.move rfl) rfl (WL.q (LX.move rfl) rfl ?_)))))))))))))
    refine WL.q (LX.idxo rfl rfl rfl j rfl (by omega)) rfl ?_
    refine WL.q (LX.loadRow rfl rfl (by repeat first | assumption | exact List.mem_cons_self | refine List.mem_cons_of_mem _ ?_) (by omega)) rfl ?_
    refine WL.call (bitsAdd hp'.2 hz1 bt_zero) rfl (fun _ => by kernel_rfl) rfl (WL.q (LX.move rfl) rfl (WL.q (LX.extract rfl rfl) rfl (WL.q (LX.extract rfl rfl) rfl (WL.q (LX.assign rfl) rfl (WL.q (LX.assign rfl) rfl (WL.nil (thenK_normal (WC.seq (WC.region (WL.q (LX.move rfl) rfl (WL.q (LX.move rfl) rfl (WL.call (bitsAdd hp'.1 wd_zero (sumC_bt hp'.2 hz1 bt_zero)) rfl (fun _ => by kernel_rfl) rfl (WL.q (LX.move rfl) rfl ?_)))))))))))))
    refine WL.q (LX.extract rfl rfl) rfl (WL.q (LX.extract rfl rfl) rfl (WL.q (LX.assign rfl) rfl (WL.nil (thenK_normal (WC.seq (WC.region (WL.q (LX.move rfl) rfl (WL.q (LX.move rfl) rfl (WL.call (bitsAdd (sumW_wd _ _ _) hk bt_zero) rfl (fun _ => by kernel_rfl) rfl (WL.q (LX.move rfl) rfl (WL.q (LX.extract rfl rfl) rfl (WL.q (LX.extract rfl rfl) rfl (WL.q (LX.assign rfl) rfl ?_)))))))))))))
    refine WL.q (LX.assign rfl) rfl (WL.nil (thenK_normal (WC.seq (WC.region (WL.q (LX.move rfl) rfl (WL.q (LX.move rfl) rfl (WL.call (bitsAdd (sumW_wd _ _ _) wd_zero (sumC_bt (sumW_wd _ _ _) hk bt_zero)) rfl (fun _ => by kernel_rfl) rfl ?_)))))))
    obtain ⟨e1, e2⟩ := amv_step hp.1 hp.2 hz1 hk
    rw [e1, e2]
    refine WL.q (LX.move rfl) rfl (WL.q (LX.extract rfl rfl) rfl (WL.q (LX.extract rfl rfl) rfl (WL.q (LX.assign rfl) rfl (WL.nil (thenK_normal (WC.seq (WC.region (WL.q (LX.move rfl) rfl (WL.q (LX.assign rfl) rfl (WL.nil (thenK_normal (WC.region (WL.q (LX.move rfl) rfl ?_)))))))))))))
    refine WL.q (LX.move rfl) rfl (WL.q (LX.move rfl) rfl (WL.q (LX.idxo rfl rfl rfl j rfl (by omega)) rfl ?_))
    refine WL.put (EX.storeRow rfl rfl rfl (by repeat first | assumption | exact List.mem_cons_self | refine List.mem_cons_of_mem _ ?_) (by omega) (by repeat first | exact Upd.here | apply Upd.there)) ?_
    refine WL.nil (blockK_normal (thenK_normal (WC.region (WL.q (LX.addI rfl rfl (by omega)) rfl (WL.q (LX.move rfl) rfl (WL.nil ?_))))))
    refine loopS_next (j + 1, us.set (o + j) ((gt xs j * y + gt us (o + j) + k) % W64), (gt xs j * y + gt us (o + j) + k) / W64) ⟨by omega, hw.next (wd_mod _), ?_, ?_⟩ (by simp; omega) (.cons rfl (.cons rfl (.cons rfl (.cons rfl (.cons rfl (.cons rfl .nil)))))) rfl
    · have := wd_def hz1; have := wd_def hk; dsimp only; unfold wd W64; omega
    · dsimp only
      rw [dv_slice_set (by omega), dv_slice_snoc (xs := zs) (by omega), dv_take_gt W64 (xs := xs) (by omega), Int.pow_succ, ← hze]
      exact amv_lin hv rfl (Int.emod_add_mul_ediv _ _)
  · refine WC.exit (thenK_exit (loopS_exit (blockK_same (thenK_normal (WC.seq (WC.region (WL.q (LX.move rfl) rfl (WL.q (LX.assign rfl) rfl (WL.nil (thenK_normal (WC.ret ?_)))))))))))
    obtain rfl : j = n := by omega
    exact KR.one (.inl rfl) rfl rfl ⟨us, k, hk, rfl, hw, hv, rfl⟩
end
end Go.Proofs.YtdnngppofbmpeaaGreatDoor.Bm
