/- Proved here: the words of math/bits.Add, Sub and of ctEq, as whole numbers. No conditions but those that each theorem states. -/
import Derived.Test.YtdnngppofbmpeaaDoorBase4
namespace Go.Proofs.YtdnngppofbmpeaaDoor.Bm
open Go Go.RowKit

/-! ## math/bits, and numbers of 64 bits -/
theorem sub64_run (x y c : Int) (hc : c = 0 ∨ c = 1) (w : World) : (callFunc 80 #[.int .u64 x, .int .u64 y, .int .u64 c]).run P w =
    .ok (.value (Extern.MathBitsCarry.pair ((x.toNat + Extern.MathBitsCarry.m64 - y.toNat - c.toNat) % Extern.MathBitsCarry.m64) (if x.toNat < y.toNat + c.toNat then 1 else 0))) w := by
  rcases hc with rfl | rfl <;> kernel_rfl
theorem add64_run (x y c : Int) (hc : c = 0 ∨ c = 1) (w : World) : (callFunc 82 #[.int .u64 x, .int .u64 y, .int .u64 c]).run P w =
    .ok (.value (Extern.MathBitsCarry.pair ((x.toNat + y.toNat + c.toNat) % Extern.MathBitsCarry.m64) ((x.toNat + y.toNat + c.toNat) / Extern.MathBitsCarry.m64))) w := by
  rcases hc with rfl | rfl <;> kernel_rfl

/-- the words behind x + y + c, x - y - c -/
def W64 : Int := 18446744073709551616
def sumW (x y c : Int) : Int := (x + y + c) % W64
def sumC (x y c : Int) : Int := (x + y + c) / W64
def difW (x y c : Int) : Int := (x - y - c) % W64
def difC (x y c : Int) : Int := if x < y + c then 1 else 0

def wd (x : Int) : Prop := 0 ≤ x ∧ x < W64
def bt (c : Int) : Prop := c = 0 ∨ c = 1

theorem W64_eq : W64 = 18446744073709551616 := rfl
theorem wd_def {x : Int} (h : wd x) : 0 ≤ x ∧ x < 18446744073709551616 := h
theorem bt_zero : bt 0 := .inl rfl
theorem bt_one : bt 1 := .inr rfl
theorem wd_zero : wd 0 := by unfold wd W64; omega
theorem bt_wd {c : Int} (h : bt c) : wd c := by rcases h with rfl | rfl <;> (unfold wd W64; omega)
theorem wd_mod (x : Int) : wd (x % W64) := by unfold wd W64; omega
theorem sumW_wd (x y c : Int) : wd (sumW x y c) := wd_mod _
theorem difW_wd (x y c : Int) : wd (difW x y c) := wd_mod _
theorem difC_bt (x y c : Int) : bt (difC x y c) := by unfold difC bt; split <;> simp
theorem sumC_bt {x y c : Int} (hx : wd x) (hy : wd y) (hc : bt c) : bt (sumC x y c) := by
  have := wd_def hx; have := wd_def hy; unfold bt sumC W64; rcases hc with rfl | rfl <;> omega
theorem sum_eq (x y c : Int) : sumW x y c + W64 * sumC x y c = x + y + c := by unfold sumW sumC W64; omega
theorem dif_eq {x y c : Int} (hx : wd x) (hy : wd y) (hc : bt c) : difW x y c - W64 * difC x y c = x - y - c := by
  have := wd_def hx; have := wd_def hy; unfold difW difC W64; rcases hc with rfl | rfl <;> split <;> omega

theorem sub_pair {x y c : Int} (hx : wd x) (hy : wd y) (hc : bt c) :
    Extern.MathBitsCarry.pair ((x.toNat + Extern.MathBitsCarry.m64 - y.toNat - c.toNat) % Extern.MathBitsCarry.m64) (if x.toNat < y.toNat + c.toNat then 1 else 0) = .tuple #[.int .u64 (difW x y c), .int .u64 (difC x y c)] := by
  unfold Extern.MathBitsCarry.pair Extern.MathBitsCarry.m64 difW difC W64
  replace hx := wd_def hx
  replace hy := wd_def hy
  have h1 : Int.ofNat ((x.toNat + 2 ^ 64 - y.toNat - c.toNat) % 2 ^ 64) = (x - y - c) % 18446744073709551616 := by
    rcases hc with rfl | rfl <;> (simp only [Int.ofNat_eq_natCast]; omega)
  have h2 : Int.ofNat (if x.toNat < y.toNat + c.toNat then 1 else 0) = if x < y + c then 1 else 0 := by
    rcases hc with rfl | rfl <;> (simp only [Int.ofNat_eq_natCast]; split <;> split <;> omega)
  rw [h1, h2]
theorem add_pair {x y c : Int} (hx : wd x) (hy : wd y) (hc : bt c) :
    Extern.MathBitsCarry.pair ((x.toNat + y.toNat + c.toNat) % Extern.MathBitsCarry.m64) ((x.toNat + y.toNat + c.toNat) / Extern.MathBitsCarry.m64) = .tuple #[.int .u64 (sumW x y c), .int .u64 (sumC x y c)] := by
  unfold Extern.MathBitsCarry.pair Extern.MathBitsCarry.m64 sumW sumC W64
  replace hx := wd_def hx
  replace hy := wd_def hy
  have h1 : Int.ofNat ((x.toNat + y.toNat + c.toNat) % 2 ^ 64) = (x + y + c) % 18446744073709551616 := by
    rcases hc with rfl | rfl <;> (simp only [Int.ofNat_eq_natCast]; omega)
  have h2 : Int.ofNat ((x.toNat + y.toNat + c.toNat) / 2 ^ 64) = (x + y + c) / 18446744073709551616 := by
    rcases hc with rfl | rfl <;> (simp only [Int.ofNat_eq_natCast]; omega)
  rw [h1, h2]

section
variable {w0 : World} {M : Mem}
theorem bitsSub {x y c : Int} (hx : wd x) (hy : wd y) (hc : bt c) :
    CS w0 69 [.int .u64 x, .int .u64 y, .int .u64 c] M (fun v M' => v = .tuple #[.int .u64 (difW x y c), .int .u64 (difC x y c)] ∧ M' = M) := by
  refine CS.of Tryd.func69 Tryd.ntmps69 rfl rfl ?_
  refine WC.seq ?_
  refine WC.region ?_
  refine WL.q (LX.assign rfl) rfl ?_
  refine WL.q (LX.assign rfl) rfl ?_
  refine WL.nil ?_
  refine thenK_normal ?_
  refine WC.seq ?_
  refine WC.no rfl ?_
  refine WC.skip ?_
  refine thenK_normal ?_
  refine WC.seq ?_
  refine WC.region ?_
  refine WL.q (LX.move rfl) rfl ?_
  refine WL.q (LX.move rfl) rfl ?_
  refine WL.q (LX.move rfl) rfl ?_
  refine WL.q (LX.eq (LX.ext rfl (sub64_run _ _ _ hc)) (by rw [sub_pair hx hy hc])) rfl ?_
  refine WL.q (LX.move rfl) rfl ?_
  refine WL.q (LX.extract rfl rfl) rfl ?_
  refine WL.q (LX.extract rfl rfl) rfl ?_
  refine WL.q (LX.assign rfl) rfl ?_
  refine WL.q (LX.assign rfl) rfl ?_
  refine WL.nil ?_
  refine thenK_normal ?_
  refine WC.seq ?_
  refine WC.region ?_
  refine WL.q (LX.move rfl) rfl ?_
  refine WL.q (LX.move rfl) rfl ?_
  refine WL.q (LX.assign rfl) rfl ?_
  refine WL.q (LX.assign rfl) rfl ?_
  refine WL.nil ?_
  refine thenK_normal ?_
  refine WC.ret ?_
  exact KR.two (.inl rfl) rfl rfl rfl ⟨rfl, rfl⟩
theorem bitsAdd {x y c : Int} (hx : wd x) (hy : wd y) (hc : bt c) :
    CS w0 71 [.int .u64 x, .int .u64 y, .int .u64 c] M (fun v M' => v = .tuple #[.int .u64 (sumW x y c), .int .u64 (sumC x y c)] ∧ M' = M) := by
  refine CS.of Tryd.func71 Tryd.ntmps71 rfl rfl ?_
  refine WC.seq ?_
  refine WC.region ?_
  refine WL.q (LX.assign rfl) rfl ?_
  refine WL.q (LX.assign rfl) rfl ?_
  refine WL.nil ?_
  refine thenK_normal ?_
  refine WC.seq ?_
  refine WC.no rfl ?_
  refine WC.skip ?_
  refine thenK_normal ?_
  refine WC.seq ?_
  refine WC.region ?_
  refine WL.q (LX.move rfl) rfl ?_
  refine WL.q (LX.move rfl) rfl ?_
  refine WL.q (LX.move rfl) rfl ?_
  refine WL.q (LX.eq (LX.ext rfl (add64_run _ _ _ hc)) (by rw [add_pair hx hy hc])) rfl ?_
  refine WL.q (LX.move rfl) rfl ?_
  refine WL.q (LX.extract rfl rfl) rfl ?_
  refine WL.q (LX.extract rfl rfl) rfl ?_
  refine WL.q (LX.assign rfl) rfl ?_
  refine WL.q (LX.assign rfl) rfl ?_
  refine WL.nil ?_
  refine thenK_normal ?_
  refine WC.seq ?_
  refine WC.region ?_
  refine WL.q (LX.move rfl) rfl ?_
  refine WL.q (LX.move rfl) rfl ?_
  refine WL.q (LX.assign rfl) rfl ?_
  refine WL.q (LX.assign rfl) rfl ?_
  refine WL.nil ?_
  refine thenK_normal ?_
  refine WC.ret ?_
  exact KR.two (.inl rfl) rfl rfl rfl ⟨rfl, rfl⟩

theorem xor_bt {c : Int} (hc : bt c) : bits .xor .u64 1 c = 1 - c := by rcases hc with rfl | rfl <;> rfl
theorem bnot {c : Int} (hc : bt c) : CS w0 60 [.int .u64 c] M (fun v M' => v = .int .u64 (1 - c) ∧ M' = M) := by
  refine CS.of Tryd.func60 Tryd.ntmps60 rfl rfl ?_
  refine WC.seq ?_
  refine WC.region ?_
  refine WL.q (LX.assign rfl) rfl ?_
  refine WL.nil ?_
  refine thenK_normal ?_
  refine WC.seq ?_
  refine WC.region ?_
  refine WL.q (LX.move rfl) rfl ?_
  refine WL.q (LX.bin rfl rfl rfl) rfl ?_
  refine WL.q (LX.assign rfl) rfl ?_
  refine WL.nil ?_
  refine thenK_normal ?_
  refine WC.ret ?_
  exact KR.one (.inl rfl) rfl rfl ⟨by rw [xor_bt hc], rfl⟩

/-- 1 where a test is so -/
def b1 (p : Prop) [Decidable p] : Int := if p then 1 else 0
theorem b1_bt (p : Prop) [Decidable p] : bt (b1 p) := by unfold b1 bt; split <;> simp

theorem or_dif {x y : Int} (hx : wd x) (hy : wd y) : bits .or .u64 (difC x y 0) (difC y x 0) = 1 - b1 (x = y) := by
  have h1 : difC x y 0 = if x < y then 1 else 0 := by unfold difC; simp
  have h2 : difC y x 0 = if y < x then 1 else 0 := by unfold difC; simp
  rw [h1, h2]
  unfold b1
  rcases Int.lt_trichotomy x y with h | h | h
  · rw [if_pos h, if_neg (by omega), if_neg (by omega)]; rfl
  · subst h; simp; rfl
  · rw [if_neg (by omega), if_pos h, if_neg (by omega)]; rfl
theorem ctEq {x y : Int} (hx : wd x) (hy : wd y) : CS w0 59 [.int .u64 x, .int .u64 y] M (fun v M' => v = .int .u64 (b1 (x = y)) ∧ M' = M) := by
  refine CS.of Tryd.func59 Tryd.ntmps59 rfl rfl ?_
  refine WC.seq ?_
  refine WC.region ?_
  refine WL.q (LX.assign rfl) rfl ?_
  refine WL.nil ?_
  refine thenK_normal ?_
  refine WC.seq ?_
  refine WC.region ?_
  refine WL.q (LX.move rfl) rfl ?_
  refine WL.q (LX.move rfl) rfl ?_
  refine WL.call (bitsSub hx hy bt_zero) rfl (fun _ => by kernel_rfl) rfl ?_
  refine WL.q (LX.move rfl) rfl ?_
  refine WL.q (LX.extract rfl rfl) rfl ?_
  refine WL.q (LX.extract rfl rfl) rfl ?_
  refine WL.q (LX.assign rfl) rfl ?_
  refine WL.q (LX.assign rfl) rfl ?_
  refine WL.nil ?_
  refine thenK_normal ?_
  refine WC.seq ?_
  refine WC.region ?_
  refine WL.q (LX.move rfl) rfl ?_
  refine WL.q (LX.move rfl) rfl ?_
  refine WL.call (bitsSub hy hx bt_zero) rfl (fun _ => by kernel_rfl) rfl ?_
  refine WL.q (LX.move rfl) rfl ?_
  refine WL.q (LX.extract rfl rfl) rfl ?_
  refine WL.q (LX.extract rfl rfl) rfl ?_
  refine WL.q (LX.assign rfl) rfl ?_
  refine WL.q (LX.assign rfl) rfl ?_
  refine WL.nil ?_
  refine thenK_normal ?_
  refine WC.seq ?_
  refine WC.region ?_
  refine WL.q (LX.move rfl) rfl ?_
  refine WL.q (LX.move rfl) rfl ?_
  refine WL.q (LX.bin rfl rfl rfl) rfl ?_
  refine WL.call (bnot (c := 1 - b1 (x = y)) (by rcases b1_bt (x = y) with h | h <;> rw [h] <;> simp [bt])) (by rw [← or_dif hx hy]; rfl) (fun _ => by kernel_rfl) rfl ?_
  refine WL.q (LX.assign rfl) rfl ?_
  refine WL.nil ?_
  refine thenK_normal ?_
  refine WC.ret ?_
  exact KR.one (.inl rfl) rfl rfl ⟨by congr 1; omega, rfl⟩
end
end Go.Proofs.YtdnngppofbmpeaaDoor.Bm
