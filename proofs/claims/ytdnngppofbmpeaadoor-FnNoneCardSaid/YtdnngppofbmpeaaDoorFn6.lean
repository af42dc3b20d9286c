/- Proved here: what NewModulus does at 0 and 1 and at an even number above 1. No conditions but those that each theorem states. -/
import Derived.Test.YtdnngppofbmpeaaDoorFn5
namespace Go.Proofs.YtdnngppofbmpeaaDoor.Bm
open Go Go.RowKit

section
variable {w0 : World} {M : Mem}
/-- NewModulus of 0 or 1: an error -/
theorem newModErr {A : Option Addr} {bs : List Int} {cap : Nat} (hb : Bsl M A bs cap) (hbd : Dg 256 bs) (hL : bs.length ≤ 248) (h1 : dv 256 bs.reverse ≤ 1) :
    CS w0 5 [.slice A bs.length cap] M (fun u M' => (∃ b, u = .tuple #[.pointer none, .iface 94 (ptr b)]) ∧ M' = M) := by
  refine CS.post (R := fun u M' => ∃ p l o o', (∃ b, u = .tuple #[.pointer none, .iface 94 (ptr b)]) ∧ M' = (p, o) :: (l, o') :: M) ?_ (fun v M' ⟨p, l, o, o', h1, h2⟩ => ⟨M, h2 ▸ .cons _ (.cons _ (List.Sublist.refl _)), h1, rfl⟩)
  refine CS.of Tryd.func5 Tryd.ntmps5 rfl rfl ?_
  refine WC.seq ?_
  refine WC.region ?_
  refine WL.q (LX.assign rfl) rfl ?_
  refine WL.q (LX.assign rfl) rfl ?_
  refine WL.nil ?_
  refine thenK_normal ?_
  refine WC.seq ?_
  refine WC.region ?_
  refine WL.callR newNat rfl (fun _ => by kernel_rfl) rfl ?_
  rintro _ _ ⟨p, l, rfl, rfl⟩
  refine WL.q (LX.move rfl) rfl ?_
  refine WL.callR (resetToBytes hb hbd hL) rfl (fun _ => by kernel_rfl) rfl ?_
  rintro _ _ ⟨rfl, m, ys, hy, hyd, hm, hv, hz, rfl⟩
  refine WL.q (LX.assign rfl) rfl ?_
  refine WL.nil ?_
  refine thenK_normal ?_
  refine WC.seq ?_
  refine WC.region ?_
  refine WL.q (LX.move rfl) rfl ?_
  have h3 := newModulusErr (w0 := w0) (M := (p, natO l m 32) :: (l, words ys) :: M) (p := p) (l := l) (n := m) (xs := ys) (by rw [hy]; exact List.mem_cons_self) (List.mem_cons_of_mem _ List.mem_cons_self) (by omega) (by omega) hyd (by rw [hv]; exact h1)
  refine WL.callR h3 rfl (fun _ => by kernel_rfl) rfl ?_
  rintro _ _ ⟨⟨b, rfl⟩, rfl⟩
  refine WL.q (LX.extract rfl rfl) rfl ?_
  refine WL.q (LX.extract rfl rfl) rfl ?_
  refine WL.q (LX.assign rfl) rfl ?_
  refine WL.q (LX.assign rfl) rfl ?_
  refine WL.nil ?_
  refine thenK_normal ?_
  refine WC.ret ?_
  exact KR.two (.inl rfl) rfl rfl rfl ⟨_, _, _, _, ⟨b, rfl⟩, rfl⟩

/-- NewModulus of an even number above 1 -/
theorem newModEven {A : Option Addr} {bs : List Int} {cap : Nat} (hb : Bsl M A bs cap) (hbd : Dg 256 bs) (hL : bs.length ≤ 248) (h1 : 1 < dv 256 bs.reverse) (h2 : dv 256 bs.reverse % 2 = 0) :
    CS w0 5 [.slice A bs.length cap] M (fun u M' => ∃ q p l m ys, ys.length = 32 ∧ Dg W64 ys ∧ m ≤ 32 ∧ dv W64 (ys.take m) = dv 256 bs.reverse ∧ (m = 0 ∨ gt ys (m - 1) ≠ 0) ∧
      u = .tuple #[ptr q, .nilIface] ∧ M' = (q, Obj.cells #[ptr p, .bool false, .int .u64 0, .pointer none] 76) :: (p, natO l m 32) :: (l, words ys) :: M) := by
  refine CS.of Tryd.func5 Tryd.ntmps5 rfl rfl ?_
  refine WC.seq ?_
  refine WC.region ?_
  refine WL.q (LX.assign rfl) rfl ?_
  refine WL.q (LX.assign rfl) rfl ?_
  refine WL.nil ?_
  refine thenK_normal ?_
  refine WC.seq ?_
  refine WC.region ?_
  refine WL.callR newNat rfl (fun _ => by kernel_rfl) rfl ?_
  rintro _ _ ⟨p, l, rfl, rfl⟩
  refine WL.q (LX.move rfl) rfl ?_
  refine WL.callR (resetToBytes hb hbd hL) rfl (fun _ => by kernel_rfl) rfl ?_
  rintro _ _ ⟨rfl, m, ys, hy, hyd, hm, hv, hz, rfl⟩
  refine WL.q (LX.assign rfl) rfl ?_
  refine WL.nil ?_
  refine thenK_normal ?_
  refine WC.seq ?_
  refine WC.region ?_
  refine WL.q (LX.move rfl) rfl ?_
  have h3 := newModulusEven (w0 := w0) (M := (p, natO l m 32) :: (l, words ys) :: M) (p := p) (l := l) (n := m) (xs := ys) (by rw [hy]; exact List.mem_cons_self) (List.mem_cons_of_mem _ List.mem_cons_self) (by omega) (by omega) hyd (by rw [hv]; exact h1) (by rw [hv]; exact h2)
  refine WL.callR h3 rfl (fun _ => by kernel_rfl) rfl ?_
  rintro _ _ ⟨q, rfl, rfl⟩
  refine WL.q (LX.extract rfl rfl) rfl ?_
  refine WL.q (LX.extract rfl rfl) rfl ?_
  refine WL.q (LX.assign rfl) rfl ?_
  refine WL.q (LX.assign rfl) rfl ?_
  refine WL.nil ?_
  refine thenK_normal ?_
  refine WC.ret ?_
  exact KR.two (.inl rfl) rfl rfl rfl ⟨q, p, l, m, ys, hy, hyd, hm, hv, hz, rfl, rfl⟩

/-- Bits -/
theorem natBits {p l n c : Nat} (hp : (p, natO l n c) ∈ M) : CS w0 10 [ptr p] M (fun u M' => u = .slice (some ⟨l, 0, none⟩) n c ∧ M' = M) := by
  refine CS.of Tryd.func10 Tryd.ntmps10 rfl rfl ?_
  refine WC.seq ?_
  refine WC.region ?_
  refine WL.q (LX.assign rfl) rfl ?_
  refine WL.nil ?_
  refine thenK_normal ?_
  refine WC.seq ?_
  refine WC.region ?_
  refine WL.q (LX.move rfl) rfl ?_
  refine WL.q (LX.nilCheck rfl) rfl ?_
  refine WL.q (LX.field0 rfl rfl) rfl ?_
  refine WL.q (LX.load rfl rfl (by repeat first | assumption | exact List.mem_cons_self | refine List.mem_cons_of_mem _ ?_) rfl) rfl ?_
  refine WL.q (LX.assign rfl) rfl ?_
  refine WL.nil ?_
  refine thenK_normal ?_
  refine WC.ret ?_
  exact KR.one (.inl rfl) rfl rfl ⟨rfl, rfl⟩
end
end Go.Proofs.YtdnngppofbmpeaaDoor.Bm
