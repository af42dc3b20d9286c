/- Proved here: what newModulus does at 0 and 1 and at an even number above 1. No conditions but those that each theorem states. -/
import Derived.Test.YtdnngppofbmpeaaDoorFn4
namespace Go.Proofs.YtdnngppofbmpeaaDoor.Bm
open Go Go.RowKit

theorem b1_is {p : Prop} [Decidable p] (h : p) : b1 p = 1 := by unfold b1; simp [h]
theorem b1_not {p : Prop} [Decidable p] (h : ¬ p) : b1 p = 0 := by unfold b1; simp [h]

section
variable {w0 : World} {M : Mem}
/-- newModulus of 0 or 1: an error -/
theorem newModulusErr {p l n : Nat} {xs : List Int} (hp : (p, natO l n xs.length) ∈ M) (hl : (l, words xs) ∈ M) (hn : n ≤ xs.length) (hN : xs.length ≤ 1000) (hd : Dg W64 xs) (h1 : dv W64 (xs.take n) ≤ 1) :
    CS w0 12 [ptr p] M (fun u M' => (∃ b, u = .tuple #[.pointer none, .iface 94 (ptr b)]) ∧ M' = M) := by
  refine CS.post (R := fun u M' => ∃ c o, (∃ b, u = .tuple #[.pointer none, .iface 94 (ptr b)]) ∧ M' = (c, o) :: M) ?_ (fun v M' ⟨b, o, h1, h2⟩ => ⟨M, h2 ▸ .cons _ (List.Sublist.refl _), h1, rfl⟩)
  have h0 := dv_nonneg W64_pos (hd.take n)
  refine CS.of Tryd.func12 Tryd.ntmps12 rfl rfl ?_
  refine WC.seq ?_
  refine WC.region ?_
  refine WL.q (LX.assign rfl) rfl ?_
  refine WL.q (LX.assign rfl) rfl ?_
  refine WL.nil ?_
  refine thenK_normal ?_
  refine WC.seq ?_
  refine WC.region ?_
  refine WL.q (LX.move rfl) rfl ?_
  refine WL.q (LX.build (v := .agg #[ptr p, .bool false, .int .u64 0, .pointer none]) rfl (fun _ => by kernel_rfl)) rfl ?_
  
  refine WL.step rfl (EX.box rfl) ?_
  rintro _ _ ⟨q, rfl, rfl⟩
  refine WL.q (LX.assign rfl) rfl ?_
  refine WL.nil ?_
  refine thenK_normal ?_
  refine WC.seq ?_
  refine WC.seq ?_
  refine WC.region ?_
  refine WL.q (LX.move rfl) rfl ?_
  refine WL.q (LX.nilCheck rfl) rfl ?_
  refine WL.q (LX.field0 rfl rfl) rfl ?_
  refine WL.q (LX.load rfl rfl (by repeat first | assumption | exact List.mem_cons_self | refine List.mem_cons_of_mem _ ?_) rfl) rfl ?_
  have hp' := List.mem_cons_of_mem (q, Obj.cells (Value.agg #[ptr p, .bool false, .int .u64 0, .pointer none]).cells 76 (0, 0)) hp
  have hl' := List.mem_cons_of_mem (q, Obj.cells (Value.agg #[ptr p, .bool false, .int .u64 0, .pointer none]).cells 76 (0, 0)) hl
  refine WL.call (isZero hp' hl' hn hN hd) rfl (fun _ => by kernel_rfl) rfl ?_
  by_cases hz : dv W64 (xs.take n) = 0
  · rw [b1_is hz]
    refine WL.q (LX.bin rfl rfl rfl) rfl ?_
    refine WL.q (LX.move rfl) rfl ?_
    refine WL.no rfl rfl (by decide) rfl ?_
    refine WL.no rfl rfl (by decide) rfl ?_
    refine WL.no rfl rfl (by decide) rfl ?_
    refine WL.no rfl rfl (by decide) rfl ?_
    refine WL.no rfl rfl (by decide) rfl ?_
    refine WL.no rfl rfl (by decide) rfl ?_
    refine WL.q (LX.pickT rfl rfl) rfl ?_
    refine WL.nil ?_
    refine thenK_normal ?_
    refine WC.yes rfl ?_
    refine WC.seq ?_
    refine WC.region ?_
    refine WL.callR errNew rfl (fun _ => by kernel_rfl) rfl ?_
    rintro _ _ ⟨⟨b, rfl⟩, rfl⟩
    refine WL.q (LX.assign rfl) rfl ?_
    refine WL.q (LX.assign rfl) rfl ?_
    refine WL.nil ?_
    refine thenK_normal ?_
    refine WC.ret ?_
    refine thenK_ret ?_
    exact KR.two (.inl rfl) rfl rfl rfl ⟨_, _, ⟨b, rfl⟩, rfl⟩
  · rw [b1_not hz]
    refine WL.q (LX.bin rfl rfl rfl) rfl ?_
    refine WL.q (LX.move rfl) rfl ?_
    refine WL.yes rfl rfl ?_
    refine WL.q (LX.move rfl) rfl ?_
    refine WL.yes rfl rfl ?_
    refine WL.q (LX.nilCheck rfl) rfl ?_
    refine WL.yes rfl rfl ?_
    refine WL.q (LX.field0 rfl rfl) rfl ?_
    refine WL.yes rfl rfl ?_
    refine WL.q (LX.load rfl rfl (by repeat first | assumption | exact List.mem_cons_self | refine List.mem_cons_of_mem _ ?_) rfl) rfl ?_
    refine WL.yes rfl rfl ?_
    refine WL.callR (isOne hp' hl' hn hN hd) rfl (fun _ => by kernel_rfl) rfl ?_
    rintro _ _ ⟨rfl, rfl⟩
    rw [b1_is (show dv W64 (xs.take n) = 1 by omega)]
    refine WL.yes rfl rfl ?_
    refine WL.q (LX.bin rfl rfl rfl) rfl ?_
    refine WL.q (LX.pickF rfl rfl) rfl ?_
    refine WL.nil ?_
    refine thenK_normal ?_
    refine WC.yes rfl ?_
    refine WC.seq ?_
    refine WC.region ?_
    refine WL.callR errNew rfl (fun _ => by kernel_rfl) rfl ?_
    rintro _ _ ⟨⟨b, rfl⟩, rfl⟩
    refine WL.q (LX.assign rfl) rfl ?_
    refine WL.q (LX.assign rfl) rfl ?_
    refine WL.nil ?_
    refine thenK_normal ?_
    refine WC.ret ?_
    refine thenK_ret ?_
    exact KR.two (.inl rfl) rfl rfl rfl ⟨_, _, ⟨b, rfl⟩, rfl⟩

/-- newModulus of an even number: only the number is kept -/
theorem newModulusEven {p l n : Nat} {xs : List Int} (hp : (p, natO l n xs.length) ∈ M) (hl : (l, words xs) ∈ M) (hn : n ≤ xs.length) (hN : xs.length ≤ 1000) (hd : Dg W64 xs) (h1 : 1 < dv W64 (xs.take n)) (h2 : dv W64 (xs.take n) % 2 = 0) :
    CS w0 12 [ptr p] M (fun u M' => ∃ q, u = .tuple #[ptr q, .nilIface] ∧ M' = (q, Obj.cells #[ptr p, .bool false, .int .u64 0, .pointer none] 76) :: M) := by
  refine CS.of Tryd.func12 Tryd.ntmps12 rfl rfl ?_
  refine WC.seq ?_
  refine WC.region ?_
  refine WL.q (LX.assign rfl) rfl ?_
  refine WL.q (LX.assign rfl) rfl ?_
  refine WL.nil ?_
  refine thenK_normal ?_
  refine WC.seq ?_
  refine WC.region ?_
  refine WL.q (LX.move rfl) rfl ?_
  refine WL.q (LX.build (v := .agg #[ptr p, .bool false, .int .u64 0, .pointer none]) rfl (fun _ => by kernel_rfl)) rfl ?_
  
  refine WL.step rfl (EX.box rfl) ?_
  rintro _ _ ⟨q, rfl, rfl⟩
  refine WL.q (LX.assign rfl) rfl ?_
  refine WL.nil ?_
  refine thenK_normal ?_
  refine WC.seq ?_
  refine WC.seq ?_
  refine WC.region ?_
  refine WL.q (LX.move rfl) rfl ?_
  refine WL.q (LX.nilCheck rfl) rfl ?_
  refine WL.q (LX.field0 rfl rfl) rfl ?_
  refine WL.q (LX.load rfl rfl (by repeat first | assumption | exact List.mem_cons_self | refine List.mem_cons_of_mem _ ?_) rfl) rfl ?_
  have hp' := List.mem_cons_of_mem (q, Obj.cells (Value.agg #[ptr p, .bool false, .int .u64 0, .pointer none]).cells 76 (0, 0)) hp
  have hl' := List.mem_cons_of_mem (q, Obj.cells (Value.agg #[ptr p, .bool false, .int .u64 0, .pointer none]).cells 76 (0, 0)) hl
  refine WL.call (isZero hp' hl' hn hN hd) rfl (fun _ => by kernel_rfl) rfl ?_
  rw [b1_not (show ¬ dv W64 (xs.take n) = 0 by omega)]
  refine WL.q (LX.bin rfl rfl rfl) rfl ?_
  refine WL.q (LX.move rfl) rfl ?_
  refine WL.yes rfl rfl ?_
  refine WL.q (LX.move rfl) rfl ?_
  refine WL.yes rfl rfl ?_
  refine WL.q (LX.nilCheck rfl) rfl ?_
  refine WL.yes rfl rfl ?_
  refine WL.q (LX.field0 rfl rfl) rfl ?_
  refine WL.yes rfl rfl ?_
  refine WL.q (LX.load rfl rfl (by repeat first | assumption | exact List.mem_cons_self | refine List.mem_cons_of_mem _ ?_) rfl) rfl ?_
  refine WL.yes rfl rfl ?_
  refine WL.callR (isOne hp' hl' hn hN hd) rfl (fun _ => by kernel_rfl) rfl ?_
  rintro _ _ ⟨rfl, rfl⟩
  rw [b1_not (show ¬ dv W64 (xs.take n) = 1 by omega)]
  refine WL.yes rfl rfl ?_
  refine WL.q (LX.bin rfl rfl rfl) rfl ?_
  refine WL.q (LX.pickF rfl rfl) rfl ?_
  refine WL.nil ?_
  refine thenK_normal ?_
  refine WC.no rfl ?_
  refine WC.skip ?_
  refine thenK_normal ?_
  refine WC.seq ?_
  refine WC.seq ?_
  refine WC.region ?_
  refine WL.q (LX.move rfl) rfl ?_
  refine WL.q (LX.nilCheck rfl) rfl ?_
  refine WL.q (LX.field0 rfl rfl) rfl ?_
  refine WL.q (LX.load rfl rfl (by repeat first | assumption | exact List.mem_cons_self | refine List.mem_cons_of_mem _ ?_) rfl) rfl ?_
  refine WL.call (isOdd hp' hl' hn hN hd) rfl (fun _ => by kernel_rfl) rfl ?_
  rw [h2]
  refine WL.q (LX.bin rfl rfl rfl) rfl ?_
  refine WL.nil ?_
  refine thenK_normal ?_
  refine WC.no rfl ?_
  refine WC.skip ?_
  refine thenK_normal ?_
  refine WC.seq ?_
  refine WC.region ?_
  refine WL.q (LX.move rfl) rfl ?_
  refine WL.q (LX.assign rfl) rfl ?_
  refine WL.q (LX.assign rfl) rfl ?_
  refine WL.nil ?_
  refine thenK_normal ?_
  refine WC.ret ?_
  exact KR.two (.inl rfl) rfl rfl rfl ⟨q, rfl, rfl⟩
end
end Go.Proofs.YtdnngppofbmpeaaDoor.Bm
