/- Proved here: the law FnNone (a modulus that is 0 or 1 is refused) holds for every input, as a row and as its tied card. Conditions: none but what the given row and card state. -/
import Derived.Test.YtdnngppofbmpeaaDoorSd3
import Derived.Test.YtdnngppofbmpeaaDoorCards
import Derived.Test.YtdnngppofbmpeaaDoorTie
import Derived.WalkKit
import Derived.ProofKit
import Derived.OpenShut
import Derived.ChangeSame
import Derived.ChangeVars
import Derived.JoinedOf
import Derived.RowKit
import Derived.RowKitTokens
import Derived.LaidLaws
import Derived.LaidHandle
import Derived.SevenTiedAt
namespace Go.Proofs.YtdnngppofbmpeaaDoor
open Go.ChangeShapes Go.WideShapes Go.ChangeAt Go.RowKit

theorem bmOwn : ownKnob Tryd.prog.godebug = none := by kernel_rfl

def bmTab32 : List Int := (List.range 32).map fun j => (((List.range 32).find? fun i => 2 ^ i * 125613361 % 4294967296 / 134217728 == j).getD 0 : Nat)
def bmTab64 : List Int := (List.range 64).map fun j => (((List.range 64).find? fun i => 2 ^ i * 285870213051353865 % 18446744073709551616 / 288230376151711744 == j).getD 0 : Nat)
/-- a world where both tables are laid -/
noncomputable def bmWorld (os : Os) : World :=
  let w0 := World.holding Tryd.prog os ⟨#[], #[], []⟩
  let put (w : World) (b : Nat) (xs : List Int) : World := { w with heap := w.heap.modify b fun
      | .cells _ t frozen => .cells (xs.map (Value.int .u8)).toArray t frozen
      | o => o }
  put (put w0 0 bmTab32) 1 bmTab64
theorem bmWorld_met (os : Os) (args : Array Value) : laidMetH Tryd.prog Rows.fnNoneRow.laid ((bmWorld os).forCall (fun _ _ => 0) ⟨#[], args, []⟩).memory :=
  laidMetH_of_parts (laidMet_of_run' 8 (by kernel_rfl) (by kernel_rfl)) (by kernel_rfl)

theorem bmNone (a0 : Int) (a1 : Bool) (a2 : Int) (w : World) :
    Calls Tryd.prog 3 #[.int .i64 a0, .bool a1, .int .i64 a2] w fun e w' => e = .returned (.bool true) ∧ Below w.heap.size w w' := by
  refine ((Bm.fnNone (w0 := w) (M := []) (z := a0) (l := a1) (c := a2)).run w (Bm.HR.nil w)).mono fun e w' h => ?_
  obtain ⟨v, M', rfl, hh, rfl⟩ := h
  exact ⟨rfl, hh.below⟩

set_option maxRecDepth 100000 in
theorem bmLifted (os : Os) (started : os.Started) (H : Type) (enc : TypeId × Value → H) :
    ReturnsInHanded {} Tryd.checked os 3 .any (fun w args => (Rows.fnNoneSpec.pre enc Tryd.prog Tryd.f3 [] false w args ∧ laidMetH Tryd.prog Rows.fnNoneRow.laid w) ∧ sizedMet enc Tryd.prog Tryd.f3 (OpenSpec.ofChange Rows.fnNoneSpec) false w args)
      (Rows.fnNoneSpec.post enc Tryd.prog Tryd.f3 false true false false) := by
  refine returnsInHanded_of_change_and (C := Tryd.checked) (X := fun w _ => laidMetH Tryd.prog Rows.fnNoneRow.laid w) (fun _ _ _ hh h => h.of_heap hh) bmOwn started (by kernel_rfl) Tryd.func3
    (ChangeSpec.witness_at (enc := enc) (C := Tryd.checked) (os := os) (X := fun w _ => laidMetH Tryd.prog Rows.fnNoneRow.laid w) false (bmWorld os) #[.int .i64 0, .bool false, .int .i64 0] 8 rfl (by kernel_rfl) (by kernel_rfl) (by kernel_rfl) (by kernel_rfl) (by kernel_rfl) (bmWorld_met os _)) ?_
  intro W base args ds gs before hval0 hW _ _ hL _
  have hval : ∀ (j : Nat) t v, Tryd.f3.params[j]? = some t → args[j]? = some v → Value.okWide Tryd.prog W .any base t v := hval0
  have hW' := hW
  obtain ⟨p, q, hA0, hV, rfl, hfz, hnd⟩ := hW
  have hA : DataW.TrodAll enc Tryd.prog W 0 (fun _ => true) true Tryd.f3.params.toList args.toList ds p := hA0
  rw [Tryd.params3] at hA hval
  obtain ⟨v0, vs0, d0, ds0, p0, q0, hargs, rfl, rfl, h0, r0⟩ := trodAll_cons hA
  obtain ⟨v1, vs1, d1, ds1, p1, q1, rfl, rfl, rfl, h1, r1⟩ := trodAll_cons r0
  obtain ⟨v2, vs2, d2, ds2, p2, q2, rfl, rfl, rfl, h2, r2⟩ := trodAll_cons r1
  obtain ⟨rfl, rfl, rfl⟩ := trodAll_nil r2
  obtain rfl : args = #[v0, v1, v2] := by cases args; simp_all
  obtain ⟨rfl, rfl⟩ := trodVars_none hV
  obtain ⟨a0, rfl, rfl, rfl, w0⟩ := open_int Tryd.underlying3 (hval 0 3 v0 rfl rfl) h0
  obtain ⟨a1, rfl, rfl, rfl⟩ := open_bool Tryd.underlying4 (hval 1 4 v1 rfl rfl) h1
  obtain ⟨a2, rfl, rfl, rfl, w2⟩ := open_int Tryd.underlying3 (hval 2 3 v2 rfl rfl) h2
  clear hA0 hval0
  simp only [List.append_nil] at hW'
  refine (bmNone a0 a1 a2 W).mono fun e W' ⟨he, hg⟩ => ?_
  subst he
  refine ⟨_, rfl, _, _, _, [], [], [], hW', ?_, ?_, ?_, hg.frame _, fun h => by cases h⟩
  · exact trodAll_cons_mk (shut_bool Tryd.underlying4 _) trodAll_mk0
  · exact trodAll_cons_mk (shut_int Tryd.underlying3 w0) (trodAll_cons_mk (shut_bool Tryd.underlying4 _) (trodAll_cons_mk (shut_int Tryd.underlying3 w2) trodAll_mk0))
  · rfl

theorem fnNone_said : Rows.FnNoneSaid :=
  OpenClaim.holds_of_wide 3 Tryd.f3 rfl rfl rfl rfl rfl rfl rfl ⟨rfl, rfl, rfl, rfl, rfl⟩ rfl rfl rfl rfl rfl (by kernel_rfl) Tryd.func3 (by kernel_rfl)
    (of_decide_eq_true (by kernel_rfl)) (by unfold Func.isWrapper; first | (rw [if_pos (by decide +kernel)]; kernel_rfl) | (rw [if_neg (by decide +kernel)]; exact ⟨rfl, rfl⟩))
    (fun os started H enc _ => bmLifted os started H enc)

/-- the tied card -/
theorem fnNone_card : Rows.FnNoneCardSaid :=
  Claim7.holds_tied_plain_at .later [] [.data, .data] true (true, "f74a9a2e3e9a7b1978ce6f4c9b6dd75467a34e916577e3f6a22c83da7b7533ba") false
    fnNone_said (fun _ h => by cases h) (by kernel_rfl) (fun _ h => by cases h) fnNone_row_tie rfl ⟨rfl, rfl⟩ (by kernel_rfl) rfl
    (fun f fn hf hfn => by
      obtain rfl : f = 3 := Option.some.inj ((show Tryd.prog.funcNamed "loop.example/pub-g03351/laws.FnNone" = some 3 by kernel_rfl).symm.trans hf) |>.symm
      obtain rfl : fn = Tryd.f3 := (Option.some.inj (Tryd.func3.symm.trans hfn)).symm
      exact ⟨by kernel_rfl, fun j t ht => by
        rw [Tryd.params3] at ht
        have h3 : t = 3 ∨ t = 4 := by
          rcases j with _ | _ | _ | j
          · left; simpa using ht.symm
          · right; simpa using ht.symm
          · left; simpa using ht.symm
          · simp at ht
        rcases h3 with rfl | rfl
        · exact (show Tryd.prog.wantsStandIn 3 = false by kernel_rfl)
        · exact (show Tryd.prog.wantsStandIn 4 = false by kernel_rfl)⟩)
    (by kernel_rfl)
#print axioms fnNone_card
end Go.Proofs.YtdnngppofbmpeaaDoor
