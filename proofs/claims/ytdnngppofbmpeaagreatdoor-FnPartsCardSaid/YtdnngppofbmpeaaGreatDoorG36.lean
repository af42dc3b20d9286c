/- Proved here: the laws FnScript and FnParts hold for every input, as rows and as their tied cards. Conditions: none but those that each theorem states. -/
import Derived.Test.YtdnngppofbmpeaaGreatDoorG35
import Derived.Test.YtdnngppofbmpeaaGreatDoorCards
import Derived.Test.YtdnngppofbmpeaaGreatDoorTie
import Derived.WalkKit
import Derived.ProofKit
import Derived.OpenShut
import Derived.ChangeSame
import Derived.ChangeVars
import Derived.Carry
import Derived.JoinedOf
import Derived.RowKit
import Derived.RowKitTokens
import Derived.LaidLaws
import Derived.LaidHandle
import Derived.SevenTiedAt
namespace Go.Proofs.YtdnngppofbmpeaaGreatDoor
open Go.ChangeShapes Go.WideShapes Go.ChangeAt Go.RowKit

theorem bmOwn : ownKnob Tryz.prog.godebug = none := by kernel_rfl
theorem bmLaidOut : laidOutB Tryz.prog = true := by kernel_rfl

def bmTab32 : List Int := (List.range 32).map fun j => (((List.range 32).find? fun i => 2 ^ i * 125613361 % 4294967296 / 134217728 == j).getD 0 : Nat)
/-- a world where both tables are laid -/
noncomputable def bmWorld (os : Os) : World :=
  let w0 := World.holding Tryz.prog os ⟨#[], #[], []⟩
  let put (w : World) (b : Nat) (xs : List Int) : World := { w with heap := w.heap.modify b fun
      | .cells _ t frozen => .cells (xs.map (Value.int .u8)).toArray t frozen
      | o => o }
  put (put w0 0 bmTab32) 1 Bm.tab64
theorem bmWorld_met (os : Os) (args : Array Value) : laidMetH Tryz.prog Rows.fnScriptRow.laid ((bmWorld os).forCall (fun _ _ => 0) ⟨#[], args, []⟩).memory :=
  laidMetH_of_parts (laidMet_of_run' 8 (by kernel_rfl) (by kernel_rfl)) (by kernel_rfl)

set_option maxRecDepth 100000 in
theorem fnScriptLifted (os : Os) (started : os.Started) (H : Type) (enc : TypeId × Value → H) :
    ReturnsInHanded {} Tryz.checked os 4 .any (fun w args => (Rows.fnScriptSpec.pre enc Tryz.prog Tryz.f4 [] false w args ∧ laidMetH Tryz.prog Rows.fnScriptRow.laid w) ∧ sizedMet enc Tryz.prog Tryz.f4 (OpenSpec.ofChange Rows.fnScriptSpec) false w args)
      (Rows.fnScriptSpec.post enc Tryz.prog Tryz.f4 false true false false) := by
  refine returnsInHanded_of_change_and (C := Tryz.checked) (X := fun w _ => laidMetH Tryz.prog Rows.fnScriptRow.laid w) (fun _ _ _ hh h => h.of_heap hh) bmOwn started (by kernel_rfl) Tryz.func4
    (ChangeSpec.witness_at (enc := enc) (C := Tryz.checked) (os := os) (X := fun w _ => laidMetH Tryz.prog Rows.fnScriptRow.laid w) false (bmWorld os) #[.slice none 0 0, .int .i64 0, .slice none 0 0] 8 rfl (by kernel_rfl) (by kernel_rfl) (by kernel_rfl) (by kernel_rfl) (by kernel_rfl) (bmWorld_met os _)) ?_
  intro W base args ds gs before hval0 hW _ hsz0 hL _
  have hsz : (DataW.weightsEach Tryz.prog (Tryz.f4.params.toList ++ Rows.fnScriptSpec.plain.varTypes Tryz.prog) (ds ++ gs)).all (· ≤ reachBytes) = true := hsz0
  have hval : ∀ (j : Nat) t v, Tryz.f4.params[j]? = some t → args[j]? = some v → Value.okWide Tryz.prog W .any base t v := hval0
  have hT : Bm.Tab W := Bm.tab_of hL
  have hW' := hW
  obtain ⟨p, q, hA0, hV, rfl, hfz, hnd⟩ := hW
  have hA : DataW.TrodAll enc Tryz.prog W 0 (fun _ => true) true Tryz.f4.params.toList args.toList ds p := hA0
  rw [Tryz.params4] at hA hval hsz
  obtain ⟨v0, vs0, d0, ds0, p0, q0, hargs, rfl, rfl, h0, r0⟩ := trodAll_cons hA
  obtain ⟨v1, vs1, d1, ds1, p1, q1, rfl, rfl, rfl, h1, r1⟩ := trodAll_cons r0
  obtain ⟨v2, vs2, d2, ds2, p2, q2, rfl, rfl, rfl, h2, r2⟩ := trodAll_cons r1
  obtain ⟨rfl, rfl, rfl⟩ := trodAll_nil r2
  obtain rfl : args = #[v0, v1, v2] := by cases args; simp_all
  obtain ⟨rfl, rfl⟩ := trodVars_none hV
  have hlt0 : ∀ x ∈ p0, x.block < W.heap.size := fun x hx => hW'.lt x (by simp [hx])
  have hlt2 : ∀ x ∈ p2, x.block < W.heap.size := fun x hx => hW'.lt x (by simp [hx])
  have hw0 : ∀ n ∈ d0.weights Tryz.prog 22, n ≤ reachBytes := fun n hn => of_decide_eq_true (List.all_eq_true.1 hsz _ (DataW.weights_mem_each (j := 0) rfl rfl n hn))
  have hw2 : ∀ n ∈ d2.weights Tryz.prog 23, n ≤ reachBytes := fun n hn => of_decide_eq_true (List.all_eq_true.1 hsz _ (DataW.weights_mem_each (j := 2) rfl rfl n hn))
  obtain ⟨a0, l0, c0, rfl⟩ := okWide_slice Tryz.underlying22 (hval 0 22 v0 rfl rfl)
  obtain ⟨a1, rfl, rfl, rfl, w1⟩ := open_int Tryz.underlying3 (hval 1 3 v1 rfl rfl) h1
  obtain ⟨a2, l2, c2, rfl⟩ := okWide_slice Tryz.underlying23 (hval 2 23 v2 rfl rfl)
  clear hA0 hval0 hval hsz hsz0 hA r0 r1 r2
  simp only [List.append_nil] at hW'
  have h0' := h0
  have h2' := h2
  obtain ⟨f0, h0⟩ := h0
  obtain ⟨f2, h2⟩ := h2
  obtain ⟨A, X, cap, e0, hX⟩ := Bm.mods_of h0 hw0
  obtain ⟨As, S, caps, e2, hS, hcap⟩ := Bm.stps_of h2 hw2
  obtain ⟨rfl, rfl, rfl⟩ : a0 = A ∧ l0 = X.length ∧ c0 = cap := by simpa [Value.cells] using e0
  obtain ⟨rfl, rfl, rfl⟩ : a2 = As ∧ l2 = S.length ∧ c2 = caps := by simpa [Value.cells] using e2
  refine ((Bm.fnScript (w0 := W) (M := []) hT hX hS).run W (Bm.HR.nil W)).mono fun e W' h => ?_
  obtain ⟨v, M', rfl, hh, rfl⟩ := h
  have hg := hh.below
  refine ⟨_, rfl, _, _, _, [], p0 ++ ([] ++ (p2 ++ [])), [], hW', ?_, ?_, ?_, hg.frame _, fun h => by cases h⟩
  · exact trodAll_cons_mk (shut_bool Tryz.underlying4 _) trodAll_mk0
  · exact trodAll_cons_mk (Below.trod bmLaidOut (by kernel_rfl) (of_decide_eq_true (by kernel_rfl)) h0' hg hlt0) (trodAll_cons_mk (shut_int Tryz.underlying3 w1) (trodAll_cons_mk (Below.trod bmLaidOut (by kernel_rfl) (of_decide_eq_true (by kernel_rfl)) h2' hg hlt2) trodAll_mk0))
  · rfl

theorem fnScript_said : Rows.FnScriptSaid :=
  OpenClaim.holds_of_wide 4 Tryz.f4 rfl rfl rfl rfl rfl rfl rfl ⟨rfl, rfl, rfl, rfl, rfl⟩ rfl rfl rfl rfl rfl (by kernel_rfl) Tryz.func4 (by kernel_rfl)
    (of_decide_eq_true (by kernel_rfl)) (by unfold Func.isWrapper; first | (rw [if_pos (by decide +kernel)]; kernel_rfl) | (rw [if_neg (by decide +kernel)]; exact ⟨rfl, rfl⟩))
    (fun os started H enc _ => fnScriptLifted os started H enc)

/-- the tied card -/
theorem fnScript_card : Rows.FnScriptCardSaid :=
  Claim7.holds_tied_plain_at .later [] [.data, .data] true (true, "f16e34e02ddfd301b496da2c3dbc72d4a29a650d28b35d278401c7d6f63dcd4d") false
    fnScript_said (fun _ h => by cases h) (by kernel_rfl) (fun _ h => by cases h) fnScript_row_tie rfl ⟨rfl, rfl⟩ (by kernel_rfl) rfl
    (fun f fn hf hfn => by
      obtain rfl : f = 4 := Option.some.inj ((show Tryz.prog.funcNamed "loop.example/pub-g03351/laws.FnScript" = some 4 by kernel_rfl).symm.trans hf) |>.symm
      obtain rfl : fn = Tryz.f4 := (Option.some.inj (Tryz.func4.symm.trans hfn)).symm
      exact ⟨by kernel_rfl, fun j t ht => by
        rw [Tryz.params4] at ht
        have h3 : t = 3 ∨ t = 22 ∨ t = 23 := by
          rcases j with _ | _ | _ | j
          · right; left; simpa using ht.symm
          · left; simpa using ht.symm
          · right; right; simpa using ht.symm
          · simp at ht
        rcases h3 with rfl | rfl | rfl
        · exact (show Tryz.prog.wantsStandIn 3 = false by kernel_rfl)
        · exact (show Tryz.prog.wantsStandIn 22 = false by kernel_rfl)
        · exact (show Tryz.prog.wantsStandIn 23 = false by kernel_rfl)⟩)
    (by kernel_rfl)
#print axioms fnScript_card

set_option maxRecDepth 100000 in
theorem fnPartsLifted (os : Os) (started : os.Started) (H : Type) (enc : TypeId × Value → H) :
    ReturnsInHanded {} Tryz.checked os 3 .any (fun w args => (Rows.fnPartsSpec.pre enc Tryz.prog Tryz.f3 [] false w args ∧ laidMetH Tryz.prog Rows.fnPartsRow.laid w) ∧ sizedMet enc Tryz.prog Tryz.f3 (OpenSpec.ofChange Rows.fnPartsSpec) false w args)
      (Rows.fnPartsSpec.post enc Tryz.prog Tryz.f3 false true false false) := by
  refine returnsInHanded_of_change_and (C := Tryz.checked) (X := fun w _ => laidMetH Tryz.prog Rows.fnPartsRow.laid w) (fun _ _ _ hh h => h.of_heap hh) bmOwn started (by kernel_rfl) Tryz.func3
    (ChangeSpec.witness_at (enc := enc) (C := Tryz.checked) (os := os) (X := fun w _ => laidMetH Tryz.prog Rows.fnPartsRow.laid w) false (bmWorld os) #[.slice none 0 0, .int .i64 0, .slice none 0 0, .int .i64 0] 8 rfl (by kernel_rfl) (by kernel_rfl) (by kernel_rfl) (by kernel_rfl) (by kernel_rfl) (bmWorld_met os _)) ?_
  intro W base args ds gs before hval0 hW _ hsz0 hL _
  have hsz : (DataW.weightsEach Tryz.prog (Tryz.f3.params.toList ++ Rows.fnPartsSpec.plain.varTypes Tryz.prog) (ds ++ gs)).all (· ≤ reachBytes) = true := hsz0
  have hval : ∀ (j : Nat) t v, Tryz.f3.params[j]? = some t → args[j]? = some v → Value.okWide Tryz.prog W .any base t v := hval0
  have hT : Bm.Tab W := Bm.tab_of hL
  have hW' := hW
  obtain ⟨p, q, hA0, hV, rfl, hfz, hnd⟩ := hW
  have hA : DataW.TrodAll enc Tryz.prog W 0 (fun _ => true) true Tryz.f3.params.toList args.toList ds p := hA0
  rw [Tryz.params3] at hA hval hsz
  obtain ⟨v0, vs0, d0, ds0, p0, q0, hargs, rfl, rfl, h0, r0⟩ := trodAll_cons hA
  obtain ⟨v1, vs1, d1, ds1, p1, q1, rfl, rfl, rfl, h1, r1⟩ := trodAll_cons r0
  obtain ⟨v2, vs2, d2, ds2, p2, q2, rfl, rfl, rfl, h2, r2⟩ := trodAll_cons r1
  obtain ⟨v3, vs3, d3, ds3, p3, q3, rfl, rfl, rfl, h3, r3⟩ := trodAll_cons r2
  obtain ⟨rfl, rfl, rfl⟩ := trodAll_nil r3
  obtain rfl : args = #[v0, v1, v2, v3] := by cases args; simp_all
  obtain ⟨rfl, rfl⟩ := trodVars_none hV
  have hlt0 : ∀ x ∈ p0, x.block < W.heap.size := fun x hx => hW'.lt x (by simp [hx])
  have hlt2 : ∀ x ∈ p2, x.block < W.heap.size := fun x hx => hW'.lt x (by simp [hx])
  have hw0 : ∀ n ∈ d0.weights Tryz.prog 22, n ≤ reachBytes := fun n hn => of_decide_eq_true (List.all_eq_true.1 hsz _ (DataW.weights_mem_each (j := 0) rfl rfl n hn))
  have hw2 : ∀ n ∈ d2.weights Tryz.prog 23, n ≤ reachBytes := fun n hn => of_decide_eq_true (List.all_eq_true.1 hsz _ (DataW.weights_mem_each (j := 2) rfl rfl n hn))
  obtain ⟨a0, l0, c0, rfl⟩ := okWide_slice Tryz.underlying22 (hval 0 22 v0 rfl rfl)
  obtain ⟨a1, rfl, rfl, rfl, w1⟩ := open_int Tryz.underlying3 (hval 1 3 v1 rfl rfl) h1
  obtain ⟨a2, l2, c2, rfl⟩ := okWide_slice Tryz.underlying23 (hval 2 23 v2 rfl rfl)
  obtain ⟨a3, rfl, rfl, rfl, w3⟩ := open_int Tryz.underlying3 (hval 3 3 v3 rfl rfl) h3
  clear hA0 hval0 hval hsz hsz0 hA r0 r1 r2 r3
  simp only [List.append_nil] at hW'
  have h0' := h0
  have h2' := h2
  obtain ⟨f0, h0⟩ := h0
  obtain ⟨f2, h2⟩ := h2
  obtain ⟨A, X, cap, e0, hX⟩ := Bm.mods_of h0 hw0
  obtain ⟨As, S, caps, e2, hS, hcap⟩ := Bm.stps_of h2 hw2
  obtain ⟨rfl, rfl, rfl⟩ : a0 = A ∧ l0 = X.length ∧ c0 = cap := by simpa [Value.cells] using e0
  obtain ⟨rfl, rfl, rfl⟩ : a2 = As ∧ l2 = S.length ∧ c2 = caps := by simpa [Value.cells] using e2
  refine ((Bm.fnParts (w0 := W) (M := []) hT hX hS hcap).run W (Bm.HR.nil W)).mono fun e W' h => ?_
  obtain ⟨v, M', rfl, hh, rfl⟩ := h
  have hg := hh.below
  refine ⟨_, rfl, _, _, _, [], p0 ++ ([] ++ (p2 ++ ([] ++ []))), [], hW', ?_, ?_, ?_, hg.frame _, fun h => by cases h⟩
  · exact trodAll_cons_mk (shut_bool Tryz.underlying4 _) trodAll_mk0
  · exact trodAll_cons_mk (Below.trod bmLaidOut (by kernel_rfl) (of_decide_eq_true (by kernel_rfl)) h0' hg hlt0) (trodAll_cons_mk (shut_int Tryz.underlying3 w1) (trodAll_cons_mk (Below.trod bmLaidOut (by kernel_rfl) (of_decide_eq_true (by kernel_rfl)) h2' hg hlt2) (trodAll_cons_mk (shut_int Tryz.underlying3 w3) trodAll_mk0)))
  · rfl

theorem fnParts_said : Rows.FnPartsSaid :=
  OpenClaim.holds_of_wide 3 Tryz.f3 rfl rfl rfl rfl rfl rfl rfl ⟨rfl, rfl, rfl, rfl, rfl⟩ rfl rfl rfl rfl rfl (by kernel_rfl) Tryz.func3 (by kernel_rfl)
    (of_decide_eq_true (by kernel_rfl)) (by unfold Func.isWrapper; first | (rw [if_pos (by decide +kernel)]; kernel_rfl) | (rw [if_neg (by decide +kernel)]; exact ⟨rfl, rfl⟩))
    (fun os started H enc _ => fnPartsLifted os started H enc)

/-- the tied card -/
theorem fnParts_card : Rows.FnPartsCardSaid :=
  Claim7.holds_tied_plain_at .later [] [.data, .data] true (true, "f16e34e02ddfd301b496da2c3dbc72d4a29a650d28b35d278401c7d6f63dcd4d") false
    fnParts_said (fun _ h => by cases h) (by kernel_rfl) (fun _ h => by cases h) fnParts_row_tie rfl ⟨rfl, rfl⟩ (by kernel_rfl) rfl
    (fun f fn hf hfn => by
      obtain rfl : f = 3 := Option.some.inj ((show Tryz.prog.funcNamed "loop.example/pub-g03351/laws.FnParts" = some 3 by kernel_rfl).symm.trans hf) |>.symm
      obtain rfl : fn = Tryz.f3 := (Option.some.inj (Tryz.func3.symm.trans hfn)).symm
      exact ⟨by kernel_rfl, fun j t ht => by
        rw [Tryz.params3] at ht
        have h3 : t = 3 ∨ t = 22 ∨ t = 23 := by
          rcases j with _ | _ | _ | _ | j
          · right; left; simpa using ht.symm
          · left; simpa using ht.symm
          · right; right; simpa using ht.symm
          · left; simpa using ht.symm
          · simp at ht
        rcases h3 with rfl | rfl | rfl
        · exact (show Tryz.prog.wantsStandIn 3 = false by kernel_rfl)
        · exact (show Tryz.prog.wantsStandIn 22 = false by kernel_rfl)
        · exact (show Tryz.prog.wantsStandIn 23 = false by kernel_rfl)⟩)
    (by kernel_rfl)
#print axioms fnParts_card
end Go.Proofs.YtdnngppofbmpeaaGreatDoor
