/- Proved here: laws on memory in another order and on calls that leave memory alone. No conditions but those that each theorem states. -/
import Derived.Test.YtdnngppofbmpeaaDoorDraw
namespace Go.Proofs.YtdnngppofbmpeaaDoor.Bm
open Go Go.RowKit

/-! ## memory in another order -/
inductive Rem : Mem → Nat × Obj → Mem → Prop
  | here {e : Nat × Obj} {M : Mem} : Rem (e :: M) e M
  | there {p e : Nat × Obj} {M M' : Mem} : Rem M e M' → Rem (p :: M) e (p :: M')

theorem Rem.perm {M M' : Mem} {e : Nat × Obj} (h : Rem M e M') : (e :: M').Perm M := by
  induction h with
  | here => exact List.Perm.refl _
  | there _ ih => exact (List.Perm.swap _ _ _).trans (ih.cons _)

/-- N is M in another order -/
structure Pm (M N : Mem) : Prop where
  perm : N.Perm M
theorem Pm.done {M : Mem} : Pm M M := ⟨List.Perm.refl _⟩
theorem Pm.step {M M' N : Mem} {e : Nat × Obj} (h : Rem M e M') (k : Pm M' N) : Pm M (e :: N) := ⟨(k.perm.cons e).trans h.perm⟩

section
variable {n : Nat} {w0 : World} {K : Exit → Env → Mem → Prop} {E : Env} {M N : Mem} {ops : Array Oper} {rest : List Oper}

theorem CS.pm {f : FuncId} {args : List Value} {R : Value → Mem → Prop} (hp : Pm M N) (h : CS w0 f args N R) : CS w0 f args M R :=
  ⟨fun w hw => h.run w (hw.perm hp.perm)⟩
theorem WC.pm {c : Code} (hp : Pm M N) (h : WC n w0 c K E N) : WC n w0 c K E M := ⟨fun a w ha hw => h.run a w ha (hw.perm hp.perm)⟩
theorem EX.pm {o : Oper} {R : Value → Mem → Prop} (hp : Pm M N) (h : EX n w0 o E N R) : EX n w0 o E M R := ⟨fun a w ha hw => h.run a w ha (hw.perm hp.perm)⟩

/-- memory's keys are different -/
theorem WC.nodup {c : Code} (h : (M.map (·.1)).Nodup → WC n w0 c K E M) : WC n w0 c K E M := ⟨fun a w ha hw => (h hw.nodup).run a w ha hw⟩
theorem CS.nodup {f : FuncId} {args : List Value} {R : Value → Mem → Prop} (h : (M.map (·.1)).Nodup → CS w0 f args M R) : CS w0 f args M R := ⟨fun w hw => (h hw.nodup).run w hw⟩
/-- what is known of memory may be forgotten -/
theorem CS.post {f : FuncId} {args : List Value} {R : Value → Mem → Prop} {R' : Value → Mem → Prop} (h : CS w0 f args M R) (hr : ∀ v M', R v M' → ∃ M'', M''.Sublist M' ∧ R' v M'') : CS w0 f args M R' :=
  ⟨fun w hw => (h.run w hw).mono fun _ _ ⟨v, M', he, hh, hR⟩ => let ⟨M'', hs, hR'⟩ := hr _ _ hR; ⟨v, M'', he, hh.sub hs, hR'⟩⟩
theorem CS.perm {f : FuncId} {args : List Value} {R : Value → Mem → Prop} {R' : Value → Mem → Prop} (h : CS w0 f args M R) (hr : ∀ v M', R v M' → ∃ M'', M''.Perm M' ∧ R' v M'') : CS w0 f args M R' :=
  ⟨fun w hw => (h.run w hw).mono fun _ _ ⟨v, M', he, hh, hR⟩ => let ⟨M'', hs, hR'⟩ := hr _ _ hR; ⟨v, M'', he, hh.perm hs, hR'⟩⟩

/-- a call that leaves the memory alone -/
theorem WL.call {f : FuncId} {args : Array Operand} {ats : Array TypeId} {vs : List Value} {d : Nat} {ty : TypeId} {pos : String} {aft : Array Edge} {v : Value} (hc : CS w0 f vs M (fun u M' => u = v ∧ M' = M)) (he : evs E args.toList = some vs)
    (hf : ∀ w, (callFunc f vs.toArray).run P w = .ok (.enter f vs.toArray) w) (hd : Nat.blt d n = true) (k : WL n w0 ops K rest ((d, v) :: E) M) :
    WL n w0 ops K (⟨some d, .call ⟨.value (.func f), args, ats⟩, ty, pos, aft, none⟩ :: rest) E M :=
  WL.step hd (EX.call he hf hc) fun _ _ ⟨h1, h2⟩ => by subst h1; subst h2; exact k

/-- a call, told by what it leaves -/
theorem WL.callR {f : FuncId} {args : Array Operand} {ats : Array TypeId} {vs : List Value} {d : Nat} {ty : TypeId} {pos : String} {aft : Array Edge} {R : Value → Mem → Prop} (hc : CS w0 f vs M R) (he : evs E args.toList = some vs)
    (hf : ∀ w, (callFunc f vs.toArray).run P w = .ok (.enter f vs.toArray) w) (hd : Nat.blt d n = true) (k : ∀ v M', R v M' → WL n w0 ops K rest ((d, v) :: E) M') :
    WL n w0 ops K (⟨some d, .call ⟨.value (.func f), args, ats⟩, ty, pos, aft, none⟩ :: rest) E M :=
  WL.step hd (EX.call he hf hc) k
end

/-- a test that is a proposition -/
theorem WC.test {n : Nat} {w0 : World} {K : Exit → Env → Mem → Prop} {E : Env} {M : Mem} {c : Operand} {x y : Code} {p : Prop} [Decidable p] (hc : ev E c = some (.bool (decide p)))
    (ht : p → WC n w0 x K E M) (hf : ¬ p → WC n w0 y K E M) : WC n w0 (.cond c x y) K E M :=
  WC.cond hc (fun h => ht (of_decide_eq_true h)) (fun h => hf (of_decide_eq_false h))
theorem WC.testN {n : Nat} {w0 : World} {K : Exit → Env → Mem → Prop} {E : Env} {M : Mem} {c : Operand} {x y : Code} {p : Prop} [Decidable p] (hc : ev E c = some (.bool (!decide p)))
    (ht : ¬ p → WC n w0 x K E M) (hf : p → WC n w0 y K E M) : WC n w0 (.cond c x y) K E M :=
  WC.cond hc (fun h => ht (by simpa using h)) (fun h => hf (by simpa using h))

/-- a number of bigmod: its words lie in block l, n of them announced, c there -/
def natO (l n c : Nat) : Obj := .cells #[.slice (some ⟨l, 0, none⟩) n c] 52
/-- its words -/
abbrev words (xs : List Int) : Obj := row .u64 47 xs
def ptr (b : Nat) : Value := .pointer (some ⟨b, 0, none⟩)
end Go.Proofs.YtdnngppofbmpeaaDoor.Bm
