/- Proved here: the law of loops by a state of the prover. No conditions but those that each theorem states. -/
import Derived.Test.YtdnngppofbmpeaaDoorBase6
namespace Go.Proofs.YtdnngppofbmpeaaDoor.Bm
open Go Go.RowKit

/-! ## loops, by a state of ours -/
def Sub (E' E : Env) : Prop := ∀ t v, E'.at? t = some v → E.at? t = some v
theorem Sub.nil {E : Env} : Sub [] E := fun _ _ h => by simp [Env.at?] at h
theorem Sub.cons {d : Nat} {v : Value} {E' E : Env} (h : E.at? d = some v) (k : Sub E' E) : Sub ((d, v) :: E') E := by
  intro t u ht
  simp only [Env.at?] at ht
  split at ht
  · rename_i hb
    have hb := Nat.eq_of_beq_eq_true hb
    subst hb
    cases ht
    exact h
  · exact k t u ht

section
variable {ι : Type} {n : Nat} {w0 : World} {K : Exit → Env → Mem → Prop} {E : Env} {M : Mem}

def loopS (env : ι → Env) (mem : ι → Mem) (inv : ι → Prop) (μ : ι → Nat) (i : ι) (K : Exit → Env → Mem → Prop) : Exit → Env → Mem → Prop
  | .normal, E, M => ∃ j, inv j ∧ μ j < μ i ∧ Sub (env j) E ∧ mem j = M
  | e, E, M => K e E M

theorem WC.loopS {c : Code} (env : ι → Env) (mem : ι → Mem) (inv : ι → Prop) (μ : ι → Nat) (i0 : ι) (h0 : inv i0) (hE : Sub (env i0) E) (hM : mem i0 = M)
    (round : ∀ i, inv i → WC n w0 c (loopS env mem inv μ i K) (env i) (mem i)) : WC n w0 (.loop c) K E M := by
  refine WC.loop (fun m E M => ∃ i, inv i ∧ m = μ i ∧ Sub (env i) E ∧ mem i = M) (μ i0) ⟨i0, h0, rfl, hE, hM⟩ ?_
  rintro m E M ⟨i, hi, rfl, hE, rfl⟩
  refine ((round i hi).weaken hE (List.Sublist.refl _)).mono fun e E' M' hk => ?_
  cases e with
  | normal =>
    obtain ⟨j, h1, h2, h3, h4⟩ := hk
    exact ⟨μ j, h2, j, h1, rfl, h3, h4⟩
  | _ => exact hk

variable {env : ι → Env} {mem : ι → Mem} {inv : ι → Prop} {μ : ι → Nat} {i : ι} {id : Nat}
theorem loopS_next (j : ι) (h : inv j) (hμ : μ j < μ i) (hE : Sub (env j) E) (hM : mem j = M) : loopS env mem inv μ i K .normal E M := ⟨j, h, hμ, hE, hM⟩
theorem loopS_ret (h : K .ret E M) : loopS env mem inv μ i K .ret E M := h
theorem loopS_exit (h : K (.exit id) E M) : loopS env mem inv μ i K (.exit id) E M := h

/-- the environment cut down to what is needed -/
theorem WC.cutE {c : Code} (E' : Env) (hE : Sub E' E) (h : WC n w0 c K E' M) : WC n w0 c K E M := h.weaken hE (List.Sublist.refl _)
/-- memory cut down -/
theorem WC.cutM {c : Code} {M' : Mem} (hM : M'.Sublist M) (h : WC n w0 c K E M') : WC n w0 c K E M := h.weaken (fun _ _ h => h) hM

end
end Go.Proofs.YtdnngppofbmpeaaDoor.Bm
