/- Proved here: the laws of regions whose order is drawn. No conditions but those that each theorem states. -/
import Derived.Test.YtdnngppofbmpeaaDoorBase3
namespace Go.Proofs.YtdnngppofbmpeaaDoor.Bm
open Go Go.RowKit

/-! ## regions whose order is open -/
theorem wp_falseQ {o : Oper} {a : Act} {w : World} {K : Act → World → Prop} {Q : Exit → Act → World → Prop} (h : o.wp P a w K (fun _ _ _ => False)) : o.wp P a w K Q := by
  unfold Oper.wp at *
  generalize (execOp a.eval o).run P w = r at *
  cases r with
  | ok x w' =>
    cases x <;> simp only [Oper.upon] at h ⊢ <;>
      first
        | exact h
        | exact Calls.mono h (fun e w'' he => by
            cases e <;> first | exact he | exact he.elim | (obtain ⟨_, _, he⟩ := he; exact he.elim))
        | exact Rows.mono h (fun _ _ he => he)
  | halt x w' => cases x <;> simp only [Oper.upon] at h ⊢

section
variable {ops : Array Oper} {rs : Nat → Bool} {C : World → Prop} {Qn : Act → World → Prop}

/-- operation j waits for all operations of rs by itself -/
def waits (ops : Array Oper) (rs : Nat → Bool) (j : Nat) : Bool :=
  match ops[j]? with
  | none => false
  | some o => (List.range ops.size).all fun i => !rs i || o.after.any fun e => Region.binds .any e && Nat.beq e.on i

def stepC (ops : Array Oper) (rs : Nat → Bool) (C : World → Prop) (i : Nat) (K : Act → World → Prop) (a : Act) (w : World) : Prop :=
  match ops[i]? with
  | none => K a w
  | some o => if Region.wanted o (yielded ops a.tmps) then o.wp P a w (fun a' w' => (waits ops rs i = false → C w → C w') ∧ K a' w') (fun _ _ _ => False)
    else K (a.put o.dst undef) w

def anyC (ops : Array Oper) (rs : Nat → Bool) (C : World → Prop) (Qn : Act → World → Prop) : Nat → Array Bool → Act → World → Prop
  | 0, listed, a, w => Region.ready .any ops listed = [] ∧ Qn a w
  | fuel + 1, listed, a, w =>
    (Region.ready .any ops listed = [] → Qn a w) ∧
    ∀ i ∈ Region.ready .any ops listed, stepC ops rs C i (anyC ops rs C Qn fuel (listed.setIfInBounds i true)) a w

theorem anyC_sound {Q : Exit → Act → World → Prop} (hQ : ∀ a w, Qn a w → Q .normal a w) : ∀ (fuel : Nat) (listed : Array Bool) (a : Act) (w : World),
    anyC ops rs C Qn fuel listed a w → wpAny P .any ops Q fuel listed a w
  | 0, _, _, _, h => ⟨h.1, hQ _ _ h.2⟩
  | fuel + 1, _, a, w, h => by
    refine ⟨fun h0 => hQ _ _ (h.1 h0), fun i hi => ?_⟩
    have h1 := h.2 i hi
    unfold stepC at h1
    unfold wpOp
    split
    · rename_i ho; simp only [ho] at h1; exact anyC_sound hQ fuel _ _ _ h1
    · rename_i o ho
      simp only [ho] at h1
      split
      · rename_i hw
        simp only [hw, if_true] at h1
        exact .inl (Oper.wp_mono (fun a w hk => anyC_sound hQ fuel _ _ _ hk.2) (wp_falseQ h1))
      · rename_i hw
        simp only [hw] at h1
        exact anyC_sound hQ fuel _ _ _ h1

/-- in every world of the class operation o yields v -/
def Yq (ops : Array Oper) (C : World → Prop) (o : Oper) (v : Value) (a : Act) : Prop :=
  (Region.wanted o (yielded ops a.tmps) = true ∧ ∀ w, C w → (execOp a.eval o).run P w = .ok (.value v) w) ∨
  (Region.wanted o (yielded ops a.tmps) = false ∧ v = undef)

theorem Yq.of_same {o : Oper} {v : Value} {a a' : Act} (hy : Yq ops C o v a) (he : execOp a'.eval o = execOp a.eval o)
    (hw : Region.wanted o (yielded ops a'.tmps) = Region.wanted o (yielded ops a.tmps)) : Yq ops C o v a' := by
  unfold Yq at *
  rw [he, hw]
  exact hy

theorem wp_put {oi oj : Oper} {v : Value} (h1 : ∀ d, oi.dst = some d → d ∉ oj.looksAt ops) (h2 : ∀ d, oi.dst = some d → oj.dst ≠ some d)
    (hsj : ∀ cs b, oj.op ≠ .select cs b) {K : Act → World → Prop} {G : Act → Prop} {a : Act} {w : World}
    (hG : ∀ u, G (a.put oj.dst u)) (hGd : ∀ d u, G (({ a with defers := d :: a.defers } : Act).put oj.dst u))
    (h : oj.wp P (a.put oi.dst v) w K (fun _ _ _ => False)) : oj.wp P a w (fun a' w' => G a' ∧ K (a'.put oi.dst v) w') (fun _ _ _ => False) := by
  unfold Oper.wp at *
  rw [execOp_put oj hsj a oi.dst v h1] at h
  have hput : ∀ u, (a.put oi.dst v).put oj.dst u = (a.put oj.dst u).put oi.dst v := fun u => Act.put_comm a v u h2
  have hputd : ∀ d u, ({ a.put oi.dst v with defers := d :: (a.put oi.dst v).defers } : Act).put oj.dst u = (({ a with defers := d :: a.defers } : Act).put oj.dst u).put oi.dst v := fun d u => by
    rw [Act.put_defers, Act.put_comm _ v u h2]
  generalize (execOp a.eval oj).run P w = r at *
  cases r with
  | ok x w' =>
    cases x <;> simp only [Oper.upon] at h ⊢
    case value u => exact ⟨hG u, by rw [← hput u]; exact h⟩
    case skip => exact ⟨hG _, by rw [← hput undef]; exact h⟩
    case defer d => exact ⟨hGd d _, by rw [← hputd d undef]; exact h⟩
    case enter f args =>
      refine Calls.mono h fun e w'' he => ?_
      cases e with
      | returned u => exact ⟨hG u, by rw [← hput u]; exact he⟩
      | panicked ch => exact he
      | outgrown => exact he
    case row r args => exact Rows.mono h fun u w'' he => ⟨hG u, by rw [← hput u]; exact he⟩
  | halt x w' => cases x <;> simp only [Oper.upon] at h

theorem stepC_put {j : Nat} {oi oj : Oper} {v : Value} {D : World → Prop} (hj : ops[j]? = some oj) (hap : oi.apart ops oj = true)
    (hsi : ∀ cs b, oi.op ≠ .select cs b) (hsj : ∀ cs b, oj.op ≠ .select cs b) {K : Act → World → Prop} {a : Act} {w : World}
    (hy : Yq ops D oi v a) (h : stepC ops rs C j K (a.put oi.dst v) w) :
    stepC ops rs C j (fun a' w' => (waits ops rs j = false → C w → C w') ∧ Yq ops D oi v a' ∧ K (a'.put oi.dst v) w') a w := by
  obtain ⟨h1, h2, h3⟩ := Oper.apart_spec hap
  have keep : ∀ u, Yq ops D oi v (a.put oj.dst u) := fun u => hy.of_same (execOp_put oi hsi a oj.dst u h3) (wanted_put oi a oj.dst u h3)
  have keepd : ∀ d u, Yq ops D oi v (({ a with defers := d :: a.defers } : Act).put oj.dst u) := fun d u => by
    refine (show Yq ops D oi v ({ a with defers := d :: a.defers } : Act) from hy).of_same (execOp_put oi hsi _ oj.dst u h3) (wanted_put oi _ oj.dst u h3)
  unfold stepC at *
  simp only [hj] at *
  rw [wanted_put oj a oi.dst v h1] at h
  split
  · rename_i hw
    simp only [hw, if_true] at h
    refine Oper.wp_mono (fun a' w' hk => ?_) (wp_put (G := Yq ops D oi v) h1 h2 hsj keep keepd h)
    exact ⟨hk.2.1, hk.2.1, hk.1, hk.2.2⟩
  · rename_i hw
    simp only [hw] at h
    exact ⟨fun _ hc => hc, keep _, by rw [← Act.put_comm a v undef h2]; exact h⟩

theorem stepC_mono {j : Nat} {K K' : Act → World → Prop} {a : Act} {w : World} (hk : ∀ a' w', K a' w' → K' a' w') (h : stepC ops rs C j K a w) : stepC ops rs C j K' a w := by
  unfold stepC at *
  split
  · rename_i ho; simp only [ho] at h; exact hk _ _ h
  · rename_i o ho
    simp only [ho] at h
    split
    · rename_i hw; simp only [hw, if_true] at h; exact Oper.wp_mono (fun a' w' hh => ⟨hh.1, hk _ _ hh.2⟩) h
    · rename_i hw; simp only [hw] at h; exact hk _ _ h

theorem Yq.step {i : Nat} {oi : Oper} {v : Value} {a : Act} {w : World} {D : World → Prop} (hi : ops[i]? = some oi) (hy : Yq ops D oi v a) (hD : D w) {K : Act → World → Prop} (h : K (a.put oi.dst v) w) :
    stepC ops rs C i K a w := by
  unfold stepC
  simp only [hi]
  rcases hy with ⟨hw, hv⟩ | ⟨hw, rfl⟩
  · simp only [hw, if_true, Oper.wp, hv w hD, Oper.upon]
    exact ⟨fun _ hc => hc, h⟩
  · simp only [hw, Bool.false_eq_true, if_false]; exact h

theorem waits_dep {i j : Nat} {oj : Oper} (hw : waits ops rs j = true) (hj : ops[j]? = some oj) (hi : rs i = true) (his : i < ops.size) : ∃ e ∈ oj.after, Region.binds .any e = true ∧ e.on = i := by
  unfold waits at hw
  simp only [hj, List.all_eq_true, List.mem_range] at hw
  have := hw i his
  simp only [hi, Bool.not_true, Bool.false_or, Array.any_eq_true'] at this
  obtain ⟨e, he, hb⟩ := this
  simp only [Bool.and_eq_true] at hb
  exact ⟨e, he, hb.1, Nat.eq_of_beq_eq_true hb.2⟩

theorem ready_lt {i : Nat} {listed : Array Bool} (h : i ∈ Region.ready .any ops listed) : i < ops.size := by
  unfold Region.ready at h
  exact List.mem_range.1 (List.mem_filter.1 h).1

/-- an operation that may come up, and that yields its value in every world that may be met, may be taken first -/
theorem anyC_first {i : Nat} {oi : Oper} {v : Value} {D : World → Prop} (hi : ops[i]? = some oi) (hsel : ∀ (j : Nat) (o : Oper) cs b, ops[j]? = some o → o.op ≠ .select cs b)
    (hD : (∀ w, D w) ∨ (D = C ∧ rs i = true)) :
    ∀ (fuel : Nat) (listed : Array Bool) (a : Act) (w : World),
      (∀ j oj, ops[j]? = some oj → j ≠ i → listed.getD j true = false → (∀ e ∈ oj.after, Region.binds .any e = true → e.on ≠ i) → oi.apart ops oj = true) →
      i ∈ Region.ready .any ops listed → Yq ops D oi v a → D w →
      anyC ops rs C Qn fuel (listed.setIfInBounds i true) (a.put oi.dst v) w → anyC ops rs C Qn (fuel + 1) listed a w := by
  intro fuel
  induction fuel with
  | zero =>
    intro listed a w _ hr hy hDw H
    refine ⟨fun h => (by rw [h] at hr; cases hr), fun j hj => ?_⟩
    by_cases hji : j = i
    · subst hji; exact hy.step hi hDw H
    · have := ready_mono hj hji
      rw [H.1] at this
      cases this
  | succ fuel ih =>
    intro listed a w hfree hr hy hDw H
    refine ⟨fun h => (by rw [h] at hr; cases hr), fun j hj => ?_⟩
    by_cases hji : j = i
    · subst hji; exact hy.step hi hDw H
    · have h1 := H.2 j (ready_mono hj hji)
      obtain ⟨hjun, oj, hoj, hall⟩ := mem_ready.1 hj
      have hnot : ∀ e ∈ oj.after, Region.binds .any e = true → e.on ≠ i := fun e he hb heq => by
        have h1 := hall e he hb
        have h0 := (mem_ready.1 hr).1
        rw [heq] at h1
        rcases Nat.lt_or_ge i listed.size with h' | h'
        · simp [h'] at h0 h1; rw [h0] at h1; cases h1
        · simp [Array.getElem?_eq_none h'] at h1
      have h2 := stepC_put hoj (hfree j oj hoj hji hjun hnot) (fun cs b => hsel i oi cs b hi) (fun cs b => hsel j oj cs b hoj) hy h1
      have hfree' : ∀ k ok, ops[k]? = some ok → k ≠ i → (listed.setIfInBounds j true).getD k true = false →
          (∀ e ∈ ok.after, Region.binds .any e = true → e.on ≠ i) → oi.apart ops ok = true := fun k ok hk hki hun hno => by
        refine hfree k ok hk hki ?_ hno
        by_cases hjk : j = k
        · subst hjk; exact hjun
        · rw [getD_set_ne true hjk] at hun; exact hun
      refine stepC_mono (fun a' w' h3 => ih (listed.setIfInBounds j true) a' w' hfree' (ready_mono hr (Ne.symm hji)) h3.2.1 ?_ ?_) h2
      · rcases hD with hD | ⟨rfl, hri⟩
        · exact hD w'
        · refine h3.1 ?_ hDw
          cases hw : waits ops rs j with
          | false => rfl
          | true =>
            obtain ⟨e, he, hb, heq⟩ := waits_dep hw hoj hri (ready_lt hr)
            exact absurd heq (hnot e he hb)
      · rw [Array.setIfInBounds_comm _ _ hji]
        exact h3.2.2
end

/-! ### the walk, in an order of ours -/
def opAt : List Oper → Nat → Option Oper
  | [], _ => none
  | o :: _, 0 => some o
  | _ :: r, i + 1 => opAt r i

theorem opAt_eq : ∀ (l : List Oper) (i : Nat), opAt l i = l.toArray[i]?
  | [], i => by simp [opAt]
  | o :: r, 0 => by simp [opAt]
  | o :: r, i + 1 => by
    have := opAt_eq r i
    simp only [opAt, this]
    simp

def noSel (l : List Oper) : Bool := l.all fun o => match o.op with | .select _ _ => false | _ => true

def apartAll (ops : Array Oper) : Bool :=
  (List.range ops.size).all fun i => (List.range ops.size).all fun j =>
    Nat.beq i j || (match ops[i]?, ops[j]? with
      | some oi, some oj => (oj.after.any fun e => Region.binds .any e && Nat.beq e.on i) || (oi.after.any fun e => Region.binds .any e && Nat.beq e.on j) || oi.apart ops oj
      | _, _ => true)

/-- the order is such as the rules ask: 0 and 1: may come up; 2: nothing else may -/
def chk (ops : Array Oper) (rs : Nat → Bool) : List (Nat × Nat) → Array Bool → Bool
  | [], listed => (Region.ready .any ops listed).isEmpty
  | (k, i) :: r, listed => (match k with
      | 0 => (Region.ready .any ops listed).contains i
      | 1 => (Region.ready .any ops listed).contains i && rs i
      | _ => (match Region.ready .any ops listed with | [j] => Nat.beq i j | _ => false)) && chk ops rs r (listed.setIfInBounds i true)

def inR (ord : List (Nat × Nat)) (i : Nat) : Bool := ord.any fun p => Nat.beq p.1 1 && Nat.beq p.2 i

structure DW (n : Nat) (w0 : World) (l : List Oper) (rs : Nat → Bool) (Ms : Mem) (K : Exit → Env → Mem → Prop) (rest : List (Nat × Nat)) (E : Env) (M : Mem) : Prop where
  run : ∀ listed, apartAll l.toArray = true → noSel l = true → chk l.toArray rs rest listed = true → ∀ a w, Rep n E a → HR w0 M w →
    anyC l.toArray rs (HW w0 Ms) (fun a w => KX n w0 K .normal a w) rest.length listed a w

section
variable {n : Nat} {w0 : World} {K : Exit → Env → Mem → Prop} {E : Env} {M : Mem} {l : List Oper} {rs : Nat → Bool} {Ms : Mem} {rest : List (Nat × Nat)}

theorem noSel_at (h : noSel l = true) : ∀ (j : Nat) (o : Oper) cs b, l.toArray[j]? = some o → o.op ≠ .select cs b := by
  intro j o cs b hj he
  have hm : o ∈ l := by
    have := Array.mem_of_getElem? hj
    simpa using this
  have := (List.all_eq_true.1 h) o hm
  rw [he] at this
  cases this

theorem apartAll_at {ops : Array Oper} (h : apartAll ops = true) {i j : Nat} {oi oj : Oper} (hi : ops[i]? = some oi) (hj : ops[j]? = some oj) (hne : j ≠ i)
    (h1 : ∀ e ∈ oj.after, Region.binds .any e = true → e.on ≠ i) (h2 : ∀ e ∈ oi.after, Region.binds .any e = true → e.on ≠ j) : oi.apart ops oj = true := by
  have his : i < ops.size := by
    rcases Nat.lt_or_ge i ops.size with h' | h'
    · exact h'
    · simp [Array.getElem?_eq_none h'] at hi
  have hjs : j < ops.size := by
    rcases Nat.lt_or_ge j ops.size with h' | h'
    · exact h'
    · simp [Array.getElem?_eq_none h'] at hj
  have h0 := (List.all_eq_true.1 ((List.all_eq_true.1 h) i (List.mem_range.2 his))) j (List.mem_range.2 hjs)
  simp only [hi, hj, Bool.or_eq_true] at h0
  have no : ∀ (o : Oper) (k : Nat), (∀ e ∈ o.after, Region.binds .any e = true → e.on ≠ k) → ¬ (o.after.any fun e => Region.binds .any e && Nat.beq e.on k) = true := fun o k hh ha => by
    rw [Array.any_eq_true'] at ha
    obtain ⟨e, he, hb⟩ := ha
    simp only [Bool.and_eq_true] at hb
    exact hh e he hb.1 (Nat.eq_of_beq_eq_true hb.2)
  rcases h0 with h0 | (h0 | h0) | h0
  · exact absurd (Nat.eq_of_beq_eq_true h0).symm hne
  · exact absurd h0 (no oj i h1)
  · exact absurd h0 (no oi j h2)
  · exact h0

theorem ready_free {ops : Array Oper} {listed : Array Bool} (h : apartAll ops = true) {i : Nat} {oi : Oper} (hi : ops[i]? = some oi) (hr : i ∈ Region.ready .any ops listed) :
    ∀ j oj, ops[j]? = some oj → j ≠ i → listed.getD j true = false → (∀ e ∈ oj.after, Region.binds .any e = true → e.on ≠ i) → oi.apart ops oj = true := by
  intro j oj hj hne hun hno
  refine apartAll_at h hi hj hne hno fun e he hb heq => ?_
  obtain ⟨_, o', ho', hall⟩ := mem_ready.1 hr
  rw [hi] at ho'
  cases ho'
  have h1 := hall e he hb
  rw [heq] at h1
  rcases Nat.lt_or_ge j listed.size with h' | h'
  · simp [h'] at h1 hun; rw [hun] at h1; cases h1
  · simp [Array.getElem?_eq_none h'] at h1

theorem DW.nil (h : K .normal E M) : DW n w0 l rs Ms K [] E M := by
  refine ⟨fun listed _ _ hc a w ha hw => ?_⟩
  simp only [chk, List.isEmpty_iff] at hc
  exact ⟨hc, E, M, ha, hw, h⟩

/-- is a guard met? -/
def gok (l : List Oper) (E : Env) : Option (Nat × Bool) → Bool
  | none => true
  | some (j, b) => match (opAt l j).bind (·.dst) with
    | some t => match E.at? t with
      | some (.bool b') => b == b'
      | _ => false
    | none => false
def gno (l : List Oper) (E : Env) : Option (Nat × Bool) → Bool
  | none => false
  | some (j, b) => match (opAt l j).bind (·.dst) with
    | some t => match E.at? t with
      | some (.bool b') => b != b'
      | _ => false
    | none => false

theorem gok_wanted {o : Oper} {a : Act} (ha : Rep n E a) (h : gok l E o.guard = true) : Region.wanted o (yielded l.toArray a.tmps) = true := by
  unfold Region.wanted
  unfold gok at h
  split at h
  · rename_i hg; simp [hg]
  · rename_i j b hg
    simp only [hg]
    split at h
    · rename_i t ht
      split at h
      · rename_i b' hb
        rw [opAt_eq] at ht
        have h1 := ha.at_ t _ hb
        simp only [yielded, ht, Option.bind_some, h1]
        simpa using (beq_iff_eq.1 h).symm
      · cases h
    · cases h

theorem gno_wanted {o : Oper} {a : Act} (ha : Rep n E a) (h : gno l E o.guard = true) : Region.wanted o (yielded l.toArray a.tmps) = false := by
  unfold Region.wanted
  unfold gno at h
  split at h
  · cases h
  · rename_i j b hg
    simp only [hg]
    split at h
    · rename_i t ht
      split at h
      · rename_i b' hb
        rw [opAt_eq] at ht
        have h1 := ha.at_ t _ hb
        simp only [yielded, ht, Option.bind_some, h1]
        have : b ≠ b' := bne_iff_ne.1 h
        simpa using this.symm
      · cases h
    · cases h

theorem DW.first {i d : Nat} {op : Op} {ty : TypeId} {pos : String} {aft : Array Edge} {g : Option (Nat × Bool)} {v : Value} {D : World → Prop} {k : Nat} (ho : opAt l i = some ⟨some d, op, ty, pos, aft, g⟩) (hd : Nat.blt d n = true)
    (hk : k = 0 ∧ (∀ w, D w) ∨ k = 1 ∧ D = HW w0 Ms) (hDw : ∀ w, HR w0 M w → D w)
    (hy : ∀ a, Rep n E a → Yq l.toArray D ⟨some d, op, ty, pos, aft, g⟩ v a) (kk : DW n w0 l rs Ms K rest ((d, v) :: E) M) : DW n w0 l rs Ms K ((k, i) :: rest) E M := by
  refine ⟨fun listed hap hns hc a w ha hw => ?_⟩
  rw [opAt_eq] at ho
  have hnext := fun hc => kk.run (listed.setIfInBounds i true) hap hns hc (a.put (some d) v) w (ha.put (by simpa [Nat.blt_eq] using hd) v) hw
  rcases hk with ⟨rfl, hD⟩ | ⟨rfl, rfl⟩
  · simp only [chk, Bool.and_eq_true, List.contains_iff_mem] at hc
    exact anyC_first ho (noSel_at hns) (.inl hD) _ _ _ _ (ready_free hap ho hc.1) hc.1 (hy a ha) (hD w) (hnext hc.2)
  · simp only [chk, Bool.and_eq_true, List.contains_iff_mem] at hc
    exact anyC_first ho (noSel_at hns) (.inr ⟨rfl, hc.1.2⟩) _ _ _ _ (ready_free hap ho hc.1.1) hc.1.1 (hy a ha) (hDw w hw) (hnext hc.2)

/-- reckoned without memory -/
theorem DW.p {i d : Nat} {op : Op} {ty : TypeId} {pos : String} {aft : Array Edge} {g : Option (Nat × Bool)} {v : Value} (ho : opAt l i = some ⟨some d, op, ty, pos, aft, g⟩) (hg : gok l E g = true)
    (h : ∀ w0, LX n w0 ⟨some d, op, ty, pos, aft, g⟩ E [] v) (hd : Nat.blt d n = true) (k : DW n w0 l rs Ms K rest ((d, v) :: E) M) : DW n w0 l rs Ms K ((0, i) :: rest) E M :=
  DW.first (D := fun _ => True) ho hd (.inl ⟨rfl, fun _ => trivial⟩) (fun _ _ => trivial)
    (fun a ha => .inl ⟨gok_wanted ha hg, fun w _ => (h w).run a w ha ⟨Below.refl _ _, fun p hp => by simp at hp⟩⟩) k

/-- not carried out -/
theorem DW.skip {i d : Nat} {op : Op} {ty : TypeId} {pos : String} {aft : Array Edge} {g : Option (Nat × Bool)} (ho : opAt l i = some ⟨some d, op, ty, pos, aft, g⟩) (hg : gno l E g = true)
    (hd : Nat.blt d n = true) (k : DW n w0 l rs Ms K rest ((d, undef) :: E) M) : DW n w0 l rs Ms K ((0, i) :: rest) E M :=
  DW.first (D := fun _ => True) ho hd (.inl ⟨rfl, fun _ => trivial⟩) (fun _ _ => trivial) (fun _ ha => .inr ⟨gno_wanted ha hg, rfl⟩) k

/-- read from memory of the class -/
theorem DW.r {i d : Nat} {op : Op} {ty : TypeId} {pos : String} {aft : Array Edge} {g : Option (Nat × Bool)} {v : Value} (ho : opAt l i = some ⟨some d, op, ty, pos, aft, g⟩) (hg : gok l E g = true)
    (h : LX n w0 ⟨some d, op, ty, pos, aft, g⟩ E Ms v) (hs : ∀ p ∈ Ms, p ∈ M) (hd : Nat.blt d n = true) (k : DW n w0 l rs Ms K rest ((d, v) :: E) M) : DW n w0 l rs Ms K ((1, i) :: rest) E M :=
  DW.first (D := HW w0 Ms) ho hd (.inr ⟨rfl, rfl⟩) (fun _ hw => hw.hw_sub hs) (fun a ha => .inl ⟨gok_wanted ha hg, fun w hw => h.run a w ha hw⟩) k

theorem DW.forced {i : Nat} {dst : Option Nat} {op : Op} {ty : TypeId} {pos : String} {aft : Array Edge} {g : Option (Nat × Bool)} {R : Value → Mem → Prop} (ho : opAt l i = some ⟨dst, op, ty, pos, aft, g⟩) (hg : gok l E g = true)
    (h : EX n w0 ⟨dst, op, ty, pos, aft, g⟩ E M R) (hd : ∀ d, dst = some d → d < n)
    (k : ∀ v M', R v M' → (waits l.toArray rs i = false → ∀ p ∈ Ms, p ∈ M') ∧ DW n w0 l rs Ms K rest (pushE dst v E) M') :
    DW n w0 l rs Ms K ((2, i) :: rest) E M := by
  refine ⟨fun listed hap hns hc a w ha hw => ?_⟩
  rw [opAt_eq] at ho
  simp only [chk, Bool.and_eq_true] at hc
  obtain ⟨hc1, hc2⟩ := hc
  have hr : Region.ready .any l.toArray listed = [i] := by
    split at hc1
    · rename_i j hj; rw [hj, Nat.eq_of_beq_eq_true hc1]
    · cases hc1
  refine ⟨fun h0 => (by rw [hr] at h0; cases h0), fun j hj => ?_⟩
  rw [hr, List.mem_singleton] at hj
  subst hj
  unfold stepC
  simp only [ho]
  rw [if_pos (gok_wanted ha hg)]
  refine h.run a w ha hw _ _ fun v M' w' hR hw' => ?_
  obtain ⟨k1, k2⟩ := k v M' hR
  refine ⟨fun hwt _ => hw'.hw_sub (k1 hwt), k2.run _ hap hns hc2 _ _ (ha.putd v hd) hw'⟩

/-- a step that only it may come up; what the class speaks of stays -/
theorem DW.f {i d : Nat} {op : Op} {ty : TypeId} {pos : String} {aft : Array Edge} {g : Option (Nat × Bool)} {R : Value → Mem → Prop} (ho : opAt l i = some ⟨some d, op, ty, pos, aft, g⟩) (hg : gok l E g = true)
    (h : EX n w0 ⟨some d, op, ty, pos, aft, g⟩ E M R) (hd : Nat.blt d n = true) (k : ∀ v M', R v M' → (∀ p ∈ Ms, p ∈ M') ∧ DW n w0 l rs Ms K rest ((d, v) :: E) M') : DW n w0 l rs Ms K ((2, i) :: rest) E M :=
  DW.forced ho hg h (fun e he => by cases he; simpa [Nat.blt_eq] using hd) fun v M' hR => ⟨fun _ => (k v M' hR).1, (k v M' hR).2⟩
theorem DW.f0 {i : Nat} {op : Op} {ty : TypeId} {pos : String} {aft : Array Edge} {g : Option (Nat × Bool)} {R : Value → Mem → Prop} (ho : opAt l i = some ⟨none, op, ty, pos, aft, g⟩) (hg : gok l E g = true)
    (h : EX n w0 ⟨none, op, ty, pos, aft, g⟩ E M R) (k : ∀ v M', R v M' → (∀ p ∈ Ms, p ∈ M') ∧ DW n w0 l rs Ms K rest E M') : DW n w0 l rs Ms K ((2, i) :: rest) E M :=
  DW.forced ho hg h (fun e he => by cases he) fun v M' hR => ⟨fun _ => (k v M' hR).1, (k v M' hR).2⟩
/-- a step that only it may come up, behind all that reads -/
theorem DW.t {i d : Nat} {op : Op} {ty : TypeId} {pos : String} {aft : Array Edge} {g : Option (Nat × Bool)} {R : Value → Mem → Prop} (ho : opAt l i = some ⟨some d, op, ty, pos, aft, g⟩) (hg : gok l E g = true)
    (h : EX n w0 ⟨some d, op, ty, pos, aft, g⟩ E M R) (hd : Nat.blt d n = true) (hw : waits l.toArray rs i = true) (k : ∀ v M', R v M' → DW n w0 l rs Ms K rest ((d, v) :: E) M') : DW n w0 l rs Ms K ((2, i) :: rest) E M :=
  DW.forced ho hg h (fun e he => by cases he; simpa [Nat.blt_eq] using hd) fun v M' hR => ⟨fun hw' => (by rw [hw] at hw'; cases hw'), k v M' hR⟩
theorem DW.t0 {i : Nat} {op : Op} {ty : TypeId} {pos : String} {aft : Array Edge} {g : Option (Nat × Bool)} {R : Value → Mem → Prop} (ho : opAt l i = some ⟨none, op, ty, pos, aft, g⟩) (hg : gok l E g = true)
    (h : EX n w0 ⟨none, op, ty, pos, aft, g⟩ E M R) (hw : waits l.toArray rs i = true) (k : ∀ v M', R v M' → DW n w0 l rs Ms K rest E M') : DW n w0 l rs Ms K ((2, i) :: rest) E M :=
  DW.forced ho hg h (fun e he => by cases he) fun v M' hR => ⟨fun hw' => (by rw [hw] at hw'; cases hw'), k v M' hR⟩

section
variable {M' : Mem} {u0 : Value} {i d : Nat} {op : Op} {ty : TypeId} {pos : String} {aft : Array Edge} {g : Option (Nat × Bool)}
theorem DW.fput (ho : opAt l i = some ⟨none, op, ty, pos, aft, g⟩) (hg : gok l E g = true) (h : EX n w0 ⟨none, op, ty, pos, aft, g⟩ E M (fun u M'' => u = u0 ∧ M'' = M')) (hs : ∀ p ∈ Ms, p ∈ M')
    (k : DW n w0 l rs Ms K rest E M') : DW n w0 l rs Ms K ((2, i) :: rest) E M := DW.f0 ho hg h fun _ _ ⟨_, h2⟩ => by subst h2; exact ⟨hs, k⟩
theorem DW.fval (ho : opAt l i = some ⟨some d, op, ty, pos, aft, g⟩) (hg : gok l E g = true) (h : EX n w0 ⟨some d, op, ty, pos, aft, g⟩ E M (fun u M'' => u = u0 ∧ M'' = M')) (hs : ∀ p ∈ Ms, p ∈ M')
    (hd : Nat.blt d n = true) (k : DW n w0 l rs Ms K rest ((d, u0) :: E) M') : DW n w0 l rs Ms K ((2, i) :: rest) E M := DW.f ho hg h hd fun _ _ ⟨h1, h2⟩ => by subst h1; subst h2; exact ⟨hs, k⟩
theorem DW.tput (ho : opAt l i = some ⟨none, op, ty, pos, aft, g⟩) (hg : gok l E g = true) (h : EX n w0 ⟨none, op, ty, pos, aft, g⟩ E M (fun u M'' => u = u0 ∧ M'' = M')) (hw : waits l.toArray rs i = true)
    (k : DW n w0 l rs Ms K rest E M') : DW n w0 l rs Ms K ((2, i) :: rest) E M := DW.t0 ho hg h hw fun _ _ ⟨_, h2⟩ => by subst h2; exact k
theorem DW.tval (ho : opAt l i = some ⟨some d, op, ty, pos, aft, g⟩) (hg : gok l E g = true) (h : EX n w0 ⟨some d, op, ty, pos, aft, g⟩ E M (fun u M'' => u = u0 ∧ M'' = M')) (hw : waits l.toArray rs i = true)
    (hd : Nat.blt d n = true) (k : DW n w0 l rs Ms K rest ((d, u0) :: E) M') : DW n w0 l rs Ms K ((2, i) :: rest) E M := DW.t ho hg h hd hw fun _ _ ⟨h1, h2⟩ => by subst h1; subst h2; exact k
end

theorem follows_mixed : P.follows .mixedOrders = true := by kernel_rfl

/-- a region whose order is open: by an order of ours -/
theorem WC.draw {id : Nat} (ord : List (Nat × Nat)) (Ms : Mem) (hlen : ord.length = l.length) (hap : apartAll l.toArray = true) (hns : noSel l = true)
    (hc : chk l.toArray (inR ord) ord (Array.replicate l.length false) = true) (h : DW n w0 l (inR ord) Ms K ord E M) : WC n w0 (.region id l.toArray true) K E M := by
  refine ⟨fun a w ha hw => ?_⟩
  refine wp_region_any follows_mixed ?_
  have h1 := h.run _ hap hns hc a { w with drawn := w.drawn + 1 } ha ⟨hw.below.drew, hw.nodup, hw.has⟩
  have := anyC_sound (Q := KX n w0 K) (fun _ _ hq => hq) _ _ _ _ h1
  rw [hlen] at this
  simpa using this
end
end Go.Proofs.YtdnngppofbmpeaaDoor.Bm
