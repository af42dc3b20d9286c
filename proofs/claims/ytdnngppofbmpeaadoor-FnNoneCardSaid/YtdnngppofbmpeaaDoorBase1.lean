/- Proved here: the laws by which a walk goes through code of the program: sequence, test, block, loop, region, call. No conditions but those that each theorem states. -/
import Derived.Test.YtdnngppofbmpeaaDoorProg
import Derived.WalkKit
import Derived.Still
namespace Go.Proofs.YtdnngppofbmpeaaDoor.Bm
open Go Go.RowKit

noncomputable abbrev P : Program := Tryd.prog

/-! ## environments -/
abbrev Env := List (Nat × Value)

def Env.at? : Env → Nat → Option Value
  | [], _ => none
  | (d, v) :: r, t => match Nat.beq d t with
    | true => some v
    | false => Env.at? r t

def ev (E : Env) : Operand → Option Value
  | .tmp t => E.at? t
  | .const v => some v
  | .global g => some (.pointer (some ⟨g, 0, none⟩))
  | .func f => some (.func (.func f) #[] #[])

def evs (E : Env) : List Operand → Option (List Value)
  | [] => some []
  | x :: r => match ev E x, evs E r with
    | some v, some vs => some (v :: vs)
    | _, _ => none

/-- the frame holds what the environment says -/
structure Rep (n : Nat) (E : Env) (a : Act) : Prop where
  size : a.tmps.size = n
  defers : a.defers = []
  at_ : ∀ t v, E.at? t = some v → a.tmps[t]? = some v

theorem Rep.eval {n : Nat} {E : Env} {a : Act} (h : Rep n E a) {x : Operand} {v : Value} (hx : ev E x = some v) : a.eval x = v := by
  cases x with
  | tmp t =>
    have := h.at_ t v hx
    simp [Act.eval, this]
  | const u => simpa [ev, Act.eval] using hx
  | global g => simpa [ev, Act.eval] using hx
  | func f => simpa [ev, Act.eval] using hx

theorem Rep.evals {n : Nat} {E : Env} {a : Act} (h : Rep n E a) : ∀ {xs : List Operand} {vs : List Value}, evs E xs = some vs → xs.map a.eval = vs
  | [], vs, hx => by simp [evs] at hx; simp [hx]
  | x :: r, vs, hx => by
    unfold evs at hx
    cases h1 : ev E x with
    | none => simp [h1] at hx
    | some v =>
      cases h2 : evs E r with
      | none => simp [h1, h2] at hx
      | some us =>
        simp [h1, h2] at hx
        subst hx
        simp [h.eval h1, h.evals h2]

theorem Rep.put {n : Nat} {E : Env} {a : Act} (h : Rep n E a) {d : Nat} (hd : d < n) (v : Value) : Rep n ((d, v) :: E) (a.put (some d) v) := by
  refine ⟨by simp [Act.put, h.size], h.defers, fun t u ht => ?_⟩
  simp only [Env.at?] at ht
  show (a.tmps.setIfInBounds d v)[t]? = some u
  split at ht
  · rename_i hb
    have hb := Nat.eq_of_beq_eq_true hb
    subst hb
    have hs : d < a.tmps.size := by rw [h.size]; exact hd
    simp [hs]
    simpa using ht
  · rename_i hb
    have hne : d ≠ t := fun e => by subst e; simp at hb
    rw [Array.getElem?_setIfInBounds_ne hne]
    exact h.at_ t u ht

theorem Rep.put0 {n : Nat} {E : Env} {a : Act} (h : Rep n E a) (v : Value) : Rep n E (a.put none v) := h

theorem Rep.weaken {n : Nat} {E E' : Env} {a : Act} (h : Rep n E a) (hE : ∀ t v, E'.at? t = some v → E.at? t = some v) : Rep n E' a :=
  ⟨h.size, h.defers, fun t v ht => h.at_ t v (hE t v ht)⟩

/-! ## memory of the call's own -/
abbrev Mem := List (Nat × Obj)

/-- the world w, begun as w0: what was there is as it was; the blocks of M are new, pairwise different, and hold what M says -/
structure HR (w0 : World) (M : Mem) (w : World) : Prop where
  below : Below w0.heap.size w0 w
  nodup : (M.map (·.1)).Nodup
  has : ∀ p ∈ M, w0.heap.size ≤ p.1 ∧ w.heap[p.1]? = some p.2

/-- as HR, nothing said of the blocks being different -/
structure HW (w0 : World) (M : Mem) (w : World) : Prop where
  below : Below w0.heap.size w0 w
  has : ∀ p ∈ M, w0.heap.size ≤ p.1 ∧ w.heap[p.1]? = some p.2

theorem HR.hw {w0 w : World} {M : Mem} (h : HR w0 M w) : HW w0 M w := ⟨h.below, h.has⟩
theorem HR.hw_sub {w0 w : World} {M N : Mem} (h : HR w0 M w) (hs : ∀ p ∈ N, p ∈ M) : HW w0 N w := ⟨h.below, fun p hp => h.has p (hs p hp)⟩

theorem HR.nil (w0 : World) : HR w0 [] w0 := ⟨Below.refl _ _, by simp, fun p hp => by simp at hp⟩

theorem HR.ne {w0 w : World} {M : Mem} (h : HR w0 M w) {b b' : Nat} {o o' : Obj} (hm : (b, o) ∈ M) (hm' : (b', o') ∈ M) (hne : o ≠ o') : b ≠ b' := by
  intro e; subst e
  have h1 := (h.has _ hm).2
  have h2 := (h.has _ hm').2
  simp only at h1 h2
  rw [h1] at h2
  exact hne (by simpa using h2)

theorem nodup_map_of_sublist {M N : Mem} (h : N.Sublist M) (hn : (M.map (·.1)).Nodup) : (N.map (·.1)).Nodup := hn.sublist (h.map _)

theorem HR.sub {w0 w : World} {M N : Mem} (h : HR w0 M w) (hs : N.Sublist M) : HR w0 N w :=
  ⟨h.below, nodup_map_of_sublist hs h.nodup, fun p hp => h.has p (hs.subset hp)⟩

theorem HR.perm {w0 w : World} {M N : Mem} (h : HR w0 M w) (hs : N.Perm M) : HR w0 N w :=
  ⟨h.below, (hs.map (·.1)).nodup_iff.2 h.nodup, fun p hp => h.has p (hs.subset hp)⟩

/-- a new block -/
theorem HR.alloc {w0 w : World} {M : Mem} (h : HR w0 M w) (o : Obj) : HR w0 ((w.heap.size, o) :: M) (w.alloc o) := by
  refine ⟨h.below.alloc h.below.size o, ?_, ?_⟩
  · simp only [List.map_cons, List.nodup_cons]
    refine ⟨fun hm => ?_, h.nodup⟩
    obtain ⟨p, hp, he⟩ := List.mem_map.1 hm
    have := (h.has p hp).2
    rw [he] at this
    simp at this
  · intro p hp
    rcases List.mem_cons.1 hp with rfl | hp
    · exact ⟨h.below.size, by show (w.heap.push o)[w.heap.size]? = some o; simp⟩
    · refine ⟨(h.has p hp).1, ?_⟩
      have h2 := (h.has p hp).2
      have hlt : p.1 < w.heap.size := by
        rcases Nat.lt_or_ge p.1 w.heap.size with h' | h'
        · exact h'
        · simp [Array.getElem?_eq_none h'] at h2
      rw [Below.heap_alloc _ _ _ hlt]
      exact h2

/-- block b of M holds o' from here on -/
inductive Upd : Mem → Nat → Obj → Mem → Prop
  | here {b : Nat} {o o' : Obj} {M : Mem} : Upd ((b, o) :: M) b o' ((b, o') :: M)
  | there {p : Nat × Obj} {b : Nat} {o' : Obj} {M M' : Mem} : Upd M b o' M' → Upd (p :: M) b o' (p :: M')

theorem Upd.keys {M M' : Mem} {b : Nat} {o' : Obj} (h : Upd M b o' M') : M'.map (·.1) = M.map (·.1) := by
  induction h with
  | here => rfl
  | there _ ih => simp [ih]

theorem Upd.key {M M' : Mem} {b : Nat} {o' : Obj} (h : Upd M b o' M') : ∃ o, (b, o) ∈ M := by
  induction h with
  | here => exact ⟨_, List.mem_cons_self⟩
  | there _ ih => obtain ⟨o, ho⟩ := ih; exact ⟨o, List.mem_cons_of_mem _ ho⟩

/-- what is in the new list is new, or was there under another key -/
theorem Upd.mem {M M' : Mem} {b : Nat} {o' : Obj} (h : Upd M b o' M') (hn : (M.map (·.1)).Nodup) : ∀ p ∈ M', p = (b, o') ∨ (p ∈ M ∧ p.1 ≠ b) := by
  induction h with
  | here =>
    intro p hp
    simp only [List.map_cons, List.nodup_cons] at hn
    rcases List.mem_cons.1 hp with rfl | hp
    · exact .inl rfl
    · exact .inr ⟨List.mem_cons_of_mem _ hp, fun e => hn.1 (e ▸ List.mem_map.2 ⟨p, hp, rfl⟩)⟩
  | there hu ih =>
    intro p hp
    simp only [List.map_cons, List.nodup_cons] at hn
    rcases List.mem_cons.1 hp with rfl | hp
    · refine .inr ⟨List.mem_cons_self, fun e => ?_⟩
      obtain ⟨o, ho⟩ := hu.key
      exact hn.1 (e ▸ List.mem_map.2 ⟨_, ho, rfl⟩)
    · rcases ih hn.2 p hp with h | h
      · exact .inl h
      · exact .inr ⟨List.mem_cons_of_mem _ h.1, h.2⟩

theorem HR.upd {w0 w w' : World} {M M' : Mem} {b : Nat} {o' : Obj} (h : HR w0 M w) (hu : Upd M b o' M') (hb : Below w0.heap.size w0 w')
    (hat : w'.heap[b]? = some o') (hoth : ∀ k, k ≠ b → w'.heap[k]? = w.heap[k]?) : HR w0 M' w' := by
  refine ⟨hb, by rw [hu.keys]; exact h.nodup, fun p hp => ?_⟩
  rcases hu.mem h.nodup p hp with rfl | ⟨hm, hne⟩
  · obtain ⟨o, ho⟩ := hu.key
    exact ⟨(h.has _ ho).1, hat⟩
  · exact ⟨(h.has p hm).1, by rw [hoth _ hne]; exact (h.has p hm).2⟩

/-! ## what is asked of code -/
section
variable (n : Nat) (w0 : World)

/-- the end of code, said of environment and memory -/
def KX (K : Exit → Env → Mem → Prop) (e : Exit) (a : Act) (w : World) : Prop := ∃ E M, Rep n E a ∧ HR w0 M w ∧ K e E M

structure WC (c : Code) (K : Exit → Env → Mem → Prop) (E : Env) (M : Mem) : Prop where
  run : ∀ a w, Rep n E a → HR w0 M w → c.wp P (KX n w0 K) a w

structure WL (ops : Array Oper) (K : Exit → Env → Mem → Prop) (rest : List Oper) (E : Env) (M : Mem) : Prop where
  run : ∀ a w, Rep n E a → HR w0 M w → wpList P ops (KX n w0 K) rest a w

/-- what is asked at the end of x in 'x; y' -/
def thenK (y : Code) (K : Exit → Env → Mem → Prop) : Exit → Env → Mem → Prop
  | .normal, E, M => WC n w0 y K E M
  | e, E, M => K e E M

/-- an operation that leaves the world alone and yields v -/
structure LX (o : Oper) (E : Env) (M : Mem) (v : Value) : Prop where
  run : ∀ a w, Rep n E a → HW w0 M w → (execOp a.eval o).run P w = .ok (.value v) w

/-- an operation: v, and the memory behind it, are such as R says -/
structure EX (o : Oper) (E : Env) (M : Mem) (R : Value → Mem → Prop) : Prop where
  run : ∀ a w, Rep n E a → HR w0 M w → ∀ (K : Act → World → Prop) (Q : Exit → Act → World → Prop),
    (∀ v M' w', R v M' → HR w0 M' w' → K (a.put o.dst v) w') → o.wp P a w K Q

/-- a call: as EX -/
structure CS (f : FuncId) (args : List Value) (M : Mem) (R : Value → Mem → Prop) : Prop where
  run : ∀ w, HR w0 M w → Calls P f args.toArray w fun e w' => ∃ v M', e = .returned v ∧ HR w0 M' w' ∧ R v M'

end

section
variable {n : Nat} {w0 : World} {K : Exit → Env → Mem → Prop} {E : Env} {M : Mem} {ops : Array Oper} {rest : List Oper}

theorem CS.mono {f : FuncId} {args : List Value} {R R' : Value → Mem → Prop} (h : CS w0 f args M R) (hr : ∀ v M', R v M' → R' v M') : CS w0 f args M R' :=
  ⟨fun w hw => (h.run w hw).mono fun _ _ ⟨v, M', he, hh, hR⟩ => ⟨v, M', he, hh, hr _ _ hR⟩⟩

theorem KX.mono {K K' : Exit → Env → Mem → Prop} (h : ∀ e E M, K e E M → K' e E M) {e : Exit} {a : Act} {w : World} (hk : KX n w0 K e a w) : KX n w0 K' e a w :=
  let ⟨E, M, h1, h2, h3⟩ := hk
  ⟨E, M, h1, h2, h _ _ _ h3⟩

theorem WC.mono {c : Code} {K K' : Exit → Env → Mem → Prop} (h : WC n w0 c K E M) (hk : ∀ e E M, K e E M → K' e E M) : WC n w0 c K' E M :=
  ⟨fun a w ha hw => wp_mono (h.run a w ha hw) fun _ _ _ => KX.mono hk⟩

theorem EX.of_LX {o : Oper} {v : Value} (h : LX n w0 o E M v) : EX n w0 o E M (fun v' M' => v' = v ∧ M' = M) := by
  refine ⟨fun a w ha hw K Q hk => ?_⟩
  unfold Oper.wp
  rw [h.run a w ha hw.hw, Oper.upon_value]
  exact hk v M w ⟨rfl, rfl⟩ hw

theorem EX.mono {o : Oper} {R R' : Value → Mem → Prop} (h : EX n w0 o E M R) (hr : ∀ v M', R v M' → R' v M') : EX n w0 o E M R' :=
  ⟨fun a w ha hw K Q hk => h.run a w ha hw K Q fun v M' w' hR => hk v M' w' (hr _ _ hR)⟩

theorem wpList_of_wp {o : Oper} {a : Act} {w : World} {Q : Exit → Act → World → Prop} (hg : o.guard = none) (h : o.wp P a w (wpList P ops Q rest) Q) :
    wpList P ops Q (o :: rest) a w := by
  unfold wpList
  rw [if_pos (by simp [Region.wanted, hg])]
  exact .inl h

def pushE : Option Nat → Value → Env → Env
  | some t, v, E => (t, v) :: E
  | none, _, E => E

theorem Rep.putd {a : Act} (h : Rep n E a) {d : Option Nat} (v : Value) (hd : ∀ t, d = some t → t < n) : Rep n (pushE d v E) (a.put d v) := by
  cases d with
  | none => exact h
  | some t => exact h.put (hd t rfl) v

/-- a step with an end of its own -/
theorem WL.step {d : Nat} {op : Op} {ty : TypeId} {pos : String} {aft : Array Edge} {R : Value → Mem → Prop} (hd : Nat.blt d n = true)
    (h : EX n w0 ⟨some d, op, ty, pos, aft, none⟩ E M R) (k : ∀ v M', R v M' → WL n w0 ops K rest ((d, v) :: E) M') :
    WL n w0 ops K (⟨some d, op, ty, pos, aft, none⟩ :: rest) E M := by
  refine ⟨fun a w ha hw => ?_⟩
  refine wpList_of_wp rfl (h.run a w ha hw _ _ fun v M' w' hR hw' => ?_)
  exact (k v M' hR).run _ _ (ha.put (by simpa [Nat.blt_eq] using hd) v) hw'

theorem WL.step0 {op : Op} {ty : TypeId} {pos : String} {aft : Array Edge} {R : Value → Mem → Prop}
    (h : EX n w0 ⟨none, op, ty, pos, aft, none⟩ E M R) (k : ∀ v M', R v M' → WL n w0 ops K rest E M') :
    WL n w0 ops K (⟨none, op, ty, pos, aft, none⟩ :: rest) E M := by
  refine ⟨fun a w ha hw => ?_⟩
  refine wpList_of_wp rfl (h.run a w ha hw _ _ fun v M' w' hR hw' => ?_)
  exact (k v M' hR).run _ _ ha hw'

theorem WL.q {d : Nat} {op : Op} {ty : TypeId} {pos : String} {aft : Array Edge} {v : Value}
    (h : LX n w0 ⟨some d, op, ty, pos, aft, none⟩ E M v) (hd : Nat.blt d n = true) (k : WL n w0 ops K rest ((d, v) :: E) M) :
    WL n w0 ops K (⟨some d, op, ty, pos, aft, none⟩ :: rest) E M :=
  WL.step hd (EX.of_LX h) fun _ _ ⟨h1, h2⟩ => by subst h1; subst h2; exact k

theorem WL.nil (h : K .normal E M) : WL n w0 ops K [] E M := ⟨fun _ _ ha hw => wpList_nil ⟨E, M, ha, hw, h⟩⟩

/-- a guarded operation that is carried out -/
theorem WL.yes {d : Nat} {op : Op} {ty : TypeId} {pos : String} {aft : Array Edge} {j t : Nat} {b : Bool} (hj : (ops[j]?).bind (·.dst) = some t)
    (ht : E.at? t = some (.bool b)) (h : WL n w0 ops K (⟨some d, op, ty, pos, aft, none⟩ :: rest) E M) :
    WL n w0 ops K (⟨some d, op, ty, pos, aft, some (j, b)⟩ :: rest) E M := by
  refine ⟨fun a w ha hw => ?_⟩
  have h1 := h.run a w ha hw
  have hy : yielded ops a.tmps j = some b := by
    unfold yielded
    rw [hj]
    simp [ha.at_ t _ ht]
  unfold wpList at h1 ⊢
  simp only [Region.wanted, if_true] at h1
  rw [if_pos (by simp [Region.wanted, hy])]
  exact h1

theorem WL.no {d : Nat} {op : Op} {ty : TypeId} {pos : String} {aft : Array Edge} {j t : Nat} {b b' : Bool} (hj : (ops[j]?).bind (·.dst) = some t)
    (ht : E.at? t = some (.bool b)) (hne : b ≠ b') (hd : Nat.blt d n = true) (h : WL n w0 ops K rest ((d, undef) :: E) M) :
    WL n w0 ops K (⟨some d, op, ty, pos, aft, some (j, b')⟩ :: rest) E M := by
  refine ⟨fun a w ha hw => ?_⟩
  have hy : yielded ops a.tmps j = some b := by
    unfold yielded
    rw [hj]
    simp [ha.at_ t _ ht]
  unfold wpList
  rw [if_neg (by simp [Region.wanted, hy, hne])]
  exact h.run _ _ (ha.put (by simpa [Nat.blt_eq] using hd) undef) hw

/-! ## code -/
theorem WC.region {id : Nat} {l : List Oper} (h : WL n w0 l.toArray K l E M) : WC n w0 (.region id l.toArray false) K E M :=
  ⟨fun a w ha hw => wp_region_lit (h.run a w ha hw)⟩

theorem WC.seq {x y : Code} (h : WC n w0 x (thenK n w0 y K) E M) : WC n w0 (.seq x y) K E M := by
  refine ⟨fun a w ha hw => ?_⟩
  refine wp_seq (wp_mono (h.run a w ha hw) fun e a' w' hk => ?_)
  obtain ⟨E', M', ha', hw', hk⟩ := hk
  cases e with
  | normal => exact hk.run a' w' ha' hw'
  | _ => exact ⟨E', M', ha', hw', hk⟩

/-- what is asked at the end of x in 'x; y', where all that y needs is J -/
def cutK (J : Env → Mem → Prop) (K : Exit → Env → Mem → Prop) : Exit → Env → Mem → Prop
  | .normal, E, M => J E M
  | e, E, M => K e E M

/-- a seq whose first part has an end of its own -/
theorem WC.cut {x y : Code} (J : Env → Mem → Prop) (h : WC n w0 x (cutK J K) E M) (k : ∀ E' M', J E' M' → WC n w0 y K E' M') : WC n w0 (.seq x y) K E M :=
  WC.seq (h.mono fun e E' M' hk => by cases e <;> first | exact k _ _ hk | exact hk)

/-- forget what is not asked any more -/
theorem WC.weaken {c : Code} {E' : Env} {M' : Mem} (h : WC n w0 c K E' M') (hE : ∀ t v, E'.at? t = some v → E.at? t = some v) (hM : M'.Sublist M) : WC n w0 c K E M :=
  ⟨fun a w ha hw => h.run a w (ha.weaken hE) (hw.sub hM)⟩

theorem WC.cond {c : Operand} {x y : Code} {t : Bool} (hc : ev E c = some (.bool t)) (ht : t = true → WC n w0 x K E M) (hf : t = false → WC n w0 y K E M) :
    WC n w0 (.cond c x y) K E M := by
  refine ⟨fun a w ha hw => ?_⟩
  exact wp_cond_split (ha.eval hc) (fun h => (ht h).run a w ha hw) (fun h => (hf h).run a w ha hw)

theorem WC.yes {c : Operand} {x y : Code} (hc : ev E c = some (.bool true)) (ht : WC n w0 x K E M) : WC n w0 (.cond c x y) K E M :=
  ⟨fun a w ha hw => wp_cond_true (ha.eval hc) (ht.run a w ha hw)⟩
theorem WC.no {c : Operand} {x y : Code} (hc : ev E c = some (.bool false)) (ht : WC n w0 y K E M) : WC n w0 (.cond c x y) K E M :=
  ⟨fun a w ha hw => wp_cond_false (ha.eval hc) (ht.run a w ha hw)⟩

theorem WC.skip (h : K .normal E M) : WC n w0 .skip K E M := ⟨fun _ _ ha hw => wp_skip ⟨E, M, ha, hw, h⟩⟩
theorem WC.ret (h : K .ret E M) : WC n w0 .ret K E M := ⟨fun _ _ ha hw => wp_ret ⟨E, M, ha, hw, h⟩⟩
theorem WC.exit {id : Nat} (h : K (.exit id) E M) : WC n w0 (.exit id) K E M := ⟨fun _ _ ha hw => wp_exit ⟨E, M, ha, hw, h⟩⟩

def blockK (id : Nat) (K : Exit → Env → Mem → Prop) : Exit → Env → Mem → Prop
  | .exit id', E, M => if id' = id then K .normal E M else K (.exit id') E M
  | e, E, M => K e E M

theorem WC.block {id : Nat} {c : Code} (h : WC n w0 c (blockK id K) E M) : WC n w0 (.block id c) K E M := by
  refine ⟨fun a w ha hw => ?_⟩
  refine wp_block (wp_mono (h.run a w ha hw) fun e a' w' hk => ?_)
  obtain ⟨E', M', ha', hw', hk⟩ := hk
  cases e with
  | exit id' =>
    simp only [Exit.inBlock]
    split
    · rename_i he; simp only [blockK, he, if_true] at hk; exact ⟨E', M', ha', hw', hk⟩
    · rename_i he; simp only [blockK, he, if_false] at hk; exact ⟨E', M', ha', hw', hk⟩
  | _ => exact ⟨E', M', ha', hw', hk⟩

def loopK (I : Nat → Env → Mem → Prop) (m : Nat) (K : Exit → Env → Mem → Prop) : Exit → Env → Mem → Prop
  | .normal, E, M => ∃ m', m' < m ∧ I m' E M
  | e, E, M => K e E M

/-- a loop: what holds at each round's head, by a number that falls -/
theorem WC.loop {c : Code} (I : Nat → Env → Mem → Prop) (m : Nat) (h0 : I m E M)
    (round : ∀ m E M, I m E M → WC n w0 c (loopK I m K) E M) : WC n w0 (.loop c) K E M := by
  refine ⟨fun a w ha hw b k cs => ?_⟩
  have key : ∀ m E M, I m E M → ∀ a w, Rep n E a → HR w0 M w →
      ∃ e a' w', KX n w0 K e a' w' ∧ Arrives P (lone (b.at a (.code c :: .inLoop c :: k)) cs w) b k cs e a' w' := by
    intro m
    induction m using Nat.strongRecOn with
    | _ m ih =>
      intro E M hI a w ha hw
      obtain ⟨e, a₁, w₁, ⟨E', M', ha', hw', hk⟩, harr⟩ := (round m E M hI).run a w ha hw b (.inLoop c :: k) cs
      cases e with
      | normal =>
        obtain ⟨m', hlt, hI'⟩ := hk
        obtain ⟨e₂, a₂, w₂, hq₂, harr₂⟩ := ih m' hlt E' M' hI' a₁ w₁ ha' hw'
        exact ⟨e₂, a₂, w₂, hq₂, .of_steps (Steps.trans harr (.one step_inLoop)) harr₂⟩
      | exit id => exact ⟨_, a₁, w₁, ⟨E', M', ha', hw', hk⟩, .pass (x := .inLoop c) rfl (fun _ _ => .inl (by simp)) harr⟩
      | goto l => exact ⟨_, a₁, w₁, ⟨E', M', ha', hw', hk⟩, .pass (x := .inLoop c) rfl (fun _ _ => .inl (by simp)) harr⟩
      | ret => exact ⟨_, a₁, w₁, ⟨E', M', ha', hw', hk⟩, .pass (x := .inLoop c) rfl (fun _ _ => .inl (by simp)) harr⟩
      | panic ch => exact ⟨_, a₁, w₁, ⟨E', M', ha', hw', hk⟩, .pass (x := .inLoop c) rfl (fun _ _ => .inl (by simp)) harr⟩
      | outgrown => exact ⟨_, a₁, w₁, ⟨E', M', ha', hw', hk⟩, .pass (x := .inLoop c) rfl (fun _ _ => .inl (by simp)) harr⟩
  obtain ⟨e, a', w', hq, harr⟩ := key m E M h0 a w ha hw
  exact ⟨e, a', w', hq, .of_steps (.one step_loop) harr⟩

/-! ## the ends -/
variable {y : Code} {J : Env → Mem → Prop} {I : Nat → Env → Mem → Prop} {m id id' : Nat}
theorem thenK_normal (h : WC n w0 y K E M) : thenK n w0 y K .normal E M := h
theorem thenK_ret (h : K .ret E M) : thenK n w0 y K .ret E M := h
theorem thenK_exit (h : K (.exit id) E M) : thenK n w0 y K (.exit id) E M := h
theorem cutK_normal (h : J E M) : cutK J K .normal E M := h
theorem cutK_ret (h : K .ret E M) : cutK J K .ret E M := h
theorem cutK_exit (h : K (.exit id) E M) : cutK J K (.exit id) E M := h
theorem blockK_normal (h : K .normal E M) : blockK id K .normal E M := h
theorem blockK_ret (h : K .ret E M) : blockK id K .ret E M := h
theorem blockK_same (h : K .normal E M) : blockK id K (.exit id) E M := by simp only [blockK, if_true]; exact h
theorem blockK_other (hn : Nat.beq id' id = false) (h : K (.exit id') E M) : blockK id K (.exit id') E M := by
  have : id' ≠ id := fun e => by subst e; simp at hn
  simp only [blockK, this, if_false]; exact h
theorem loopK_ret (h : K .ret E M) : loopK I m K .ret E M := h
theorem loopK_exit (h : K (.exit id) E M) : loopK I m K (.exit id) E M := h
end
end Go.Proofs.YtdnngppofbmpeaaDoor.Bm
