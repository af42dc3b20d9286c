/- Proved here: the laws by which a walk goes through code of the program: sequence, test, block, loop, region, call; the laws of the single operations that leave memory alone. Conditions: none but those that each theorem states. -/
import Derived.Test.YtdnngppofbmpeaaGreatDoorProg
import Derived.WalkKit
import Derived.Still
import Derived.KernelRfl
namespace Go.Proofs.YtdnngppofbmpeaaGreatDoor.Bm
open Go Go.RowKit

noncomputable abbrev P : Program := Tryz.prog

/-! ## environments -/
abbrev Env := List (Nat × Value)

def Env.at? : Env → Nat → Option Value
  | [], _ => none
  | (d, v) :: r, t => match Nat.beq d t with
    | true => some v
    | false => Env.at? r t

def ev (E : Env) : Operand → Option Value
  | .tmp t => E.at? t
  | .const v => some v
  | .global g => some (.pointer (some ⟨g, 0, none⟩))
  | .func f => some (.func (.func f) #[] #[])

def evs (E : Env) : List Operand → Option (List Value)
  | [] => some []
  | x :: r => match ev E x, evs E r with
    | some v, some vs => some (v :: vs)
    | _, _ => none

/-- the frame holds what the environment says -/
structure Rep (n : Nat) (E : Env) (a : Act) : Prop where
  size : a.tmps.size = n
  defers : a.defers = []
  at_ : ∀ t v, E.at? t = some v → a.tmps[t]? = some v

theorem Rep.eval {n : Nat} {E : Env} {a : Act} (h : Rep n E a) {x : Operand} {v : Value} (hx : ev E x = some v) : a.eval x = v := by
  cases x with
  | tmp t =>
    have := h.at_ t v hx
    simp [Act.eval, this]
  | const u => simpa [ev, Act.eval] using hx
  | global g => simpa [ev, Act.eval] using hx
  | func f => simpa [ev, Act.eval] using hx

theorem Rep.evals {n : Nat} {E : Env} {a : Act} (h : Rep n E a) : ∀ {xs : List Operand} {vs : List Value}, evs E xs = some vs → xs.map a.eval = vs
  | [], vs, hx => by simp [evs] at hx; simp [hx]
  | x :: r, vs, hx => by
    unfold evs at hx
    cases h1 : ev E x with
    | none => simp [h1] at hx
    | some v =>
      cases h2 : evs E r with
      | none => simp [h1, h2] at hx
      | some us =>
        simp [h1, h2] at hx
        subst hx
        simp [h.eval h1, h.evals h2]

theorem Rep.put {n : Nat} {E : Env} {a : Act} (h : Rep n E a) {d : Nat} (hd : d < n) (v : Value) : Rep n ((d, v) :: E) (a.put (some d) v) := by
  refine ⟨by simp [Act.put, h.size], h.defers, fun t u ht => ?_⟩
  simp only [Env.at?] at ht
  show (a.tmps.setIfInBounds d v)[t]? = some u
  split at ht
  · rename_i hb
    have hb := Nat.eq_of_beq_eq_true hb
    subst hb
    have hs : d < a.tmps.size := by rw [h.size]; exact hd
    simp [hs]
    simpa using ht
  · rename_i hb
    have hne : d ≠ t := fun e => by subst e; simp at hb
    rw [Array.getElem?_setIfInBounds_ne hne]
    exact h.at_ t u ht

theorem Rep.put0 {n : Nat} {E : Env} {a : Act} (h : Rep n E a) (v : Value) : Rep n E (a.put none v) := h

theorem Rep.weaken {n : Nat} {E E' : Env} {a : Act} (h : Rep n E a) (hE : ∀ t v, E'.at? t = some v → E.at? t = some v) : Rep n E' a :=
  ⟨h.size, h.defers, fun t v ht => h.at_ t v (hE t v ht)⟩

/-! ## memory of the call's own -/
abbrev Mem := List (Nat × Obj)

/-- the world w, begun as w0: what was there is as it was; the blocks of M are new, pairwise different, and hold what M says -/
structure HR (w0 : World) (M : Mem) (w : World) : Prop where
  below : Below w0.heap.size w0 w
  nodup : (M.map (·.1)).Nodup
  has : ∀ p ∈ M, w0.heap.size ≤ p.1 ∧ w.heap[p.1]? = some p.2

/-- as HR, nothing said of the blocks being different -/
structure HW (w0 : World) (M : Mem) (w : World) : Prop where
  below : Below w0.heap.size w0 w
  has : ∀ p ∈ M, w0.heap.size ≤ p.1 ∧ w.heap[p.1]? = some p.2

theorem HR.hw {w0 w : World} {M : Mem} (h : HR w0 M w) : HW w0 M w := ⟨h.below, h.has⟩
theorem HR.hw_sub {w0 w : World} {M N : Mem} (h : HR w0 M w) (hs : ∀ p ∈ N, p ∈ M) : HW w0 N w := ⟨h.below, fun p hp => h.has p (hs p hp)⟩

theorem HR.nil (w0 : World) : HR w0 [] w0 := ⟨Below.refl _ _, by simp, fun p hp => by simp at hp⟩

theorem HR.ne {w0 w : World} {M : Mem} (h : HR w0 M w) {b b' : Nat} {o o' : Obj} (hm : (b, o) ∈ M) (hm' : (b', o') ∈ M) (hne : o ≠ o') : b ≠ b' := by
  intro e; subst e
  have h1 := (h.has _ hm).2
  have h2 := (h.has _ hm').2
  simp only at h1 h2
  rw [h1] at h2
  exact hne (by simpa using h2)

theorem nodup_map_of_sublist {M N : Mem} (h : N.Sublist M) (hn : (M.map (·.1)).Nodup) : (N.map (·.1)).Nodup := hn.sublist (h.map _)

theorem HR.sub {w0 w : World} {M N : Mem} (h : HR w0 M w) (hs : N.Sublist M) : HR w0 N w :=
  ⟨h.below, nodup_map_of_sublist hs h.nodup, fun p hp => h.has p (hs.subset hp)⟩

theorem HR.perm {w0 w : World} {M N : Mem} (h : HR w0 M w) (hs : N.Perm M) : HR w0 N w :=
  ⟨h.below, (hs.map (·.1)).nodup_iff.2 h.nodup, fun p hp => h.has p (hs.subset hp)⟩

/-- a new block -/
theorem HR.alloc {w0 w : World} {M : Mem} (h : HR w0 M w) (o : Obj) : HR w0 ((w.heap.size, o) :: M) (w.alloc o) := by
  refine ⟨h.below.alloc h.below.size o, ?_, ?_⟩
  · simp only [List.map_cons, List.nodup_cons]
    refine ⟨fun hm => ?_, h.nodup⟩
    obtain ⟨p, hp, he⟩ := List.mem_map.1 hm
    have := (h.has p hp).2
    rw [he] at this
    simp at this
  · intro p hp
    rcases List.mem_cons.1 hp with rfl | hp
    · exact ⟨h.below.size, by show (w.heap.push o)[w.heap.size]? = some o; simp⟩
    · refine ⟨(h.has p hp).1, ?_⟩
      have h2 := (h.has p hp).2
      have hlt : p.1 < w.heap.size := by
        rcases Nat.lt_or_ge p.1 w.heap.size with h' | h'
        · exact h'
        · simp [Array.getElem?_eq_none h'] at h2
      rw [Below.heap_alloc _ _ _ hlt]
      exact h2

/-- block b of M holds o' from here on -/
inductive Upd : Mem → Nat → Obj → Mem → Prop
  | here {b : Nat} {o o' : Obj} {M : Mem} : Upd ((b, o) :: M) b o' ((b, o') :: M)
  | there {p : Nat × Obj} {b : Nat} {o' : Obj} {M M' : Mem} : Upd M b o' M' → Upd (p :: M) b o' (p :: M')

theorem Upd.keys {M M' : Mem} {b : Nat} {o' : Obj} (h : Upd M b o' M') : M'.map (·.1) = M.map (·.1) := by
  induction h with
  | here => rfl
  | there _ ih => simp [ih]

theorem Upd.key {M M' : Mem} {b : Nat} {o' : Obj} (h : Upd M b o' M') : ∃ o, (b, o) ∈ M := by
  induction h with
  | here => exact ⟨_, List.mem_cons_self⟩
  | there _ ih => obtain ⟨o, ho⟩ := ih; exact ⟨o, List.mem_cons_of_mem _ ho⟩

/-- what is in the new list is new, or was there under another key -/
theorem Upd.mem {M M' : Mem} {b : Nat} {o' : Obj} (h : Upd M b o' M') (hn : (M.map (·.1)).Nodup) : ∀ p ∈ M', p = (b, o') ∨ (p ∈ M ∧ p.1 ≠ b) := by
  induction h with
  | here =>
    intro p hp
    simp only [List.map_cons, List.nodup_cons] at hn
    rcases List.mem_cons.1 hp with rfl | hp
    · exact .inl rfl
    · exact .inr ⟨List.mem_cons_of_mem _ hp, fun e => hn.1 (e ▸ List.mem_map.2 ⟨p, hp, rfl⟩)⟩
  | there hu ih =>
    intro p hp
    simp only [List.map_cons, List.nodup_cons] at hn
    rcases List.mem_cons.1 hp with rfl | hp
    · refine .inr ⟨List.mem_cons_self, fun e => ?_⟩
      obtain ⟨o, ho⟩ := hu.key
      exact hn.1 (e ▸ List.mem_map.2 ⟨_, ho, rfl⟩)
    · rcases ih hn.2 p hp with h | h
      · exact .inl h
      · exact .inr ⟨List.mem_cons_of_mem _ h.1, h.2⟩

theorem HR.upd {w0 w w' : World} {M M' : Mem} {b : Nat} {o' : Obj} (h : HR w0 M w) (hu : Upd M b o' M') (hb : Below w0.heap.size w0 w')
    (hat : w'.heap[b]? = some o') (hoth : ∀ k, k ≠ b → w'.heap[k]? = w.heap[k]?) : HR w0 M' w' := by
  refine ⟨hb, by rw [hu.keys]; exact h.nodup, fun p hp => ?_⟩
  rcases hu.mem h.nodup p hp with rfl | ⟨hm, hne⟩
  · obtain ⟨o, ho⟩ := hu.key
    exact ⟨(h.has _ ho).1, hat⟩
  · exact ⟨(h.has p hm).1, by rw [hoth _ hne]; exact (h.has p hm).2⟩

/-! ## what is asked of code -/
section
variable (n : Nat) (w0 : World)

/-- the end of code, said of environment and memory -/
def KX (K : Exit → Env → Mem → Prop) (e : Exit) (a : Act) (w : World) : Prop := ∃ E M, Rep n E a ∧ HR w0 M w ∧ K e E M

structure WC (c : Code) (K : Exit → Env → Mem → Prop) (E : Env) (M : Mem) : Prop where
  run : ∀ a w, Rep n E a → HR w0 M w → c.wp P (KX n w0 K) a w

structure WL (ops : Array Oper) (K : Exit → Env → Mem → Prop) (rest : List Oper) (E : Env) (M : Mem) : Prop where
  run : ∀ a w, Rep n E a → HR w0 M w → wpList P ops (KX n w0 K) rest a w

/-- what is asked at the end of x in 'x; y' -/
def thenK (y : Code) (K : Exit → Env → Mem → Prop) : Exit → Env → Mem → Prop
  | .normal, E, M => WC n w0 y K E M
  | e, E, M => K e E M

/-- an operation that leaves the world alone and yields v -/
structure LX (o : Oper) (E : Env) (M : Mem) (v : Value) : Prop where
  run : ∀ a w, Rep n E a → HW w0 M w → (execOp a.eval o).run P w = .ok (.value v) w

/-- an operation: v, and the memory behind it, are such as R says -/
structure EX (o : Oper) (E : Env) (M : Mem) (R : Value → Mem → Prop) : Prop where
  run : ∀ a w, Rep n E a → HR w0 M w → ∀ (K : Act → World → Prop) (Q : Exit → Act → World → Prop),
    (∀ v M' w', R v M' → HR w0 M' w' → K (a.put o.dst v) w') → o.wp P a w K Q

/-- a call: as EX -/
structure CS (f : FuncId) (args : List Value) (M : Mem) (R : Value → Mem → Prop) : Prop where
  run : ∀ w, HR w0 M w → Calls P f args.toArray w fun e w' => ∃ v M', e = .returned v ∧ HR w0 M' w' ∧ R v M'

end

section
variable {n : Nat} {w0 : World} {K : Exit → Env → Mem → Prop} {E : Env} {M : Mem} {ops : Array Oper} {rest : List Oper}

theorem CS.mono {f : FuncId} {args : List Value} {R R' : Value → Mem → Prop} (h : CS w0 f args M R) (hr : ∀ v M', R v M' → R' v M') : CS w0 f args M R' :=
  ⟨fun w hw => (h.run w hw).mono fun _ _ ⟨v, M', he, hh, hR⟩ => ⟨v, M', he, hh, hr _ _ hR⟩⟩

theorem KX.mono {K K' : Exit → Env → Mem → Prop} (h : ∀ e E M, K e E M → K' e E M) {e : Exit} {a : Act} {w : World} (hk : KX n w0 K e a w) : KX n w0 K' e a w :=
  let ⟨E, M, h1, h2, h3⟩ := hk
  ⟨E, M, h1, h2, h _ _ _ h3⟩

theorem WC.mono {c : Code} {K K' : Exit → Env → Mem → Prop} (h : WC n w0 c K E M) (hk : ∀ e E M, K e E M → K' e E M) : WC n w0 c K' E M :=
  ⟨fun a w ha hw => wp_mono (h.run a w ha hw) fun _ _ _ => KX.mono hk⟩

theorem EX.of_LX {o : Oper} {v : Value} (h : LX n w0 o E M v) : EX n w0 o E M (fun v' M' => v' = v ∧ M' = M) := by
  refine ⟨fun a w ha hw K Q hk => ?_⟩
  unfold Oper.wp
  rw [h.run a w ha hw.hw, Oper.upon_value]
  exact hk v M w ⟨rfl, rfl⟩ hw

theorem EX.mono {o : Oper} {R R' : Value → Mem → Prop} (h : EX n w0 o E M R) (hr : ∀ v M', R v M' → R' v M') : EX n w0 o E M R' :=
  ⟨fun a w ha hw K Q hk => h.run a w ha hw K Q fun v M' w' hR => hk v M' w' (hr _ _ hR)⟩

theorem wpList_of_wp {o : Oper} {a : Act} {w : World} {Q : Exit → Act → World → Prop} (hg : o.guard = none) (h : o.wp P a w (wpList P ops Q rest) Q) :
    wpList P ops Q (o :: rest) a w := by
  unfold wpList
  rw [if_pos (by simp [Region.wanted, hg])]
  exact .inl h

def pushE : Option Nat → Value → Env → Env
  | some t, v, E => (t, v) :: E
  | none, _, E => E

theorem Rep.putd {a : Act} (h : Rep n E a) {d : Option Nat} (v : Value) (hd : ∀ t, d = some t → t < n) : Rep n (pushE d v E) (a.put d v) := by
  cases d with
  | none => exact h
  | some t => exact h.put (hd t rfl) v

/-- a step with an end of its own -/
theorem WL.step {d : Nat} {op : Op} {ty : TypeId} {pos : String} {aft : Array Edge} {R : Value → Mem → Prop} (hd : Nat.blt d n = true)
    (h : EX n w0 ⟨some d, op, ty, pos, aft, none⟩ E M R) (k : ∀ v M', R v M' → WL n w0 ops K rest ((d, v) :: E) M') :
    WL n w0 ops K (⟨some d, op, ty, pos, aft, none⟩ :: rest) E M := by
  refine ⟨fun a w ha hw => ?_⟩
  refine wpList_of_wp rfl (h.run a w ha hw _ _ fun v M' w' hR hw' => ?_)
  exact (k v M' hR).run _ _ (ha.put (by simpa [Nat.blt_eq] using hd) v) hw'

theorem WL.step0 {op : Op} {ty : TypeId} {pos : String} {aft : Array Edge} {R : Value → Mem → Prop}
    (h : EX n w0 ⟨none, op, ty, pos, aft, none⟩ E M R) (k : ∀ v M', R v M' → WL n w0 ops K rest E M') :
    WL n w0 ops K (⟨none, op, ty, pos, aft, none⟩ :: rest) E M := by
  refine ⟨fun a w ha hw => ?_⟩
  refine wpList_of_wp rfl (h.run a w ha hw _ _ fun v M' w' hR hw' => ?_)
  exact (k v M' hR).run _ _ ha hw'

theorem WL.q {d : Nat} {op : Op} {ty : TypeId} {pos : String} {aft : Array Edge} {v : Value}
    (h : LX n w0 ⟨some d, op, ty, pos, aft, none⟩ E M v) (hd : Nat.blt d n = true) (k : WL n w0 ops K rest ((d, v) :: E) M) :
    WL n w0 ops K (⟨some d, op, ty, pos, aft, none⟩ :: rest) E M :=
  WL.step hd (EX.of_LX h) fun _ _ ⟨h1, h2⟩ => by subst h1; subst h2; exact k

theorem WL.nil (h : K .normal E M) : WL n w0 ops K [] E M := ⟨fun _ _ ha hw => wpList_nil ⟨E, M, ha, hw, h⟩⟩

/-- a guarded operation that is carried out -/
theorem WL.yes {d : Nat} {op : Op} {ty : TypeId} {pos : String} {aft : Array Edge} {j t : Nat} {b : Bool} (hj : (ops[j]?).bind (·.dst) = some t)
    (ht : E.at? t = some (.bool b)) (h : WL n w0 ops K (⟨some d, op, ty, pos, aft, none⟩ :: rest) E M) :
    WL n w0 ops K (⟨some d, op, ty, pos, aft, some (j, b)⟩ :: rest) E M := by
  refine ⟨fun a w ha hw => ?_⟩
  have h1 := h.run a w ha hw
  have hy : yielded ops a.tmps j = some b := by
    unfold yielded
    rw [hj]
    simp [ha.at_ t _ ht]
  unfold wpList at h1 ⊢
  simp only [Region.wanted, if_true] at h1
  rw [if_pos (by simp [Region.wanted, hy])]
  exact h1

theorem WL.no {d : Nat} {op : Op} {ty : TypeId} {pos : String} {aft : Array Edge} {j t : Nat} {b b' : Bool} (hj : (ops[j]?).bind (·.dst) = some t)
    (ht : E.at? t = some (.bool b)) (hne : b ≠ b') (hd : Nat.blt d n = true) (h : WL n w0 ops K rest ((d, undef) :: E) M) :
    WL n w0 ops K (⟨some d, op, ty, pos, aft, some (j, b')⟩ :: rest) E M := by
  refine ⟨fun a w ha hw => ?_⟩
  have hy : yielded ops a.tmps j = some b := by
    unfold yielded
    rw [hj]
    simp [ha.at_ t _ ht]
  unfold wpList
  rw [if_neg (by simp [Region.wanted, hy, hne])]
  exact h.run _ _ (ha.put (by simpa [Nat.blt_eq] using hd) undef) hw

/-! ## code -/
theorem WC.region {id : Nat} {l : List Oper} (h : WL n w0 l.toArray K l E M) : WC n w0 (.region id l.toArray false) K E M :=
  ⟨fun a w ha hw => wp_region_lit (h.run a w ha hw)⟩

theorem WC.seq {x y : Code} (h : WC n w0 x (thenK n w0 y K) E M) : WC n w0 (.seq x y) K E M := by
  refine ⟨fun a w ha hw => ?_⟩
  refine wp_seq (wp_mono (h.run a w ha hw) fun e a' w' hk => ?_)
  obtain ⟨E', M', ha', hw', hk⟩ := hk
  cases e with
  | normal => exact hk.run a' w' ha' hw'
  | _ => exact ⟨E', M', ha', hw', hk⟩

/-- what is asked at the end of x in 'x; y', where all that y needs is J -/
def cutK (J : Env → Mem → Prop) (K : Exit → Env → Mem → Prop) : Exit → Env → Mem → Prop
  | .normal, E, M => J E M
  | e, E, M => K e E M

/-- a seq whose first part has an end of its own -/
theorem WC.cut {x y : Code} (J : Env → Mem → Prop) (h : WC n w0 x (cutK J K) E M) (k : ∀ E' M', J E' M' → WC n w0 y K E' M') : WC n w0 (.seq x y) K E M :=
  WC.seq (h.mono fun e E' M' hk => by cases e <;> first | exact k _ _ hk | exact hk)

/-- forget what is not asked any more -/
theorem WC.weaken {c : Code} {E' : Env} {M' : Mem} (h : WC n w0 c K E' M') (hE : ∀ t v, E'.at? t = some v → E.at? t = some v) (hM : M'.Sublist M) : WC n w0 c K E M :=
  ⟨fun a w ha hw => h.run a w (ha.weaken hE) (hw.sub hM)⟩

theorem WC.cond {c : Operand} {x y : Code} {t : Bool} (hc : ev E c = some (.bool t)) (ht : t = true → WC n w0 x K E M) (hf : t = false → WC n w0 y K E M) :
    WC n w0 (.cond c x y) K E M := by
  refine ⟨fun a w ha hw => ?_⟩
  exact wp_cond_split (ha.eval hc) (fun h => (ht h).run a w ha hw) (fun h => (hf h).run a w ha hw)

theorem WC.yes {c : Operand} {x y : Code} (hc : ev E c = some (.bool true)) (ht : WC n w0 x K E M) : WC n w0 (.cond c x y) K E M :=
  ⟨fun a w ha hw => wp_cond_true (ha.eval hc) (ht.run a w ha hw)⟩
theorem WC.no {c : Operand} {x y : Code} (hc : ev E c = some (.bool false)) (ht : WC n w0 y K E M) : WC n w0 (.cond c x y) K E M :=
  ⟨fun a w ha hw => wp_cond_false (ha.eval hc) (ht.run a w ha hw)⟩

theorem WC.skip (h : K .normal E M) : WC n w0 .skip K E M := ⟨fun _ _ ha hw => wp_skip ⟨E, M, ha, hw, h⟩⟩
theorem WC.ret (h : K .ret E M) : WC n w0 .ret K E M := ⟨fun _ _ ha hw => wp_ret ⟨E, M, ha, hw, h⟩⟩
theorem WC.exit {id : Nat} (h : K (.exit id) E M) : WC n w0 (.exit id) K E M := ⟨fun _ _ ha hw => wp_exit ⟨E, M, ha, hw, h⟩⟩

def blockK (id : Nat) (K : Exit → Env → Mem → Prop) : Exit → Env → Mem → Prop
  | .exit id', E, M => if id' = id then K .normal E M else K (.exit id') E M
  | e, E, M => K e E M

theorem WC.block {id : Nat} {c : Code} (h : WC n w0 c (blockK id K) E M) : WC n w0 (.block id c) K E M := by
  refine ⟨fun a w ha hw => ?_⟩
  refine wp_block (wp_mono (h.run a w ha hw) fun e a' w' hk => ?_)
  obtain ⟨E', M', ha', hw', hk⟩ := hk
  cases e with
  | exit id' =>
    simp only [Exit.inBlock]
    split
    · rename_i he; simp only [blockK, he, if_true] at hk; exact ⟨E', M', ha', hw', hk⟩
    · rename_i he; simp only [blockK, he, if_false] at hk; exact ⟨E', M', ha', hw', hk⟩
  | _ => exact ⟨E', M', ha', hw', hk⟩

def loopK (I : Nat → Env → Mem → Prop) (m : Nat) (K : Exit → Env → Mem → Prop) : Exit → Env → Mem → Prop
  | .normal, E, M => ∃ m', m' < m ∧ I m' E M
  | e, E, M => K e E M

/-- a loop: what holds at each round's head, by a number that falls -/
theorem WC.loop {c : Code} (I : Nat → Env → Mem → Prop) (m : Nat) (h0 : I m E M)
    (round : ∀ m E M, I m E M → WC n w0 c (loopK I m K) E M) : WC n w0 (.loop c) K E M := by
  refine ⟨fun a w ha hw b k cs => ?_⟩
  have key : ∀ m E M, I m E M → ∀ a w, Rep n E a → HR w0 M w →
      ∃ e a' w', KX n w0 K e a' w' ∧ Arrives P (lone (b.at a (.code c :: .inLoop c :: k)) cs w) b k cs e a' w' := by
    intro m
    induction m using Nat.strongRecOn with
    | _ m ih =>
      intro E M hI a w ha hw
      obtain ⟨e, a₁, w₁, ⟨E', M', ha', hw', hk⟩, harr⟩ := (round m E M hI).run a w ha hw b (.inLoop c :: k) cs
      cases e with
      | normal =>
        obtain ⟨m', hlt, hI'⟩ := hk
        obtain ⟨e₂, a₂, w₂, hq₂, harr₂⟩ := ih m' hlt E' M' hI' a₁ w₁ ha' hw'
        exact ⟨e₂, a₂, w₂, hq₂, .of_steps (Steps.trans harr (.one step_inLoop)) harr₂⟩
      | exit id => exact ⟨_, a₁, w₁, ⟨E', M', ha', hw', hk⟩, .pass (x := .inLoop c) rfl (fun _ _ => .inl (by simp)) harr⟩
      | goto l => exact ⟨_, a₁, w₁, ⟨E', M', ha', hw', hk⟩, .pass (x := .inLoop c) rfl (fun _ _ => .inl (by simp)) harr⟩
      | ret => exact ⟨_, a₁, w₁, ⟨E', M', ha', hw', hk⟩, .pass (x := .inLoop c) rfl (fun _ _ => .inl (by simp)) harr⟩
      | panic ch => exact ⟨_, a₁, w₁, ⟨E', M', ha', hw', hk⟩, .pass (x := .inLoop c) rfl (fun _ _ => .inl (by simp)) harr⟩
      | outgrown => exact ⟨_, a₁, w₁, ⟨E', M', ha', hw', hk⟩, .pass (x := .inLoop c) rfl (fun _ _ => .inl (by simp)) harr⟩
  obtain ⟨e, a', w', hq, harr⟩ := key m E M h0 a w ha hw
  exact ⟨e, a', w', hq, .of_steps (.one step_loop) harr⟩

/-! ## the ends -/
variable {y : Code} {J : Env → Mem → Prop} {I : Nat → Env → Mem → Prop} {m id id' : Nat}
theorem thenK_normal (h : WC n w0 y K E M) : thenK n w0 y K .normal E M := h
theorem thenK_ret (h : K .ret E M) : thenK n w0 y K .ret E M := h
theorem thenK_exit (h : K (.exit id) E M) : thenK n w0 y K (.exit id) E M := h
theorem cutK_normal (h : J E M) : cutK J K .normal E M := h
theorem cutK_ret (h : K .ret E M) : cutK J K .ret E M := h
theorem cutK_exit (h : K (.exit id) E M) : cutK J K (.exit id) E M := h
theorem blockK_normal (h : K .normal E M) : blockK id K .normal E M := h
theorem blockK_ret (h : K .ret E M) : blockK id K .ret E M := h
theorem blockK_same (h : K .normal E M) : blockK id K (.exit id) E M := by simp only [blockK, if_true]; exact h
theorem blockK_other (hn : Nat.beq id' id = false) (h : K (.exit id') E M) : blockK id K (.exit id') E M := by
  have : id' ≠ id := fun e => by subst e; simp at hn
  simp only [blockK, this, if_false]; exact h
theorem loopK_ret (h : K .ret E M) : loopK I m K .ret E M := h
theorem loopK_exit (h : K (.exit id) E M) : loopK I m K (.exit id) E M := h
end
end Go.Proofs.YtdnngppofbmpeaaGreatDoor.Bm
namespace Go.Proofs.YtdnngppofbmpeaaGreatDoor.Bm
open Go Go.RowKit

/-! ## types -/
def ik : Nat → Option IntKind
  | 3 => some .i64
  | 5 => some .u8
  | 52 => some .u64
  | 53 => some .u64
  | 97 => some .u64
  | 145 => some .u32
  | _ => none

theorem ik_ok {t : Nat} {k : IntKind} (h : ik t = some k) (w : World) : (underlying t).run P w = .ok (.int k) w := by
  unfold ik at h
  split at h <;> first | (cases h; kernel_rfl) | cases h

/-- slices: the elements' type, and how many cells one has -/
def sl : Nat → Option (Nat × Nat)
  | 67 => some (53, 1)
  | 51 => some (52, 1)
  | 39 => some (5, 1)
  | 29 => some (3, 1)
  | 43 => some (3, 1)
  | 28 => some (4, 1)
  | 46 => some (48, 2)
  | 22 => some (39, 1)
  | 27 => some (51, 1)
  | 23 => some (41, 7)
  | 55 => some (56, 1)
  | 63 => some (64, 1)
  | _ => none

theorem sl_ok {t e s : Nat} (h : sl t = some (e, s)) (w : World) : (underlying t).run P w = .ok (.slice e) w ∧ (sizeOf e).run P w = .ok s w := by
  unfold sl at h
  split at h <;> first | (cases h; exact ⟨by kernel_rfl, by kernel_rfl⟩) | cases h

/-- structs: how many cells lie before a field -/
def fo : Nat → Nat → Option Nat
  | 83, 0 => some 0
  | 117, 0 => some 0
  | 117, 1 => some 1
  | 117, 2 => some 2
  | 117, 3 => some 3
  | 41, 0 => some 0
  | 41, 1 => some 1
  | 41, 2 => some 2
  | 41, 3 => some 3
  | 41, 4 => some 4
  | 41, 5 => some 5
  | 41, 6 => some 6
  | 48, 0 => some 0
  | 48, 1 => some 1
  | 31, 0 => some 0
  | 31, 1 => some 1
  | 31, 2 => some 2
  | _, _ => none

theorem add_addr (b o s : Nat) : (⟨b, o, none⟩ : Addr).add s = ⟨b, o + s, none⟩ := by
  unfold Addr.add
  split
  · rename_i h; subst h; rfl
  · rfl

theorem fo_ok {t f s : Nat} (h : fo t f = some s) (b o : Nat) (w : World) : (Instr.fieldAt t (.pointer (some ⟨b, o, none⟩)) f).run P w = .ok (.pointer (some ⟨b, o + s, none⟩)) w := by
  rw [← add_addr]
  unfold fo at h
  split at h <;> first | (cases h; kernel_rfl) | cases h

/-- types of one cell, read and written whole -/
def c1 : Nat → Bool
  | 3 => true
  | 5 => true
  | 52 => true
  | 53 => true
  | 4 => true
  | 67 => true
  | 51 => true
  | 39 => true
  | 29 => true
  | 64 => true
  | 56 => true
  | 27 => true
  | 9 => true
  | 43 => true
  | 28 => true
  | _ => false

theorem c1_ok {t : Nat} (h : c1 t = true) (w : World) : (isAgg t).run P w = .ok false w ∧ (sizeOf t).run P w = .ok 1 w := by
  unfold c1 at h
  split at h <;> first | (exact absurd h (by decide)) | exact ⟨by kernel_rfl, by kernel_rfl⟩

/-! ## operations that leave the world alone -/
def lAt {α : Type} : List α → Nat → Option α
  | [], _ => none
  | v :: _, 0 => some v
  | _ :: r, i + 1 => lAt r i

theorem lAt_eq {α : Type} : ∀ (l : List α) (i : Nat), lAt l i = l[i]?
  | [], i => by simp [lAt]
  | o :: r, 0 => by simp [lAt]
  | o :: r, i + 1 => by simp [lAt, lAt_eq r i]

def Obj.cell : Obj → Nat → Option Value
  | .cells c _ _, i => lAt c.toList i
  | _, _ => none

theorem cell_of {w : World} {b : Nat} {o : Obj} {i : Nat} {v : Value} (h : w.heap[b]? = some o) (hv : Obj.cell o i = some v) : w.cell? ⟨b, i, none⟩ = some v := by
  unfold World.cell?
  simp only [h]
  cases o with
  | cells c t f => simpa [Obj.cell, lAt_eq] using hv
  | _ => simp [Obj.cell] at hv

section
variable {n : Nat} {w0 : World} {E : Env} {M : Mem} {dst : Option Nat} {ty : TypeId} {pos : String} {aft : Array Edge} {g : Option (Nat × Bool)}

def evp (E : Env) : List (Nat × Operand) → Option (List (Nat × Value))
  | [] => some []
  | (i, x) :: r => match ev E x, evp E r with
    | some v, some vs => some ((i, v) :: vs)
    | _, _ => none
theorem evp_ok {a : Act} (h : Rep n E a) {ps : Array (Nat × Operand)} {qs : List (Nat × Value)} (hq : evp E ps.toList = some qs) : (ps.map fun (i, x) => (i, a.eval x)) = qs.toArray := by
  have key : ∀ (l : List (Nat × Operand)) (qs : List (Nat × Value)), evp E l = some qs → l.map (fun (i, x) => (i, a.eval x)) = qs := by
    intro l
    induction l with
    | nil => intro qs hq; simp [evp] at hq; simp [hq]
    | cons p r ih =>
      intro qs hq
      obtain ⟨i, x⟩ := p
      unfold evp at hq
      cases h1 : ev E x with
      | none => simp [h1] at hq
      | some v =>
        cases h2 : evp E r with
        | none => simp [h1, h2] at hq
        | some us =>
          simp [h1, h2] at hq
          subst hq
          simp [h.eval h1, ih us h2]
  apply Array.toList_inj.1
  simpa using key _ _ hq

theorem LX.eq {o : Oper} {v v' : Value} (h : LX n w0 o E M v) (e : v = v') : LX n w0 o E M v' := e ▸ h

theorem LX.move {x : Operand} {v : Value} (hx : ev E x = some v) : LX n w0 ⟨dst, .move x, ty, pos, aft, g⟩ E M v := by
  refine ⟨fun a w ha _ => ?_⟩
  show Result.ok (Next.value (a.eval x)) w = _
  rw [ha.eval hx]
theorem LX.assign {x : Operand} {v : Value} (hx : ev E x = some v) : LX n w0 ⟨dst, .assign x, ty, pos, aft, g⟩ E M v := by
  refine ⟨fun a w ha _ => ?_⟩
  show Result.ok (Next.value (a.eval x)) w = _
  rw [ha.eval hx]

def binV (op : BinOp) (k : IntKind) (x y : Int) : Option Value :=
  match op with
  | .add => some (.int k (k.wrap (x + y)))
  | .sub => some (.int k (k.wrap (x - y)))
  | .mul => some (.int k (k.wrap (x * y)))
  | .and => some (.int k (bits .and k x y))
  | .or => some (.int k (bits .or k x y))
  | .xor => some (.int k (bits .xor k x y))
  | .eql => some (.bool (decide (x = y)))
  | .neq => some (.bool (!decide (x = y)))
  | .lss => some (.bool (decide (x < y)))
  | .leq => some (.bool (decide (x ≤ y)))
  | .gtr => some (.bool (decide (y < x)))
  | .geq => some (.bool (decide (y ≤ x)))
  | _ => none

theorem LX.bin {op : BinOp} {xT yT : TypeId} {x y : Operand} {k : IntKind} {p q : Int} {v : Value} (hx : ev E x = some (.int k p)) (hy : ev E y = some (.int k q))
    (hv : binV op k p q = some v) : LX n w0 ⟨dst, .binOp op xT x y yT, ty, pos, aft, g⟩ E M v := by
  refine ⟨fun a w ha _ => ?_⟩
  have e1 := ha.eval hx
  have e2 := ha.eval hy
  simp only [execOp, e1, e2]
  cases op <;> simp only [binV, Option.some.injEq, reduceCtorEq] at hv <;> subst hv <;>
    simp [eqGuard, binOp, Op.intArith, Op.intBits, Op.intCmp, bits] <;> rfl

theorem i64_in {x : Int} (h : -9223372036854775808 ≤ x ∧ x ≤ 9223372036854775807) : IntKind.i64.wrap x = x := by
  rw [IntKind.wrap_i64]; omega
theorem u64_in {x : Int} (h : 0 ≤ x ∧ x < 18446744073709551616) : IntKind.u64.wrap x = x := by
  rw [IntKind.wrap_u64]; omega

theorem LX.addI {xT yT : TypeId} {x y : Operand} {p q : Int} (hx : ev E x = some (.int .i64 p)) (hy : ev E y = some (.int .i64 q))
    (hr : -9223372036854775808 ≤ p + q ∧ p + q ≤ 9223372036854775807) : LX n w0 ⟨dst, .binOp .add xT x y yT, ty, pos, aft, g⟩ E M (.int .i64 (p + q)) :=
  LX.eq (LX.bin hx hy rfl) (by rw [i64_in hr])
theorem LX.subI {xT yT : TypeId} {x y : Operand} {p q : Int} (hx : ev E x = some (.int .i64 p)) (hy : ev E y = some (.int .i64 q))
    (hr : -9223372036854775808 ≤ p - q ∧ p - q ≤ 9223372036854775807) : LX n w0 ⟨dst, .binOp .sub xT x y yT, ty, pos, aft, g⟩ E M (.int .i64 (p - q)) :=
  LX.eq (LX.bin hx hy rfl) (by rw [i64_in hr])
theorem LX.mulI {xT yT : TypeId} {x y : Operand} {p q : Int} (hx : ev E x = some (.int .i64 p)) (hy : ev E y = some (.int .i64 q))
    (hr : -9223372036854775808 ≤ p * q ∧ p * q ≤ 9223372036854775807) : LX n w0 ⟨dst, .binOp .mul xT x y yT, ty, pos, aft, g⟩ E M (.int .i64 (p * q)) :=
  LX.eq (LX.bin hx hy rfl) (by rw [i64_in hr])
theorem LX.addU {xT yT : TypeId} {x y : Operand} {p q : Int} (hx : ev E x = some (.int .u64 p)) (hy : ev E y = some (.int .u64 q))
    (hr : 0 ≤ p + q ∧ p + q < 18446744073709551616) : LX n w0 ⟨dst, .binOp .add xT x y yT, ty, pos, aft, g⟩ E M (.int .u64 (p + q)) :=
  LX.eq (LX.bin hx hy rfl) (by rw [u64_in hr])
theorem LX.subU {xT yT : TypeId} {x y : Operand} {p q : Int} (hx : ev E x = some (.int .u64 p)) (hy : ev E y = some (.int .u64 q))
    (hr : 0 ≤ p - q ∧ p - q < 18446744073709551616) : LX n w0 ⟨dst, .binOp .sub xT x y yT, ty, pos, aft, g⟩ E M (.int .u64 (p - q)) :=
  LX.eq (LX.bin hx hy rfl) (by rw [u64_in hr])
theorem LX.mulU {xT yT : TypeId} {x y : Operand} {p q : Int} (hx : ev E x = some (.int .u64 p)) (hy : ev E y = some (.int .u64 q))
    (hr : 0 ≤ p * q ∧ p * q < 18446744073709551616) : LX n w0 ⟨dst, .binOp .mul xT x y yT, ty, pos, aft, g⟩ E M (.int .u64 (p * q)) :=
  LX.eq (LX.bin hx hy rfl) (by rw [u64_in hr])

theorem LX.quo {xT yT : TypeId} {x y : Operand} {k : IntKind} {p q : Int} (hx : ev E x = some (.int k p)) (hy : ev E y = some (.int k q)) (h0 : q ≠ 0) :
    LX n w0 ⟨dst, .binOp .quo xT x y yT, ty, pos, aft, g⟩ E M (.int k (k.wrap (p.tdiv q))) := by
  refine ⟨fun a w ha _ => ?_⟩
  have e1 := ha.eval hx
  have e2 := ha.eval hy
  simp [execOp, e1, e2, eqGuard, binOp, Op.intDiv, h0]
theorem LX.quoI {xT yT : TypeId} {x y : Operand} {p q : Int} (hx : ev E x = some (.int .i64 p)) (hy : ev E y = some (.int .i64 q)) (hp : 0 ≤ p ∧ p ≤ 9223372036854775807) (hq : 0 < q) :
    LX n w0 ⟨dst, .binOp .quo xT x y yT, ty, pos, aft, g⟩ E M (.int .i64 (p / q)) := by
  refine LX.eq (LX.quo hx hy (by omega)) ?_
  have h1 : p.tdiv q = p / q := Int.tdiv_eq_ediv_of_nonneg hp.1
  have h2 : 0 ≤ p / q := Int.ediv_nonneg hp.1 (by omega)
  have h3 : p / q ≤ p := Int.ediv_le_self q hp.1
  rw [h1, i64_in ⟨by omega, by omega⟩]
theorem LX.quoU {xT yT : TypeId} {x y : Operand} {p q : Int} (hx : ev E x = some (.int .u64 p)) (hy : ev E y = some (.int .u64 q)) (hp : 0 ≤ p ∧ p < 18446744073709551616) (hq : 0 < q) :
    LX n w0 ⟨dst, .binOp .quo xT x y yT, ty, pos, aft, g⟩ E M (.int .u64 (p / q)) := by
  refine LX.eq (LX.quo hx hy (by omega)) ?_
  have h1 : p.tdiv q = p / q := Int.tdiv_eq_ediv_of_nonneg hp.1
  have h2 : 0 ≤ p / q := Int.ediv_nonneg hp.1 (by omega)
  have h3 : p / q ≤ p := Int.ediv_le_self q hp.1
  rw [h1, u64_in ⟨by omega, by omega⟩]
theorem LX.rem {xT yT : TypeId} {x y : Operand} {k : IntKind} {p q : Int} (hx : ev E x = some (.int k p)) (hy : ev E y = some (.int k q)) (hp : 0 ≤ p) (hq : 0 < q) :
    LX n w0 ⟨dst, .binOp .rem xT x y yT, ty, pos, aft, g⟩ E M (.int k (p % q)) := by
  refine ⟨fun a w ha _ => ?_⟩
  have e1 := ha.eval hx
  have e2 := ha.eval hy
  have h1 : p.tmod q = p % q := Int.tmod_eq_emod_of_nonneg hp
  have h0 : q ≠ 0 := by omega
  simp [execOp, e1, e2, eqGuard, binOp, Op.intDiv, h0, h1]

theorem LX.shl {xT yT : TypeId} {x y : Operand} {k k' : IntKind} {p q : Int} (hx : ev E x = some (.int k p)) (hy : ev E y = some (.int k' q)) (hq : 0 ≤ q) :
    LX n w0 ⟨dst, .binOp .shl xT x y yT, ty, pos, aft, g⟩ E M (.int k (k.wrap (p * 2 ^ (min q.toNat k.bits)))) := by
  refine ⟨fun a w ha _ => ?_⟩
  have e1 := ha.eval hx
  have e2 := ha.eval hy
  have h0 : ¬ q < 0 := by omega
  simp [execOp, e1, e2, eqGuard, binOp, Op.shift, h0]
theorem LX.shr {xT yT : TypeId} {x y : Operand} {k k' : IntKind} {p q : Int} (hx : ev E x = some (.int k p)) (hy : ev E y = some (.int k' q)) (hq : 0 ≤ q) (hp : 0 ≤ p) :
    LX n w0 ⟨dst, .binOp .shr xT x y yT, ty, pos, aft, g⟩ E M (.int k (p / 2 ^ (min q.toNat k.bits))) := by
  refine ⟨fun a w ha _ => ?_⟩
  have e1 := ha.eval hx
  have e2 := ha.eval hy
  have h0 : ¬ q < 0 := by omega
  have hpos : (0 : Int) ≤ 2 ^ (min q.toNat k.bits) := Int.le_of_lt (Int.pow_pos (by decide))
  have h1 : p.fdiv (2 ^ (min q.toNat k.bits)) = p / 2 ^ (min q.toNat k.bits) := Int.fdiv_eq_ediv_of_nonneg _ hpos
  simp only [execOp, e1, e2]
  simp [eqGuard, binOp, Op.shift, h0, h1]

theorem LX.not {xT : TypeId} {x : Operand} {b : Bool} (hx : ev E x = some (.bool b)) : LX n w0 ⟨dst, .unOp .not xT x, ty, pos, aft, g⟩ E M (.bool !b) := by
  refine ⟨fun a w ha _ => ?_⟩
  have e1 := ha.eval hx
  simp [execOp, e1, Op.unary]
theorem LX.neg {xT : TypeId} {x : Operand} {k : IntKind} {p : Int} (hx : ev E x = some (.int k p)) : LX n w0 ⟨dst, .unOp .neg xT x, ty, pos, aft, g⟩ E M (.int k (k.wrap (0 - p))) := by
  refine ⟨fun a w ha _ => ?_⟩
  have e1 := ha.eval hx
  simp [execOp, e1, Op.unary, Op.intArith]

theorem LX.conv {s t : Nat} {x : Operand} {k k' k'' : IntKind} {p : Int} (hx : ev E x = some (.int k p)) (hs : ik s = some k') (ht : ik t = some k'') :
    LX n w0 ⟨dst, .convert s t x, ty, pos, aft, g⟩ E M (.int k'' (k''.wrap p)) := by
  refine ⟨fun a w ha _ => ?_⟩
  have e1 := ha.eval hx
  simp [execOp, e1, convert, ik_ok hs w, ik_ok ht w, Conv.intToInt]
theorem LX.convI {s t : Nat} {x : Operand} {k k' : IntKind} {p : Int} (hx : ev E x = some (.int k p)) (hs : ik s = some k') (ht : ik t = some .i64)
    (hr : -9223372036854775808 ≤ p ∧ p ≤ 9223372036854775807) : LX n w0 ⟨dst, .convert s t x, ty, pos, aft, g⟩ E M (.int .i64 p) :=
  LX.eq (LX.conv hx hs ht) (by rw [i64_in hr])
theorem LX.convU {s t : Nat} {x : Operand} {k k' : IntKind} {p : Int} (hx : ev E x = some (.int k p)) (hs : ik s = some k') (ht : ik t = some .u64)
    (hr : 0 ≤ p ∧ p < 18446744073709551616) : LX n w0 ⟨dst, .convert s t x, ty, pos, aft, g⟩ E M (.int .u64 p) :=
  LX.eq (LX.conv hx hs ht) (by rw [u64_in hr])

theorem LX.pick {c x y : Operand} {b : Bool} {u v : Value} (hc : ev E c = some (.bool b)) (hx : ev E x = some u) (hy : ev E y = some v) :
    LX n w0 ⟨dst, .pick c x y, ty, pos, aft, g⟩ E M (if b then u else v) := by
  refine ⟨fun a w ha _ => ?_⟩
  have e1 := ha.eval hc
  have e2 := ha.eval hx
  have e3 := ha.eval hy
  cases b <;> simp [execOp, e1, e2, e3, asBool]
theorem LX.pickT {c x y : Operand} {u : Value} (hc : ev E c = some (.bool true)) (hx : ev E x = some u) : LX n w0 ⟨dst, .pick c x y, ty, pos, aft, g⟩ E M u := by
  refine ⟨fun a w ha _ => ?_⟩
  have e1 := ha.eval hc
  have e2 := ha.eval hx
  simp [execOp, e1, e2, asBool]
theorem LX.pickF {c x y : Operand} {v : Value} (hc : ev E c = some (.bool false)) (hy : ev E y = some v) : LX n w0 ⟨dst, .pick c x y, ty, pos, aft, g⟩ E M v := by
  refine ⟨fun a w ha _ => ?_⟩
  have e1 := ha.eval hc
  have e2 := ha.eval hy
  simp [execOp, e1, e2, asBool]

theorem LX.nilCheck {x : Operand} {p : Addr} (hx : ev E x = some (.pointer (some p))) : LX n w0 ⟨dst, .nilCheck x, ty, pos, aft, g⟩ E M (.pointer (some p)) := by
  refine ⟨fun a w ha _ => ?_⟩
  have e1 := ha.eval hx
  simp [execOp, e1]

theorem LX.field {t : Nat} {x : Operand} {f s b o : Nat} (hx : ev E x = some (.pointer (some ⟨b, o, none⟩))) (ht : fo t f = some s) :
    LX n w0 ⟨dst, .fieldAddr t x f, ty, pos, aft, g⟩ E M (.pointer (some ⟨b, o + s, none⟩)) := by
  refine ⟨fun a w ha _ => ?_⟩
  have e1 := ha.eval hx
  simp [execOp, e1, fo_ok ht b o w]

theorem LX.field0 {t : Nat} {x : Operand} {f s b : Nat} (hx : ev E x = some (.pointer (some ⟨b, 0, none⟩))) (ht : fo t f = some s) :
    LX n w0 ⟨dst, .fieldAddr t x f, ty, pos, aft, g⟩ E M (.pointer (some ⟨b, s, none⟩)) :=
  LX.eq (LX.field hx ht) (by rw [Nat.zero_add])

theorem LX.idx {t : Nat} {x y : Operand} {e s b o len cap : Nat} {k : IntKind} {i : Int} (hx : ev E x = some (.slice (some ⟨b, o, none⟩) len cap)) (hy : ev E y = some (.int k i))
    (ht : sl t = some (e, s)) (j : Nat) (hj : i = (j : Int)) (hl : j < len) :
    LX n w0 ⟨dst, .indexAddr t x y, ty, pos, aft, g⟩ E M (.pointer (some ⟨b, o + j * s, none⟩)) := by
  refine ⟨fun a w ha _ => ?_⟩
  have e1 := ha.eval hx
  have e2 := ha.eval hy
  obtain ⟨h1, h2⟩ := sl_ok ht w
  subst hj
  have h3 : (0 : Int) ≤ (j : Int) ∧ (j : Int) < (len : Int) := by omega
  simp [execOp, e1, e2, Instr.indexAt, asIntOf, h1, h2, add_addr, hl]

/-- an index into elements of one cell -/
theorem LX.idx1 {t : Nat} {x y : Operand} {e b len cap : Nat} {k : IntKind} {i : Int} (hx : ev E x = some (.slice (some ⟨b, 0, none⟩) len cap)) (hy : ev E y = some (.int k i))
    (ht : sl t = some (e, 1)) (j : Nat) (hj : i = (j : Int)) (hl : j < len) :
    LX n w0 ⟨dst, .indexAddr t x y, ty, pos, aft, g⟩ E M (.pointer (some ⟨b, j, none⟩)) := by
  have := LX.idx (n := n) (w0 := w0) (M := M) (dst := dst) (ty := ty) (pos := pos) (aft := aft) (g := g) hx hy ht j hj hl
  rwa [Nat.mul_one, Nat.zero_add] at this

theorem LX.idxo {t : Nat} {x y : Operand} {e b o len cap : Nat} {k : IntKind} {i : Int} (hx : ev E x = some (.slice (some ⟨b, o, none⟩) len cap)) (hy : ev E y = some (.int k i))
    (ht : sl t = some (e, 1)) (j : Nat) (hj : i = (j : Int)) (hl : j < len) :
    LX n w0 ⟨dst, .indexAddr t x y, ty, pos, aft, g⟩ E M (.pointer (some ⟨b, o + j, none⟩)) := by
  have := LX.idx (n := n) (w0 := w0) (M := M) (dst := dst) (ty := ty) (pos := pos) (aft := aft) (g := g) hx hy ht j hj hl
  rwa [Nat.mul_one] at this

theorem LX.load {t : Nat} {x : Operand} {b i : Nat} {o : Obj} {v : Value} (hx : ev E x = some (.pointer (some ⟨b, i, none⟩))) (ht : c1 t = true) (hm : (b, o) ∈ M) (hv : Obj.cell o i = some v) :
    LX n w0 ⟨dst, .load t x, ty, pos, aft, g⟩ E M v := by
  refine ⟨fun a w ha hw => ?_⟩
  have e1 := ha.eval hx
  have hc := cell_of (hw.has _ hm).2 hv
  simp [execOp, e1, Instr.loadAt, Instr.sureAddr, loadVar, c1_ok ht w, hc]

/-- a load from what was there when the call began -/
theorem LX.loadW {t : Nat} {x : Operand} {b i : Nat} {o : Obj} {v : Value} (hx : ev E x = some (.pointer (some ⟨b, i, none⟩))) (ht : c1 t = true) (hm : w0.heap[b]? = some o) (hv : Obj.cell o i = some v) :
    LX n w0 ⟨dst, .load t x, ty, pos, aft, g⟩ E M v := by
  refine ⟨fun a w ha hw => ?_⟩
  have e1 := ha.eval hx
  have hlt : b < w0.heap.size := by
    rcases Nat.lt_or_ge b w0.heap.size with h' | h'
    · exact h'
    · simp [Array.getElem?_eq_none h'] at hm
  have hc := cell_of (w := w) (by rw [hw.below.block b hlt]; exact hm) hv
  simp [execOp, e1, Instr.loadAt, Instr.sureAddr, loadVar, c1_ok ht w, hc]

theorem LX.len {t : Nat} {x : Operand} {A : Option Addr} {len cap e s : Nat} {ats : Array TypeId} (hx : ev E x = some (.slice A len cap)) (ha : ats[0]? = some t) (ht : sl t = some (e, s)) :
    LX n w0 ⟨dst, .call ⟨.builtin .len, #[x], ats⟩, ty, pos, aft, g⟩ E M (.int .i64 len) := by
  refine ⟨fun a w hr _ => ?_⟩
  have e1 := hr.eval hx
  obtain ⟨h1, h2⟩ := sl_ok ht w
  simp [execOp, resolve, invoke, builtin, e1, Builtin.len_, ha, h1, goInt]
theorem LX.cap {t : Nat} {x : Operand} {A : Option Addr} {len cap e s : Nat} {ats : Array TypeId} (hx : ev E x = some (.slice A len cap)) (ha : ats[0]? = some t) (ht : sl t = some (e, s)) :
    LX n w0 ⟨dst, .call ⟨.builtin .cap, #[x], ats⟩, ty, pos, aft, g⟩ E M (.int .i64 cap) := by
  refine ⟨fun a w hr _ => ?_⟩
  have e1 := hr.eval hx
  obtain ⟨h1, h2⟩ := sl_ok ht w
  simp [execOp, resolve, invoke, builtin, e1, Builtin.cap_, ha, h1, goInt]
theorem LX.max {x y : Operand} {ats : Array TypeId} {k k' : IntKind} {p q : Int} (hx : ev E x = some (.int k p)) (hy : ev E y = some (.int k' q)) :
    LX n w0 ⟨dst, .call ⟨.builtin .max, #[x, y], ats⟩, ty, pos, aft, g⟩ E M (.int k (if p < q then q else p)) := by
  refine ⟨fun a w hr _ => ?_⟩
  have e1 := hr.eval hx
  have e2 := hr.eval hy
  simp [execOp, resolve, invoke, builtin, e1, e2, Builtin.max_, Builtin.max2]

theorem LX.extract {x : Operand} {vs : Array Value} {i : Nat} {v : Value} (hx : ev E x = some (.tuple vs)) (hv : lAt vs.toList i = some v) :
    LX n w0 ⟨dst, .extract x i, ty, pos, aft, g⟩ E M v := by
  refine ⟨fun a w ha _ => ?_⟩
  have e1 := ha.eval hx
  rw [lAt_eq, Array.getElem?_toList] at hv
  simp [execOp, e1, Instr.extract, hv]

/-- x[lo:hi] of a slice that lies in memory -/
theorem slice_run {t e s b o len cap : Nat} (ht : sl t = some (e, s)) (lo hi : Option Value) (l h : Nat)
    (hlo : lo = none ∧ l = 0 ∨ ∃ k, lo = some (.int k (l : Int))) (hhi : hi = none ∧ h = len ∨ ∃ k, hi = some (.int k (h : Int))) (hlh : l ≤ h) (hhc : h ≤ cap) (w : World) :
    (Instr.sliceAt t (.slice (some ⟨b, o, none⟩) len cap) lo hi none).run P w = .ok (.slice (some (if cap = l then ⟨b, o, none⟩ else ⟨b, o + l * s, none⟩)) (h - l) (cap - l)) w := by
  obtain ⟨h1, h2⟩ := sl_ok ht w
  have e1 : (Instr.sliceBounds true len cap lo hi none).run P w = .ok (l, h, cap) w := by
    unfold Instr.sliceBounds
    rcases hhi with ⟨rfl, rfl⟩ | ⟨k, rfl⟩ <;> rcases hlo with ⟨rfl, rfl⟩ | ⟨k', rfl⟩ <;>
      simp [Instr.sliceBound, asIntOf, hlh, hhc]
  simp only [Instr.sliceAt, Instr.slice, Sem.run_bind, h1, Result.andThen_ok, e1, h2]
  simp only [Sem.run_pure, add_addr, Option.map_some]
  split <;> rfl

theorem LX.slice {t : Nat} {x : Operand} {lo hi : Option Operand} {e s b o len cap : Nat} (hx : ev E x = some (.slice (some ⟨b, o, none⟩) len cap)) (ht : sl t = some (e, s)) (l h : Nat)
    (hlo : lo = none ∧ l = 0 ∨ ∃ k y, lo = some y ∧ ev E y = some (.int k (l : Int))) (hhi : hi = none ∧ h = len ∨ ∃ k y, hi = some y ∧ ev E y = some (.int k (h : Int)))
    (hlh : l ≤ h) (hhc : h ≤ cap) :
    LX n w0 ⟨dst, .slice t x lo hi none, ty, pos, aft, g⟩ E M (.slice (some (if cap = l then ⟨b, o, none⟩ else ⟨b, o + l * s, none⟩)) (h - l) (cap - l)) := by
  refine ⟨fun a w ha _ => ?_⟩
  have e1 := ha.eval hx
  have hlo' : (lo.map a.eval = none ∧ l = 0) ∨ ∃ k, lo.map a.eval = some (.int k (l : Int)) := by
    rcases hlo with ⟨rfl, rfl⟩ | ⟨k, y, rfl, hy⟩
    · exact .inl ⟨rfl, rfl⟩
    · exact .inr ⟨k, by simp [ha.eval hy]⟩
  have hhi' : (hi.map a.eval = none ∧ h = len) ∨ ∃ k, hi.map a.eval = some (.int k (h : Int)) := by
    rcases hhi with ⟨rfl, rfl⟩ | ⟨k, y, rfl, hy⟩
    · exact .inl ⟨rfl, rfl⟩
    · exact .inr ⟨k, by simp [ha.eval hy]⟩
  have := slice_run (b := b) (o := o) ht _ _ l h hlo' hhi' hlh hhc w
  simp [execOp, e1, this]

/-- x[:hi] -/
theorem LX.sliceTo {t : Nat} {x y : Operand} {e s b o len cap : Nat} {k : IntKind} {i : Int} (hx : ev E x = some (.slice (some ⟨b, o, none⟩) len cap)) (hy : ev E y = some (.int k i)) (ht : sl t = some (e, s)) (h : Nat)
    (hi : i = (h : Int)) (hhc : h ≤ cap) : LX n w0 ⟨dst, .slice t x none (some y) none, ty, pos, aft, g⟩ E M (.slice (some ⟨b, o, none⟩) h cap) := by
  subst hi
  have := LX.slice (n := n) (w0 := w0) (M := M) (dst := dst) (ty := ty) (pos := pos) (aft := aft) (g := g) hx ht 0 h (.inl ⟨rfl, rfl⟩) (.inr ⟨k, y, rfl, hy⟩) (Nat.zero_le _) hhc
  simpa using this

/-- x[lo:], lo below the capacity -/
theorem LX.sliceFrom {t : Nat} {x y : Operand} {e b o len cap : Nat} {k : IntKind} {i : Int} (hx : ev E x = some (.slice (some ⟨b, o, none⟩) len cap)) (hy : ev E y = some (.int k i)) (ht : sl t = some (e, 1)) (l : Nat)
    (hi : i = (l : Int)) (hlc : l < cap) (hll : l ≤ len) (hhc : len ≤ cap) : LX n w0 ⟨dst, .slice t x (some y) none none, ty, pos, aft, g⟩ E M (.slice (some ⟨b, o + l, none⟩) (len - l) (cap - l)) := by
  subst hi
  have := LX.slice (n := n) (w0 := w0) (M := M) (dst := dst) (ty := ty) (pos := pos) (aft := aft) (g := g) hx ht l len (.inr ⟨k, y, rfl, hy⟩) (.inl ⟨rfl, rfl⟩) hll hhc
  rwa [if_neg (by omega), Nat.mul_one] at this

/-- x[lo:hi], lo below the capacity -/
theorem LX.sliceLH {t : Nat} {x y z : Operand} {e b o len cap : Nat} {k k' : IntKind} {i i' : Int} (hx : ev E x = some (.slice (some ⟨b, o, none⟩) len cap)) (hy : ev E y = some (.int k i)) (hz : ev E z = some (.int k' i')) (ht : sl t = some (e, 1)) (l h : Nat)
    (hi : i = (l : Int)) (hi' : i' = (h : Int)) (hlc : l < cap) (hlh : l ≤ h) (hhc : h ≤ cap) : LX n w0 ⟨dst, .slice t x (some y) (some z) none, ty, pos, aft, g⟩ E M (.slice (some ⟨b, o + l, none⟩) (h - l) (cap - l)) := by
  subst hi hi'
  have := LX.slice (n := n) (w0 := w0) (M := M) (dst := dst) (ty := ty) (pos := pos) (aft := aft) (g := g) hx ht l h (.inr ⟨k, y, rfl, hy⟩) (.inr ⟨k', z, rfl, hz⟩) hlh hhc
  rwa [if_neg (by omega), Nat.mul_one] at this

theorem LX.iface {t : Nat} {x : Operand} {v : Value} (hx : ev E x = some v) (ht : ∀ w, (Instr.makeInterface t v).run P w = .ok (.iface t v) w) :
    LX n w0 ⟨dst, .makeInterface t x, ty, pos, aft, g⟩ E M (.iface t v) := by
  refine ⟨fun a w ha _ => ?_⟩
  have e1 := ha.eval hx
  simp [execOp, e1, ht w]

/-- what is built out of parts, told by a run -/
theorem LX.build {t : Nat} {ps : Array (Nat × Operand)} {qs : List (Nat × Value)} {v : Value} (hq : evp E ps.toList = some qs)
    (ht : ∀ w, (Instr.build t qs.toArray).run P w = .ok v w) : LX n w0 ⟨dst, .build t ps, ty, pos, aft, g⟩ E M v := by
  refine ⟨fun a w ha _ => ?_⟩
  simp only [execOp, evp_ok ha hq]
  simp [ht w]

theorem err_und (w : World) : ∃ ms, (underlying 58).run P w = .ok (.interface ms) w := ⟨_, (by kernel_rfl : (underlying 58).run P w = .ok (((P.underlying 58).getD default)) w).trans (by kernel_rfl : _ = Result.ok (TypeDesc.interface (match (P.underlying 58).getD default with | .interface ms => ms | _ => #[])) w)⟩

/-- 'err != nil', 'err == nil' -/
theorem LX.errNe {x : Operand} {yT : TypeId} (hx : ev E x = some .nilIface) : LX n w0 ⟨dst, .binOp .neq 58 x (.const .nilIface) yT, ty, pos, aft, g⟩ E M (.bool false) := by
  refine ⟨fun a w ha _ => ?_⟩
  have e1 := ha.eval hx
  obtain ⟨ms, h1⟩ := err_und w
  have hq : ∀ d : Nat, (Op.equalIn (d + 1) 58 .nilIface .nilIface).run P w = .ok true w := fun d => by simp [Op.equalIn, h1]
  simp only [execOp, e1]
  simp [eqGuard, binOp, Op.equal, Op.maxDepth, hq 9999, Act.eval]
theorem LX.errNeT {x : Operand} {yT t : TypeId} {v : Value} (hx : ev E x = some (.iface t v)) : LX n w0 ⟨dst, .binOp .neq 58 x (.const .nilIface) yT, ty, pos, aft, g⟩ E M (.bool true) := by
  refine ⟨fun a w ha _ => ?_⟩
  have e1 := ha.eval hx
  obtain ⟨ms, h1⟩ := err_und w
  have hq : ∀ d : Nat, (Op.equalIn (d + 1) 58 (.iface t v) .nilIface).run P w = .ok false w := fun d => by simp [Op.equalIn, h1]
  simp only [execOp, e1]
  simp [eqGuard, binOp, Op.equal, Op.maxDepth, hq 9999, Act.eval]
theorem LX.errEq {x : Operand} {yT : TypeId} (hx : ev E x = some .nilIface) : LX n w0 ⟨dst, .binOp .eql 58 x (.const .nilIface) yT, ty, pos, aft, g⟩ E M (.bool true) := by
  refine ⟨fun a w ha _ => ?_⟩
  have e1 := ha.eval hx
  obtain ⟨ms, h1⟩ := err_und w
  have hq : ∀ d : Nat, (Op.equalIn (d + 1) 58 .nilIface .nilIface).run P w = .ok true w := fun d => by simp [Op.equalIn, h1]
  simp only [execOp, e1]
  simp [eqGuard, binOp, Op.equal, Op.maxDepth, hq 9999, Act.eval]
theorem LX.errEqF {x : Operand} {yT t : TypeId} {v : Value} (hx : ev E x = some (.iface t v)) : LX n w0 ⟨dst, .binOp .eql 58 x (.const .nilIface) yT, ty, pos, aft, g⟩ E M (.bool false) := by
  refine ⟨fun a w ha _ => ?_⟩
  have e1 := ha.eval hx
  obtain ⟨ms, h1⟩ := err_und w
  have hq : ∀ d : Nat, (Op.equalIn (d + 1) 58 (.iface t v) .nilIface).run P w = .ok false w := fun d => by simp [Op.equalIn, h1]
  simp only [execOp, e1]
  simp [eqGuard, binOp, Op.equal, Op.maxDepth, hq 9999, Act.eval]

/-- 's == nil' of a slice -/
theorem LX.isNil {t e s : Nat} {x : Operand} {A : Option Addr} {len cap : Nat} {yT : TypeId} (hx : ev E x = some (.slice A len cap)) (ht : sl t = some (e, s)) :
    LX n w0 ⟨dst, .binOp .eql t x (.const (.slice none 0 0)) yT, ty, pos, aft, g⟩ E M (.bool A.isNone) := by
  refine ⟨fun a w ha _ => ?_⟩
  have e1 := ha.eval hx
  obtain ⟨h1, _⟩ := sl_ok ht w
  have hq : ∀ d : Nat, (Op.equalIn (d + 1) t (.slice A len cap) (.slice none 0 0)).run P w = .ok A.isNone w := fun d => by
    cases A <;> simp [Op.equalIn, h1]
  simp only [execOp, e1]
  simp [eqGuard, binOp, Op.equal, Op.maxDepth, hq 9999, Act.eval]
end
end Go.Proofs.YtdnngppofbmpeaaGreatDoor.Bm
