/- Proved here: the laws of clear, copy and slices built out of their elements; the law of append to a slice of the own call; the law of loops by a state of the prover; plain laws on digits and the number that they stand for; the words of math/bits.Add, Sub and of ctEq, as whole numbers. Conditions: none but those that each theorem states. -/
import Derived.Test.YtdnngppofbmpeaaGreatDoorG2
namespace Go.Proofs.YtdnngppofbmpeaaGreatDoor.Bm
open Go Go.RowKit

/-! ## many cells at once -/
def putL {α : Type} (c : List α) (i : Nat) (vs : List α) : List α := c.take i ++ vs ++ c.drop (i + vs.length)

theorem putL_nil {α : Type} (c : List α) (i : Nat) : putL c i [] = c := by simp [putL]
theorem putL_length {α : Type} (c : List α) (i : Nat) (vs : List α) (h : i + vs.length ≤ c.length) : (putL c i vs).length = c.length := by simp [putL]; omega
theorem putL_cons {α : Type} (c : List α) (i : Nat) (v : α) (vs : List α) (h : i + vs.length + 1 ≤ c.length) : putL (c.set i v) (i + 1) vs = putL c i (v :: vs) := by
  unfold putL
  have h1 : (c.set i v).take (i + 1) = c.take i ++ [v] := by
    rw [List.take_succ_eq_append_getElem (by simp; omega)]
    simp [List.take_set_of_le]
  have h2 : (c.set i v).drop (i + 1 + vs.length) = c.drop (i + (v :: vs).length) := by
    rw [List.drop_set_of_lt (by omega)]
    simp only [List.length_cons]
    congr 1; omega
  rw [h1, h2]
  simp
theorem putL_map {α β : Type} (f : α → β) (c : List α) (i : Nat) (vs : List α) : putL (c.map f) i (vs.map f) = (putL c i vs).map f := by simp [putL, List.map_take, List.map_drop]

/-- w' is w but for block b -/
structure But (b : Nat) (w w' : World) : Prop where
  os : w'.os = w.os
  tape : w'.tape = w.tape
  output : w'.output = w.output
  size : w'.heap.size = w.heap.size
  oth : ∀ k, k ≠ b → w'.heap[k]? = w.heap[k]?
theorem But.refl (b : Nat) (w : World) : But b w w := ⟨rfl, rfl, rfl, rfl, fun _ _ => rfl⟩
theorem But.trans {b : Nat} {w w' w'' : World} (h : But b w w') (k : But b w' w'') : But b w w'' :=
  ⟨k.os.trans h.os, k.tape.trans h.tape, k.output.trans h.output, k.size.trans h.size, fun i hi => (k.oth i hi).trans (h.oth i hi)⟩
theorem But.setCell (b i : Nat) (v : Value) (w : World) : But b w (w.setCell ⟨b, i, none⟩ v) := ⟨rfl, rfl, rfl, by simp, fun k hk => Below.heap_setCell _ _ _ _ hk⟩

theorem HR.but {w0 w w' : World} {M M' : Mem} {b : Nat} {o o' : Obj} (h : HR w0 M w) (hm : (b, o) ∈ M) (hu : Upd M b o' M') (hb : But b w w') (hat : w'.heap[b]? = some o') : HR w0 M' w' :=
  h.upd hu (h.below.trans ⟨hb.os, hb.tape, hb.output, by rw [hb.size]; exact Nat.le_refl _, fun k hk => hb.oth k (by have := (h.has _ hm).1; simp at this; omega)⟩) hat hb.oth

theorem storeCells_run {b o : Nat} {T : TypeId} : ∀ (vs : List Value) (i : Nat) (c : List Value) (w : World), w.heap[b]? = some (.cells c.toArray T (0, 0)) → o + i + vs.length ≤ c.length → (∀ v ∈ vs, v.oneCell' = true) →
    ∃ w', (storeCells ⟨b, o, none⟩ vs i).run P w = .ok () w' ∧ w'.heap[b]? = some (.cells (putL c (o + i) vs).toArray T (0, 0)) ∧ But b w w'
  | [], i, c, w, h, _, _ => ⟨w, rfl, by rw [putL_nil]; exact h, But.refl _ _⟩
  | v :: vs, i, c, w, h, hl, hv => by
    simp only [List.length_cons] at hl
    have h1 := store_run (i := o + i) h (by simp; omega) (hv v (by simp))
    have h2 : (w.setCell ⟨b, o + i, none⟩ v).heap[b]? = some (.cells (c.set (o + i) v).toArray T (0, 0)) := by
      rw [setCell_at h]; simp
    obtain ⟨w', h3, h4, h5⟩ := storeCells_run (o := o) vs (i + 1) (c.set (o + i) v) _ h2 (by simp; omega) (fun u hu => hv u (by simp [hu]))
    refine ⟨w', ?_, ?_, (But.setCell _ _ _ _).trans h5⟩
    · simp only [storeCells, Sem.run_bind, add_addr, h1, Result.andThen_ok]
      exact h3
    · rw [h4, ← Nat.add_assoc, putL_cons _ _ _ _ (by omega)]

theorem loadCells_run {b o : Nat} {T : TypeId} {f : Nat × Nat} {c : List Value} {w : World} (h : w.heap[b]? = some (.cells c.toArray T f)) : ∀ (n i : Nat) (acc : Array Value), o + i + n ≤ c.length →
    (loadCellsFrom ⟨b, o, none⟩ i n acc).run P w = .ok (acc ++ ((c.drop (o + i)).take n).toArray) w
  | 0, i, acc, _ => by simp [loadCellsFrom]
  | n + 1, i, acc, hl => by
    have hlt : o + i < c.length := by omega
    have hc : w.cell? ⟨b, o + i, none⟩ = some c[o + i] := cell_of h (by simp [Obj.cell, lAt_eq, hlt])
    have ih := loadCells_run (o := o) h n (i + 1) (acc.push c[o + i]) (by omega)
    simp only [loadCellsFrom, Sem.run_bind, add_addr, run_load, hc, Result.andThen_ok]
    rw [ih]
    have : (c.drop (o + i)).take (n + 1) = c[o + i] :: (c.drop (o + (i + 1))).take n := by
      rw [List.drop_eq_getElem_cons hlt, List.take_succ_cons]
      rfl
    rw [this]
    simp

def sliceL {α : Type} (c : List α) (o n : Nat) : List α := (c.drop o).take n
theorem sliceL_map {α β : Type} (f : α → β) (c : List α) (o n : Nat) : sliceL (c.map f) o n = (sliceL c o n).map f := by simp [sliceL, List.map_take, List.map_drop]
theorem sliceL_length {α : Type} (c : List α) (o n : Nat) (h : o + n ≤ c.length) : (sliceL c o n).length = n := by simp [sliceL]; omega

section
variable {n : Nat} {w0 : World} {K : Exit → Env → Mem → Prop} {E : Env} {M M' : Mem} {dst : Option Nat} {ty : TypeId} {pos : String} {aft : Array Edge} {g : Option (Nat × Bool)}

/-- clear(x[:len]) over a row of whole numbers -/
theorem EX.clear {t e s : Nat} {x : Operand} {ats : Array TypeId} {b len cap : Nat} {k : IntKind} {xs : List Int} (hx : ev E x = some (.slice (some ⟨b, 0, none⟩) len cap)) (ha : ats[0]? = some t) (ht : sl t = some (e, 1)) (he : el e = some (k, s))
    (hm : (b, row k e xs) ∈ M) (hl : len ≤ xs.length) (hu : Upd M b (row k e (List.replicate len 0 ++ xs.drop len)) M') :
    EX n w0 ⟨dst, .call ⟨.builtin .clear, #[x], ats⟩, ty, pos, aft, g⟩ E M (fun u M'' => u = .tuple #[] ∧ M'' = M') := by
  refine ⟨fun a w hr hw K Q hk => ?_⟩
  have e1 := hr.eval hx
  obtain ⟨h1, h2⟩ := sl_ok ht w
  obtain ⟨h3, _, _⟩ := el_ok he w
  by_cases h0 : len = 0
  · subst h0
    have hr2 : (execOp a.eval ⟨dst, .call ⟨.builtin .clear, #[x], ats⟩, ty, pos, aft, g⟩).run P w = .ok (.value (.tuple #[])) w := by
      simp [execOp, resolve, invoke, builtin, e1, Builtin.clear_, ha, h1]
    unfold Oper.wp
    rw [hr2, Oper.upon_value]
    refine hk _ M' _ ⟨rfl, rfl⟩ (hw.but hm hu (But.refl _ _) ?_)
    simpa using (hw.has _ hm).2
  · have hz : Builtin.zeroCells #[Value.int k 0] len = ((List.replicate len (0 : Int)).map (Value.int k)).toArray := by
      unfold Builtin.zeroCells
      apply Array.ext
      · simp
      · intro j hj hj'
        simp [Nat.mod_one]
    obtain ⟨w', h4, h5, h6⟩ := storeCells_run (b := b) (o := 0) (T := e) ((List.replicate len (0 : Int)).map (Value.int k)) 0 (xs.map (Value.int k)) w (hw.has _ hm).2 (by simpa using hl) (fun v hv => by
      obtain ⟨q, _, rfl⟩ := List.mem_map.1 hv; rfl)
    have hr2 : (execOp a.eval ⟨dst, .call ⟨.builtin .clear, #[x], ats⟩, ty, pos, aft, g⟩).run P w = .ok (.value (.tuple #[])) w' := by
      have hcl : (Builtin.clear_ ats ty #[.slice (some ⟨b, 0, none⟩) len cap]).run P w = .ok (.tuple #[]) w' := by
        cases len with
        | zero => exact absurd rfl h0
        | succ q =>
          unfold Builtin.clear_
          simp only [ha, List.getElem?_toArray, List.getElem?_cons_zero, Sem.run_bind, h1, Result.andThen_ok, h3, Value.cells, hz, Sem.run_pure]
          rw [h4]
          rfl
      simp only [execOp, resolve, invoke, builtin]
      simp [e1, hcl]
    unfold Oper.wp
    rw [hr2, Oper.upon_value]
    refine hk _ M' _ ⟨rfl, rfl⟩ (hw.but hm hu h6 ?_)
    rw [h5, putL_map]
    simp [row, putL]

theorem EX.copy {t t' e s : Nat} {x y : Operand} {ats : Array TypeId} {b b' o len cap len' cap' q : Nat} {k : IntKind} {xs ys : List Int} (hx : ev E x = some (.slice (some ⟨b, 0, none⟩) len cap)) (hy : ev E y = some (.slice (some ⟨b', o, none⟩) len' cap'))
    (ha : ats = #[t, t']) (ht : sl t = some (e, 1)) (hm : (b, row k e xs) ∈ M) (hm' : (b', row k e ys) ∈ M) (hl : len ≤ xs.length) (hl' : o + len' ≤ ys.length) (hq : q = min len' len) (hu : Upd M b (row k e (putL xs 0 (sliceL ys o q))) M') :
    EX n w0 ⟨dst, .call ⟨.builtin .copy, #[x, y], ats⟩, ty, pos, aft, g⟩ E M (fun u M'' => u = .int .i64 q ∧ M'' = M') := by
  refine ⟨fun a w hr hw K Q hk => ?_⟩
  have e1 := hr.eval hx
  have e2 := hr.eval hy
  obtain ⟨h1, h2⟩ := sl_ok ht w
  subst hq ha
  have hlen : (sliceL ys o (min len' len)).length = min len' len := sliceL_length _ _ _ (by omega)
  have h3 := loadCells_run (b := b') (o := o) (T := e) (c := ys.map (Value.int k)) (hw.has _ hm').2 (min len' len) 0 #[] (by simp; omega)
  obtain ⟨w', h4, h5, h6⟩ := storeCells_run (b := b) (o := 0) (T := e) ((sliceL ys o (min len' len)).map (Value.int k)) 0 (xs.map (Value.int k)) w (hw.has _ hm).2 (by simp [hlen]; omega) (fun v hv => by
    obtain ⟨q, _, rfl⟩ := List.mem_map.1 hv; rfl)
  have h7 : ((ys.map (Value.int k)).drop (o + 0)).take (min len' len) = (sliceL ys o (min len' len)).map (Value.int k) := by
    rw [Nat.add_zero]; exact sliceL_map _ _ _ _
  rw [h7] at h3
  have hcp : (Builtin.copy_ #[t, t'] ty #[.slice (some ⟨b, 0, none⟩) len cap, .slice (some ⟨b', o, none⟩) len' cap']).run P w = .ok (.int .i64 (min len' len : Nat)) w' := by
    unfold Builtin.copy_
    simp only [List.getElem?_toArray, List.getElem?_cons_zero, List.getElem?_cons_succ, Sem.run_bind, h1, Result.andThen_ok, Builtin.lenOf, Sem.run_pure, h2, Builtin.firstCells, loadCells, Nat.mul_one]
    rw [show Nat.min len' len = min len' len from rfl, h3]
    have h8 : ((#[] : Array Value) ++ ((sliceL ys o (min len' len)).map (Value.int k)).toArray).toList = (sliceL ys o (min len' len)).map (Value.int k) := by simp
    simp only [Result.andThen_ok, h8, h4]
    rfl
  have hr2 : (execOp a.eval ⟨dst, .call ⟨.builtin .copy, #[x, y], #[t, t']⟩, ty, pos, aft, g⟩).run P w = .ok (.value (.int .i64 (min len' len : Nat))) w' := by
    simp only [execOp, resolve, invoke, builtin]
    simp only [List.map_toArray, List.map_cons, List.map_nil, e1, e2, Sem.run_bind, Sem.run_pure, Result.andThen_ok, hcp]
  unfold Oper.wp
  rw [hr2, Oper.upon_value]
  refine hk _ M' _ ⟨rfl, rfl⟩ (hw.but hm hu h6 ?_)
  rw [h5, Nat.add_zero, putL_map]
  rfl

/-- a slice built out of its elements, told by a run -/
theorem EX.bslice {t len e : Nat} {ps : Array (Nat × Operand)} {qs : List (Nat × Value)} {cs : List Value} (hq : evp E ps.toList = some qs)
    (ht : ∀ w, (Instr.buildSlice t len qs.toArray).run P w = .ok (.slice (some ⟨w.heap.size, 0, none⟩) len len) (w.alloc (.cells cs.toArray e))) :
    EX n w0 ⟨dst, .buildSlice t len ps, ty, pos, aft, g⟩ E M (fun u M' => ∃ b, u = .slice (some ⟨b, 0, none⟩) len len ∧ M' = (b, .cells cs.toArray e (0, 0)) :: M) := by
  refine ⟨fun a w ha hw K Q hk => ?_⟩
  have : (execOp a.eval ⟨dst, .buildSlice t len ps, ty, pos, aft, g⟩).run P w = .ok (.value (.slice (some ⟨w.heap.size, 0, none⟩) len len)) (w.alloc (.cells cs.toArray e)) := by
    simp only [execOp, evp_ok ha hq]
    simp [ht w]
  unfold Oper.wp
  rw [this, Oper.upon_value]
  exact hk _ _ _ ⟨_, rfl, rfl⟩ (hw.alloc _)
end
end Go.Proofs.YtdnngppofbmpeaaGreatDoor.Bm
namespace Go.Proofs.YtdnngppofbmpeaaGreatDoor.Bm
open Go Go.RowKit

/-! ## append -/
/-- elements: the zero value, and bytes -/
def ez : Nat → Option (Value × Nat)
  | 53 => some (.int .u64 0, 8)
  | 52 => some (.int .u64 0, 8)
  | 3 => some (.int .i64 0, 8)
  | 5 => some (.int .u8 0, 1)
  | 4 => some (.bool false, 1)
  | 51 => some (.slice none 0 0, 24)
  | 56 => some (.pointer none, 8)
  | 64 => some (.pointer none, 8)
  | _ => none

theorem ez_ok {e s : Nat} {z : Value} (h : ez e = some (z, s)) (w : World) : (zeroValue e).run P w = .ok z w ∧ (typeInfo e).run P w = .ok ((P.info? e).getD default) w ∧ ((P.info? e).getD default).bytes = s ∧ s ≤ 24 ∧ z.oneCell' = true := by
  unfold ez at h
  split at h <;> first | (cases h; exact ⟨by kernel_rfl, by kernel_rfl, by kernel_rfl, by decide, rfl⟩) | cases h

/-- the slice v, of the call's own or nil, reads as l, all its cells being such as G says; M0: the rest of the memory -/
def Own (G : Value → Prop) (T : TypeId) (v : Value) (l : List Value) (M0 M : Mem) : Prop :=
  (v = .slice none 0 0 ∧ l = [] ∧ M = M0) ∨
  ∃ (b : Nat) (c : List Value), v = .slice (some ⟨b, 0, none⟩) l.length c.length ∧ l.length ≤ c.length ∧ c.take l.length = l ∧ M = (b, .cells c.toArray T (0, 0)) :: M0 ∧ ∀ u ∈ c, G u

theorem growBy_le (m : Nat) : ∀ r c, Builtin.growBy m r c ≤ 2 ^ r * (c + 768)
  | 0, c => by simp [Builtin.growBy]
  | r + 1, c => by
    unfold Builtin.growBy
    split
    · have : 1 ≤ 2 ^ (r + 1) := Nat.one_le_two_pow
      have h4 := Nat.mul_le_mul_right (c + 768) this
      rw [Nat.one_mul] at h4
      exact Nat.le_trans (Nat.le_add_right c 768) h4
    · have h1 := growBy_le m r (c + (c + 768) / 4)
      have h2 : 2 ^ r * (c + (c + 768) / 4 + 768) ≤ 2 ^ r * (2 * (c + 768)) := Nat.mul_le_mul_left _ (by omega)
      have h3 : 2 ^ r * (2 * (c + 768)) = 2 ^ (r + 1) * (c + 768) := by rw [Nat.pow_succ, Nat.mul_assoc]
      rw [← h3]; exact Nat.le_trans h1 h2

theorem nextcap_le {need old : Nat} (h : need ≤ 2147483648) (h' : old < need) : Builtin.nextslicecap need old ≤ 34359750656 := by
  unfold Builtin.nextslicecap
  split
  · omega
  · split
    · omega
    · have h2 := growBy_le need 4 old
      have h1 : (2 : Nat) ^ 4 = 16 := by decide
      rw [h1] at h2
      exact Nat.le_trans h2 (by omega)

theorem zeroCells_one (z : Value) (hz : z.oneCell' = true) (n : Nat) : Builtin.zeroCells z.cells n = (List.replicate n z).toArray := by
  rw [one_cells hz]
  unfold Builtin.zeroCells
  apply Array.ext
  · simp
  · intro j hj hj'
    simp [Nat.mod_one]

section
variable {n : Nat} {w0 : World} {K : Exit → Env → Mem → Prop} {E : Env} {M M0 : Mem} {dst : Option Nat} {ty : TypeId} {pos : String} {aft : Array Edge} {g : Option (Nat × Bool)}

/-- the memory that a drawn answer leaves -/
theorem HR.drawn {w : World} (h : HR w0 M w) : HR w0 M { w with drawn := w.drawn + 1 } := ⟨h.below.drew, h.nodup, h.has⟩

theorem append_grows {t t' e s : Nat} {ty' : TypeId} {z : Value} {base : Option Addr} {len cap : Nat} {x : Value} {m : Nat} {old new : List Value} (ht : sl t = some (e, 1)) (ht' : sl t' = some (e, 1)) (he : ez e = some (z, s))
    (hx : ∀ w, (Builtin.lenOf x).run P w = .ok m w) (hneed : cap < len + m) (hsmall : len + m ≤ 2147483648) (w : World)
    (hold : ∀ d, (Builtin.firstCells 1 len (.slice base len cap)).run P { w with drawn := d } = .ok old.toArray { w with drawn := d })
    (hnew : ∀ d, (Builtin.firstCells 1 m x).run P { w with drawn := d } = .ok new.toArray { w with drawn := d }) (hol : old.length = len) (hnl : new.length = m) :
    ∃ q, len + m ≤ q ∧ (Builtin.append_ #[t, t'] ty' #[.slice base len cap, x]).run P w =
      .ok (.slice (some ⟨w.heap.size, 0, none⟩) (len + m) q) (({ w with drawn := w.drawn + 1 } : World).alloc (.cells (old ++ new ++ List.replicate (q - (len + m)) z).toArray e)) := by
  obtain ⟨h3, h4, h5, h6, h7⟩ := ez_ok he w
  have h1 := fun w => (sl_ok ht w).1
  have h2 := fun w => (sl_ok ht w).2
  have h1' := fun w => (sl_ok ht' w).1
  have hz := fun w => (ez_ok he w).1
  have hi := fun w => (ez_ok he w).2.1
  have hc := nextcap_le hsmall hneed
  have e1 : ¬ (len + m ≤ cap) := by omega
  have e2 : ¬ (((len + m : Nat) : Int) > IntKind.i64.max ∧ ((P.info? e).getD default).bytes = 0) := by
    intro h
    have h8 := h.1
    have : IntKind.i64.max = 9223372036854775807 := rfl
    omega
  have e3 : ¬ (Builtin.nextslicecap (len + m) cap * ((P.info? e).getD default).bytes > 2 ^ 48) := by
    have h8 : Builtin.nextslicecap (len + m) cap * ((P.info? e).getD default).bytes ≤ 34359750656 * 24 := Nat.mul_le_mul hc (by omega)
    omega
  refine ⟨(Question.appendCap (len + m) cap e).cut (w.tape w.drawn (.appendCap (len + m) cap e)), by simp [Question.cut], ?_⟩
  unfold Builtin.append_
  simp only [List.getElem?_toArray, List.getElem?_cons_zero, List.getElem?_cons_succ, Sem.run_bind, h1, Result.andThen_ok, h2, h1', Sem.run_pure, Bool.false_eq_true, if_false, hx, e1, Sem.run_ite, hi, false_or, e2, e3]
  simp only [run_choose, Question.forced, Bool.false_eq_true, if_false, Result.andThen_ok, run_askRoom, hold, hnew, hz, zeroCells_one z h7, newRow, Sem.run_bind, run_newObj, Sem.run_pure]
  simp
  refine congrArg (fun c => w.drew.alloc (Obj.cells c e)) ?_
  apply Array.toList_inj.1
  simp

theorem firstCells_run {b o T k c' : Nat} {c l : List Value} {fr : Nat × Nat} {w : World} (h : w.heap[b]? = some (.cells c.toArray T fr)) (hl : o + k ≤ c.length) (he : sliceL c o k = l) (n : Nat) (d : Nat) :
    (Builtin.firstCells 1 k (.slice (some ⟨b, o, none⟩) n c')).run P { w with drawn := d } = .ok l.toArray { w with drawn := d } := by
  have := loadCells_run (o := o) (w := { w with drawn := d }) h k 0 #[] (by simpa using hl)
  simp only [Builtin.firstCells, loadCells, Nat.mul_one]
  rw [this, Nat.add_zero]
  subst he
  simp [sliceL]

/-- append(v, x..): v of the call's own, x read from elsewhere -/
theorem EX.append {G : Value → Prop} {t t' e s : Nat} {x y : Operand} {ats : Array TypeId} {z v : Value} {l ds d : List Value} {by' oy m capy T' : Nat} {fr : Nat × Nat} (hx : ev E x = some v) (hv : Own G e v l M0 M) (hy : ev E y = some (.slice (some ⟨by', oy, none⟩) m capy))
    (ha : ats = #[t, t']) (ht : sl t = some (e, 1)) (ht' : sl t' = some (e, 1)) (he : ez e = some (z, s)) (hGz : G z) (hGd : ∀ u ∈ ds, G u) (hm : ∀ w, HW w0 M w → w.heap[by']? = some (.cells d.toArray T' fr)) (hd : oy + m ≤ d.length) (hds : sliceL d oy m = ds) (h1 : ∀ u ∈ ds, u.oneCell' = true)
    (hsmall : l.length + m ≤ 2147483648) :
    EX n w0 ⟨dst, .call ⟨.builtin .append, #[x, y], ats⟩, ty, pos, aft, g⟩ E M (fun u M' => Own G e u (l ++ ds) M0 M') := by
  refine ⟨fun a w hr hw K Q hk => ?_⟩
  have e1 := hr.eval hx
  have e2 := hr.eval hy
  have hml : ds.length = m := by rw [← hds]; exact sliceL_length _ _ _ hd
  subst ha
  have hsrc := hm w hw.hw
  have hnew := fun d' => firstCells_run hsrc hd hds m (c' := capy) d'
  have key : ∀ u w', (Builtin.append_ #[t, t'] ty #[v, .slice (some ⟨by', oy, none⟩) m capy]).run P w = .ok u w' → ∀ M', Own G e u (l ++ ds) M0 M' → HR w0 M' w' → Oper.wp P ⟨dst, .call ⟨.builtin .append, #[x, y], #[t, t']⟩, ty, pos, aft, g⟩ a w K Q := by
    intro u w' hrun M' hown hw'
    have hr2 : (execOp a.eval ⟨dst, .call ⟨.builtin .append, #[x, y], #[t, t']⟩, ty, pos, aft, g⟩).run P w = .ok (.value u) w' := by
      simp only [execOp, resolve, invoke, builtin]
      simp only [List.map_toArray, List.map_cons, List.map_nil, e1, e2, Sem.run_bind, Sem.run_pure, Result.andThen_ok, hrun]
    unfold Oper.wp
    rw [hr2, Oper.upon_value]
    exact hk _ M' _ hown hw'
  have small : ∀ (base : Option Addr) (len cap : Nat), len + m ≤ cap → (∀ w', (match base with | some a => storeCells (a.add (len * 1)) ds | none => pure ()).run P w = .ok () w' →
      (Builtin.append_ #[t, t'] ty #[.slice base len cap, .slice (some ⟨by', oy, none⟩) m capy]).run P w = .ok (.slice base (len + m) cap) w') := by
    intro base len cap hle w' hst
    have g1 := (sl_ok ht w).1
    have g2 := (sl_ok ht w).2
    have g3 := (sl_ok ht' w).1
    have g4 := hnew w.drawn
    unfold Builtin.append_
    simp only [List.getElem?_toArray, List.getElem?_cons_zero, List.getElem?_cons_succ, Sem.run_bind, g1, Result.andThen_ok, g2, g3, Sem.run_pure, Bool.false_eq_true, if_false, Builtin.lenOf, hle, if_true, Bool.not_false]
    rw [show ({ w with drawn := w.drawn } : World) = w from rfl] at g4
    simp only [g4, Result.andThen_ok]
    cases base with
    | none => simp only [Sem.run_pure, Result.andThen_ok] at hst ⊢; cases hst; rfl
    | some a => simp only [] at hst ⊢; simp only [Sem.run_bind, hst, Result.andThen_ok, Sem.run_pure]
  rcases hv with ⟨rfl, rfl, rfl⟩ | ⟨b, c, rfl, hlc, htk, rfl, hG⟩
  · by_cases h0 : m = 0
    · subst h0
      have : ds = [] := List.length_eq_zero_iff.1 hml
      subst this
      exact key _ w (small none 0 0 (by omega) w rfl) M (.inl ⟨rfl, rfl, rfl⟩) hw
    · obtain ⟨q, hq, hrun⟩ := append_grows (ty' := ty) (base := none) (len := 0) (cap := 0) (x := .slice (some ⟨by', oy, none⟩) m capy) (m := m) (old := []) (new := ds) ht ht' he (fun w => rfl) (by omega) (by simpa using hsmall) w (fun d => rfl) hnew rfl hml
      refine key _ _ hrun _ (.inr ⟨w.heap.size, [] ++ ds ++ List.replicate (q - (0 + m)) z, ?_, ?_, ?_, rfl, fun u hu => ?_⟩) (hw.drawn.alloc _)
      · simp [hml]; omega
      · simp
      · simp
      · simp only [List.nil_append, List.mem_append, List.mem_replicate] at hu
        rcases hu with hu | ⟨_, rfl⟩
        · exact hGd u hu
        · exact hGz
  · by_cases hle : l.length + m ≤ c.length
    · obtain ⟨w', h3, h4, h5⟩ := storeCells_run (b := b) (o := l.length) (T := e) ds 0 c w (hw.has _ List.mem_cons_self).2 (by rw [hml]; simpa using hle) h1
      refine key _ w' (small (some ⟨b, 0, none⟩) l.length c.length hle w' ?_) ((b, .cells (putL c l.length ds).toArray e (0, 0)) :: M0) (.inr ⟨b, putL c l.length ds, ?_, ?_, ?_, rfl, fun u hu => ?_⟩) (hw.but List.mem_cons_self .here h5 (by simpa using h4))
      · simp only [Nat.mul_one, add_addr, Nat.zero_add]; exact h3
      · rw [putL_length _ _ _ (by omega)]; simp [hml]
      · rw [putL_length _ _ _ (by omega)]; simp [hml]; exact hle
      · unfold putL
        rw [htk, List.take_append_of_le_length (by simp)]
        exact List.take_length
      · unfold putL at hu
        simp only [List.mem_append] at hu
        rcases hu with (hu | hu) | hu
        · exact hG u (List.mem_of_mem_take hu)
        · exact hGd u hu
        · exact hG u (List.mem_of_mem_drop hu)
    · have hold := fun d' => firstCells_run (o := 0) (c' := c.length) (hw.has _ List.mem_cons_self).2 (by simpa using hlc) (show sliceL c 0 l.length = l by simpa [sliceL] using htk) l.length d'
      obtain ⟨q, hq, hrun⟩ := append_grows (ty' := ty) (base := some ⟨b, 0, none⟩) (len := l.length) (cap := c.length) (x := .slice (some ⟨by', oy, none⟩) m capy) (m := m) (old := l) (new := ds) ht ht' he (fun w => rfl) (by omega) hsmall w hold hnew rfl hml
      refine key _ _ hrun ((w.heap.size, .cells (l ++ ds ++ List.replicate (q - (l.length + m)) z).toArray e (0, 0)) :: M0) (.inr ⟨w.heap.size, l ++ ds ++ List.replicate (q - (l.length + m)) z, ?_, ?_, ?_, rfl, fun u hu => ?_⟩) ((hw.drawn.alloc _).sub (.cons_cons _ (.cons _ (List.Sublist.refl _))))
      · simp [hml]; omega
      · simp
      · rw [List.take_append_of_le_length (Nat.le_refl _), List.take_length]
      · simp only [List.mem_append, List.mem_replicate] at hu
        rcases hu with (hu | hu) | ⟨_, rfl⟩
        · exact hG u (by rw [← htk] at hu; exact List.mem_of_mem_take hu)
        · exact hGd u hu
        · exact hGz

/-- append(v, x..), x being empty -/
theorem LX.append0 {t t' e : Nat} {x y : Operand} {ats : Array TypeId} {base : Option Addr} {len cap capy : Nat} {A : Option Addr} (hx : ev E x = some (.slice base len cap)) (hlc : len ≤ cap) (hy : ev E y = some (.slice A 0 capy))
    (ha : ats = #[t, t']) (ht : sl t = some (e, 1)) (ht' : sl t' = some (e, 1)) : LX n w0 ⟨dst, .call ⟨.builtin .append, #[x, y], ats⟩, ty, pos, aft, g⟩ E M (.slice base len cap) := by
  refine ⟨fun a w hr _ => ?_⟩
  have e1 := hr.eval hx
  have e2 := hr.eval hy
  subst ha
  have g1 := (sl_ok ht w).1
  have g2 := (sl_ok ht w).2
  have g3 := (sl_ok ht' w).1
  have hrun : (Builtin.append_ #[t, t'] ty #[.slice base len cap, .slice A 0 capy]).run P w = .ok (.slice base len cap) w := by
    unfold Builtin.append_
    simp only [List.getElem?_toArray, List.getElem?_cons_zero, List.getElem?_cons_succ, Sem.run_bind, g1, Result.andThen_ok, g2, g3, Sem.run_pure, Bool.false_eq_true, if_false, Builtin.lenOf, Nat.add_zero, hlc, if_true, Bool.not_false]
    cases A <;> cases base <;> simp [Builtin.firstCells, loadCells, loadCellsFrom, storeCells]
  simp only [execOp, resolve, invoke, builtin]
  simp only [List.map_toArray, List.map_cons, List.map_nil, e1, e2, Sem.run_bind, Sem.run_pure, Result.andThen_ok, hrun]

/-- a step whose end is told -/
theorem WL.appendOwn {ops : Array Oper} {rest : List Oper} {op : Op} {d : Nat} {R : Value → Mem → Prop} (h : EX n w0 ⟨some d, op, ty, pos, aft, Option.none⟩ E M R) (hd : Nat.blt d n = true) (k : ∀ v M', R v M' → WL n w0 ops K rest ((d, v) :: E) M') :
    WL n w0 ops K (⟨some d, op, ty, pos, aft, Option.none⟩ :: rest) E M := WL.step hd h k

theorem ints_of {k : IntKind} : ∀ {c : List Value}, (∀ u ∈ c, ∃ q, u = .int k q) → ∃ xs : List Int, c = xs.map (Value.int k)
  | [], _ => ⟨[], rfl⟩
  | v :: c, h => by
    obtain ⟨q, rfl⟩ := h v (by simp)
    obtain ⟨xs, rfl⟩ := ints_of (c := c) (fun u hu => h u (by simp [hu]))
    exact ⟨q :: xs, rfl⟩
end
end Go.Proofs.YtdnngppofbmpeaaGreatDoor.Bm
namespace Go.Proofs.YtdnngppofbmpeaaGreatDoor.Bm
open Go Go.RowKit

/-! ## loops, by a state of ours -/
def Sub (E' E : Env) : Prop := ∀ t v, E'.at? t = some v → E.at? t = some v
theorem Sub.nil {E : Env} : Sub [] E := fun _ _ h => by simp [Env.at?] at h
theorem Sub.cons {d : Nat} {v : Value} {E' E : Env} (h : E.at? d = some v) (k : Sub E' E) : Sub ((d, v) :: E') E := by
  intro t u ht
  simp only [Env.at?] at ht
  split at ht
  · rename_i hb
    have hb := Nat.eq_of_beq_eq_true hb
    subst hb
    cases ht
    exact h
  · exact k t u ht

section
variable {ι : Type} {n : Nat} {w0 : World} {K : Exit → Env → Mem → Prop} {E : Env} {M : Mem}

def loopS (env : ι → Env) (mem : ι → Mem) (inv : ι → Prop) (μ : ι → Nat) (i : ι) (K : Exit → Env → Mem → Prop) : Exit → Env → Mem → Prop
  | .normal, E, M => ∃ j, inv j ∧ μ j < μ i ∧ Sub (env j) E ∧ (mem j).Sublist M
  | e, E, M => K e E M

theorem WC.loopS {c : Code} (env : ι → Env) (mem : ι → Mem) (inv : ι → Prop) (μ : ι → Nat) (i0 : ι) (h0 : inv i0) (hE : Sub (env i0) E) (hM : mem i0 = M)
    (round : ∀ i, inv i → WC n w0 c (loopS env mem inv μ i K) (env i) (mem i)) : WC n w0 (.loop c) K E M := by
  refine WC.loop (fun m E M => ∃ i, inv i ∧ m = μ i ∧ Sub (env i) E ∧ (mem i).Sublist M) (μ i0) ⟨i0, h0, rfl, hE, hM ▸ List.Sublist.refl _⟩ ?_
  rintro m E M ⟨i, hi, rfl, hE, hM⟩
  refine ((round i hi).weaken hE hM).mono fun e E' M' hk => ?_
  cases e with
  | normal =>
    obtain ⟨j, h1, h2, h3, h4⟩ := hk
    exact ⟨μ j, h2, j, h1, rfl, h3, h4⟩
  | _ => exact hk

variable {env : ι → Env} {mem : ι → Mem} {inv : ι → Prop} {μ : ι → Nat} {i : ι} {id : Nat}
theorem loopS_next (j : ι) (h : inv j) (hμ : μ j < μ i) (hE : Sub (env j) E) (hM : mem j = M) : loopS env mem inv μ i K .normal E M := ⟨j, h, hμ, hE, hM ▸ List.Sublist.refl _⟩
/-- the same, where some of memory is dropped -/
theorem loopS_nextS (j : ι) (h : inv j) (hμ : μ j < μ i) (hE : Sub (env j) E) (hM : (mem j).Sublist M) : loopS env mem inv μ i K .normal E M := ⟨j, h, hμ, hE, hM⟩
theorem loopS_ret (h : K .ret E M) : loopS env mem inv μ i K .ret E M := h
theorem loopS_exit (h : K (.exit id) E M) : loopS env mem inv μ i K (.exit id) E M := h

/-- the environment cut down to what is needed -/
theorem WC.cutE {c : Code} (E' : Env) (hE : Sub E' E) (h : WC n w0 c K E' M) : WC n w0 c K E M := h.weaken hE (List.Sublist.refl _)
/-- memory cut down -/
theorem WC.cutM {c : Code} {M' : Mem} (hM : M'.Sublist M) (h : WC n w0 c K E M') : WC n w0 c K E M := h.weaken (fun _ _ h => h) hM

end
end Go.Proofs.YtdnngppofbmpeaaGreatDoor.Bm
namespace Go.Proofs.YtdnngppofbmpeaaGreatDoor.Bm

/-- the value of a list of digits, the lowest first -/
def dv (b : Int) : List Int → Int
  | [] => 0
  | x :: xs => x + b * dv b xs

/-- each digit lies below the base -/
def Dg (b : Int) (xs : List Int) : Prop := ∀ x ∈ xs, 0 ≤ x ∧ x < b

@[simp] theorem dv_nil (b : Int) : dv b [] = 0 := rfl
@[simp] theorem dv_cons (b x : Int) (xs : List Int) : dv b (x :: xs) = x + b * dv b xs := rfl

theorem Dg.nil (b : Int) : Dg b [] := fun _ h => by simp at h
theorem Dg.cons {b x : Int} {xs : List Int} (h0 : 0 ≤ x) (h1 : x < b) (h : Dg b xs) : Dg b (x :: xs) := by
  intro y hy
  rcases List.mem_cons.1 hy with rfl | hy
  · exact ⟨h0, h1⟩
  · exact h y hy
theorem Dg.head {b x : Int} {xs : List Int} (h : Dg b (x :: xs)) : 0 ≤ x ∧ x < b := h x (by simp)
theorem Dg.tail {b x : Int} {xs : List Int} (h : Dg b (x :: xs)) : Dg b xs := fun y hy => h y (by simp [hy])
theorem Dg.append {b : Int} {xs ys : List Int} (h : Dg b xs) (h' : Dg b ys) : Dg b (xs ++ ys) := by
  intro y hy
  rcases List.mem_append.1 hy with hy | hy
  · exact h y hy
  · exact h' y hy
theorem Dg.left {b : Int} {xs ys : List Int} (h : Dg b (xs ++ ys)) : Dg b xs := fun y hy => h y (by simp [hy])
theorem Dg.right {b : Int} {xs ys : List Int} (h : Dg b (xs ++ ys)) : Dg b ys := fun y hy => h y (by simp [hy])
theorem Dg.take {b : Int} {xs : List Int} (h : Dg b xs) (n : Nat) : Dg b (xs.take n) := fun y hy => h y (List.mem_of_mem_take hy)
theorem Dg.drop {b : Int} {xs : List Int} (h : Dg b xs) (n : Nat) : Dg b (xs.drop n) := fun y hy => h y (List.mem_of_mem_drop hy)
theorem Dg.get {b : Int} {xs : List Int} (h : Dg b xs) {i : Nat} (hi : i < xs.length) : 0 ≤ xs[i] ∧ xs[i] < b := h _ (List.getElem_mem hi)
theorem Dg.getD {b : Int} {xs : List Int} (hb : 0 < b) (h : Dg b xs) (i : Nat) : 0 ≤ xs.getD i 0 ∧ xs.getD i 0 < b := by
  by_cases hi : i < xs.length
  · rw [List.getD_eq_getElem?_getD, List.getElem?_eq_getElem hi]; exact h.get hi
  · rw [List.getD_eq_getElem?_getD, List.getElem?_eq_none (by omega)]; simp; omega
theorem Dg.replicate {b : Int} (hb : 0 < b) (n : Nat) : Dg b (List.replicate n 0) := by
  intro y hy
  rw [List.mem_replicate] at hy
  omega
theorem Dg.set {b : Int} {xs : List Int} (h : Dg b xs) {x : Int} (h0 : 0 ≤ x) (h1 : x < b) (i : Nat) : Dg b (xs.set i x) := by
  intro y hy
  rcases List.mem_or_eq_of_mem_set hy with hy | rfl
  · exact h y hy
  · exact ⟨h0, h1⟩

theorem pow_pos {b : Int} (hb : 0 < b) (n : Nat) : 0 < b ^ n := Int.pow_pos hb

theorem dv_append (b : Int) (xs ys : List Int) : dv b (xs ++ ys) = dv b xs + b ^ xs.length * dv b ys := by
  induction xs with
  | nil => simp
  | cons x xs ih =>
    simp only [List.cons_append, dv_cons, List.length_cons, ih, Int.pow_succ]
    grind

theorem dv_nonneg {b : Int} (hb : 0 < b) {xs : List Int} (h : Dg b xs) : 0 ≤ dv b xs := by
  induction xs with
  | nil => simp
  | cons x xs ih =>
    have := h.head
    have := ih h.tail
    have := Int.mul_nonneg (Int.le_of_lt hb) this
    simp only [dv_cons]
    omega

theorem dv_lt {b : Int} (hb : 0 < b) {xs : List Int} (h : Dg b xs) : dv b xs < b ^ xs.length := by
  induction xs with
  | nil => simp
  | cons x xs ih =>
    have h1 := h.head
    have h2 := ih h.tail
    have h3 : b * dv b xs ≤ b * (b ^ xs.length - 1) := Int.mul_le_mul_of_nonneg_left (by omega) (Int.le_of_lt hb)
    simp only [dv_cons, List.length_cons, Int.pow_succ]
    have : b * (b ^ xs.length - 1) = b ^ xs.length * b - b := by grind
    omega

theorem dv_inj {b : Int} (hb : 0 < b) {xs ys : List Int} (h : Dg b xs) (h' : Dg b ys) (hl : xs.length = ys.length) (he : dv b xs = dv b ys) : xs = ys := by
  induction xs generalizing ys with
  | nil => cases ys with
    | nil => rfl
    | cons y ys => simp at hl
  | cons x xs ih => cases ys with
    | nil => simp at hl
    | cons y ys =>
      simp only [dv_cons] at he
      have h1 := h.head
      have h2 := h'.head
      have hx : x = y := by
        have e1 : (x + b * dv b xs) % b = x := by rw [Int.add_mul_emod_self_left]; exact Int.emod_eq_of_lt h1.1 h1.2
        have e2 : (y + b * dv b ys) % b = y := by rw [Int.add_mul_emod_self_left]; exact Int.emod_eq_of_lt h2.1 h2.2
        rw [he, e2] at e1
        exact e1.symm
      subst hx
      have hm : b * dv b xs = b * dv b ys := by omega
      have := Int.eq_of_mul_eq_mul_left (by omega) hm
      rw [ih h.tail h'.tail (by simpa using hl) this]

theorem dv_replicate_zero (b : Int) (n : Nat) : dv b (List.replicate n 0) = 0 := by
  induction n with
  | zero => rfl
  | succ n ih => simp [List.replicate_succ, ih]

theorem dv_snoc (b : Int) (xs : List Int) (x : Int) : dv b (xs ++ [x]) = dv b xs + b ^ xs.length * x := by
  rw [dv_append]; simp

theorem dv_take_succ (b : Int) (xs : List Int) (k : Nat) (h : k < xs.length) : dv b (xs.take (k + 1)) = dv b (xs.take k) + b ^ k * xs[k] := by
  rw [List.take_succ_eq_append_getElem h, dv_snoc, List.length_take, Nat.min_eq_left (by omega)]

theorem dv_split (b : Int) (xs : List Int) (k : Nat) (h : k ≤ xs.length) : dv b xs = dv b (xs.take k) + b ^ k * dv b (xs.drop k) := by
  have := dv_append b (xs.take k) (xs.drop k)
  rw [List.take_append_drop, List.length_take, Nat.min_eq_left h] at this
  exact this

theorem dv_eq_zero {b : Int} (hb : 0 < b) {xs : List Int} (h : Dg b xs) : dv b xs = 0 ↔ ∀ x ∈ xs, x = 0 := by
  induction xs with
  | nil => simp
  | cons x xs ih =>
    have h1 := h.head
    have h2 := dv_nonneg hb h.tail
    have h3 := Int.mul_nonneg (Int.le_of_lt hb) h2
    simp only [dv_cons, List.mem_cons, forall_eq_or_imp]
    rw [← ih h.tail]
    constructor
    · intro e
      refine ⟨by omega, ?_⟩
      have : b * dv b xs = 0 := by omega
      rcases Int.mul_eq_zero.1 this with h | h
      · omega
      · exact h
    · rintro ⟨rfl, e⟩
      rw [e]; simp

end Go.Proofs.YtdnngppofbmpeaaGreatDoor.Bm
namespace Go.Proofs.YtdnngppofbmpeaaGreatDoor.Bm
open Go Go.RowKit

/-! ## math/bits, and numbers of 64 bits -/
theorem sub64_run (x y c : Int) (hc : c = 0 ∨ c = 1) (w : World) : (callFunc 119 #[.int .u64 x, .int .u64 y, .int .u64 c]).run P w =
    .ok (.value (Extern.MathBitsCarry.pair ((x.toNat + Extern.MathBitsCarry.m64 - y.toNat - c.toNat) % Extern.MathBitsCarry.m64) (if x.toNat < y.toNat + c.toNat then 1 else 0))) w := by
  rcases hc with rfl | rfl <;> kernel_rfl
theorem add64_run (x y c : Int) (hc : c = 0 ∨ c = 1) (w : World) : (callFunc 121 #[.int .u64 x, .int .u64 y, .int .u64 c]).run P w =
    .ok (.value (Extern.MathBitsCarry.pair ((x.toNat + y.toNat + c.toNat) % Extern.MathBitsCarry.m64) ((x.toNat + y.toNat + c.toNat) / Extern.MathBitsCarry.m64))) w := by
  rcases hc with rfl | rfl <;> kernel_rfl

/-- the words behind x + y + c, x - y - c -/
def W64 : Int := 18446744073709551616
def sumW (x y c : Int) : Int := (x + y + c) % W64
def sumC (x y c : Int) : Int := (x + y + c) / W64
def difW (x y c : Int) : Int := (x - y - c) % W64
def difC (x y c : Int) : Int := if x < y + c then 1 else 0

def wd (x : Int) : Prop := 0 ≤ x ∧ x < W64
def bt (c : Int) : Prop := c = 0 ∨ c = 1

theorem W64_eq : W64 = 18446744073709551616 := rfl
theorem wd_def {x : Int} (h : wd x) : 0 ≤ x ∧ x < 18446744073709551616 := h
theorem bt_zero : bt 0 := .inl rfl
theorem bt_one : bt 1 := .inr rfl
theorem wd_zero : wd 0 := by unfold wd W64; omega
theorem bt_wd {c : Int} (h : bt c) : wd c := by rcases h with rfl | rfl <;> (unfold wd W64; omega)
theorem wd_mod (x : Int) : wd (x % W64) := by unfold wd W64; omega
theorem sumW_wd (x y c : Int) : wd (sumW x y c) := wd_mod _
theorem difW_wd (x y c : Int) : wd (difW x y c) := wd_mod _
theorem difC_bt (x y c : Int) : bt (difC x y c) := by unfold difC bt; split <;> simp
theorem sumC_bt {x y c : Int} (hx : wd x) (hy : wd y) (hc : bt c) : bt (sumC x y c) := by
  have := wd_def hx; have := wd_def hy; unfold bt sumC W64; rcases hc with rfl | rfl <;> omega
theorem sum_eq (x y c : Int) : sumW x y c + W64 * sumC x y c = x + y + c := by unfold sumW sumC W64; omega
theorem dif_eq {x y c : Int} (hx : wd x) (hy : wd y) (hc : bt c) : difW x y c - W64 * difC x y c = x - y - c := by
  have := wd_def hx; have := wd_def hy; unfold difW difC W64; rcases hc with rfl | rfl <;> split <;> omega

theorem sub_pair {x y c : Int} (hx : wd x) (hy : wd y) (hc : bt c) :
    Extern.MathBitsCarry.pair ((x.toNat + Extern.MathBitsCarry.m64 - y.toNat - c.toNat) % Extern.MathBitsCarry.m64) (if x.toNat < y.toNat + c.toNat then 1 else 0) = .tuple #[.int .u64 (difW x y c), .int .u64 (difC x y c)] := by
  unfold Extern.MathBitsCarry.pair Extern.MathBitsCarry.m64 difW difC W64
  replace hx := wd_def hx
  replace hy := wd_def hy
  have h1 : Int.ofNat ((x.toNat + 2 ^ 64 - y.toNat - c.toNat) % 2 ^ 64) = (x - y - c) % 18446744073709551616 := by
    rcases hc with rfl | rfl <;> (simp only [Int.ofNat_eq_natCast]; omega)
  have h2 : Int.ofNat (if x.toNat < y.toNat + c.toNat then 1 else 0) = if x < y + c then 1 else 0 := by
    rcases hc with rfl | rfl <;> (simp only [Int.ofNat_eq_natCast]; split <;> split <;> omega)
  rw [h1, h2]
theorem add_pair {x y c : Int} (hx : wd x) (hy : wd y) (hc : bt c) :
    Extern.MathBitsCarry.pair ((x.toNat + y.toNat + c.toNat) % Extern.MathBitsCarry.m64) ((x.toNat + y.toNat + c.toNat) / Extern.MathBitsCarry.m64) = .tuple #[.int .u64 (sumW x y c), .int .u64 (sumC x y c)] := by
  unfold Extern.MathBitsCarry.pair Extern.MathBitsCarry.m64 sumW sumC W64
  replace hx := wd_def hx
  replace hy := wd_def hy
  have h1 : Int.ofNat ((x.toNat + y.toNat + c.toNat) % 2 ^ 64) = (x + y + c) % 18446744073709551616 := by
    rcases hc with rfl | rfl <;> (simp only [Int.ofNat_eq_natCast]; omega)
  have h2 : Int.ofNat ((x.toNat + y.toNat + c.toNat) / 2 ^ 64) = (x + y + c) / 18446744073709551616 := by
    rcases hc with rfl | rfl <;> (simp only [Int.ofNat_eq_natCast]; omega)
  rw [h1, h2]

section
variable {w0 : World} {M : Mem}
theorem bitsSub {x y c : Int} (hx : wd x) (hy : wd y) (hc : bt c) :
    CS w0 106 [.int .u64 x, .int .u64 y, .int .u64 c] M (fun v M' => v = .tuple #[.int .u64 (difW x y c), .int .u64 (difC x y c)] ∧ M' = M) := by
  refine CS.of Tryz.func106 Tryz.ntmps106 rfl rfl (WC.seq (WC.region (WL.q (LX.assign rfl) rfl (WL.q (LX.assign rfl) rfl (WL.nil (thenK_normal (WC.seq (WC.no rfl (WC.skip (thenK_normal (WC.seq (WC.region (WL.q (LX.move rfl) rfl ?_)))))))))))))
  refine WL.q (LX.move rfl) rfl (WL.q (LX.move rfl) rfl (WL.q (LX.eq (LX.ext rfl (sub64_run _ _ _ hc)) (by rw [sub_pair hx hy hc])) rfl ?_))
  refine WL.q (LX.move rfl) rfl (WL.q (LX.extract rfl rfl) rfl (WL.q (LX.extract rfl rfl) rfl (WL.q (LX.assign rfl) rfl (WL.q (LX.assign rfl) rfl (WL.nil (thenK_normal (WC.seq (WC.region (WL.q (LX.move rfl) rfl (WL.q (LX.move rfl) rfl (WL.q (LX.assign rfl) rfl (WL.q (LX.assign rfl) rfl (WL.nil ?_)))))))))))))
  refine thenK_normal (WC.ret ?_)
  exact KR.two (.inl rfl) rfl rfl rfl ⟨rfl, rfl⟩
theorem bitsAdd {x y c : Int} (hx : wd x) (hy : wd y) (hc : bt c) :
    CS w0 108 [.int .u64 x, .int .u64 y, .int .u64 c] M (fun v M' => v = .tuple #[.int .u64 (sumW x y c), .int .u64 (sumC x y c)] ∧ M' = M) := by
  refine CS.of Tryz.func108 Tryz.ntmps108 rfl rfl (WC.seq (WC.region (WL.q (LX.assign rfl) rfl (WL.q (LX.assign rfl) rfl (WL.nil (thenK_normal (WC.seq (WC.no rfl (WC.skip (thenK_normal (WC.seq (WC.region (WL.q (LX.move rfl) rfl ?_)))))))))))))
  refine WL.q (LX.move rfl) rfl (WL.q (LX.move rfl) rfl (WL.q (LX.eq (LX.ext rfl (add64_run _ _ _ hc)) (by rw [add_pair hx hy hc])) rfl ?_))
  refine WL.q (LX.move rfl) rfl (WL.q (LX.extract rfl rfl) rfl (WL.q (LX.extract rfl rfl) rfl (WL.q (LX.assign rfl) rfl (WL.q (LX.assign rfl) rfl (WL.nil (thenK_normal (WC.seq (WC.region (WL.q (LX.move rfl) rfl (WL.q (LX.move rfl) rfl (WL.q (LX.assign rfl) rfl (WL.q (LX.assign rfl) rfl (WL.nil ?_)))))))))))))
  refine thenK_normal (WC.ret ?_)
  exact KR.two (.inl rfl) rfl rfl rfl ⟨rfl, rfl⟩

theorem xor_bt {c : Int} (hc : bt c) : bits .xor .u64 1 c = 1 - c := by rcases hc with rfl | rfl <;> rfl
theorem bnot {c : Int} (hc : bt c) : CS w0 96 [.int .u64 c] M (fun v M' => v = .int .u64 (1 - c) ∧ M' = M) := by
  refine CS.of Tryz.func96 Tryz.ntmps96 rfl rfl (WC.seq (WC.region (WL.q (LX.assign rfl) rfl (WL.nil (thenK_normal (WC.seq (WC.region (WL.q (LX.move rfl) rfl (WL.q (LX.bin rfl rfl rfl) rfl (WL.q (LX.assign rfl) rfl (WL.nil (thenK_normal (WC.ret ?_)))))))))))))
  exact KR.one (.inl rfl) rfl rfl ⟨by rw [xor_bt hc], rfl⟩

/-- 1 where a test is so -/
def b1 (p : Prop) [Decidable p] : Int := if p then 1 else 0
theorem b1_bt (p : Prop) [Decidable p] : bt (b1 p) := by unfold b1 bt; split <;> simp

theorem or_dif {x y : Int} (hx : wd x) (hy : wd y) : bits .or .u64 (difC x y 0) (difC y x 0) = 1 - b1 (x = y) := by
  have h1 : difC x y 0 = if x < y then 1 else 0 := by unfold difC; simp
  have h2 : difC y x 0 = if y < x then 1 else 0 := by unfold difC; simp
  rw [h1, h2]
  unfold b1
  rcases Int.lt_trichotomy x y with h | h | h
  · rw [if_pos h, if_neg (by omega), if_neg (by omega)]; rfl
  · subst h; simp; rfl
  · rw [if_neg (by omega), if_pos h, if_neg (by omega)]; rfl
theorem ctEq {x y : Int} (hx : wd x) (hy : wd y) : CS w0 95 [.int .u64 x, .int .u64 y] M (fun v M' => v = .int .u64 (b1 (x = y)) ∧ M' = M) := by
  refine CS.of Tryz.func95 Tryz.ntmps95 rfl rfl (WC.seq (WC.region (WL.q (LX.assign rfl) rfl (WL.nil (thenK_normal (WC.seq (WC.region (WL.q (LX.move rfl) rfl (WL.q (LX.move rfl) rfl (WL.call (bitsSub hx hy bt_zero) rfl (fun _ => by kernel_rfl) rfl (WL.q (LX.move rfl) rfl (WL.q (LX.extract rfl rfl) rfl (WL.q (LX.extract rfl rfl) rfl ?_)))))))))))))
  refine WL.q (LX.assign rfl) rfl (WL.q (LX.assign rfl) rfl (WL.nil (thenK_normal (WC.seq (WC.region (WL.q (LX.move rfl) rfl (WL.q (LX.move rfl) rfl (WL.call (bitsSub hy hx bt_zero) rfl (fun _ => by kernel_rfl) rfl (WL.q (LX.move rfl) rfl (WL.q (LX.extract rfl rfl) rfl (WL.q (LX.extract rfl rfl) rfl (WL.q (LX.assign rfl) rfl (WL.q (LX.assign rfl) rfl ?_)))))))))))))
  refine WL.nil (thenK_normal (WC.seq (WC.region (WL.q (LX.move rfl) rfl (WL.q (LX.move rfl) rfl (WL.q (LX.bin rfl rfl rfl) rfl (WL.call (bnot (c := 1 - b1 (x = y)) (by rcases b1_bt (x = y) with h | h <;> rw [h] <;> simp [bt])) (by rw [← or_dif hx hy]; rfl) (fun _ => by kernel_rfl) rfl ?_)))))))
  refine WL.q (LX.assign rfl) rfl (WL.nil (thenK_normal (WC.ret ?_)))
  exact KR.one (.inl rfl) rfl rfl ⟨by congr 1; omega, rfl⟩
end
end Go.Proofs.YtdnngppofbmpeaaGreatDoor.Bm
