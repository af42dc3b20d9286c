/- Proved here: the laws of clear, copy and slices built out of their elements. No conditions but those that each theorem states. -/
import Derived.Test.YtdnngppofbmpeaaDoorBase4
namespace Go.Proofs.YtdnngppofbmpeaaDoor.Bm
open Go Go.RowKit

/-! ## many cells at once -/
def putL {α : Type} (c : List α) (i : Nat) (vs : List α) : List α := c.take i ++ vs ++ c.drop (i + vs.length)

theorem putL_nil {α : Type} (c : List α) (i : Nat) : putL c i [] = c := by simp [putL]
theorem putL_length {α : Type} (c : List α) (i : Nat) (vs : List α) (h : i + vs.length ≤ c.length) : (putL c i vs).length = c.length := by simp [putL]; omega
theorem putL_cons {α : Type} (c : List α) (i : Nat) (v : α) (vs : List α) (h : i + vs.length + 1 ≤ c.length) : putL (c.set i v) (i + 1) vs = putL c i (v :: vs) := by
  unfold putL
  have h1 : (c.set i v).take (i + 1) = c.take i ++ [v] := by
    rw [List.take_succ_eq_append_getElem (by simp; omega)]
    simp [List.take_set_of_le]
  have h2 : (c.set i v).drop (i + 1 + vs.length) = c.drop (i + (v :: vs).length) := by
    rw [List.drop_set_of_lt (by omega)]
    simp only [List.length_cons]
    congr 1; omega
  rw [h1, h2]
  simp
theorem putL_map {α β : Type} (f : α → β) (c : List α) (i : Nat) (vs : List α) : putL (c.map f) i (vs.map f) = (putL c i vs).map f := by simp [putL, List.map_take, List.map_drop]

/-- w' is w but for block b -/
structure But (b : Nat) (w w' : World) : Prop where
  os : w'.os = w.os
  tape : w'.tape = w.tape
  output : w'.output = w.output
  size : w'.heap.size = w.heap.size
  oth : ∀ k, k ≠ b → w'.heap[k]? = w.heap[k]?
theorem But.refl (b : Nat) (w : World) : But b w w := ⟨rfl, rfl, rfl, rfl, fun _ _ => rfl⟩
theorem But.trans {b : Nat} {w w' w'' : World} (h : But b w w') (k : But b w' w'') : But b w w'' :=
  ⟨k.os.trans h.os, k.tape.trans h.tape, k.output.trans h.output, k.size.trans h.size, fun i hi => (k.oth i hi).trans (h.oth i hi)⟩
theorem But.setCell (b i : Nat) (v : Value) (w : World) : But b w (w.setCell ⟨b, i, none⟩ v) := ⟨rfl, rfl, rfl, by simp, fun k hk => Below.heap_setCell _ _ _ _ hk⟩

theorem HR.but {w0 w w' : World} {M M' : Mem} {b : Nat} {o o' : Obj} (h : HR w0 M w) (hm : (b, o) ∈ M) (hu : Upd M b o' M') (hb : But b w w') (hat : w'.heap[b]? = some o') : HR w0 M' w' :=
  h.upd hu (h.below.trans ⟨hb.os, hb.tape, hb.output, by rw [hb.size]; exact Nat.le_refl _, fun k hk => hb.oth k (by have := (h.has _ hm).1; simp at this; omega)⟩) hat hb.oth

theorem storeCells_run {b o : Nat} {T : TypeId} : ∀ (vs : List Value) (i : Nat) (c : List Value) (w : World), w.heap[b]? = some (.cells c.toArray T (0, 0)) → o + i + vs.length ≤ c.length → (∀ v ∈ vs, v.oneCell' = true) →
    ∃ w', (storeCells ⟨b, o, none⟩ vs i).run P w = .ok () w' ∧ w'.heap[b]? = some (.cells (putL c (o + i) vs).toArray T (0, 0)) ∧ But b w w'
  | [], i, c, w, h, _, _ => ⟨w, rfl, by rw [putL_nil]; exact h, But.refl _ _⟩
  | v :: vs, i, c, w, h, hl, hv => by
    simp only [List.length_cons] at hl
    have h1 := store_run (i := o + i) h (by simp; omega) (hv v (by simp))
    have h2 : (w.setCell ⟨b, o + i, none⟩ v).heap[b]? = some (.cells (c.set (o + i) v).toArray T (0, 0)) := by
      rw [setCell_at h]; simp
    obtain ⟨w', h3, h4, h5⟩ := storeCells_run (o := o) vs (i + 1) (c.set (o + i) v) _ h2 (by simp; omega) (fun u hu => hv u (by simp [hu]))
    refine ⟨w', ?_, ?_, (But.setCell _ _ _ _).trans h5⟩
    · simp only [storeCells, Sem.run_bind, add_addr, h1, Result.andThen_ok]
      exact h3
    · rw [h4, ← Nat.add_assoc, putL_cons _ _ _ _ (by omega)]

theorem loadCells_run {b o : Nat} {T : TypeId} {f : Nat × Nat} {c : List Value} {w : World} (h : w.heap[b]? = some (.cells c.toArray T f)) : ∀ (n i : Nat) (acc : Array Value), o + i + n ≤ c.length →
    (loadCellsFrom ⟨b, o, none⟩ i n acc).run P w = .ok (acc ++ ((c.drop (o + i)).take n).toArray) w
  | 0, i, acc, _ => by simp [loadCellsFrom]
  | n + 1, i, acc, hl => by
    have hlt : o + i < c.length := by omega
    have hc : w.cell? ⟨b, o + i, none⟩ = some c[o + i] := cell_of h (by simp [Obj.cell, lAt_eq, hlt])
    have ih := loadCells_run (o := o) h n (i + 1) (acc.push c[o + i]) (by omega)
    simp only [loadCellsFrom, Sem.run_bind, add_addr, run_load, hc, Result.andThen_ok]
    rw [ih]
    have : (c.drop (o + i)).take (n + 1) = c[o + i] :: (c.drop (o + (i + 1))).take n := by
      rw [List.drop_eq_getElem_cons hlt, List.take_succ_cons]
      rfl
    rw [this]
    simp

def sliceL {α : Type} (c : List α) (o n : Nat) : List α := (c.drop o).take n
theorem sliceL_map {α β : Type} (f : α → β) (c : List α) (o n : Nat) : sliceL (c.map f) o n = (sliceL c o n).map f := by simp [sliceL, List.map_take, List.map_drop]
theorem sliceL_length {α : Type} (c : List α) (o n : Nat) (h : o + n ≤ c.length) : (sliceL c o n).length = n := by simp [sliceL]; omega

section
variable {n : Nat} {w0 : World} {K : Exit → Env → Mem → Prop} {E : Env} {M M' : Mem} {dst : Option Nat} {ty : TypeId} {pos : String} {aft : Array Edge} {g : Option (Nat × Bool)}

/-- clear(x[:len]) over a row of whole numbers -/
theorem EX.clear {t e s : Nat} {x : Operand} {ats : Array TypeId} {b len cap : Nat} {k : IntKind} {xs : List Int} (hx : ev E x = some (.slice (some ⟨b, 0, none⟩) len cap)) (ha : ats[0]? = some t) (ht : sl t = some (e, 1)) (he : el e = some (k, s))
    (hm : (b, row k e xs) ∈ M) (hl : len ≤ xs.length) (hu : Upd M b (row k e (List.replicate len 0 ++ xs.drop len)) M') :
    EX n w0 ⟨dst, .call ⟨.builtin .clear, #[x], ats⟩, ty, pos, aft, g⟩ E M (fun u M'' => u = .tuple #[] ∧ M'' = M') := by
  refine ⟨fun a w hr hw K Q hk => ?_⟩
  have e1 := hr.eval hx
  obtain ⟨h1, h2⟩ := sl_ok ht w
  obtain ⟨h3, _, _⟩ := el_ok he w
  by_cases h0 : len = 0
  · subst h0
    have hr2 : (execOp a.eval ⟨dst, .call ⟨.builtin .clear, #[x], ats⟩, ty, pos, aft, g⟩).run P w = .ok (.value (.tuple #[])) w := by
      simp [execOp, resolve, invoke, builtin, e1, Builtin.clear_, ha, h1]
    unfold Oper.wp
    rw [hr2, Oper.upon_value]
    refine hk _ M' _ ⟨rfl, rfl⟩ (hw.but hm hu (But.refl _ _) ?_)
    simpa using (hw.has _ hm).2
  · have hz : Builtin.zeroCells #[Value.int k 0] len = ((List.replicate len (0 : Int)).map (Value.int k)).toArray := by
      unfold Builtin.zeroCells
      apply Array.ext
      · simp
      · intro j hj hj'
        simp [Nat.mod_one]
    obtain ⟨w', h4, h5, h6⟩ := storeCells_run (b := b) (o := 0) (T := e) ((List.replicate len (0 : Int)).map (Value.int k)) 0 (xs.map (Value.int k)) w (hw.has _ hm).2 (by simpa using hl) (fun v hv => by
      obtain ⟨q, _, rfl⟩ := List.mem_map.1 hv; rfl)
    have hr2 : (execOp a.eval ⟨dst, .call ⟨.builtin .clear, #[x], ats⟩, ty, pos, aft, g⟩).run P w = .ok (.value (.tuple #[])) w' := by
      have hcl : (Builtin.clear_ ats ty #[.slice (some ⟨b, 0, none⟩) len cap]).run P w = .ok (.tuple #[]) w' := by
        cases len with
        | zero => exact absurd rfl h0
        | succ q =>
          unfold Builtin.clear_
          simp only [ha, List.getElem?_toArray, List.getElem?_cons_zero, Sem.run_bind, h1, Result.andThen_ok, h3, Value.cells, hz, Sem.run_pure]
          rw [h4]
          rfl
      simp only [execOp, resolve, invoke, builtin]
      simp [e1, hcl]
    unfold Oper.wp
    rw [hr2, Oper.upon_value]
    refine hk _ M' _ ⟨rfl, rfl⟩ (hw.but hm hu h6 ?_)
    rw [h5, putL_map]
    simp [row, putL]

theorem EX.copy {t t' e s : Nat} {x y : Operand} {ats : Array TypeId} {b b' o len cap len' cap' q : Nat} {k : IntKind} {xs ys : List Int} (hx : ev E x = some (.slice (some ⟨b, 0, none⟩) len cap)) (hy : ev E y = some (.slice (some ⟨b', o, none⟩) len' cap'))
    (ha : ats = #[t, t']) (ht : sl t = some (e, 1)) (hm : (b, row k e xs) ∈ M) (hm' : (b', row k e ys) ∈ M) (hl : len ≤ xs.length) (hl' : o + len' ≤ ys.length) (hq : q = min len' len) (hu : Upd M b (row k e (putL xs 0 (sliceL ys o q))) M') :
    EX n w0 ⟨dst, .call ⟨.builtin .copy, #[x, y], ats⟩, ty, pos, aft, g⟩ E M (fun u M'' => u = .int .i64 q ∧ M'' = M') := by
  refine ⟨fun a w hr hw K Q hk => ?_⟩
  have e1 := hr.eval hx
  have e2 := hr.eval hy
  obtain ⟨h1, h2⟩ := sl_ok ht w
  subst hq ha
  have hlen : (sliceL ys o (min len' len)).length = min len' len := sliceL_length _ _ _ (by omega)
  have h3 := loadCells_run (b := b') (o := o) (T := e) (c := ys.map (Value.int k)) (hw.has _ hm').2 (min len' len) 0 #[] (by simp; omega)
  obtain ⟨w', h4, h5, h6⟩ := storeCells_run (b := b) (o := 0) (T := e) ((sliceL ys o (min len' len)).map (Value.int k)) 0 (xs.map (Value.int k)) w (hw.has _ hm).2 (by simp [hlen]; omega) (fun v hv => by
    obtain ⟨q, _, rfl⟩ := List.mem_map.1 hv; rfl)
  have h7 : ((ys.map (Value.int k)).drop (o + 0)).take (min len' len) = (sliceL ys o (min len' len)).map (Value.int k) := by
    rw [Nat.add_zero]; exact sliceL_map _ _ _ _
  rw [h7] at h3
  have hcp : (Builtin.copy_ #[t, t'] ty #[.slice (some ⟨b, 0, none⟩) len cap, .slice (some ⟨b', o, none⟩) len' cap']).run P w = .ok (.int .i64 (min len' len : Nat)) w' := by
    unfold Builtin.copy_
    simp only [List.getElem?_toArray, List.getElem?_cons_zero, List.getElem?_cons_succ, Sem.run_bind, h1, Result.andThen_ok, Builtin.lenOf, Sem.run_pure, h2, Builtin.firstCells, loadCells, Nat.mul_one]
    rw [show Nat.min len' len = min len' len from rfl, h3]
    have h8 : ((#[] : Array Value) ++ ((sliceL ys o (min len' len)).map (Value.int k)).toArray).toList = (sliceL ys o (min len' len)).map (Value.int k) := by simp
    simp only [Result.andThen_ok, h8, h4]
    rfl
  have hr2 : (execOp a.eval ⟨dst, .call ⟨.builtin .copy, #[x, y], #[t, t']⟩, ty, pos, aft, g⟩).run P w = .ok (.value (.int .i64 (min len' len : Nat))) w' := by
    simp only [execOp, resolve, invoke, builtin]
    simp only [List.map_toArray, List.map_cons, List.map_nil, e1, e2, Sem.run_bind, Sem.run_pure, Result.andThen_ok, hcp]
  unfold Oper.wp
  rw [hr2, Oper.upon_value]
  refine hk _ M' _ ⟨rfl, rfl⟩ (hw.but hm hu h6 ?_)
  rw [h5, Nat.add_zero, putL_map]
  rfl

/-- a slice built out of its elements, told by a run -/
theorem EX.bslice {t len e : Nat} {ps : Array (Nat × Operand)} {qs : List (Nat × Value)} {cs : List Value} (hq : evp E ps.toList = some qs)
    (ht : ∀ w, (Instr.buildSlice t len qs.toArray).run P w = .ok (.slice (some ⟨w.heap.size, 0, none⟩) len len) (w.alloc (.cells cs.toArray e))) :
    EX n w0 ⟨dst, .buildSlice t len ps, ty, pos, aft, g⟩ E M (fun u M' => ∃ b, u = .slice (some ⟨b, 0, none⟩) len len ∧ M' = (b, .cells cs.toArray e (0, 0)) :: M) := by
  refine ⟨fun a w ha hw K Q hk => ?_⟩
  have : (execOp a.eval ⟨dst, .buildSlice t len ps, ty, pos, aft, g⟩).run P w = .ok (.value (.slice (some ⟨w.heap.size, 0, none⟩) len len)) (w.alloc (.cells cs.toArray e)) := by
    simp only [execOp, evp_ok ha hq]
    simp [ht w]
  unfold Oper.wp
  rw [this, Oper.upon_value]
  exact hk _ _ _ ⟨_, rfl, rfl⟩ (hw.alloc _)
end
end Go.Proofs.YtdnngppofbmpeaaDoor.Bm
