/- Proved here: the laws of the operations that write memory, of new blocks and of calls. No conditions but those that each theorem states. -/
import Derived.Test.YtdnngppofbmpeaaDoorBase2
namespace Go.Proofs.YtdnngppofbmpeaaDoor.Bm
open Go Go.RowKit

/-! ## rows of numbers -/
def row (k : IntKind) (T : TypeId) (xs : List Int) : Obj := .cells (xs.map (Value.int k)).toArray T
def gt (xs : List Int) (i : Nat) : Int := xs.getD i 0

theorem gt_eq {xs : List Int} {i : Nat} (h : i < xs.length) : gt xs i = xs[i] := by
  unfold gt; rw [List.getD_eq_getElem?_getD, List.getElem?_eq_getElem h]; rfl

theorem row_cell (k : IntKind) (T : TypeId) {xs : List Int} {i : Nat} (h : i < xs.length) : Obj.cell (row k T xs) i = some (.int k (gt xs i)) := by
  simp [Obj.cell, lAt_eq, row, h, gt_eq h]

theorem row_inj {k k' : IntKind} {T T' : TypeId} {xs ys : List Int} (h : row k T xs = row k' T' ys) (hk : k = k') : xs = ys := by
  subst hk
  simp only [row, Obj.cells.injEq] at h
  have h1 := congrArg Array.toList h.1
  clear h
  induction xs generalizing ys with
  | nil => cases ys <;> simp_all
  | cons x xs ih => cases ys with
    | nil => simp at h1
    | cons y ys =>
      simp only [List.map_cons, List.cons.injEq, Value.int.injEq, true_and] at h1
      rw [h1.1, ih h1.2]

section
variable {n : Nat} {w0 : World} {K : Exit → Env → Mem → Prop} {E : Env} {M M' : Mem} {ops : Array Oper} {rest : List Oper} {dst : Option Nat} {ty : TypeId} {pos : String} {aft : Array Edge} {g : Option (Nat × Bool)}

theorem LX.loadRow {t : Nat} {x : Operand} {b i : Nat} {k : IntKind} {T : TypeId} {xs : List Int} (hx : ev E x = some (.pointer (some ⟨b, i, none⟩))) (ht : c1 t = true) (hm : (b, row k T xs) ∈ M) (hi : i < xs.length) :
    LX n w0 ⟨dst, .load t x, ty, pos, aft, g⟩ E M (.int k (gt xs i)) := LX.load hx ht hm (row_cell k T hi)
theorem LX.loadRowW {t : Nat} {x : Operand} {b i : Nat} {k : IntKind} {T : TypeId} {xs : List Int} (hx : ev E x = some (.pointer (some ⟨b, i, none⟩))) (ht : c1 t = true) (hm : w0.heap[b]? = some (row k T xs)) (hi : i < xs.length) :
    LX n w0 ⟨dst, .load t x, ty, pos, aft, g⟩ E M (.int k (gt xs i)) := LX.loadW hx ht hm (row_cell k T hi)

/-! ## stores -/
theorem one_cells {v : Value} (h : v.oneCell' = true) : v.cells = #[v] := by cases v <;> first | rfl | (simp [Value.oneCell'] at h)

theorem setCell_at {w : World} {b i : Nat} {c : Array Value} {T : TypeId} {f : Nat × Nat} {v : Value} (h : w.heap[b]? = some (.cells c T f)) :
    (w.setCell ⟨b, i, none⟩ v).heap[b]? = some (.cells (c.setIfInBounds i v) T f) := by
  simp [World.setCell, Array.getElem?_modify, h]

theorem HR.setCell {w : World} {b i : Nat} {c : Array Value} {T : TypeId} {v : Value} (h : HR w0 M w) (hm : (b, .cells c T (0, 0)) ∈ M) (hu : Upd M b (.cells (c.setIfInBounds i v) T (0, 0)) M') :
    HR w0 M' (w.setCell ⟨b, i, none⟩ v) :=
  h.upd hu (h.below.setCell (h.has _ hm).1 v) (setCell_at (h.has _ hm).2) fun _ hk => Below.heap_setCell _ _ _ _ hk

theorem store_run {w : World} {b i : Nat} {c : Array Value} {T : TypeId} {v : Value} (h : w.heap[b]? = some (.cells c T (0, 0))) (hi : i < c.size) (hv : v.oneCell' = true) :
    (store ⟨b, i, none⟩ v).run P w = .ok () (w.setCell ⟨b, i, none⟩ v) := by
  rw [run_store _ _ _ _ _ hv]
  have hc : w.cell? ⟨b, i, none⟩ = some c[i] := cell_of h (by simp [Obj.cell, lAt_eq, hi])
  have hf : w.frozen? ⟨b, i, none⟩ = false := by simp [World.frozen?, h]
  simp [hc, hf]

theorem EX.store {t : Nat} {x y : Operand} {b i : Nat} {c : Array Value} {T : TypeId} {v : Value} (hx : ev E x = some (.pointer (some ⟨b, i, none⟩))) (hy : ev E y = some v) (ht : c1 t = true)
    (hm : (b, .cells c T (0, 0)) ∈ M) (hv : v.oneCell' = true) (hi : i < c.size) (hu : Upd M b (.cells (c.setIfInBounds i v) T (0, 0)) M') :
    EX n w0 ⟨dst, .store t x y, ty, pos, aft, g⟩ E M (fun u M'' => u = undef ∧ M'' = M') := by
  refine ⟨fun a w ha hw K Q hk => ?_⟩
  have e1 := ha.eval hx
  have e2 := ha.eval hy
  have hs := store_run (hw.has _ hm).2 hi hv
  have : (execOp a.eval ⟨dst, .store t x y, ty, pos, aft, g⟩).run P w = .ok .skip (w.setCell ⟨b, i, none⟩ v) := by
    simp [execOp, e1, e2, Instr.storeAt, Instr.sureAddr, storeVar, c1_ok ht w, one_cells hv, storeCells, hs, Addr.add]
  unfold Oper.wp
  rw [this, Oper.upon_skip]
  exact hk undef M' _ ⟨rfl, rfl⟩ (hw.setCell hm hu)

/-- a field of a struct -/
theorem EX.storeC {t : Nat} {x y : Operand} {b i : Nat} {c : List Value} {T : TypeId} {v : Value} (hx : ev E x = some (.pointer (some ⟨b, i, none⟩))) (hy : ev E y = some v) (ht : c1 t = true)
    (hm : (b, .cells c.toArray T (0, 0)) ∈ M) (hv : v.oneCell' = true) (hi : Nat.blt i c.length = true) (hu : Upd M b (.cells (c.set i v).toArray T (0, 0)) M') :
    EX n w0 ⟨dst, .store t x y, ty, pos, aft, g⟩ E M (fun u M'' => u = undef ∧ M'' = M') :=
  EX.store hx hy ht hm hv (by simpa [Nat.blt_eq] using hi) (by simpa using hu)

theorem row_set (k : IntKind) (T : TypeId) (xs : List Int) (i : Nat) (v : Int) : row k T (xs.set i v) = .cells ((xs.map (Value.int k)).toArray.setIfInBounds i (.int k v)) T := by
  simp [row, List.map_set]

theorem EX.storeRow {t : Nat} {x y : Operand} {b i : Nat} {k : IntKind} {T : TypeId} {xs : List Int} {v : Int} (hx : ev E x = some (.pointer (some ⟨b, i, none⟩))) (hy : ev E y = some (.int k v)) (ht : c1 t = true)
    (hm : (b, row k T xs) ∈ M) (hi : i < xs.length) (hu : Upd M b (row k T (xs.set i v)) M') :
    EX n w0 ⟨dst, .store t x y, ty, pos, aft, g⟩ E M (fun u M'' => u = undef ∧ M'' = M') :=
  EX.store (c := (xs.map (Value.int k)).toArray) hx hy ht hm rfl (by simpa using hi) (by rw [← row_set]; exact hu)

/-- a store's step: nothing is yielded -/
theorem WL.put {op : Op} {u0 : Value} (h : EX n w0 ⟨none, op, ty, pos, aft, none⟩ E M (fun u M'' => u = u0 ∧ M'' = M')) (k : WL n w0 ops K rest E M') :
    WL n w0 ops K (⟨none, op, ty, pos, aft, none⟩ :: rest) E M :=
  WL.step0 h fun _ _ ⟨_, h2⟩ => h2 ▸ k

theorem WL.val {op : Op} {u0 : Value} {d : Nat} (h : EX n w0 ⟨some d, op, ty, pos, aft, none⟩ E M (fun u M'' => u = u0 ∧ M'' = M')) (hd : Nat.blt d n = true) (k : WL n w0 ops K rest ((d, u0) :: E) M') :
    WL n w0 ops K (⟨some d, op, ty, pos, aft, none⟩ :: rest) E M :=
  WL.step hd h fun _ _ ⟨h1, h2⟩ => by subst h1; subst h2; exact k

/-! ## new blocks -/
theorem EX.box {t : TypeId} {x : Operand} {v : Value} (hx : ev E x = some v) :
    EX n w0 ⟨dst, .box t x, ty, pos, aft, g⟩ E M (fun u M' => ∃ b, u = .pointer (some ⟨b, 0, none⟩) ∧ M' = (b, .cells v.cells t (0, 0)) :: M) := by
  refine ⟨fun a w ha hw K Q hk => ?_⟩
  have e1 := ha.eval hx
  have : (execOp a.eval ⟨dst, .box t x, ty, pos, aft, g⟩).run P w = .ok (.value (.pointer (some ⟨w.heap.size, 0, none⟩))) (w.alloc (.cells v.cells t)) := by
    simp [execOp, e1, Instr.box, newVar, newRow]
  unfold Oper.wp
  rw [this, Oper.upon_value]
  exact hk _ _ _ ⟨_, rfl, rfl⟩ (hw.alloc _)

theorem EX.alloc {t : TypeId} {z : Value} (hz : ∀ w, (zeroValue t).run P w = .ok z w) :
    EX n w0 ⟨dst, .alloc t, ty, pos, aft, g⟩ E M (fun u M' => ∃ b, u = .pointer (some ⟨b, 0, none⟩) ∧ M' = (b, .cells z.cells t (0, 0)) :: M) := by
  refine ⟨fun a w ha hw K Q hk => ?_⟩
  have : (execOp a.eval ⟨dst, .alloc t, ty, pos, aft, g⟩).run P w = .ok (.value (.pointer (some ⟨w.heap.size, 0, none⟩))) (w.alloc (.cells z.cells t)) := by
    simp [execOp, Instr.alloc, newVar, newRow, hz w]
  unfold Oper.wp
  rw [this, Oper.upon_value]
  exact hk _ _ _ ⟨_, rfl, rfl⟩ (hw.alloc _)

/-- types of whole numbers as elements: kind and bytes -/
def el : Nat → Option (IntKind × Nat)
  | 47 => some (.u64, 8)
  | 48 => some (.u64, 8)
  | 3 => some (.i64, 8)
  | 5 => some (.u8, 1)
  | _ => none

theorem el_ok {e s : Nat} {k : IntKind} (h : el e = some (k, s)) (w : World) : (zeroValue e).run P w = .ok (.int k 0) w ∧ (typeInfo e).run P w = .ok ((P.info? e).getD default) w ∧ ((P.info? e).getD default).bytes = s := by
  unfold el at h
  split at h <;> first | (cases h; exact ⟨by kernel_rfl, by kernel_rfl, by kernel_rfl⟩) | cases h

theorem make_run {t e s : Nat} {k : IntKind} (ht : sl t = some (e, 1)) (he : el e = some (k, s)) (l c : Nat) (hlc : l ≤ c) (hb : s * c ≤ 281474976710656) (h1 : c ≤ 9223372036854775807) (w : World) :
    (Instr.makeSlice t (.int .i64 l) (.int .i64 c)).run P w = .ok (.slice (some ⟨w.heap.size, 0, none⟩) l c) (w.alloc (row k e (List.replicate c 0))) := by
  obtain ⟨h2, h3⟩ := sl_ok ht w
  obtain ⟨h4, h5, h6⟩ := el_ok he w
  have e1 : IntKind.i64.wrap (l : Int) = l := i64_in ⟨by omega, by omega⟩
  have e2 : IntKind.i64.wrap (c : Int) = c := i64_in ⟨by omega, by omega⟩
  have e3 : ¬ ((s : Int) * (c : Int) > 2 ^ 48) := by
    have h7 : ((s * c : Nat) : Int) ≤ 281474976710656 := by omega
    rw [Int.natCast_mul] at h7
    have h8 : (2 : Int) ^ 48 = 281474976710656 := rfl
    omega
  have e4 : ¬ ((c : Int) < 0) := by omega
  have e5 : ¬ ((l : Int) < 0) := by omega
  have e6 : ¬ ((l : Int) > (c : Int)) := by omega
  have e8 : Array.map (fun x => ([Value.int k 0] : List Value)[x % 1]?.getD default) (Array.range c) = Array.replicate c (Value.int k 0) := by
    apply Array.ext
    · simp
    · intro j hj hj'
      simp [Nat.mod_one]
  unfold Instr.makeSlice
  simp only [Sem.run_bind, h2, Result.andThen_ok, asInt, asIntOf, Sem.run_pure, h5, h6, e1, e2]
  have e7 : ((decide ((c : Int) < 0) || decide ((s : Int) * (c : Int) > 2 ^ 48)) || decide ((l : Int) < 0) || decide ((l : Int) > (c : Int))) = false := by
    rw [decide_eq_false e3, decide_eq_false e4, decide_eq_false e5, decide_eq_false e6]; rfl
  simp only [e7, Bool.false_eq_true, if_false, Result.andThen_ok, Sem.run_bind, run_askRoom, h3, Int.toNat_natCast, Nat.mul_one]
  by_cases hc : c = 0
  · subst hc
    obtain rfl : l = 0 := by omega
    have h9 : Array.range 0 = #[] := rfl
    simp [newRow, row, h9]
  · simp [hc, h4, Value.cells, newRow, row]
    rw [e8]

theorem EX.make {t e s : Nat} {x y : Operand} {k : IntKind} {p q : Int} (hx : ev E x = some (.int .i64 p)) (hy : ev E y = some (.int .i64 q)) (ht : sl t = some (e, 1)) (he : el e = some (k, s)) (l c : Nat)
    (hp : p = (l : Int)) (hq : q = (c : Int)) (hlc : l ≤ c) (hb : s * c ≤ 281474976710656) (h1 : c ≤ 9223372036854775807) :
    EX n w0 ⟨dst, .makeSlice t x y, ty, pos, aft, g⟩ E M (fun u M' => ∃ b, u = .slice (some ⟨b, 0, none⟩) l c ∧ M' = (b, row k e (List.replicate c 0)) :: M) := by
  refine ⟨fun a w ha hw K Q hk => ?_⟩
  have e1 := ha.eval hx
  have e2 := ha.eval hy
  subst hp hq
  have : (execOp a.eval ⟨dst, .makeSlice t x y, ty, pos, aft, g⟩).run P w = .ok (.value (.slice (some ⟨w.heap.size, 0, none⟩) l c)) (w.alloc (row k e (List.replicate c 0))) := by
    simp [execOp, e1, e2, make_run ht he l c hlc hb h1 w]
  unfold Oper.wp
  rw [this, Oper.upon_value]
  exact hk _ _ _ ⟨_, rfl, rfl⟩ (hw.alloc _)

/-! ## calls -/
theorem call_exec {f : FuncId} {args : Array Operand} {ats : Array TypeId} {vs : List Value} {a : Act} {w : World} (ha : Rep n E a) (he : evs E args.toList = some vs) :
    (execOp a.eval ⟨dst, .call ⟨.value (.func f), args, ats⟩, ty, pos, aft, g⟩).run P w = (callFunc f vs.toArray).run P w := by
  have e : args.map a.eval = vs.toArray := by
    apply Array.toList_inj.1
    simp [ha.evals he]
  simp [execOp, resolve, e, Act.eval, Deferred.ofValue, invoke]

theorem EX.call {f : FuncId} {args : Array Operand} {ats : Array TypeId} {vs : List Value} {R : Value → Mem → Prop} (he : evs E args.toList = some vs)
    (hf : ∀ w, (callFunc f vs.toArray).run P w = .ok (.enter f vs.toArray) w) (hc : CS w0 f vs M R) :
    EX n w0 ⟨dst, .call ⟨.value (.func f), args, ats⟩, ty, pos, aft, g⟩ E M R := by
  refine ⟨fun a w ha hw K Q hk => ?_⟩
  unfold Oper.wp
  rw [call_exec ha he, hf w, Oper.upon_enter]
  refine (hc.run w hw).mono fun e w' h => ?_
  obtain ⟨v, M', rfl, hh, hR⟩ := h
  exact hk v M' w' hR hh

theorem LX.ext {f : FuncId} {args : Array Operand} {ats : Array TypeId} {vs : List Value} {v : Value} (he : evs E args.toList = some vs)
    (hf : ∀ w, (callFunc f vs.toArray).run P w = .ok (.value v) w) : LX n w0 ⟨dst, .call ⟨.value (.func f), args, ats⟩, ty, pos, aft, g⟩ E M v := by
  refine ⟨fun a w ha _ => ?_⟩
  rw [call_exec ha he, hf w]

/-- a call that leaves the memory alone and yields v -/
theorem CS.pure {f : FuncId} {args : List Value} {v : Value} (h : ∀ w, Calls P f args.toArray w fun e w' => e = .returned v ∧ w' = w) : CS w0 f args M (fun u M' => u = v ∧ M' = M) :=
  ⟨fun w hw => (h w).mono fun _ _ ⟨he, hh⟩ => ⟨v, M, he, hh ▸ hw, rfl, rfl⟩⟩

/-! ## a function's body -/
def KR (n : Nat) (w0 : World) (fn : Func) (R : Value → Mem → Prop) (e : Exit) (E : Env) (M : Mem) : Prop :=
  (e = .ret ∨ e = .normal) ∧ ∃ v, (∀ a w, Rep n E a → HR w0 M w → (results fn a.tmps).run P w = .ok v w) ∧ R v M

def env0 : Nat → List Value → Env
  | _, [] => []
  | i, v :: r => (i, v) :: env0 (i + 1) r

theorem env0_at {vs : List Value} {i t : Nat} {v : Value} (h : (env0 i vs).at? t = some v) : ∃ j, t = i + j ∧ vs[j]? = some v := by
  induction vs generalizing i with
  | nil => simp [env0, Env.at?] at h
  | cons u r ih =>
    simp only [env0, Env.at?] at h
    split at h
    · rename_i hb
      have hb := Nat.eq_of_beq_eq_true hb
      subst hb
      exact ⟨0, by omega, by simpa using h⟩
    · obtain ⟨j, hj, hv⟩ := ih h
      exact ⟨j + 1, by omega, by simpa using hv⟩

theorem CS.of {f : FuncId} {fn : Func} {c : Code} {args : List Value} {R : Value → Mem → Prop} (hf : P.funcs[f]? = some fn) (hn : fn.ntmps = n) (hb : fn.body = some c) (hl : Nat.ble args.length n = true)
    (h : WC n w0 c (KR n w0 fn R) (env0 0 args) M) : CS w0 f args M R := by
  refine ⟨fun w hw => ?_⟩
  have hl := Nat.le_of_ble_eq_true hl
  refine calls_of_wp hf hb ?_
  have hrep : Rep n (env0 0 args) { tmps := args.toArray ++ Array.replicate (fn.ntmps - args.toArray.size) undef, defers := [] } := by
    refine ⟨by simp [hn]; omega, rfl, fun t v ht => ?_⟩
    obtain ⟨j, hj, hv⟩ := env0_at ht
    simp only [Nat.zero_add] at hj
    subst hj
    have hlt : t < args.length := by
      rcases Nat.lt_or_ge t args.length with h' | h'
      · exact h'
      · simp [List.getElem?_eq_none h'] at hv
    show (args.toArray ++ _)[t]? = some v
    rw [Array.getElem?_append, if_pos (by simpa using hlt)]
    simpa using hv
  refine wp_mono (h.run _ w hrep hw) fun e a w' hk => ?_
  obtain ⟨E', M', ha', hw', he, v, hv, hR⟩ := hk
  rcases he with rfl | rfl
  · exact bodyPost_ret (hv a w' ha' hw') ha'.defers ⟨v, M', rfl, hw', hR⟩
  · exact bodyPost_end (hv a w' ha' hw') ha'.defers ⟨v, M', rfl, hw', hR⟩

theorem KR.one {fn : Func} {R : Value → Mem → Prop} {t : Nat} {v : Value} {e : Exit} (he : e = .ret ∨ e = .normal) (hr : fn.results = #[.tmp t]) (hv : E.at? t = some v) (h : R v M) : KR n w0 fn R e E M :=
  ⟨he, v, fun a w ha _ => by rw [results_tmp hr]; simp [ha.at_ t v hv], h⟩
theorem KR.two {fn : Func} {R : Value → Mem → Prop} {t t' : Nat} {v v' : Value} {e : Exit} (he : e = .ret ∨ e = .normal) (hr : fn.results = #[.tmp t, .tmp t']) (hv : E.at? t = some v) (hv' : E.at? t' = some v')
    (h : R (.tuple #[v, v']) M) : KR n w0 fn R e E M :=
  ⟨he, _, fun a w ha _ => by rw [results_tmp2 hr]; simp [ha.at_ t v hv, ha.at_ t' v' hv'], h⟩
theorem KR.none {fn : Func} {R : Value → Mem → Prop} {e : Exit} (he : e = .ret ∨ e = .normal) (hr : fn.results = #[]) (h : R (.tuple #[]) M) : KR n w0 fn R e E M :=
  ⟨he, _, fun _ _ _ _ => results_none hr _ _ _, h⟩
end
end Go.Proofs.YtdnngppofbmpeaaDoor.Bm
