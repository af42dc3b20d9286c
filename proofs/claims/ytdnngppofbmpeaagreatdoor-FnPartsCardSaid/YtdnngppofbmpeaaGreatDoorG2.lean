/- Proved here: the laws of the operations that write memory, of new blocks and of calls; the laws of regions whose order is drawn; laws on memory in another order and on calls that leave memory alone. Conditions: none but those that each theorem states. -/
import Derived.Test.YtdnngppofbmpeaaGreatDoorG1
namespace Go.Proofs.YtdnngppofbmpeaaGreatDoor.Bm
open Go Go.RowKit

/-! ## rows of numbers -/
def row (k : IntKind) (T : TypeId) (xs : List Int) : Obj := .cells (xs.map (Value.int k)).toArray T
def gt (xs : List Int) (i : Nat) : Int := xs.getD i 0

theorem gt_eq {xs : List Int} {i : Nat} (h : i < xs.length) : gt xs i = xs[i] := by
  unfold gt; rw [List.getD_eq_getElem?_getD, List.getElem?_eq_getElem h]; rfl

theorem row_cell (k : IntKind) (T : TypeId) {xs : List Int} {i : Nat} (h : i < xs.length) : Obj.cell (row k T xs) i = some (.int k (gt xs i)) := by
  simp [Obj.cell, lAt_eq, row, h, gt_eq h]

theorem row_inj {k k' : IntKind} {T T' : TypeId} {xs ys : List Int} (h : row k T xs = row k' T' ys) (hk : k = k') : xs = ys := by
  subst hk
  simp only [row, Obj.cells.injEq] at h
  have h1 := congrArg Array.toList h.1
  clear h
  induction xs generalizing ys with
  | nil => cases ys <;> simp_all
  | cons x xs ih => cases ys with
    | nil => simp at h1
    | cons y ys =>
      simp only [List.map_cons, List.cons.injEq, Value.int.injEq, true_and] at h1
      rw [h1.1, ih h1.2]

section
variable {n : Nat} {w0 : World} {K : Exit → Env → Mem → Prop} {E : Env} {M M' : Mem} {ops : Array Oper} {rest : List Oper} {dst : Option Nat} {ty : TypeId} {pos : String} {aft : Array Edge} {g : Option (Nat × Bool)}

theorem LX.loadRow {t : Nat} {x : Operand} {b i : Nat} {k : IntKind} {T : TypeId} {xs : List Int} (hx : ev E x = some (.pointer (some ⟨b, i, none⟩))) (ht : c1 t = true) (hm : (b, row k T xs) ∈ M) (hi : i < xs.length) :
    LX n w0 ⟨dst, .load t x, ty, pos, aft, g⟩ E M (.int k (gt xs i)) := LX.load hx ht hm (row_cell k T hi)
theorem LX.loadRowW {t : Nat} {x : Operand} {b i : Nat} {k : IntKind} {T : TypeId} {xs : List Int} (hx : ev E x = some (.pointer (some ⟨b, i, none⟩))) (ht : c1 t = true) (hm : w0.heap[b]? = some (row k T xs)) (hi : i < xs.length) :
    LX n w0 ⟨dst, .load t x, ty, pos, aft, g⟩ E M (.int k (gt xs i)) := LX.loadW hx ht hm (row_cell k T hi)

/-! ## stores -/
theorem one_cells {v : Value} (h : v.oneCell' = true) : v.cells = #[v] := by cases v <;> first | rfl | (simp [Value.oneCell'] at h)

theorem setCell_at {w : World} {b i : Nat} {c : Array Value} {T : TypeId} {f : Nat × Nat} {v : Value} (h : w.heap[b]? = some (.cells c T f)) :
    (w.setCell ⟨b, i, none⟩ v).heap[b]? = some (.cells (c.setIfInBounds i v) T f) := by
  simp [World.setCell, Array.getElem?_modify, h]

theorem HR.setCell {w : World} {b i : Nat} {c : Array Value} {T : TypeId} {v : Value} (h : HR w0 M w) (hm : (b, .cells c T (0, 0)) ∈ M) (hu : Upd M b (.cells (c.setIfInBounds i v) T (0, 0)) M') :
    HR w0 M' (w.setCell ⟨b, i, none⟩ v) :=
  h.upd hu (h.below.setCell (h.has _ hm).1 v) (setCell_at (h.has _ hm).2) fun _ hk => Below.heap_setCell _ _ _ _ hk

theorem store_run {w : World} {b i : Nat} {c : Array Value} {T : TypeId} {v : Value} (h : w.heap[b]? = some (.cells c T (0, 0))) (hi : i < c.size) (hv : v.oneCell' = true) :
    (store ⟨b, i, none⟩ v).run P w = .ok () (w.setCell ⟨b, i, none⟩ v) := by
  rw [run_store _ _ _ _ _ hv]
  have hc : w.cell? ⟨b, i, none⟩ = some c[i] := cell_of h (by simp [Obj.cell, lAt_eq, hi])
  have hf : w.frozen? ⟨b, i, none⟩ = false := by simp [World.frozen?, h]
  simp [hc, hf]

theorem EX.store {t : Nat} {x y : Operand} {b i : Nat} {c : Array Value} {T : TypeId} {v : Value} (hx : ev E x = some (.pointer (some ⟨b, i, none⟩))) (hy : ev E y = some v) (ht : c1 t = true)
    (hm : (b, .cells c T (0, 0)) ∈ M) (hv : v.oneCell' = true) (hi : i < c.size) (hu : Upd M b (.cells (c.setIfInBounds i v) T (0, 0)) M') :
    EX n w0 ⟨dst, .store t x y, ty, pos, aft, g⟩ E M (fun u M'' => u = undef ∧ M'' = M') := by
  refine ⟨fun a w ha hw K Q hk => ?_⟩
  have e1 := ha.eval hx
  have e2 := ha.eval hy
  have hs := store_run (hw.has _ hm).2 hi hv
  have : (execOp a.eval ⟨dst, .store t x y, ty, pos, aft, g⟩).run P w = .ok .skip (w.setCell ⟨b, i, none⟩ v) := by
    simp [execOp, e1, e2, Instr.storeAt, Instr.sureAddr, storeVar, c1_ok ht w, one_cells hv, storeCells, hs, Addr.add]
  unfold Oper.wp
  rw [this, Oper.upon_skip]
  exact hk undef M' _ ⟨rfl, rfl⟩ (hw.setCell hm hu)

/-- a field of a struct -/
theorem EX.storeC {t : Nat} {x y : Operand} {b i : Nat} {c : List Value} {T : TypeId} {v : Value} (hx : ev E x = some (.pointer (some ⟨b, i, none⟩))) (hy : ev E y = some v) (ht : c1 t = true)
    (hm : (b, .cells c.toArray T (0, 0)) ∈ M) (hv : v.oneCell' = true) (hi : Nat.blt i c.length = true) (hu : Upd M b (.cells (c.set i v).toArray T (0, 0)) M') :
    EX n w0 ⟨dst, .store t x y, ty, pos, aft, g⟩ E M (fun u M'' => u = undef ∧ M'' = M') :=
  EX.store hx hy ht hm hv (by simpa [Nat.blt_eq] using hi) (by simpa using hu)

theorem row_set (k : IntKind) (T : TypeId) (xs : List Int) (i : Nat) (v : Int) : row k T (xs.set i v) = .cells ((xs.map (Value.int k)).toArray.setIfInBounds i (.int k v)) T := by
  simp [row, List.map_set]

theorem EX.storeRow {t : Nat} {x y : Operand} {b i : Nat} {k : IntKind} {T : TypeId} {xs : List Int} {v : Int} (hx : ev E x = some (.pointer (some ⟨b, i, none⟩))) (hy : ev E y = some (.int k v)) (ht : c1 t = true)
    (hm : (b, row k T xs) ∈ M) (hi : i < xs.length) (hu : Upd M b (row k T (xs.set i v)) M') :
    EX n w0 ⟨dst, .store t x y, ty, pos, aft, g⟩ E M (fun u M'' => u = undef ∧ M'' = M') :=
  EX.store (c := (xs.map (Value.int k)).toArray) hx hy ht hm rfl (by simpa using hi) (by rw [← row_set]; exact hu)

/-- a store's step: nothing is yielded -/
theorem WL.put {op : Op} {u0 : Value} (h : EX n w0 ⟨none, op, ty, pos, aft, none⟩ E M (fun u M'' => u = u0 ∧ M'' = M')) (k : WL n w0 ops K rest E M') :
    WL n w0 ops K (⟨none, op, ty, pos, aft, none⟩ :: rest) E M :=
  WL.step0 h fun _ _ ⟨_, h2⟩ => h2 ▸ k

theorem WL.val {op : Op} {u0 : Value} {d : Nat} (h : EX n w0 ⟨some d, op, ty, pos, aft, none⟩ E M (fun u M'' => u = u0 ∧ M'' = M')) (hd : Nat.blt d n = true) (k : WL n w0 ops K rest ((d, u0) :: E) M') :
    WL n w0 ops K (⟨some d, op, ty, pos, aft, none⟩ :: rest) E M :=
  WL.step hd h fun _ _ ⟨h1, h2⟩ => by subst h1; subst h2; exact k

/-! ## new blocks -/
theorem EX.box {t : TypeId} {x : Operand} {v : Value} (hx : ev E x = some v) :
    EX n w0 ⟨dst, .box t x, ty, pos, aft, g⟩ E M (fun u M' => ∃ b, u = .pointer (some ⟨b, 0, none⟩) ∧ M' = (b, .cells v.cells t (0, 0)) :: M) := by
  refine ⟨fun a w ha hw K Q hk => ?_⟩
  have e1 := ha.eval hx
  have : (execOp a.eval ⟨dst, .box t x, ty, pos, aft, g⟩).run P w = .ok (.value (.pointer (some ⟨w.heap.size, 0, none⟩))) (w.alloc (.cells v.cells t)) := by
    simp [execOp, e1, Instr.box, newVar, newRow]
  unfold Oper.wp
  rw [this, Oper.upon_value]
  exact hk _ _ _ ⟨_, rfl, rfl⟩ (hw.alloc _)

theorem EX.alloc {t : TypeId} {z : Value} (hz : ∀ w, (zeroValue t).run P w = .ok z w) :
    EX n w0 ⟨dst, .alloc t, ty, pos, aft, g⟩ E M (fun u M' => ∃ b, u = .pointer (some ⟨b, 0, none⟩) ∧ M' = (b, .cells z.cells t (0, 0)) :: M) := by
  refine ⟨fun a w ha hw K Q hk => ?_⟩
  have : (execOp a.eval ⟨dst, .alloc t, ty, pos, aft, g⟩).run P w = .ok (.value (.pointer (some ⟨w.heap.size, 0, none⟩))) (w.alloc (.cells z.cells t)) := by
    simp [execOp, Instr.alloc, newVar, newRow, hz w]
  unfold Oper.wp
  rw [this, Oper.upon_value]
  exact hk _ _ _ ⟨_, rfl, rfl⟩ (hw.alloc _)

/-- types of whole numbers as elements: kind and bytes -/
def el : Nat → Option (IntKind × Nat)
  | 53 => some (.u64, 8)
  | 52 => some (.u64, 8)
  | 3 => some (.i64, 8)
  | 5 => some (.u8, 1)
  | _ => none

theorem el_ok {e s : Nat} {k : IntKind} (h : el e = some (k, s)) (w : World) : (zeroValue e).run P w = .ok (.int k 0) w ∧ (typeInfo e).run P w = .ok ((P.info? e).getD default) w ∧ ((P.info? e).getD default).bytes = s := by
  unfold el at h
  split at h <;> first | (cases h; exact ⟨by kernel_rfl, by kernel_rfl, by kernel_rfl⟩) | cases h

theorem make_run {t e s : Nat} {k : IntKind} (ht : sl t = some (e, 1)) (he : el e = some (k, s)) (l c : Nat) (hlc : l ≤ c) (hb : s * c ≤ 281474976710656) (h1 : c ≤ 9223372036854775807) (w : World) :
    (Instr.makeSlice t (.int .i64 l) (.int .i64 c)).run P w = .ok (.slice (some ⟨w.heap.size, 0, none⟩) l c) (w.alloc (row k e (List.replicate c 0))) := by
  obtain ⟨h2, h3⟩ := sl_ok ht w
  obtain ⟨h4, h5, h6⟩ := el_ok he w
  have e1 : IntKind.i64.wrap (l : Int) = l := i64_in ⟨by omega, by omega⟩
  have e2 : IntKind.i64.wrap (c : Int) = c := i64_in ⟨by omega, by omega⟩
  have e3 : ¬ ((s : Int) * (c : Int) > 2 ^ 48) := by
    have h7 : ((s * c : Nat) : Int) ≤ 281474976710656 := by omega
    rw [Int.natCast_mul] at h7
    have h8 : (2 : Int) ^ 48 = 281474976710656 := rfl
    omega
  have e4 : ¬ ((c : Int) < 0) := by omega
  have e5 : ¬ ((l : Int) < 0) := by omega
  have e6 : ¬ ((l : Int) > (c : Int)) := by omega
  have e8 : Array.map (fun x => ([Value.int k 0] : List Value)[x % 1]?.getD default) (Array.range c) = Array.replicate c (Value.int k 0) := by
    apply Array.ext
    · simp
    · intro j hj hj'
      simp [Nat.mod_one]
  unfold Instr.makeSlice
  simp only [Sem.run_bind, h2, Result.andThen_ok, asInt, asIntOf, Sem.run_pure, h5, h6, e1, e2]
  have e7 : ((decide ((c : Int) < 0) || decide ((s : Int) * (c : Int) > 2 ^ 48)) || decide ((l : Int) < 0) || decide ((l : Int) > (c : Int))) = false := by
    rw [decide_eq_false e3, decide_eq_false e4, decide_eq_false e5, decide_eq_false e6]; rfl
  simp only [e7, Bool.false_eq_true, if_false, Result.andThen_ok, Sem.run_bind, run_askRoom, h3, Int.toNat_natCast, Nat.mul_one]
  by_cases hc : c = 0
  · subst hc
    obtain rfl : l = 0 := by omega
    have h9 : Array.range 0 = #[] := rfl
    simp [newRow, row, h9]
  · simp [hc, h4, Value.cells, newRow, row]
    rw [e8]

theorem EX.make {t e s : Nat} {x y : Operand} {k : IntKind} {p q : Int} (hx : ev E x = some (.int .i64 p)) (hy : ev E y = some (.int .i64 q)) (ht : sl t = some (e, 1)) (he : el e = some (k, s)) (l c : Nat)
    (hp : p = (l : Int)) (hq : q = (c : Int)) (hlc : l ≤ c) (hb : s * c ≤ 281474976710656) (h1 : c ≤ 9223372036854775807) :
    EX n w0 ⟨dst, .makeSlice t x y, ty, pos, aft, g⟩ E M (fun u M' => ∃ b, u = .slice (some ⟨b, 0, none⟩) l c ∧ M' = (b, row k e (List.replicate c 0)) :: M) := by
  refine ⟨fun a w ha hw K Q hk => ?_⟩
  have e1 := ha.eval hx
  have e2 := ha.eval hy
  subst hp hq
  have : (execOp a.eval ⟨dst, .makeSlice t x y, ty, pos, aft, g⟩).run P w = .ok (.value (.slice (some ⟨w.heap.size, 0, none⟩) l c)) (w.alloc (row k e (List.replicate c 0))) := by
    simp [execOp, e1, e2, make_run ht he l c hlc hb h1 w]
  unfold Oper.wp
  rw [this, Oper.upon_value]
  exact hk _ _ _ ⟨_, rfl, rfl⟩ (hw.alloc _)

/-! ## calls -/
theorem call_exec {f : FuncId} {args : Array Operand} {ats : Array TypeId} {vs : List Value} {a : Act} {w : World} (ha : Rep n E a) (he : evs E args.toList = some vs) :
    (execOp a.eval ⟨dst, .call ⟨.value (.func f), args, ats⟩, ty, pos, aft, g⟩).run P w = (callFunc f vs.toArray).run P w := by
  have e : args.map a.eval = vs.toArray := by
    apply Array.toList_inj.1
    simp [ha.evals he]
  simp [execOp, resolve, e, Act.eval, Deferred.ofValue, invoke]

theorem EX.call {f : FuncId} {args : Array Operand} {ats : Array TypeId} {vs : List Value} {R : Value → Mem → Prop} (he : evs E args.toList = some vs)
    (hf : ∀ w, (callFunc f vs.toArray).run P w = .ok (.enter f vs.toArray) w) (hc : CS w0 f vs M R) :
    EX n w0 ⟨dst, .call ⟨.value (.func f), args, ats⟩, ty, pos, aft, g⟩ E M R := by
  refine ⟨fun a w ha hw K Q hk => ?_⟩
  unfold Oper.wp
  rw [call_exec ha he, hf w, Oper.upon_enter]
  refine (hc.run w hw).mono fun e w' h => ?_
  obtain ⟨v, M', rfl, hh, hR⟩ := h
  exact hk v M' w' hR hh

theorem LX.ext {f : FuncId} {args : Array Operand} {ats : Array TypeId} {vs : List Value} {v : Value} (he : evs E args.toList = some vs)
    (hf : ∀ w, (callFunc f vs.toArray).run P w = .ok (.value v) w) : LX n w0 ⟨dst, .call ⟨.value (.func f), args, ats⟩, ty, pos, aft, g⟩ E M v := by
  refine ⟨fun a w ha _ => ?_⟩
  rw [call_exec ha he, hf w]

/-- a call that leaves the memory alone and yields v -/
theorem CS.pure {f : FuncId} {args : List Value} {v : Value} (h : ∀ w, Calls P f args.toArray w fun e w' => e = .returned v ∧ w' = w) : CS w0 f args M (fun u M' => u = v ∧ M' = M) :=
  ⟨fun w hw => (h w).mono fun _ _ ⟨he, hh⟩ => ⟨v, M, he, hh ▸ hw, rfl, rfl⟩⟩

/-! ## a function's body -/
def KR (n : Nat) (w0 : World) (fn : Func) (R : Value → Mem → Prop) (e : Exit) (E : Env) (M : Mem) : Prop :=
  (e = .ret ∨ e = .normal) ∧ ∃ v, (∀ a w, Rep n E a → HR w0 M w → (results fn a.tmps).run P w = .ok v w) ∧ R v M

def env0 : Nat → List Value → Env
  | _, [] => []
  | i, v :: r => (i, v) :: env0 (i + 1) r

theorem env0_at {vs : List Value} {i t : Nat} {v : Value} (h : (env0 i vs).at? t = some v) : ∃ j, t = i + j ∧ vs[j]? = some v := by
  induction vs generalizing i with
  | nil => simp [env0, Env.at?] at h
  | cons u r ih =>
    simp only [env0, Env.at?] at h
    split at h
    · rename_i hb
      have hb := Nat.eq_of_beq_eq_true hb
      subst hb
      exact ⟨0, by omega, by simpa using h⟩
    · obtain ⟨j, hj, hv⟩ := ih h
      exact ⟨j + 1, by omega, by simpa using hv⟩

theorem CS.of {f : FuncId} {fn : Func} {c : Code} {args : List Value} {R : Value → Mem → Prop} (hf : P.funcs[f]? = some fn) (hn : fn.ntmps = n) (hb : fn.body = some c) (hl : Nat.ble args.length n = true)
    (h : WC n w0 c (KR n w0 fn R) (env0 0 args) M) : CS w0 f args M R := by
  refine ⟨fun w hw => ?_⟩
  have hl := Nat.le_of_ble_eq_true hl
  refine calls_of_wp hf hb ?_
  have hrep : Rep n (env0 0 args) { tmps := args.toArray ++ Array.replicate (fn.ntmps - args.toArray.size) undef, defers := [] } := by
    refine ⟨by simp [hn]; omega, rfl, fun t v ht => ?_⟩
    obtain ⟨j, hj, hv⟩ := env0_at ht
    simp only [Nat.zero_add] at hj
    subst hj
    have hlt : t < args.length := by
      rcases Nat.lt_or_ge t args.length with h' | h'
      · exact h'
      · simp [List.getElem?_eq_none h'] at hv
    show (args.toArray ++ _)[t]? = some v
    rw [Array.getElem?_append, if_pos (by simpa using hlt)]
    simpa using hv
  refine wp_mono (h.run _ w hrep hw) fun e a w' hk => ?_
  obtain ⟨E', M', ha', hw', he, v, hv, hR⟩ := hk
  rcases he with rfl | rfl
  · exact bodyPost_ret (hv a w' ha' hw') ha'.defers ⟨v, M', rfl, hw', hR⟩
  · exact bodyPost_end (hv a w' ha' hw') ha'.defers ⟨v, M', rfl, hw', hR⟩

theorem KR.one {fn : Func} {R : Value → Mem → Prop} {t : Nat} {v : Value} {e : Exit} (he : e = .ret ∨ e = .normal) (hr : fn.results = #[.tmp t]) (hv : E.at? t = some v) (h : R v M) : KR n w0 fn R e E M :=
  ⟨he, v, fun a w ha _ => by rw [results_tmp hr]; simp [ha.at_ t v hv], h⟩
theorem KR.two {fn : Func} {R : Value → Mem → Prop} {t t' : Nat} {v v' : Value} {e : Exit} (he : e = .ret ∨ e = .normal) (hr : fn.results = #[.tmp t, .tmp t']) (hv : E.at? t = some v) (hv' : E.at? t' = some v')
    (h : R (.tuple #[v, v']) M) : KR n w0 fn R e E M :=
  ⟨he, _, fun a w ha _ => by rw [results_tmp2 hr]; simp [ha.at_ t v hv, ha.at_ t' v' hv'], h⟩
theorem KR.none {fn : Func} {R : Value → Mem → Prop} {e : Exit} (he : e = .ret ∨ e = .normal) (hr : fn.results = #[]) (h : R (.tuple #[]) M) : KR n w0 fn R e E M :=
  ⟨he, _, fun _ _ _ _ => results_none hr _ _ _, h⟩
end
end Go.Proofs.YtdnngppofbmpeaaGreatDoor.Bm
namespace Go.Proofs.YtdnngppofbmpeaaGreatDoor.Bm
open Go Go.RowKit

/-! ## regions whose order is open -/
theorem wp_falseQ {o : Oper} {a : Act} {w : World} {K : Act → World → Prop} {Q : Exit → Act → World → Prop} (h : o.wp P a w K (fun _ _ _ => False)) : o.wp P a w K Q := by
  unfold Oper.wp at *
  generalize (execOp a.eval o).run P w = r at *
  cases r with
  | ok x w' =>
    cases x <;> simp only [Oper.upon] at h ⊢ <;>
      first
        | exact h
        | exact Calls.mono h (fun e w'' he => by
            cases e <;> first | exact he | exact he.elim | (obtain ⟨_, _, he⟩ := he; exact he.elim))
        | exact Rows.mono h (fun _ _ he => he)
  | halt x w' => cases x <;> simp only [Oper.upon] at h ⊢

section
variable {ops : Array Oper} {rs : Nat → Bool} {C : World → Prop} {Qn : Act → World → Prop}

/-- operation j waits for all operations of rs by itself -/
def waits (ops : Array Oper) (rs : Nat → Bool) (j : Nat) : Bool :=
  match ops[j]? with
  | none => false
  | some o => (List.range ops.size).all fun i => !rs i || o.after.any fun e => Region.binds .any e && Nat.beq e.on i

def stepC (ops : Array Oper) (rs : Nat → Bool) (C : World → Prop) (i : Nat) (K : Act → World → Prop) (a : Act) (w : World) : Prop :=
  match ops[i]? with
  | none => K a w
  | some o => if Region.wanted o (yielded ops a.tmps) then o.wp P a w (fun a' w' => (waits ops rs i = false → C w → C w') ∧ K a' w') (fun _ _ _ => False)
    else K (a.put o.dst undef) w

def anyC (ops : Array Oper) (rs : Nat → Bool) (C : World → Prop) (Qn : Act → World → Prop) : Nat → Array Bool → Act → World → Prop
  | 0, listed, a, w => Region.ready .any ops listed = [] ∧ Qn a w
  | fuel + 1, listed, a, w =>
    (Region.ready .any ops listed = [] → Qn a w) ∧
    ∀ i ∈ Region.ready .any ops listed, stepC ops rs C i (anyC ops rs C Qn fuel (listed.setIfInBounds i true)) a w

theorem anyC_sound {Q : Exit → Act → World → Prop} (hQ : ∀ a w, Qn a w → Q .normal a w) : ∀ (fuel : Nat) (listed : Array Bool) (a : Act) (w : World),
    anyC ops rs C Qn fuel listed a w → wpAny P .any ops Q fuel listed a w
  | 0, _, _, _, h => ⟨h.1, hQ _ _ h.2⟩
  | fuel + 1, _, a, w, h => by
    refine ⟨fun h0 => hQ _ _ (h.1 h0), fun i hi => ?_⟩
    have h1 := h.2 i hi
    unfold stepC at h1
    unfold wpOp
    split
    · rename_i ho; simp only [ho] at h1; exact anyC_sound hQ fuel _ _ _ h1
    · rename_i o ho
      simp only [ho] at h1
      split
      · rename_i hw
        simp only [hw, if_true] at h1
        exact .inl (Oper.wp_mono (fun a w hk => anyC_sound hQ fuel _ _ _ hk.2) (wp_falseQ h1))
      · rename_i hw
        simp only [hw] at h1
        exact anyC_sound hQ fuel _ _ _ h1

/-- in every world of the class operation o yields v -/
def Yq (ops : Array Oper) (C : World → Prop) (o : Oper) (v : Value) (a : Act) : Prop :=
  (Region.wanted o (yielded ops a.tmps) = true ∧ ∀ w, C w → (execOp a.eval o).run P w = .ok (.value v) w) ∨
  (Region.wanted o (yielded ops a.tmps) = false ∧ v = undef)

theorem Yq.of_same {o : Oper} {v : Value} {a a' : Act} (hy : Yq ops C o v a) (he : execOp a'.eval o = execOp a.eval o)
    (hw : Region.wanted o (yielded ops a'.tmps) = Region.wanted o (yielded ops a.tmps)) : Yq ops C o v a' := by
  unfold Yq at *
  rw [he, hw]
  exact hy

theorem wp_put {oi oj : Oper} {v : Value} (h1 : ∀ d, oi.dst = some d → d ∉ oj.looksAt ops) (h2 : ∀ d, oi.dst = some d → oj.dst ≠ some d)
    (hsj : ∀ cs b, oj.op ≠ .select cs b) {K : Act → World → Prop} {G : Act → Prop} {a : Act} {w : World}
    (hG : ∀ u, G (a.put oj.dst u)) (hGd : ∀ d u, G (({ a with defers := d :: a.defers } : Act).put oj.dst u))
    (h : oj.wp P (a.put oi.dst v) w K (fun _ _ _ => False)) : oj.wp P a w (fun a' w' => G a' ∧ K (a'.put oi.dst v) w') (fun _ _ _ => False) := by
  unfold Oper.wp at *
  rw [execOp_put oj hsj a oi.dst v h1] at h
  have hput : ∀ u, (a.put oi.dst v).put oj.dst u = (a.put oj.dst u).put oi.dst v := fun u => Act.put_comm a v u h2
  have hputd : ∀ d u, ({ a.put oi.dst v with defers := d :: (a.put oi.dst v).defers } : Act).put oj.dst u = (({ a with defers := d :: a.defers } : Act).put oj.dst u).put oi.dst v := fun d u => by
    rw [Act.put_defers, Act.put_comm _ v u h2]
  generalize (execOp a.eval oj).run P w = r at *
  cases r with
  | ok x w' =>
    cases x <;> simp only [Oper.upon] at h ⊢
    case value u => exact ⟨hG u, by rw [← hput u]; exact h⟩
    case skip => exact ⟨hG _, by rw [← hput undef]; exact h⟩
    case defer d => exact ⟨hGd d _, by rw [← hputd d undef]; exact h⟩
    case enter f args =>
      refine Calls.mono h fun e w'' he => ?_
      cases e with
      | returned u => exact ⟨hG u, by rw [← hput u]; exact he⟩
      | panicked ch => exact he
      | outgrown => exact he
    case row r args => exact Rows.mono h fun u w'' he => ⟨hG u, by rw [← hput u]; exact he⟩
  | halt x w' => cases x <;> simp only [Oper.upon] at h

theorem stepC_put {j : Nat} {oi oj : Oper} {v : Value} {D : World → Prop} (hj : ops[j]? = some oj) (hap : oi.apart ops oj = true)
    (hsi : ∀ cs b, oi.op ≠ .select cs b) (hsj : ∀ cs b, oj.op ≠ .select cs b) {K : Act → World → Prop} {a : Act} {w : World}
    (hy : Yq ops D oi v a) (h : stepC ops rs C j K (a.put oi.dst v) w) :
    stepC ops rs C j (fun a' w' => (waits ops rs j = false → C w → C w') ∧ Yq ops D oi v a' ∧ K (a'.put oi.dst v) w') a w := by
  obtain ⟨h1, h2, h3⟩ := Oper.apart_spec hap
  have keep : ∀ u, Yq ops D oi v (a.put oj.dst u) := fun u => hy.of_same (execOp_put oi hsi a oj.dst u h3) (wanted_put oi a oj.dst u h3)
  have keepd : ∀ d u, Yq ops D oi v (({ a with defers := d :: a.defers } : Act).put oj.dst u) := fun d u => by
    refine (show Yq ops D oi v ({ a with defers := d :: a.defers } : Act) from hy).of_same (execOp_put oi hsi _ oj.dst u h3) (wanted_put oi _ oj.dst u h3)
  unfold stepC at *
  simp only [hj] at *
  rw [wanted_put oj a oi.dst v h1] at h
  split
  · rename_i hw
    simp only [hw, if_true] at h
    refine Oper.wp_mono (fun a' w' hk => ?_) (wp_put (G := Yq ops D oi v) h1 h2 hsj keep keepd h)
    exact ⟨hk.2.1, hk.2.1, hk.1, hk.2.2⟩
  · rename_i hw
    simp only [hw] at h
    exact ⟨fun _ hc => hc, keep _, by rw [← Act.put_comm a v undef h2]; exact h⟩

theorem stepC_mono {j : Nat} {K K' : Act → World → Prop} {a : Act} {w : World} (hk : ∀ a' w', K a' w' → K' a' w') (h : stepC ops rs C j K a w) : stepC ops rs C j K' a w := by
  unfold stepC at *
  split
  · rename_i ho; simp only [ho] at h; exact hk _ _ h
  · rename_i o ho
    simp only [ho] at h
    split
    · rename_i hw; simp only [hw, if_true] at h; exact Oper.wp_mono (fun a' w' hh => ⟨hh.1, hk _ _ hh.2⟩) h
    · rename_i hw; simp only [hw] at h; exact hk _ _ h

theorem Yq.step {i : Nat} {oi : Oper} {v : Value} {a : Act} {w : World} {D : World → Prop} (hi : ops[i]? = some oi) (hy : Yq ops D oi v a) (hD : D w) {K : Act → World → Prop} (h : K (a.put oi.dst v) w) :
    stepC ops rs C i K a w := by
  unfold stepC
  simp only [hi]
  rcases hy with ⟨hw, hv⟩ | ⟨hw, rfl⟩
  · simp only [hw, if_true, Oper.wp, hv w hD, Oper.upon]
    exact ⟨fun _ hc => hc, h⟩
  · simp only [hw, Bool.false_eq_true, if_false]; exact h

theorem waits_dep {i j : Nat} {oj : Oper} (hw : waits ops rs j = true) (hj : ops[j]? = some oj) (hi : rs i = true) (his : i < ops.size) : ∃ e ∈ oj.after, Region.binds .any e = true ∧ e.on = i := by
  unfold waits at hw
  simp only [hj, List.all_eq_true, List.mem_range] at hw
  have := hw i his
  simp only [hi, Bool.not_true, Bool.false_or, Array.any_eq_true'] at this
  obtain ⟨e, he, hb⟩ := this
  simp only [Bool.and_eq_true] at hb
  exact ⟨e, he, hb.1, Nat.eq_of_beq_eq_true hb.2⟩

theorem ready_lt {i : Nat} {listed : Array Bool} (h : i ∈ Region.ready .any ops listed) : i < ops.size := by
  unfold Region.ready at h
  exact List.mem_range.1 (List.mem_filter.1 h).1

/-- an operation that may come up, and that yields its value in every world that may be met, may be taken first -/
theorem anyC_first {i : Nat} {oi : Oper} {v : Value} {D : World → Prop} (hi : ops[i]? = some oi) (hsel : ∀ (j : Nat) (o : Oper) cs b, ops[j]? = some o → o.op ≠ .select cs b)
    (hD : (∀ w, D w) ∨ (D = C ∧ rs i = true)) :
    ∀ (fuel : Nat) (listed : Array Bool) (a : Act) (w : World),
      (∀ j oj, ops[j]? = some oj → j ≠ i → listed.getD j true = false → (∀ e ∈ oj.after, Region.binds .any e = true → e.on ≠ i) → oi.apart ops oj = true) →
      i ∈ Region.ready .any ops listed → Yq ops D oi v a → D w →
      anyC ops rs C Qn fuel (listed.setIfInBounds i true) (a.put oi.dst v) w → anyC ops rs C Qn (fuel + 1) listed a w := by
  intro fuel
  induction fuel with
  | zero =>
    intro listed a w _ hr hy hDw H
    refine ⟨fun h => (by rw [h] at hr; cases hr), fun j hj => ?_⟩
    by_cases hji : j = i
    · subst hji; exact hy.step hi hDw H
    · have := ready_mono hj hji
      rw [H.1] at this
      cases this
  | succ fuel ih =>
    intro listed a w hfree hr hy hDw H
    refine ⟨fun h => (by rw [h] at hr; cases hr), fun j hj => ?_⟩
    by_cases hji : j = i
    · subst hji; exact hy.step hi hDw H
    · have h1 := H.2 j (ready_mono hj hji)
      obtain ⟨hjun, oj, hoj, hall⟩ := mem_ready.1 hj
      have hnot : ∀ e ∈ oj.after, Region.binds .any e = true → e.on ≠ i := fun e he hb heq => by
        have h1 := hall e he hb
        have h0 := (mem_ready.1 hr).1
        rw [heq] at h1
        rcases Nat.lt_or_ge i listed.size with h' | h'
        · simp [h'] at h0 h1; rw [h0] at h1; cases h1
        · simp [Array.getElem?_eq_none h'] at h1
      have h2 := stepC_put hoj (hfree j oj hoj hji hjun hnot) (fun cs b => hsel i oi cs b hi) (fun cs b => hsel j oj cs b hoj) hy h1
      have hfree' : ∀ k ok, ops[k]? = some ok → k ≠ i → (listed.setIfInBounds j true).getD k true = false →
          (∀ e ∈ ok.after, Region.binds .any e = true → e.on ≠ i) → oi.apart ops ok = true := fun k ok hk hki hun hno => by
        refine hfree k ok hk hki ?_ hno
        by_cases hjk : j = k
        · subst hjk; exact hjun
        · rw [getD_set_ne true hjk] at hun; exact hun
      refine stepC_mono (fun a' w' h3 => ih (listed.setIfInBounds j true) a' w' hfree' (ready_mono hr (Ne.symm hji)) h3.2.1 ?_ ?_) h2
      · rcases hD with hD | ⟨rfl, hri⟩
        · exact hD w'
        · refine h3.1 ?_ hDw
          cases hw : waits ops rs j with
          | false => rfl
          | true =>
            obtain ⟨e, he, hb, heq⟩ := waits_dep hw hoj hri (ready_lt hr)
            exact absurd heq (hnot e he hb)
      · rw [Array.setIfInBounds_comm _ _ hji]
        exact h3.2.2
end

/-! ### the walk, in an order of ours -/
def opAt : List Oper → Nat → Option Oper
  | [], _ => none
  | o :: _, 0 => some o
  | _ :: r, i + 1 => opAt r i

theorem opAt_eq : ∀ (l : List Oper) (i : Nat), opAt l i = l.toArray[i]?
  | [], i => by simp [opAt]
  | o :: r, 0 => by simp [opAt]
  | o :: r, i + 1 => by
    have := opAt_eq r i
    simp only [opAt, this]
    simp

def noSel (l : List Oper) : Bool := l.all fun o => match o.op with | .select _ _ => false | _ => true

def apartAll (ops : Array Oper) : Bool :=
  (List.range ops.size).all fun i => (List.range ops.size).all fun j =>
    Nat.beq i j || (match ops[i]?, ops[j]? with
      | some oi, some oj => (oj.after.any fun e => Region.binds .any e && Nat.beq e.on i) || (oi.after.any fun e => Region.binds .any e && Nat.beq e.on j) || oi.apart ops oj
      | _, _ => true)

/-- the order is such as the rules ask: 0 and 1: may come up; 2: nothing else may -/
def chk (ops : Array Oper) (rs : Nat → Bool) : List (Nat × Nat) → Array Bool → Bool
  | [], listed => (Region.ready .any ops listed).isEmpty
  | (k, i) :: r, listed => (match k with
      | 0 => (Region.ready .any ops listed).contains i
      | 1 => (Region.ready .any ops listed).contains i && rs i
      | _ => (match Region.ready .any ops listed with | [j] => Nat.beq i j | _ => false)) && chk ops rs r (listed.setIfInBounds i true)

def inR (ord : List (Nat × Nat)) (i : Nat) : Bool := ord.any fun p => Nat.beq p.1 1 && Nat.beq p.2 i

structure DW (n : Nat) (w0 : World) (l : List Oper) (rs : Nat → Bool) (Ms : Mem) (K : Exit → Env → Mem → Prop) (rest : List (Nat × Nat)) (E : Env) (M : Mem) : Prop where
  run : ∀ listed, apartAll l.toArray = true → noSel l = true → chk l.toArray rs rest listed = true → ∀ a w, Rep n E a → HR w0 M w →
    anyC l.toArray rs (HW w0 Ms) (fun a w => KX n w0 K .normal a w) rest.length listed a w

section
variable {n : Nat} {w0 : World} {K : Exit → Env → Mem → Prop} {E : Env} {M : Mem} {l : List Oper} {rs : Nat → Bool} {Ms : Mem} {rest : List (Nat × Nat)}

theorem noSel_at (h : noSel l = true) : ∀ (j : Nat) (o : Oper) cs b, l.toArray[j]? = some o → o.op ≠ .select cs b := by
  intro j o cs b hj he
  have hm : o ∈ l := by
    have := Array.mem_of_getElem? hj
    simpa using this
  have := (List.all_eq_true.1 h) o hm
  rw [he] at this
  cases this

theorem apartAll_at {ops : Array Oper} (h : apartAll ops = true) {i j : Nat} {oi oj : Oper} (hi : ops[i]? = some oi) (hj : ops[j]? = some oj) (hne : j ≠ i)
    (h1 : ∀ e ∈ oj.after, Region.binds .any e = true → e.on ≠ i) (h2 : ∀ e ∈ oi.after, Region.binds .any e = true → e.on ≠ j) : oi.apart ops oj = true := by
  have his : i < ops.size := by
    rcases Nat.lt_or_ge i ops.size with h' | h'
    · exact h'
    · simp [Array.getElem?_eq_none h'] at hi
  have hjs : j < ops.size := by
    rcases Nat.lt_or_ge j ops.size with h' | h'
    · exact h'
    · simp [Array.getElem?_eq_none h'] at hj
  have h0 := (List.all_eq_true.1 ((List.all_eq_true.1 h) i (List.mem_range.2 his))) j (List.mem_range.2 hjs)
  simp only [hi, hj, Bool.or_eq_true] at h0
  have no : ∀ (o : Oper) (k : Nat), (∀ e ∈ o.after, Region.binds .any e = true → e.on ≠ k) → ¬ (o.after.any fun e => Region.binds .any e && Nat.beq e.on k) = true := fun o k hh ha => by
    rw [Array.any_eq_true'] at ha
    obtain ⟨e, he, hb⟩ := ha
    simp only [Bool.and_eq_true] at hb
    exact hh e he hb.1 (Nat.eq_of_beq_eq_true hb.2)
  rcases h0 with h0 | (h0 | h0) | h0
  · exact absurd (Nat.eq_of_beq_eq_true h0).symm hne
  · exact absurd h0 (no oj i h1)
  · exact absurd h0 (no oi j h2)
  · exact h0

theorem ready_free {ops : Array Oper} {listed : Array Bool} (h : apartAll ops = true) {i : Nat} {oi : Oper} (hi : ops[i]? = some oi) (hr : i ∈ Region.ready .any ops listed) :
    ∀ j oj, ops[j]? = some oj → j ≠ i → listed.getD j true = false → (∀ e ∈ oj.after, Region.binds .any e = true → e.on ≠ i) → oi.apart ops oj = true := by
  intro j oj hj hne hun hno
  refine apartAll_at h hi hj hne hno fun e he hb heq => ?_
  obtain ⟨_, o', ho', hall⟩ := mem_ready.1 hr
  rw [hi] at ho'
  cases ho'
  have h1 := hall e he hb
  rw [heq] at h1
  rcases Nat.lt_or_ge j listed.size with h' | h'
  · simp [h'] at h1 hun; rw [hun] at h1; cases h1
  · simp [Array.getElem?_eq_none h'] at h1

theorem DW.nil (h : K .normal E M) : DW n w0 l rs Ms K [] E M := by
  refine ⟨fun listed _ _ hc a w ha hw => ?_⟩
  simp only [chk, List.isEmpty_iff] at hc
  exact ⟨hc, E, M, ha, hw, h⟩

/-- is a guard met? -/
def gok (l : List Oper) (E : Env) : Option (Nat × Bool) → Bool
  | none => true
  | some (j, b) => match (opAt l j).bind (·.dst) with
    | some t => match E.at? t with
      | some (.bool b') => b == b'
      | _ => false
    | none => false
def gno (l : List Oper) (E : Env) : Option (Nat × Bool) → Bool
  | none => false
  | some (j, b) => match (opAt l j).bind (·.dst) with
    | some t => match E.at? t with
      | some (.bool b') => b != b'
      | _ => false
    | none => false

theorem gok_wanted {o : Oper} {a : Act} (ha : Rep n E a) (h : gok l E o.guard = true) : Region.wanted o (yielded l.toArray a.tmps) = true := by
  unfold Region.wanted
  unfold gok at h
  split at h
  · rename_i hg; simp [hg]
  · rename_i j b hg
    simp only [hg]
    split at h
    · rename_i t ht
      split at h
      · rename_i b' hb
        rw [opAt_eq] at ht
        have h1 := ha.at_ t _ hb
        simp only [yielded, ht, Option.bind_some, h1]
        simpa using (beq_iff_eq.1 h).symm
      · cases h
    · cases h

theorem gno_wanted {o : Oper} {a : Act} (ha : Rep n E a) (h : gno l E o.guard = true) : Region.wanted o (yielded l.toArray a.tmps) = false := by
  unfold Region.wanted
  unfold gno at h
  split at h
  · cases h
  · rename_i j b hg
    simp only [hg]
    split at h
    · rename_i t ht
      split at h
      · rename_i b' hb
        rw [opAt_eq] at ht
        have h1 := ha.at_ t _ hb
        simp only [yielded, ht, Option.bind_some, h1]
        have : b ≠ b' := bne_iff_ne.1 h
        simpa using this.symm
      · cases h
    · cases h

theorem DW.first {i d : Nat} {op : Op} {ty : TypeId} {pos : String} {aft : Array Edge} {g : Option (Nat × Bool)} {v : Value} {D : World → Prop} {k : Nat} (ho : opAt l i = some ⟨some d, op, ty, pos, aft, g⟩) (hd : Nat.blt d n = true)
    (hk : k = 0 ∧ (∀ w, D w) ∨ k = 1 ∧ D = HW w0 Ms) (hDw : ∀ w, HR w0 M w → D w)
    (hy : ∀ a, Rep n E a → Yq l.toArray D ⟨some d, op, ty, pos, aft, g⟩ v a) (kk : DW n w0 l rs Ms K rest ((d, v) :: E) M) : DW n w0 l rs Ms K ((k, i) :: rest) E M := by
  refine ⟨fun listed hap hns hc a w ha hw => ?_⟩
  rw [opAt_eq] at ho
  have hnext := fun hc => kk.run (listed.setIfInBounds i true) hap hns hc (a.put (some d) v) w (ha.put (by simpa [Nat.blt_eq] using hd) v) hw
  rcases hk with ⟨rfl, hD⟩ | ⟨rfl, rfl⟩
  · simp only [chk, Bool.and_eq_true, List.contains_iff_mem] at hc
    exact anyC_first ho (noSel_at hns) (.inl hD) _ _ _ _ (ready_free hap ho hc.1) hc.1 (hy a ha) (hD w) (hnext hc.2)
  · simp only [chk, Bool.and_eq_true, List.contains_iff_mem] at hc
    exact anyC_first ho (noSel_at hns) (.inr ⟨rfl, hc.1.2⟩) _ _ _ _ (ready_free hap ho hc.1.1) hc.1.1 (hy a ha) (hDw w hw) (hnext hc.2)

/-- reckoned without memory -/
theorem DW.p {i d : Nat} {op : Op} {ty : TypeId} {pos : String} {aft : Array Edge} {g : Option (Nat × Bool)} {v : Value} (ho : opAt l i = some ⟨some d, op, ty, pos, aft, g⟩) (hg : gok l E g = true)
    (h : ∀ w0, LX n w0 ⟨some d, op, ty, pos, aft, g⟩ E [] v) (hd : Nat.blt d n = true) (k : DW n w0 l rs Ms K rest ((d, v) :: E) M) : DW n w0 l rs Ms K ((0, i) :: rest) E M :=
  DW.first (D := fun _ => True) ho hd (.inl ⟨rfl, fun _ => trivial⟩) (fun _ _ => trivial)
    (fun a ha => .inl ⟨gok_wanted ha hg, fun w _ => (h w).run a w ha ⟨Below.refl _ _, fun p hp => by simp at hp⟩⟩) k

/-- not carried out -/
theorem DW.skip {i d : Nat} {op : Op} {ty : TypeId} {pos : String} {aft : Array Edge} {g : Option (Nat × Bool)} (ho : opAt l i = some ⟨some d, op, ty, pos, aft, g⟩) (hg : gno l E g = true)
    (hd : Nat.blt d n = true) (k : DW n w0 l rs Ms K rest ((d, undef) :: E) M) : DW n w0 l rs Ms K ((0, i) :: rest) E M :=
  DW.first (D := fun _ => True) ho hd (.inl ⟨rfl, fun _ => trivial⟩) (fun _ _ => trivial) (fun _ ha => .inr ⟨gno_wanted ha hg, rfl⟩) k

/-- read from memory of the class -/
theorem DW.r {i d : Nat} {op : Op} {ty : TypeId} {pos : String} {aft : Array Edge} {g : Option (Nat × Bool)} {v : Value} (ho : opAt l i = some ⟨some d, op, ty, pos, aft, g⟩) (hg : gok l E g = true)
    (h : LX n w0 ⟨some d, op, ty, pos, aft, g⟩ E Ms v) (hs : ∀ p ∈ Ms, p ∈ M) (hd : Nat.blt d n = true) (k : DW n w0 l rs Ms K rest ((d, v) :: E) M) : DW n w0 l rs Ms K ((1, i) :: rest) E M :=
  DW.first (D := HW w0 Ms) ho hd (.inr ⟨rfl, rfl⟩) (fun _ hw => hw.hw_sub hs) (fun a ha => .inl ⟨gok_wanted ha hg, fun w hw => h.run a w ha hw⟩) k

theorem DW.forced {i : Nat} {dst : Option Nat} {op : Op} {ty : TypeId} {pos : String} {aft : Array Edge} {g : Option (Nat × Bool)} {R : Value → Mem → Prop} (ho : opAt l i = some ⟨dst, op, ty, pos, aft, g⟩) (hg : gok l E g = true)
    (h : EX n w0 ⟨dst, op, ty, pos, aft, g⟩ E M R) (hd : ∀ d, dst = some d → d < n)
    (k : ∀ v M', R v M' → (waits l.toArray rs i = false → ∀ p ∈ Ms, p ∈ M') ∧ DW n w0 l rs Ms K rest (pushE dst v E) M') :
    DW n w0 l rs Ms K ((2, i) :: rest) E M := by
  refine ⟨fun listed hap hns hc a w ha hw => ?_⟩
  rw [opAt_eq] at ho
  simp only [chk, Bool.and_eq_true] at hc
  obtain ⟨hc1, hc2⟩ := hc
  have hr : Region.ready .any l.toArray listed = [i] := by
    split at hc1
    · rename_i j hj; rw [hj, Nat.eq_of_beq_eq_true hc1]
    · cases hc1
  refine ⟨fun h0 => (by rw [hr] at h0; cases h0), fun j hj => ?_⟩
  rw [hr, List.mem_singleton] at hj
  subst hj
  unfold stepC
  simp only [ho]
  rw [if_pos (gok_wanted ha hg)]
  refine h.run a w ha hw _ _ fun v M' w' hR hw' => ?_
  obtain ⟨k1, k2⟩ := k v M' hR
  refine ⟨fun hwt _ => hw'.hw_sub (k1 hwt), k2.run _ hap hns hc2 _ _ (ha.putd v hd) hw'⟩

/-- a step that only it may come up; what the class speaks of stays -/
theorem DW.f {i d : Nat} {op : Op} {ty : TypeId} {pos : String} {aft : Array Edge} {g : Option (Nat × Bool)} {R : Value → Mem → Prop} (ho : opAt l i = some ⟨some d, op, ty, pos, aft, g⟩) (hg : gok l E g = true)
    (h : EX n w0 ⟨some d, op, ty, pos, aft, g⟩ E M R) (hd : Nat.blt d n = true) (k : ∀ v M', R v M' → (∀ p ∈ Ms, p ∈ M') ∧ DW n w0 l rs Ms K rest ((d, v) :: E) M') : DW n w0 l rs Ms K ((2, i) :: rest) E M :=
  DW.forced ho hg h (fun e he => by cases he; simpa [Nat.blt_eq] using hd) fun v M' hR => ⟨fun _ => (k v M' hR).1, (k v M' hR).2⟩
theorem DW.f0 {i : Nat} {op : Op} {ty : TypeId} {pos : String} {aft : Array Edge} {g : Option (Nat × Bool)} {R : Value → Mem → Prop} (ho : opAt l i = some ⟨none, op, ty, pos, aft, g⟩) (hg : gok l E g = true)
    (h : EX n w0 ⟨none, op, ty, pos, aft, g⟩ E M R) (k : ∀ v M', R v M' → (∀ p ∈ Ms, p ∈ M') ∧ DW n w0 l rs Ms K rest E M') : DW n w0 l rs Ms K ((2, i) :: rest) E M :=
  DW.forced ho hg h (fun e he => by cases he) fun v M' hR => ⟨fun _ => (k v M' hR).1, (k v M' hR).2⟩
/-- a step that only it may come up, behind all that reads -/
theorem DW.t {i d : Nat} {op : Op} {ty : TypeId} {pos : String} {aft : Array Edge} {g : Option (Nat × Bool)} {R : Value → Mem → Prop} (ho : opAt l i = some ⟨some d, op, ty, pos, aft, g⟩) (hg : gok l E g = true)
    (h : EX n w0 ⟨some d, op, ty, pos, aft, g⟩ E M R) (hd : Nat.blt d n = true) (hw : waits l.toArray rs i = true) (k : ∀ v M', R v M' → DW n w0 l rs Ms K rest ((d, v) :: E) M') : DW n w0 l rs Ms K ((2, i) :: rest) E M :=
  DW.forced ho hg h (fun e he => by cases he; simpa [Nat.blt_eq] using hd) fun v M' hR => ⟨fun hw' => (by rw [hw] at hw'; cases hw'), k v M' hR⟩
theorem DW.t0 {i : Nat} {op : Op} {ty : TypeId} {pos : String} {aft : Array Edge} {g : Option (Nat × Bool)} {R : Value → Mem → Prop} (ho : opAt l i = some ⟨none, op, ty, pos, aft, g⟩) (hg : gok l E g = true)
    (h : EX n w0 ⟨none, op, ty, pos, aft, g⟩ E M R) (hw : waits l.toArray rs i = true) (k : ∀ v M', R v M' → DW n w0 l rs Ms K rest E M') : DW n w0 l rs Ms K ((2, i) :: rest) E M :=
  DW.forced ho hg h (fun e he => by cases he) fun v M' hR => ⟨fun hw' => (by rw [hw] at hw'; cases hw'), k v M' hR⟩

section
variable {M' : Mem} {u0 : Value} {i d : Nat} {op : Op} {ty : TypeId} {pos : String} {aft : Array Edge} {g : Option (Nat × Bool)}
theorem DW.fput (ho : opAt l i = some ⟨none, op, ty, pos, aft, g⟩) (hg : gok l E g = true) (h : EX n w0 ⟨none, op, ty, pos, aft, g⟩ E M (fun u M'' => u = u0 ∧ M'' = M')) (hs : ∀ p ∈ Ms, p ∈ M')
    (k : DW n w0 l rs Ms K rest E M') : DW n w0 l rs Ms K ((2, i) :: rest) E M := DW.f0 ho hg h fun _ _ ⟨_, h2⟩ => by subst h2; exact ⟨hs, k⟩
theorem DW.fval (ho : opAt l i = some ⟨some d, op, ty, pos, aft, g⟩) (hg : gok l E g = true) (h : EX n w0 ⟨some d, op, ty, pos, aft, g⟩ E M (fun u M'' => u = u0 ∧ M'' = M')) (hs : ∀ p ∈ Ms, p ∈ M')
    (hd : Nat.blt d n = true) (k : DW n w0 l rs Ms K rest ((d, u0) :: E) M') : DW n w0 l rs Ms K ((2, i) :: rest) E M := DW.f ho hg h hd fun _ _ ⟨h1, h2⟩ => by subst h1; subst h2; exact ⟨hs, k⟩
theorem DW.tput (ho : opAt l i = some ⟨none, op, ty, pos, aft, g⟩) (hg : gok l E g = true) (h : EX n w0 ⟨none, op, ty, pos, aft, g⟩ E M (fun u M'' => u = u0 ∧ M'' = M')) (hw : waits l.toArray rs i = true)
    (k : DW n w0 l rs Ms K rest E M') : DW n w0 l rs Ms K ((2, i) :: rest) E M := DW.t0 ho hg h hw fun _ _ ⟨_, h2⟩ => by subst h2; exact k
theorem DW.tval (ho : opAt l i = some ⟨some d, op, ty, pos, aft, g⟩) (hg : gok l E g = true) (h : EX n w0 ⟨some d, op, ty, pos, aft, g⟩ E M (fun u M'' => u = u0 ∧ M'' = M')) (hw : waits l.toArray rs i = true)
    (hd : Nat.blt d n = true) (k : DW n w0 l rs Ms K rest ((d, u0) :: E) M') : DW n w0 l rs Ms K ((2, i) :: rest) E M := DW.t ho hg h hd hw fun _ _ ⟨h1, h2⟩ => by subst h1; subst h2; exact k
end

theorem follows_mixed : P.follows .mixedOrders = true := by kernel_rfl

/-- a region whose order is open: by an order of ours -/
theorem WC.draw {id : Nat} (ord : List (Nat × Nat)) (Ms : Mem) (hlen : ord.length = l.length) (hap : apartAll l.toArray = true) (hns : noSel l = true)
    (hc : chk l.toArray (inR ord) ord (Array.replicate l.length false) = true) (h : DW n w0 l (inR ord) Ms K ord E M) : WC n w0 (.region id l.toArray true) K E M := by
  refine ⟨fun a w ha hw => ?_⟩
  refine wp_region_any follows_mixed ?_
  have h1 := h.run _ hap hns hc a { w with drawn := w.drawn + 1 } ha ⟨hw.below.drew, hw.nodup, hw.has⟩
  have := anyC_sound (Q := KX n w0 K) (fun _ _ hq => hq) _ _ _ _ h1
  rw [hlen] at this
  simpa using this
end
end Go.Proofs.YtdnngppofbmpeaaGreatDoor.Bm
namespace Go.Proofs.YtdnngppofbmpeaaGreatDoor.Bm
open Go Go.RowKit

/-! ## memory in another order -/
inductive Rem : Mem → Nat × Obj → Mem → Prop
  | here {e : Nat × Obj} {M : Mem} : Rem (e :: M) e M
  | there {p e : Nat × Obj} {M M' : Mem} : Rem M e M' → Rem (p :: M) e (p :: M')

theorem Rem.perm {M M' : Mem} {e : Nat × Obj} (h : Rem M e M') : (e :: M').Perm M := by
  induction h with
  | here => exact List.Perm.refl _
  | there _ ih => exact (List.Perm.swap _ _ _).trans (ih.cons _)

/-- N is M in another order -/
structure Pm (M N : Mem) : Prop where
  perm : N.Perm M
theorem Pm.done {M : Mem} : Pm M M := ⟨List.Perm.refl _⟩
theorem Pm.step {M M' N : Mem} {e : Nat × Obj} (h : Rem M e M') (k : Pm M' N) : Pm M (e :: N) := ⟨(k.perm.cons e).trans h.perm⟩

section
variable {n : Nat} {w0 : World} {K : Exit → Env → Mem → Prop} {E : Env} {M N : Mem} {ops : Array Oper} {rest : List Oper}

theorem CS.pm {f : FuncId} {args : List Value} {R : Value → Mem → Prop} (hp : Pm M N) (h : CS w0 f args N R) : CS w0 f args M R :=
  ⟨fun w hw => h.run w (hw.perm hp.perm)⟩
theorem WC.pm {c : Code} (hp : Pm M N) (h : WC n w0 c K E N) : WC n w0 c K E M := ⟨fun a w ha hw => h.run a w ha (hw.perm hp.perm)⟩
theorem EX.pm {o : Oper} {R : Value → Mem → Prop} (hp : Pm M N) (h : EX n w0 o E N R) : EX n w0 o E M R := ⟨fun a w ha hw => h.run a w ha (hw.perm hp.perm)⟩

/-- memory's keys are different -/
theorem WC.nodup {c : Code} (h : (M.map (·.1)).Nodup → WC n w0 c K E M) : WC n w0 c K E M := ⟨fun a w ha hw => (h hw.nodup).run a w ha hw⟩
theorem CS.nodup {f : FuncId} {args : List Value} {R : Value → Mem → Prop} (h : (M.map (·.1)).Nodup → CS w0 f args M R) : CS w0 f args M R := ⟨fun w hw => (h hw.nodup).run w hw⟩
/-- what is known of memory may be forgotten -/
theorem CS.post {f : FuncId} {args : List Value} {R : Value → Mem → Prop} {R' : Value → Mem → Prop} (h : CS w0 f args M R) (hr : ∀ v M', R v M' → ∃ M'', M''.Sublist M' ∧ R' v M'') : CS w0 f args M R' :=
  ⟨fun w hw => (h.run w hw).mono fun _ _ ⟨v, M', he, hh, hR⟩ => let ⟨M'', hs, hR'⟩ := hr _ _ hR; ⟨v, M'', he, hh.sub hs, hR'⟩⟩
theorem CS.perm {f : FuncId} {args : List Value} {R : Value → Mem → Prop} {R' : Value → Mem → Prop} (h : CS w0 f args M R) (hr : ∀ v M', R v M' → ∃ M'', M''.Perm M' ∧ R' v M'') : CS w0 f args M R' :=
  ⟨fun w hw => (h.run w hw).mono fun _ _ ⟨v, M', he, hh, hR⟩ => let ⟨M'', hs, hR'⟩ := hr _ _ hR; ⟨v, M'', he, hh.perm hs, hR'⟩⟩

/-- a call that leaves the memory alone -/
theorem WL.call {f : FuncId} {args : Array Operand} {ats : Array TypeId} {vs : List Value} {d : Nat} {ty : TypeId} {pos : String} {aft : Array Edge} {v : Value} (hc : CS w0 f vs M (fun u M' => u = v ∧ M' = M)) (he : evs E args.toList = some vs)
    (hf : ∀ w, (callFunc f vs.toArray).run P w = .ok (.enter f vs.toArray) w) (hd : Nat.blt d n = true) (k : WL n w0 ops K rest ((d, v) :: E) M) :
    WL n w0 ops K (⟨some d, .call ⟨.value (.func f), args, ats⟩, ty, pos, aft, none⟩ :: rest) E M :=
  WL.step hd (EX.call he hf hc) fun _ _ ⟨h1, h2⟩ => by subst h1; subst h2; exact k

/-- a call, told by what it leaves -/
theorem WL.callR {f : FuncId} {args : Array Operand} {ats : Array TypeId} {vs : List Value} {d : Nat} {ty : TypeId} {pos : String} {aft : Array Edge} {R : Value → Mem → Prop} (hc : CS w0 f vs M R) (he : evs E args.toList = some vs)
    (hf : ∀ w, (callFunc f vs.toArray).run P w = .ok (.enter f vs.toArray) w) (hd : Nat.blt d n = true) (k : ∀ v M', R v M' → WL n w0 ops K rest ((d, v) :: E) M') :
    WL n w0 ops K (⟨some d, .call ⟨.value (.func f), args, ats⟩, ty, pos, aft, none⟩ :: rest) E M :=
  WL.step hd (EX.call he hf hc) k
end

/-- a test that is a proposition -/
theorem WC.test {n : Nat} {w0 : World} {K : Exit → Env → Mem → Prop} {E : Env} {M : Mem} {c : Operand} {x y : Code} {p : Prop} [Decidable p] (hc : ev E c = some (.bool (decide p)))
    (ht : p → WC n w0 x K E M) (hf : ¬ p → WC n w0 y K E M) : WC n w0 (.cond c x y) K E M :=
  WC.cond hc (fun h => ht (of_decide_eq_true h)) (fun h => hf (of_decide_eq_false h))
theorem WC.testN {n : Nat} {w0 : World} {K : Exit → Env → Mem → Prop} {E : Env} {M : Mem} {c : Operand} {x y : Code} {p : Prop} [Decidable p] (hc : ev E c = some (.bool (!decide p)))
    (ht : ¬ p → WC n w0 x K E M) (hf : p → WC n w0 y K E M) : WC n w0 (.cond c x y) K E M :=
  WC.cond hc (fun h => ht (by simpa using h)) (fun h => hf (by simpa using h))

/-- a number of bigmod: its words lie in block l, n of them announced, c there -/
def natO (l n c : Nat) : Obj := .cells #[.slice (some ⟨l, 0, none⟩) n c] 83
/-- its words -/
abbrev words (xs : List Int) : Obj := row .u64 53 xs
def ptr (b : Nat) : Value := .pointer (some ⟨b, 0, none⟩)
end Go.Proofs.YtdnngppofbmpeaaGreatDoor.Bm
