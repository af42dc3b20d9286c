/- Proved here: the law of append to a slice of the own call. No conditions but those that each theorem states. -/
import Derived.Test.YtdnngppofbmpeaaDoorBase5
namespace Go.Proofs.YtdnngppofbmpeaaDoor.Bm
open Go Go.RowKit

/-! ## append -/
/-- elements: the zero value, and bytes -/
def ez : Nat → Option (Value × Nat)
  | 47 => some (.int .u64 0, 8)
  | 48 => some (.int .u64 0, 8)
  | 3 => some (.int .i64 0, 8)
  | 5 => some (.int .u8 0, 1)
  | 4 => some (.bool false, 1)
  | 44 => some (.slice none 0 0, 24)
  | 31 => some (.pointer none, 8)
  | 41 => some (.pointer none, 8)
  | _ => none

theorem ez_ok {e s : Nat} {z : Value} (h : ez e = some (z, s)) (w : World) : (zeroValue e).run P w = .ok z w ∧ (typeInfo e).run P w = .ok ((P.info? e).getD default) w ∧ ((P.info? e).getD default).bytes = s ∧ s ≤ 24 ∧ z.oneCell' = true := by
  unfold ez at h
  split at h <;> first | (cases h; exact ⟨by kernel_rfl, by kernel_rfl, by kernel_rfl, by decide, rfl⟩) | cases h

/-- the slice v, of the call's own or nil, reads as l, all its cells being such as G says; M0: the rest of the memory -/
def Own (G : Value → Prop) (T : TypeId) (v : Value) (l : List Value) (M0 M : Mem) : Prop :=
  (v = .slice none 0 0 ∧ l = [] ∧ M = M0) ∨
  ∃ (b : Nat) (c : List Value), v = .slice (some ⟨b, 0, none⟩) l.length c.length ∧ l.length ≤ c.length ∧ c.take l.length = l ∧ M = (b, .cells c.toArray T (0, 0)) :: M0 ∧ ∀ u ∈ c, G u

theorem growBy_le (m : Nat) : ∀ r c, Builtin.growBy m r c ≤ 2 ^ r * (c + 768)
  | 0, c => by simp [Builtin.growBy]
  | r + 1, c => by
    unfold Builtin.growBy
    split
    · have : 1 ≤ 2 ^ (r + 1) := Nat.one_le_two_pow
      have h4 := Nat.mul_le_mul_right (c + 768) this
      rw [Nat.one_mul] at h4
      exact Nat.le_trans (Nat.le_add_right c 768) h4
    · have h1 := growBy_le m r (c + (c + 768) / 4)
      have h2 : 2 ^ r * (c + (c + 768) / 4 + 768) ≤ 2 ^ r * (2 * (c + 768)) := Nat.mul_le_mul_left _ (by omega)
      have h3 : 2 ^ r * (2 * (c + 768)) = 2 ^ (r + 1) * (c + 768) := by rw [Nat.pow_succ, Nat.mul_assoc]
      rw [← h3]; exact Nat.le_trans h1 h2

theorem nextcap_le {need old : Nat} (h : need ≤ 2147483648) (h' : old < need) : Builtin.nextslicecap need old ≤ 34359750656 := by
  unfold Builtin.nextslicecap
  split
  · omega
  · split
    · omega
    · have h2 := growBy_le need 4 old
      have h1 : (2 : Nat) ^ 4 = 16 := by decide
      rw [h1] at h2
      exact Nat.le_trans h2 (by omega)

theorem zeroCells_one (z : Value) (hz : z.oneCell' = true) (n : Nat) : Builtin.zeroCells z.cells n = (List.replicate n z).toArray := by
  rw [one_cells hz]
  unfold Builtin.zeroCells
  apply Array.ext
  · simp
  · intro j hj hj'
    simp [Nat.mod_one]

section
variable {n : Nat} {w0 : World} {K : Exit → Env → Mem → Prop} {E : Env} {M M0 : Mem} {dst : Option Nat} {ty : TypeId} {pos : String} {aft : Array Edge} {g : Option (Nat × Bool)}

/-- the memory that a drawn answer leaves -/
theorem HR.drawn {w : World} (h : HR w0 M w) : HR w0 M { w with drawn := w.drawn + 1 } := ⟨h.below.drew, h.nodup, h.has⟩

theorem append_grows {t t' e s : Nat} {ty' : TypeId} {z : Value} {base : Option Addr} {len cap : Nat} {x : Value} {m : Nat} {old new : List Value} (ht : sl t = some (e, 1)) (ht' : sl t' = some (e, 1)) (he : ez e = some (z, s))
    (hx : ∀ w, (Builtin.lenOf x).run P w = .ok m w) (hneed : cap < len + m) (hsmall : len + m ≤ 2147483648) (w : World)
    (hold : ∀ d, (Builtin.firstCells 1 len (.slice base len cap)).run P { w with drawn := d } = .ok old.toArray { w with drawn := d })
    (hnew : ∀ d, (Builtin.firstCells 1 m x).run P { w with drawn := d } = .ok new.toArray { w with drawn := d }) (hol : old.length = len) (hnl : new.length = m) :
    ∃ q, len + m ≤ q ∧ (Builtin.append_ #[t, t'] ty' #[.slice base len cap, x]).run P w =
      .ok (.slice (some ⟨w.heap.size, 0, none⟩) (len + m) q) (({ w with drawn := w.drawn + 1 } : World).alloc (.cells (old ++ new ++ List.replicate (q - (len + m)) z).toArray e)) := by
  obtain ⟨h3, h4, h5, h6, h7⟩ := ez_ok he w
  have h1 := fun w => (sl_ok ht w).1
  have h2 := fun w => (sl_ok ht w).2
  have h1' := fun w => (sl_ok ht' w).1
  have hz := fun w => (ez_ok he w).1
  have hi := fun w => (ez_ok he w).2.1
  have hc := nextcap_le hsmall hneed
  have e1 : ¬ (len + m ≤ cap) := by omega
  have e2 : ¬ (((len + m : Nat) : Int) > IntKind.i64.max ∧ ((P.info? e).getD default).bytes = 0) := by
    intro h
    have h8 := h.1
    have : IntKind.i64.max = 9223372036854775807 := rfl
    omega
  have e3 : ¬ (Builtin.nextslicecap (len + m) cap * ((P.info? e).getD default).bytes > 2 ^ 48) := by
    have h8 : Builtin.nextslicecap (len + m) cap * ((P.info? e).getD default).bytes ≤ 34359750656 * 24 := Nat.mul_le_mul hc (by omega)
    omega
  refine ⟨(Question.appendCap (len + m) cap e).cut (w.tape w.drawn (.appendCap (len + m) cap e)), by simp [Question.cut], ?_⟩
  unfold Builtin.append_
  simp only [List.getElem?_toArray, List.getElem?_cons_zero, List.getElem?_cons_succ, Sem.run_bind, h1, Result.andThen_ok, h2, h1', Sem.run_pure, Bool.false_eq_true, if_false, hx, e1, Sem.run_ite, hi, false_or, e2, e3]
  simp only [run_choose, Question.forced, Bool.false_eq_true, if_false, Result.andThen_ok, run_askRoom, hold, hnew, hz, zeroCells_one z h7, newRow, Sem.run_bind, run_newObj, Sem.run_pure]
  simp
  refine congrArg (fun c => w.drew.alloc (Obj.cells c e)) ?_
  apply Array.toList_inj.1
  simp

theorem firstCells_run {b o T k c' : Nat} {c l : List Value} {fr : Nat × Nat} {w : World} (h : w.heap[b]? = some (.cells c.toArray T fr)) (hl : o + k ≤ c.length) (he : sliceL c o k = l) (n : Nat) (d : Nat) :
    (Builtin.firstCells 1 k (.slice (some ⟨b, o, none⟩) n c')).run P { w with drawn := d } = .ok l.toArray { w with drawn := d } := by
  have := loadCells_run (o := o) (w := { w with drawn := d }) h k 0 #[] (by simpa using hl)
  simp only [Builtin.firstCells, loadCells, Nat.mul_one]
  rw [this, Nat.add_zero]
  subst he
  simp [sliceL]

/-- append(v, x..): v of the call's own, x read from elsewhere -/
theorem EX.append {G : Value → Prop} {t t' e s : Nat} {x y : Operand} {ats : Array TypeId} {z v : Value} {l ds d : List Value} {by' oy m capy T' : Nat} {fr : Nat × Nat} (hx : ev E x = some v) (hv : Own G e v l M0 M) (hy : ev E y = some (.slice (some ⟨by', oy, none⟩) m capy))
    (ha : ats = #[t, t']) (ht : sl t = some (e, 1)) (ht' : sl t' = some (e, 1)) (he : ez e = some (z, s)) (hGz : G z) (hGd : ∀ u ∈ ds, G u) (hm : ∀ w, HW w0 M w → w.heap[by']? = some (.cells d.toArray T' fr)) (hd : oy + m ≤ d.length) (hds : sliceL d oy m = ds) (h1 : ∀ u ∈ ds, u.oneCell' = true)
    (hsmall : l.length + m ≤ 2147483648) :
    EX n w0 ⟨dst, .call ⟨.builtin .append, #[x, y], ats⟩, ty, pos, aft, g⟩ E M (fun u M' => Own G e u (l ++ ds) M0 M') := by
  refine ⟨fun a w hr hw K Q hk => ?_⟩
  have e1 := hr.eval hx
  have e2 := hr.eval hy
  have hml : ds.length = m := by rw [← hds]; exact sliceL_length _ _ _ hd
  subst ha
  have hsrc := hm w hw.hw
  have hnew := fun d' => firstCells_run hsrc hd hds m (c' := capy) d'
  have key : ∀ u w', (Builtin.append_ #[t, t'] ty #[v, .slice (some ⟨by', oy, none⟩) m capy]).run P w = .ok u w' → ∀ M', Own G e u (l ++ ds) M0 M' → HR w0 M' w' → Oper.wp P ⟨dst, .call ⟨.builtin .append, #[x, y], #[t, t']⟩, ty, pos, aft, g⟩ a w K Q := by
    intro u w' hrun M' hown hw'
    have hr2 : (execOp a.eval ⟨dst, .call ⟨.builtin .append, #[x, y], #[t, t']⟩, ty, pos, aft, g⟩).run P w = .ok (.value u) w' := by
      simp only [execOp, resolve, invoke, builtin]
      simp only [List.map_toArray, List.map_cons, List.map_nil, e1, e2, Sem.run_bind, Sem.run_pure, Result.andThen_ok, hrun]
    unfold Oper.wp
    rw [hr2, Oper.upon_value]
    exact hk _ M' _ hown hw'
  have small : ∀ (base : Option Addr) (len cap : Nat), len + m ≤ cap → (∀ w', (match base with | some a => storeCells (a.add (len * 1)) ds | none => pure ()).run P w = .ok () w' →
      (Builtin.append_ #[t, t'] ty #[.slice base len cap, .slice (some ⟨by', oy, none⟩) m capy]).run P w = .ok (.slice base (len + m) cap) w') := by
    intro base len cap hle w' hst
    have g1 := (sl_ok ht w).1
    have g2 := (sl_ok ht w).2
    have g3 := (sl_ok ht' w).1
    have g4 := hnew w.drawn
    unfold Builtin.append_
    simp only [List.getElem?_toArray, List.getElem?_cons_zero, List.getElem?_cons_succ, Sem.run_bind, g1, Result.andThen_ok, g2, g3, Sem.run_pure, Bool.false_eq_true, if_false, Builtin.lenOf, hle, if_true, Bool.not_false]
    rw [show ({ w with drawn := w.drawn } : World) = w from rfl] at g4
    simp only [g4, Result.andThen_ok]
    cases base with
    | none => simp only [Sem.run_pure, Result.andThen_ok] at hst ⊢; cases hst; rfl
    | some a => simp only [] at hst ⊢; simp only [Sem.run_bind, hst, Result.andThen_ok, Sem.run_pure]
  rcases hv with ⟨rfl, rfl, rfl⟩ | ⟨b, c, rfl, hlc, htk, rfl, hG⟩
  · by_cases h0 : m = 0
    · subst h0
      have : ds = [] := List.length_eq_zero_iff.1 hml
      subst this
      exact key _ w (small none 0 0 (by omega) w rfl) M (.inl ⟨rfl, rfl, rfl⟩) hw
    · obtain ⟨q, hq, hrun⟩ := append_grows (ty' := ty) (base := none) (len := 0) (cap := 0) (x := .slice (some ⟨by', oy, none⟩) m capy) (m := m) (old := []) (new := ds) ht ht' he (fun w => rfl) (by omega) (by simpa using hsmall) w (fun d => rfl) hnew rfl hml
      refine key _ _ hrun _ (.inr ⟨w.heap.size, [] ++ ds ++ List.replicate (q - (0 + m)) z, ?_, ?_, ?_, rfl, fun u hu => ?_⟩) (hw.drawn.alloc _)
      · simp [hml]; omega
      · simp
      · simp
      · simp only [List.nil_append, List.mem_append, List.mem_replicate] at hu
        rcases hu with hu | ⟨_, rfl⟩
        · exact hGd u hu
        · exact hGz
  · by_cases hle : l.length + m ≤ c.length
    · obtain ⟨w', h3, h4, h5⟩ := storeCells_run (b := b) (o := l.length) (T := e) ds 0 c w (hw.has _ List.mem_cons_self).2 (by rw [hml]; simpa using hle) h1
      refine key _ w' (small (some ⟨b, 0, none⟩) l.length c.length hle w' ?_) ((b, .cells (putL c l.length ds).toArray e (0, 0)) :: M0) (.inr ⟨b, putL c l.length ds, ?_, ?_, ?_, rfl, fun u hu => ?_⟩) (hw.but List.mem_cons_self .here h5 (by simpa using h4))
      · simp only [Nat.mul_one, add_addr, Nat.zero_add]; exact h3
      · rw [putL_length _ _ _ (by omega)]; simp [hml]
      · rw [putL_length _ _ _ (by omega)]; simp [hml]; exact hle
      · unfold putL
        rw [htk, List.take_append_of_le_length (by simp)]
        exact List.take_length
      · unfold putL at hu
        simp only [List.mem_append] at hu
        rcases hu with (hu | hu) | hu
        · exact hG u (List.mem_of_mem_take hu)
        · exact hGd u hu
        · exact hG u (List.mem_of_mem_drop hu)
    · have hold := fun d' => firstCells_run (o := 0) (c' := c.length) (hw.has _ List.mem_cons_self).2 (by simpa using hlc) (show sliceL c 0 l.length = l by simpa [sliceL] using htk) l.length d'
      obtain ⟨q, hq, hrun⟩ := append_grows (ty' := ty) (base := some ⟨b, 0, none⟩) (len := l.length) (cap := c.length) (x := .slice (some ⟨by', oy, none⟩) m capy) (m := m) (old := l) (new := ds) ht ht' he (fun w => rfl) (by omega) hsmall w hold hnew rfl hml
      refine key _ _ hrun ((w.heap.size, .cells (l ++ ds ++ List.replicate (q - (l.length + m)) z).toArray e (0, 0)) :: M0) (.inr ⟨w.heap.size, l ++ ds ++ List.replicate (q - (l.length + m)) z, ?_, ?_, ?_, rfl, fun u hu => ?_⟩) ((hw.drawn.alloc _).sub (.cons_cons _ (.cons _ (List.Sublist.refl _))))
      · simp [hml]; omega
      · simp
      · rw [List.take_append_of_le_length (Nat.le_refl _), List.take_length]
      · simp only [List.mem_append, List.mem_replicate] at hu
        rcases hu with (hu | hu) | ⟨_, rfl⟩
        · exact hG u (by rw [← htk] at hu; exact List.mem_of_mem_take hu)
        · exact hGd u hu
        · exact hGz

/-- append(v, x..), x being empty -/
theorem LX.append0 {t t' e : Nat} {x y : Operand} {ats : Array TypeId} {base : Option Addr} {len cap capy : Nat} {A : Option Addr} (hx : ev E x = some (.slice base len cap)) (hlc : len ≤ cap) (hy : ev E y = some (.slice A 0 capy))
    (ha : ats = #[t, t']) (ht : sl t = some (e, 1)) (ht' : sl t' = some (e, 1)) : LX n w0 ⟨dst, .call ⟨.builtin .append, #[x, y], ats⟩, ty, pos, aft, g⟩ E M (.slice base len cap) := by
  refine ⟨fun a w hr _ => ?_⟩
  have e1 := hr.eval hx
  have e2 := hr.eval hy
  subst ha
  have g1 := (sl_ok ht w).1
  have g2 := (sl_ok ht w).2
  have g3 := (sl_ok ht' w).1
  have hrun : (Builtin.append_ #[t, t'] ty #[.slice base len cap, .slice A 0 capy]).run P w = .ok (.slice base len cap) w := by
    unfold Builtin.append_
    simp only [List.getElem?_toArray, List.getElem?_cons_zero, List.getElem?_cons_succ, Sem.run_bind, g1, Result.andThen_ok, g2, g3, Sem.run_pure, Bool.false_eq_true, if_false, Builtin.lenOf, Nat.add_zero, hlc, if_true, Bool.not_false]
    cases A <;> cases base <;> simp [Builtin.firstCells, loadCells, loadCellsFrom, storeCells]
  simp only [execOp, resolve, invoke, builtin]
  simp only [List.map_toArray, List.map_cons, List.map_nil, e1, e2, Sem.run_bind, Sem.run_pure, Result.andThen_ok, hrun]

/-- a step whose end is told -/
theorem WL.appendOwn {ops : Array Oper} {rest : List Oper} {op : Op} {d : Nat} {R : Value → Mem → Prop} (h : EX n w0 ⟨some d, op, ty, pos, aft, Option.none⟩ E M R) (hd : Nat.blt d n = true) (k : ∀ v M', R v M' → WL n w0 ops K rest ((d, v) :: E) M') :
    WL n w0 ops K (⟨some d, op, ty, pos, aft, Option.none⟩ :: rest) E M := WL.step hd h k

theorem ints_of {k : IntKind} : ∀ {c : List Value}, (∀ u ∈ c, ∃ q, u = .int k q) → ∃ xs : List Int, c = xs.map (Value.int k)
  | [], _ => ⟨[], rfl⟩
  | v :: c, h => by
    obtain ⟨q, rfl⟩ := h v (by simp)
    obtain ⟨xs, rfl⟩ := ints_of (c := c) (fun u hu => h u (by simp [hu]))
    exact ⟨q :: xs, rfl⟩
end
end Go.Proofs.YtdnngppofbmpeaaDoor.Bm
