/- Proved here: the laws of the single operations that leave memory alone. No conditions but those that each theorem states. -/
import Derived.Test.YtdnngppofbmpeaaDoorBase1
import Derived.KernelRfl
namespace Go.Proofs.YtdnngppofbmpeaaDoor.Bm
open Go Go.RowKit

/-! ## types -/
def ik : Nat → Option IntKind
  | 3 => some .i64
  | 5 => some .u8
  | 48 => some .u64
  | 47 => some .u64
  | 66 => some .u64
  | 102 => some .u32
  | _ => none

theorem ik_ok {t : Nat} {k : IntKind} (h : ik t = some k) (w : World) : (underlying t).run P w = .ok (.int k) w := by
  unfold ik at h
  split at h <;> first | (cases h; kernel_rfl) | cases h

/-- slices: the elements' type, and how many cells one has -/
def sl : Nat → Option (Nat × Nat)
  | 45 => some (47, 1)
  | 44 => some (48, 1)
  | 22 => some (5, 1)
  | 24 => some (3, 1)
  | 27 => some (22, 1)
  | 23 => some (44, 1)
  | 29 => some (38, 7)
  | 30 => some (31, 1)
  | 40 => some (41, 1)
  | _ => none

theorem sl_ok {t e s : Nat} (h : sl t = some (e, s)) (w : World) : (underlying t).run P w = .ok (.slice e) w ∧ (sizeOf e).run P w = .ok s w := by
  unfold sl at h
  split at h <;> first | (cases h; exact ⟨by kernel_rfl, by kernel_rfl⟩) | cases h

/-- structs: how many cells lie before a field -/
def fo : Nat → Nat → Option Nat
  | 52, 0 => some 0
  | 76, 0 => some 0
  | 76, 1 => some 1
  | 76, 2 => some 2
  | 76, 3 => some 3
  | 38, 0 => some 0
  | 38, 1 => some 1
  | 38, 2 => some 2
  | 38, 3 => some 3
  | 38, 4 => some 4
  | 38, 5 => some 5
  | 38, 6 => some 6
  | _, _ => none

theorem add_addr (b o s : Nat) : (⟨b, o, none⟩ : Addr).add s = ⟨b, o + s, none⟩ := by
  unfold Addr.add
  split
  · rename_i h; subst h; rfl
  · rfl

theorem fo_ok {t f s : Nat} (h : fo t f = some s) (b o : Nat) (w : World) : (Instr.fieldAt t (.pointer (some ⟨b, o, none⟩)) f).run P w = .ok (.pointer (some ⟨b, o + s, none⟩)) w := by
  rw [← add_addr]
  unfold fo at h
  split at h <;> first | (cases h; kernel_rfl) | cases h

/-- types of one cell, read and written whole -/
def c1 : Nat → Bool
  | 3 => true
  | 5 => true
  | 48 => true
  | 47 => true
  | 4 => true
  | 45 => true
  | 44 => true
  | 22 => true
  | 24 => true
  | 41 => true
  | 31 => true
  | 23 => true
  | 9 => true
  | _ => false

theorem c1_ok {t : Nat} (h : c1 t = true) (w : World) : (isAgg t).run P w = .ok false w ∧ (sizeOf t).run P w = .ok 1 w := by
  unfold c1 at h
  split at h <;> first | (exact absurd h (by decide)) | exact ⟨by kernel_rfl, by kernel_rfl⟩

/-! ## operations that leave the world alone -/
def lAt {α : Type} : List α → Nat → Option α
  | [], _ => none
  | v :: _, 0 => some v
  | _ :: r, i + 1 => lAt r i

theorem lAt_eq {α : Type} : ∀ (l : List α) (i : Nat), lAt l i = l[i]?
  | [], i => by simp [lAt]
  | o :: r, 0 => by simp [lAt]
  | o :: r, i + 1 => by simp [lAt, lAt_eq r i]

def Obj.cell : Obj → Nat → Option Value
  | .cells c _ _, i => lAt c.toList i
  | _, _ => none

theorem cell_of {w : World} {b : Nat} {o : Obj} {i : Nat} {v : Value} (h : w.heap[b]? = some o) (hv : Obj.cell o i = some v) : w.cell? ⟨b, i, none⟩ = some v := by
  unfold World.cell?
  simp only [h]
  cases o with
  | cells c t f => simpa [Obj.cell, lAt_eq] using hv
  | _ => simp [Obj.cell] at hv

section
variable {n : Nat} {w0 : World} {E : Env} {M : Mem} {dst : Option Nat} {ty : TypeId} {pos : String} {aft : Array Edge} {g : Option (Nat × Bool)}

def evp (E : Env) : List (Nat × Operand) → Option (List (Nat × Value))
  | [] => some []
  | (i, x) :: r => match ev E x, evp E r with
    | some v, some vs => some ((i, v) :: vs)
    | _, _ => none
theorem evp_ok {a : Act} (h : Rep n E a) {ps : Array (Nat × Operand)} {qs : List (Nat × Value)} (hq : evp E ps.toList = some qs) : (ps.map fun (i, x) => (i, a.eval x)) = qs.toArray := by
  have key : ∀ (l : List (Nat × Operand)) (qs : List (Nat × Value)), evp E l = some qs → l.map (fun (i, x) => (i, a.eval x)) = qs := by
    intro l
    induction l with
    | nil => intro qs hq; simp [evp] at hq; simp [hq]
    | cons p r ih =>
      intro qs hq
      obtain ⟨i, x⟩ := p
      unfold evp at hq
      cases h1 : ev E x with
      | none => simp [h1] at hq
      | some v =>
        cases h2 : evp E r with
        | none => simp [h1, h2] at hq
        | some us =>
          simp [h1, h2] at hq
          subst hq
          simp [h.eval h1, ih us h2]
  apply Array.toList_inj.1
  simpa using key _ _ hq

theorem LX.eq {o : Oper} {v v' : Value} (h : LX n w0 o E M v) (e : v = v') : LX n w0 o E M v' := e ▸ h

theorem LX.move {x : Operand} {v : Value} (hx : ev E x = some v) : LX n w0 ⟨dst, .move x, ty, pos, aft, g⟩ E M v := by
  refine ⟨fun a w ha _ => ?_⟩
  show Result.ok (Next.value (a.eval x)) w = _
  rw [ha.eval hx]
theorem LX.assign {x : Operand} {v : Value} (hx : ev E x = some v) : LX n w0 ⟨dst, .assign x, ty, pos, aft, g⟩ E M v := by
  refine ⟨fun a w ha _ => ?_⟩
  show Result.ok (Next.value (a.eval x)) w = _
  rw [ha.eval hx]

def binV (op : BinOp) (k : IntKind) (x y : Int) : Option Value :=
  match op with
  | .add => some (.int k (k.wrap (x + y)))
  | .sub => some (.int k (k.wrap (x - y)))
  | .mul => some (.int k (k.wrap (x * y)))
  | .and => some (.int k (bits .and k x y))
  | .or => some (.int k (bits .or k x y))
  | .xor => some (.int k (bits .xor k x y))
  | .eql => some (.bool (decide (x = y)))
  | .neq => some (.bool (!decide (x = y)))
  | .lss => some (.bool (decide (x < y)))
  | .leq => some (.bool (decide (x ≤ y)))
  | .gtr => some (.bool (decide (y < x)))
  | .geq => some (.bool (decide (y ≤ x)))
  | _ => none

theorem LX.bin {op : BinOp} {xT yT : TypeId} {x y : Operand} {k : IntKind} {p q : Int} {v : Value} (hx : ev E x = some (.int k p)) (hy : ev E y = some (.int k q))
    (hv : binV op k p q = some v) : LX n w0 ⟨dst, .binOp op xT x y yT, ty, pos, aft, g⟩ E M v := by
  refine ⟨fun a w ha _ => ?_⟩
  have e1 := ha.eval hx
  have e2 := ha.eval hy
  simp only [execOp, e1, e2]
  cases op <;> simp only [binV, Option.some.injEq, reduceCtorEq] at hv <;> subst hv <;>
    simp [eqGuard, binOp, Op.intArith, Op.intBits, Op.intCmp, bits] <;> rfl

theorem i64_in {x : Int} (h : -9223372036854775808 ≤ x ∧ x ≤ 9223372036854775807) : IntKind.i64.wrap x = x := by
  rw [IntKind.wrap_i64]; omega
theorem u64_in {x : Int} (h : 0 ≤ x ∧ x < 18446744073709551616) : IntKind.u64.wrap x = x := by
  rw [IntKind.wrap_u64]; omega

theorem LX.addI {xT yT : TypeId} {x y : Operand} {p q : Int} (hx : ev E x = some (.int .i64 p)) (hy : ev E y = some (.int .i64 q))
    (hr : -9223372036854775808 ≤ p + q ∧ p + q ≤ 9223372036854775807) : LX n w0 ⟨dst, .binOp .add xT x y yT, ty, pos, aft, g⟩ E M (.int .i64 (p + q)) :=
  LX.eq (LX.bin hx hy rfl) (by rw [i64_in hr])
theorem LX.subI {xT yT : TypeId} {x y : Operand} {p q : Int} (hx : ev E x = some (.int .i64 p)) (hy : ev E y = some (.int .i64 q))
    (hr : -9223372036854775808 ≤ p - q ∧ p - q ≤ 9223372036854775807) : LX n w0 ⟨dst, .binOp .sub xT x y yT, ty, pos, aft, g⟩ E M (.int .i64 (p - q)) :=
  LX.eq (LX.bin hx hy rfl) (by rw [i64_in hr])
theorem LX.mulI {xT yT : TypeId} {x y : Operand} {p q : Int} (hx : ev E x = some (.int .i64 p)) (hy : ev E y = some (.int .i64 q))
    (hr : -9223372036854775808 ≤ p * q ∧ p * q ≤ 9223372036854775807) : LX n w0 ⟨dst, .binOp .mul xT x y yT, ty, pos, aft, g⟩ E M (.int .i64 (p * q)) :=
  LX.eq (LX.bin hx hy rfl) (by rw [i64_in hr])
theorem LX.addU {xT yT : TypeId} {x y : Operand} {p q : Int} (hx : ev E x = some (.int .u64 p)) (hy : ev E y = some (.int .u64 q))
    (hr : 0 ≤ p + q ∧ p + q < 18446744073709551616) : LX n w0 ⟨dst, .binOp .add xT x y yT, ty, pos, aft, g⟩ E M (.int .u64 (p + q)) :=
  LX.eq (LX.bin hx hy rfl) (by rw [u64_in hr])
theorem LX.subU {xT yT : TypeId} {x y : Operand} {p q : Int} (hx : ev E x = some (.int .u64 p)) (hy : ev E y = some (.int .u64 q))
    (hr : 0 ≤ p - q ∧ p - q < 18446744073709551616) : LX n w0 ⟨dst, .binOp .sub xT x y yT, ty, pos, aft, g⟩ E M (.int .u64 (p - q)) :=
  LX.eq (LX.bin hx hy rfl) (by rw [u64_in hr])
theorem LX.mulU {xT yT : TypeId} {x y : Operand} {p q : Int} (hx : ev E x = some (.int .u64 p)) (hy : ev E y = some (.int .u64 q))
    (hr : 0 ≤ p * q ∧ p * q < 18446744073709551616) : LX n w0 ⟨dst, .binOp .mul xT x y yT, ty, pos, aft, g⟩ E M (.int .u64 (p * q)) :=
  LX.eq (LX.bin hx hy rfl) (by rw [u64_in hr])

theorem LX.quo {xT yT : TypeId} {x y : Operand} {k : IntKind} {p q : Int} (hx : ev E x = some (.int k p)) (hy : ev E y = some (.int k q)) (h0 : q ≠ 0) :
    LX n w0 ⟨dst, .binOp .quo xT x y yT, ty, pos, aft, g⟩ E M (.int k (k.wrap (p.tdiv q))) := by
  refine ⟨fun a w ha _ => ?_⟩
  have e1 := ha.eval hx
  have e2 := ha.eval hy
  simp [execOp, e1, e2, eqGuard, binOp, Op.intDiv, h0]
theorem LX.quoI {xT yT : TypeId} {x y : Operand} {p q : Int} (hx : ev E x = some (.int .i64 p)) (hy : ev E y = some (.int .i64 q)) (hp : 0 ≤ p ∧ p ≤ 9223372036854775807) (hq : 0 < q) :
    LX n w0 ⟨dst, .binOp .quo xT x y yT, ty, pos, aft, g⟩ E M (.int .i64 (p / q)) := by
  refine LX.eq (LX.quo hx hy (by omega)) ?_
  have h1 : p.tdiv q = p / q := Int.tdiv_eq_ediv_of_nonneg hp.1
  have h2 : 0 ≤ p / q := Int.ediv_nonneg hp.1 (by omega)
  have h3 : p / q ≤ p := Int.ediv_le_self q hp.1
  rw [h1, i64_in ⟨by omega, by omega⟩]
theorem LX.quoU {xT yT : TypeId} {x y : Operand} {p q : Int} (hx : ev E x = some (.int .u64 p)) (hy : ev E y = some (.int .u64 q)) (hp : 0 ≤ p ∧ p < 18446744073709551616) (hq : 0 < q) :
    LX n w0 ⟨dst, .binOp .quo xT x y yT, ty, pos, aft, g⟩ E M (.int .u64 (p / q)) := by
  refine LX.eq (LX.quo hx hy (by omega)) ?_
  have h1 : p.tdiv q = p / q := Int.tdiv_eq_ediv_of_nonneg hp.1
  have h2 : 0 ≤ p / q := Int.ediv_nonneg hp.1 (by omega)
  have h3 : p / q ≤ p := Int.ediv_le_self q hp.1
  rw [h1, u64_in ⟨by omega, by omega⟩]
theorem LX.rem {xT yT : TypeId} {x y : Operand} {k : IntKind} {p q : Int} (hx : ev E x = some (.int k p)) (hy : ev E y = some (.int k q)) (hp : 0 ≤ p) (hq : 0 < q) :
    LX n w0 ⟨dst, .binOp .rem xT x y yT, ty, pos, aft, g⟩ E M (.int k (p % q)) := by
  refine ⟨fun a w ha _ => ?_⟩
  have e1 := ha.eval hx
  have e2 := ha.eval hy
  have h1 : p.tmod q = p % q := Int.tmod_eq_emod_of_nonneg hp
  have h0 : q ≠ 0 := by omega
  simp [execOp, e1, e2, eqGuard, binOp, Op.intDiv, h0, h1]

theorem LX.shl {xT yT : TypeId} {x y : Operand} {k k' : IntKind} {p q : Int} (hx : ev E x = some (.int k p)) (hy : ev E y = some (.int k' q)) (hq : 0 ≤ q) :
    LX n w0 ⟨dst, .binOp .shl xT x y yT, ty, pos, aft, g⟩ E M (.int k (k.wrap (p * 2 ^ (min q.toNat k.bits)))) := by
  refine ⟨fun a w ha _ => ?_⟩
  have e1 := ha.eval hx
  have e2 := ha.eval hy
  have h0 : ¬ q < 0 := by omega
  simp [execOp, e1, e2, eqGuard, binOp, Op.shift, h0]
theorem LX.shr {xT yT : TypeId} {x y : Operand} {k k' : IntKind} {p q : Int} (hx : ev E x = some (.int k p)) (hy : ev E y = some (.int k' q)) (hq : 0 ≤ q) (hp : 0 ≤ p) :
    LX n w0 ⟨dst, .binOp .shr xT x y yT, ty, pos, aft, g⟩ E M (.int k (p / 2 ^ (min q.toNat k.bits))) := by
  refine ⟨fun a w ha _ => ?_⟩
  have e1 := ha.eval hx
  have e2 := ha.eval hy
  have h0 : ¬ q < 0 := by omega
  have hpos : (0 : Int) ≤ 2 ^ (min q.toNat k.bits) := Int.le_of_lt (Int.pow_pos (by decide))
  have h1 : p.fdiv (2 ^ (min q.toNat k.bits)) = p / 2 ^ (min q.toNat k.bits) := Int.fdiv_eq_ediv_of_nonneg _ hpos
  simp only [execOp, e1, e2]
  simp [eqGuard, binOp, Op.shift, h0, h1]

theorem LX.not {xT : TypeId} {x : Operand} {b : Bool} (hx : ev E x = some (.bool b)) : LX n w0 ⟨dst, .unOp .not xT x, ty, pos, aft, g⟩ E M (.bool !b) := by
  refine ⟨fun a w ha _ => ?_⟩
  have e1 := ha.eval hx
  simp [execOp, e1, Op.unary]
theorem LX.neg {xT : TypeId} {x : Operand} {k : IntKind} {p : Int} (hx : ev E x = some (.int k p)) : LX n w0 ⟨dst, .unOp .neg xT x, ty, pos, aft, g⟩ E M (.int k (k.wrap (0 - p))) := by
  refine ⟨fun a w ha _ => ?_⟩
  have e1 := ha.eval hx
  simp [execOp, e1, Op.unary, Op.intArith]

theorem LX.conv {s t : Nat} {x : Operand} {k k' k'' : IntKind} {p : Int} (hx : ev E x = some (.int k p)) (hs : ik s = some k') (ht : ik t = some k'') :
    LX n w0 ⟨dst, .convert s t x, ty, pos, aft, g⟩ E M (.int k'' (k''.wrap p)) := by
  refine ⟨fun a w ha _ => ?_⟩
  have e1 := ha.eval hx
  simp [execOp, e1, convert, ik_ok hs w, ik_ok ht w, Conv.intToInt]
theorem LX.convI {s t : Nat} {x : Operand} {k k' : IntKind} {p : Int} (hx : ev E x = some (.int k p)) (hs : ik s = some k') (ht : ik t = some .i64)
    (hr : -9223372036854775808 ≤ p ∧ p ≤ 9223372036854775807) : LX n w0 ⟨dst, .convert s t x, ty, pos, aft, g⟩ E M (.int .i64 p) :=
  LX.eq (LX.conv hx hs ht) (by rw [i64_in hr])
theorem LX.convU {s t : Nat} {x : Operand} {k k' : IntKind} {p : Int} (hx : ev E x = some (.int k p)) (hs : ik s = some k') (ht : ik t = some .u64)
    (hr : 0 ≤ p ∧ p < 18446744073709551616) : LX n w0 ⟨dst, .convert s t x, ty, pos, aft, g⟩ E M (.int .u64 p) :=
  LX.eq (LX.conv hx hs ht) (by rw [u64_in hr])

theorem LX.pick {c x y : Operand} {b : Bool} {u v : Value} (hc : ev E c = some (.bool b)) (hx : ev E x = some u) (hy : ev E y = some v) :
    LX n w0 ⟨dst, .pick c x y, ty, pos, aft, g⟩ E M (if b then u else v) := by
  refine ⟨fun a w ha _ => ?_⟩
  have e1 := ha.eval hc
  have e2 := ha.eval hx
  have e3 := ha.eval hy
  cases b <;> simp [execOp, e1, e2, e3, asBool]
theorem LX.pickT {c x y : Operand} {u : Value} (hc : ev E c = some (.bool true)) (hx : ev E x = some u) : LX n w0 ⟨dst, .pick c x y, ty, pos, aft, g⟩ E M u := by
  refine ⟨fun a w ha _ => ?_⟩
  have e1 := ha.eval hc
  have e2 := ha.eval hx
  simp [execOp, e1, e2, asBool]
theorem LX.pickF {c x y : Operand} {v : Value} (hc : ev E c = some (.bool false)) (hy : ev E y = some v) : LX n w0 ⟨dst, .pick c x y, ty, pos, aft, g⟩ E M v := by
  refine ⟨fun a w ha _ => ?_⟩
  have e1 := ha.eval hc
  have e2 := ha.eval hy
  simp [execOp, e1, e2, asBool]

theorem LX.nilCheck {x : Operand} {p : Addr} (hx : ev E x = some (.pointer (some p))) : LX n w0 ⟨dst, .nilCheck x, ty, pos, aft, g⟩ E M (.pointer (some p)) := by
  refine ⟨fun a w ha _ => ?_⟩
  have e1 := ha.eval hx
  simp [execOp, e1]

theorem LX.field {t : Nat} {x : Operand} {f s b o : Nat} (hx : ev E x = some (.pointer (some ⟨b, o, none⟩))) (ht : fo t f = some s) :
    LX n w0 ⟨dst, .fieldAddr t x f, ty, pos, aft, g⟩ E M (.pointer (some ⟨b, o + s, none⟩)) := by
  refine ⟨fun a w ha _ => ?_⟩
  have e1 := ha.eval hx
  simp [execOp, e1, fo_ok ht b o w]

theorem LX.field0 {t : Nat} {x : Operand} {f s b : Nat} (hx : ev E x = some (.pointer (some ⟨b, 0, none⟩))) (ht : fo t f = some s) :
    LX n w0 ⟨dst, .fieldAddr t x f, ty, pos, aft, g⟩ E M (.pointer (some ⟨b, s, none⟩)) :=
  LX.eq (LX.field hx ht) (by rw [Nat.zero_add])

theorem LX.idx {t : Nat} {x y : Operand} {e s b o len cap : Nat} {k : IntKind} {i : Int} (hx : ev E x = some (.slice (some ⟨b, o, none⟩) len cap)) (hy : ev E y = some (.int k i))
    (ht : sl t = some (e, s)) (j : Nat) (hj : i = (j : Int)) (hl : j < len) :
    LX n w0 ⟨dst, .indexAddr t x y, ty, pos, aft, g⟩ E M (.pointer (some ⟨b, o + j * s, none⟩)) := by
  refine ⟨fun a w ha _ => ?_⟩
  have e1 := ha.eval hx
  have e2 := ha.eval hy
  obtain ⟨h1, h2⟩ := sl_ok ht w
  subst hj
  have h3 : (0 : Int) ≤ (j : Int) ∧ (j : Int) < (len : Int) := by omega
  simp [execOp, e1, e2, Instr.indexAt, asIntOf, h1, h2, add_addr, hl]

/-- an index into elements of one cell -/
theorem LX.idx1 {t : Nat} {x y : Operand} {e b len cap : Nat} {k : IntKind} {i : Int} (hx : ev E x = some (.slice (some ⟨b, 0, none⟩) len cap)) (hy : ev E y = some (.int k i))
    (ht : sl t = some (e, 1)) (j : Nat) (hj : i = (j : Int)) (hl : j < len) :
    LX n w0 ⟨dst, .indexAddr t x y, ty, pos, aft, g⟩ E M (.pointer (some ⟨b, j, none⟩)) := by
  have := LX.idx (n := n) (w0 := w0) (M := M) (dst := dst) (ty := ty) (pos := pos) (aft := aft) (g := g) hx hy ht j hj hl
  rwa [Nat.mul_one, Nat.zero_add] at this

theorem LX.idxo {t : Nat} {x y : Operand} {e b o len cap : Nat} {k : IntKind} {i : Int} (hx : ev E x = some (.slice (some ⟨b, o, none⟩) len cap)) (hy : ev E y = some (.int k i))
    (ht : sl t = some (e, 1)) (j : Nat) (hj : i = (j : Int)) (hl : j < len) :
    LX n w0 ⟨dst, .indexAddr t x y, ty, pos, aft, g⟩ E M (.pointer (some ⟨b, o + j, none⟩)) := by
  have := LX.idx (n := n) (w0 := w0) (M := M) (dst := dst) (ty := ty) (pos := pos) (aft := aft) (g := g) hx hy ht j hj hl
  rwa [Nat.mul_one] at this

theorem LX.load {t : Nat} {x : Operand} {b i : Nat} {o : Obj} {v : Value} (hx : ev E x = some (.pointer (some ⟨b, i, none⟩))) (ht : c1 t = true) (hm : (b, o) ∈ M) (hv : Obj.cell o i = some v) :
    LX n w0 ⟨dst, .load t x, ty, pos, aft, g⟩ E M v := by
  refine ⟨fun a w ha hw => ?_⟩
  have e1 := ha.eval hx
  have hc := cell_of (hw.has _ hm).2 hv
  simp [execOp, e1, Instr.loadAt, Instr.sureAddr, loadVar, c1_ok ht w, hc]

/-- a load from what was there when the call began -/
theorem LX.loadW {t : Nat} {x : Operand} {b i : Nat} {o : Obj} {v : Value} (hx : ev E x = some (.pointer (some ⟨b, i, none⟩))) (ht : c1 t = true) (hm : w0.heap[b]? = some o) (hv : Obj.cell o i = some v) :
    LX n w0 ⟨dst, .load t x, ty, pos, aft, g⟩ E M v := by
  refine ⟨fun a w ha hw => ?_⟩
  have e1 := ha.eval hx
  have hlt : b < w0.heap.size := by
    rcases Nat.lt_or_ge b w0.heap.size with h' | h'
    · exact h'
    · simp [Array.getElem?_eq_none h'] at hm
  have hc := cell_of (w := w) (by rw [hw.below.block b hlt]; exact hm) hv
  simp [execOp, e1, Instr.loadAt, Instr.sureAddr, loadVar, c1_ok ht w, hc]

theorem LX.len {t : Nat} {x : Operand} {A : Option Addr} {len cap e s : Nat} {ats : Array TypeId} (hx : ev E x = some (.slice A len cap)) (ha : ats[0]? = some t) (ht : sl t = some (e, s)) :
    LX n w0 ⟨dst, .call ⟨.builtin .len, #[x], ats⟩, ty, pos, aft, g⟩ E M (.int .i64 len) := by
  refine ⟨fun a w hr _ => ?_⟩
  have e1 := hr.eval hx
  obtain ⟨h1, h2⟩ := sl_ok ht w
  simp [execOp, resolve, invoke, builtin, e1, Builtin.len_, ha, h1, goInt]
theorem LX.cap {t : Nat} {x : Operand} {A : Option Addr} {len cap e s : Nat} {ats : Array TypeId} (hx : ev E x = some (.slice A len cap)) (ha : ats[0]? = some t) (ht : sl t = some (e, s)) :
    LX n w0 ⟨dst, .call ⟨.builtin .cap, #[x], ats⟩, ty, pos, aft, g⟩ E M (.int .i64 cap) := by
  refine ⟨fun a w hr _ => ?_⟩
  have e1 := hr.eval hx
  obtain ⟨h1, h2⟩ := sl_ok ht w
  simp [execOp, resolve, invoke, builtin, e1, Builtin.cap_, ha, h1, goInt]
theorem LX.max {x y : Operand} {ats : Array TypeId} {k k' : IntKind} {p q : Int} (hx : ev E x = some (.int k p)) (hy : ev E y = some (.int k' q)) :
    LX n w0 ⟨dst, .call ⟨.builtin .max, #[x, y], ats⟩, ty, pos, aft, g⟩ E M (.int k (if p < q then q else p)) := by
  refine ⟨fun a w hr _ => ?_⟩
  have e1 := hr.eval hx
  have e2 := hr.eval hy
  simp [execOp, resolve, invoke, builtin, e1, e2, Builtin.max_, Builtin.max2]

theorem LX.extract {x : Operand} {vs : Array Value} {i : Nat} {v : Value} (hx : ev E x = some (.tuple vs)) (hv : lAt vs.toList i = some v) :
    LX n w0 ⟨dst, .extract x i, ty, pos, aft, g⟩ E M v := by
  refine ⟨fun a w ha _ => ?_⟩
  have e1 := ha.eval hx
  rw [lAt_eq, Array.getElem?_toList] at hv
  simp [execOp, e1, Instr.extract, hv]

/-- x[lo:hi] of a slice that lies in memory -/
theorem slice_run {t e s b o len cap : Nat} (ht : sl t = some (e, s)) (lo hi : Option Value) (l h : Nat)
    (hlo : lo = none ∧ l = 0 ∨ ∃ k, lo = some (.int k (l : Int))) (hhi : hi = none ∧ h = len ∨ ∃ k, hi = some (.int k (h : Int))) (hlh : l ≤ h) (hhc : h ≤ cap) (w : World) :
    (Instr.sliceAt t (.slice (some ⟨b, o, none⟩) len cap) lo hi none).run P w = .ok (.slice (some (if cap = l then ⟨b, o, none⟩ else ⟨b, o + l * s, none⟩)) (h - l) (cap - l)) w := by
  obtain ⟨h1, h2⟩ := sl_ok ht w
  have e1 : (Instr.sliceBounds true len cap lo hi none).run P w = .ok (l, h, cap) w := by
    unfold Instr.sliceBounds
    rcases hhi with ⟨rfl, rfl⟩ | ⟨k, rfl⟩ <;> rcases hlo with ⟨rfl, rfl⟩ | ⟨k', rfl⟩ <;>
      simp [Instr.sliceBound, asIntOf, hlh, hhc]
  simp only [Instr.sliceAt, Instr.slice, Sem.run_bind, h1, Result.andThen_ok, e1, h2]
  simp only [Sem.run_pure, add_addr, Option.map_some]
  split <;> rfl

theorem LX.slice {t : Nat} {x : Operand} {lo hi : Option Operand} {e s b o len cap : Nat} (hx : ev E x = some (.slice (some ⟨b, o, none⟩) len cap)) (ht : sl t = some (e, s)) (l h : Nat)
    (hlo : lo = none ∧ l = 0 ∨ ∃ k y, lo = some y ∧ ev E y = some (.int k (l : Int))) (hhi : hi = none ∧ h = len ∨ ∃ k y, hi = some y ∧ ev E y = some (.int k (h : Int)))
    (hlh : l ≤ h) (hhc : h ≤ cap) :
    LX n w0 ⟨dst, .slice t x lo hi none, ty, pos, aft, g⟩ E M (.slice (some (if cap = l then ⟨b, o, none⟩ else ⟨b, o + l * s, none⟩)) (h - l) (cap - l)) := by
  refine ⟨fun a w ha _ => ?_⟩
  have e1 := ha.eval hx
  have hlo' : (lo.map a.eval = none ∧ l = 0) ∨ ∃ k, lo.map a.eval = some (.int k (l : Int)) := by
    rcases hlo with ⟨rfl, rfl⟩ | ⟨k, y, rfl, hy⟩
    · exact .inl ⟨rfl, rfl⟩
    · exact .inr ⟨k, by simp [ha.eval hy]⟩
  have hhi' : (hi.map a.eval = none ∧ h = len) ∨ ∃ k, hi.map a.eval = some (.int k (h : Int)) := by
    rcases hhi with ⟨rfl, rfl⟩ | ⟨k, y, rfl, hy⟩
    · exact .inl ⟨rfl, rfl⟩
    · exact .inr ⟨k, by simp [ha.eval hy]⟩
  have := slice_run (b := b) (o := o) ht _ _ l h hlo' hhi' hlh hhc w
  simp [execOp, e1, this]

/-- x[:hi] -/
theorem LX.sliceTo {t : Nat} {x y : Operand} {e s b o len cap : Nat} {k : IntKind} {i : Int} (hx : ev E x = some (.slice (some ⟨b, o, none⟩) len cap)) (hy : ev E y = some (.int k i)) (ht : sl t = some (e, s)) (h : Nat)
    (hi : i = (h : Int)) (hhc : h ≤ cap) : LX n w0 ⟨dst, .slice t x none (some y) none, ty, pos, aft, g⟩ E M (.slice (some ⟨b, o, none⟩) h cap) := by
  subst hi
  have := LX.slice (n := n) (w0 := w0) (M := M) (dst := dst) (ty := ty) (pos := pos) (aft := aft) (g := g) hx ht 0 h (.inl ⟨rfl, rfl⟩) (.inr ⟨k, y, rfl, hy⟩) (Nat.zero_le _) hhc
  simpa using this

/-- x[lo:], lo below the capacity -/
theorem LX.sliceFrom {t : Nat} {x y : Operand} {e b o len cap : Nat} {k : IntKind} {i : Int} (hx : ev E x = some (.slice (some ⟨b, o, none⟩) len cap)) (hy : ev E y = some (.int k i)) (ht : sl t = some (e, 1)) (l : Nat)
    (hi : i = (l : Int)) (hlc : l < cap) (hll : l ≤ len) (hhc : len ≤ cap) : LX n w0 ⟨dst, .slice t x (some y) none none, ty, pos, aft, g⟩ E M (.slice (some ⟨b, o + l, none⟩) (len - l) (cap - l)) := by
  subst hi
  have := LX.slice (n := n) (w0 := w0) (M := M) (dst := dst) (ty := ty) (pos := pos) (aft := aft) (g := g) hx ht l len (.inr ⟨k, y, rfl, hy⟩) (.inl ⟨rfl, rfl⟩) hll hhc
  rwa [if_neg (by omega), Nat.mul_one] at this

/-- x[lo:hi], lo below the capacity -/
theorem LX.sliceLH {t : Nat} {x y z : Operand} {e b o len cap : Nat} {k k' : IntKind} {i i' : Int} (hx : ev E x = some (.slice (some ⟨b, o, none⟩) len cap)) (hy : ev E y = some (.int k i)) (hz : ev E z = some (.int k' i')) (ht : sl t = some (e, 1)) (l h : Nat)
    (hi : i = (l : Int)) (hi' : i' = (h : Int)) (hlc : l < cap) (hlh : l ≤ h) (hhc : h ≤ cap) : LX n w0 ⟨dst, .slice t x (some y) (some z) none, ty, pos, aft, g⟩ E M (.slice (some ⟨b, o + l, none⟩) (h - l) (cap - l)) := by
  subst hi hi'
  have := LX.slice (n := n) (w0 := w0) (M := M) (dst := dst) (ty := ty) (pos := pos) (aft := aft) (g := g) hx ht l h (.inr ⟨k, y, rfl, hy⟩) (.inr ⟨k', z, rfl, hz⟩) hlh hhc
  rwa [if_neg (by omega), Nat.mul_one] at this

theorem LX.iface {t : Nat} {x : Operand} {v : Value} (hx : ev E x = some v) (ht : ∀ w, (Instr.makeInterface t v).run P w = .ok (.iface t v) w) :
    LX n w0 ⟨dst, .makeInterface t x, ty, pos, aft, g⟩ E M (.iface t v) := by
  refine ⟨fun a w ha _ => ?_⟩
  have e1 := ha.eval hx
  simp [execOp, e1, ht w]

/-- what is built out of parts, told by a run -/
theorem LX.build {t : Nat} {ps : Array (Nat × Operand)} {qs : List (Nat × Value)} {v : Value} (hq : evp E ps.toList = some qs)
    (ht : ∀ w, (Instr.build t qs.toArray).run P w = .ok v w) : LX n w0 ⟨dst, .build t ps, ty, pos, aft, g⟩ E M v := by
  refine ⟨fun a w ha _ => ?_⟩
  simp only [execOp, evp_ok ha hq]
  simp [ht w]

theorem err_und (w : World) : ∃ ms, (underlying 33).run P w = .ok (.interface ms) w := ⟨_, (by kernel_rfl : (underlying 33).run P w = .ok (((P.underlying 33).getD default)) w).trans (by kernel_rfl : _ = Result.ok (TypeDesc.interface (match (P.underlying 33).getD default with | .interface ms => ms | _ => #[])) w)⟩

/-- 'err != nil', 'err == nil' -/
theorem LX.errNe {x : Operand} {yT : TypeId} (hx : ev E x = some .nilIface) : LX n w0 ⟨dst, .binOp .neq 33 x (.const .nilIface) yT, ty, pos, aft, g⟩ E M (.bool false) := by
  refine ⟨fun a w ha _ => ?_⟩
  have e1 := ha.eval hx
  obtain ⟨ms, h1⟩ := err_und w
  have hq : ∀ d : Nat, (Op.equalIn (d + 1) 33 .nilIface .nilIface).run P w = .ok true w := fun d => by simp [Op.equalIn, h1]
  simp only [execOp, e1]
  simp [eqGuard, binOp, Op.equal, Op.maxDepth, hq 9999, Act.eval]
theorem LX.errNeT {x : Operand} {yT t : TypeId} {v : Value} (hx : ev E x = some (.iface t v)) : LX n w0 ⟨dst, .binOp .neq 33 x (.const .nilIface) yT, ty, pos, aft, g⟩ E M (.bool true) := by
  refine ⟨fun a w ha _ => ?_⟩
  have e1 := ha.eval hx
  obtain ⟨ms, h1⟩ := err_und w
  have hq : ∀ d : Nat, (Op.equalIn (d + 1) 33 (.iface t v) .nilIface).run P w = .ok false w := fun d => by simp [Op.equalIn, h1]
  simp only [execOp, e1]
  simp [eqGuard, binOp, Op.equal, Op.maxDepth, hq 9999, Act.eval]
theorem LX.errEq {x : Operand} {yT : TypeId} (hx : ev E x = some .nilIface) : LX n w0 ⟨dst, .binOp .eql 33 x (.const .nilIface) yT, ty, pos, aft, g⟩ E M (.bool true) := by
  refine ⟨fun a w ha _ => ?_⟩
  have e1 := ha.eval hx
  obtain ⟨ms, h1⟩ := err_und w
  have hq : ∀ d : Nat, (Op.equalIn (d + 1) 33 .nilIface .nilIface).run P w = .ok true w := fun d => by simp [Op.equalIn, h1]
  simp only [execOp, e1]
  simp [eqGuard, binOp, Op.equal, Op.maxDepth, hq 9999, Act.eval]
theorem LX.errEqF {x : Operand} {yT t : TypeId} {v : Value} (hx : ev E x = some (.iface t v)) : LX n w0 ⟨dst, .binOp .eql 33 x (.const .nilIface) yT, ty, pos, aft, g⟩ E M (.bool false) := by
  refine ⟨fun a w ha _ => ?_⟩
  have e1 := ha.eval hx
  obtain ⟨ms, h1⟩ := err_und w
  have hq : ∀ d : Nat, (Op.equalIn (d + 1) 33 (.iface t v) .nilIface).run P w = .ok false w := fun d => by simp [Op.equalIn, h1]
  simp only [execOp, e1]
  simp [eqGuard, binOp, Op.equal, Op.maxDepth, hq 9999, Act.eval]

/-- 's == nil' of a slice -/
theorem LX.isNil {t e s : Nat} {x : Operand} {A : Option Addr} {len cap : Nat} {yT : TypeId} (hx : ev E x = some (.slice A len cap)) (ht : sl t = some (e, s)) :
    LX n w0 ⟨dst, .binOp .eql t x (.const (.slice none 0 0)) yT, ty, pos, aft, g⟩ E M (.bool A.isNone) := by
  refine ⟨fun a w ha _ => ?_⟩
  have e1 := ha.eval hx
  obtain ⟨h1, _⟩ := sl_ok ht w
  have hq : ∀ d : Nat, (Op.equalIn (d + 1) t (.slice A len cap) (.slice none 0 0)).run P w = .ok A.isNone w := fun d => by
    cases A <;> simp [Op.equalIn, h1]
  simp only [execOp, e1]
  simp [eqGuard, binOp, Op.equal, Op.maxDepth, hq 9999, Act.eval]
end
end Go.Proofs.YtdnngppofbmpeaaDoor.Bm
