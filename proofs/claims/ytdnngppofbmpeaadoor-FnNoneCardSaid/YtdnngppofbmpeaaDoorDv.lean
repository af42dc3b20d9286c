/- Proved here: plain laws on digits and the number that they stand for. No conditions but those that each theorem states. -/
import Derived.Test.YtdnngppofbmpeaaDoorBase7
namespace Go.Proofs.YtdnngppofbmpeaaDoor.Bm

/-- the value of a list of digits, the lowest first -/
def dv (b : Int) : List Int → Int
  | [] => 0
  | x :: xs => x + b * dv b xs

/-- each digit lies below the base -/
def Dg (b : Int) (xs : List Int) : Prop := ∀ x ∈ xs, 0 ≤ x ∧ x < b

@[simp] theorem dv_nil (b : Int) : dv b [] = 0 := rfl
@[simp] theorem dv_cons (b x : Int) (xs : List Int) : dv b (x :: xs) = x + b * dv b xs := rfl

theorem Dg.nil (b : Int) : Dg b [] := fun _ h => by simp at h
theorem Dg.cons {b x : Int} {xs : List Int} (h0 : 0 ≤ x) (h1 : x < b) (h : Dg b xs) : Dg b (x :: xs) := by
  intro y hy
  rcases List.mem_cons.1 hy with rfl | hy
  · exact ⟨h0, h1⟩
  · exact h y hy
theorem Dg.head {b x : Int} {xs : List Int} (h : Dg b (x :: xs)) : 0 ≤ x ∧ x < b := h x (by simp)
theorem Dg.tail {b x : Int} {xs : List Int} (h : Dg b (x :: xs)) : Dg b xs := fun y hy => h y (by simp [hy])
theorem Dg.append {b : Int} {xs ys : List Int} (h : Dg b xs) (h' : Dg b ys) : Dg b (xs ++ ys) := by
  intro y hy
  rcases List.mem_append.1 hy with hy | hy
  · exact h y hy
  · exact h' y hy
theorem Dg.left {b : Int} {xs ys : List Int} (h : Dg b (xs ++ ys)) : Dg b xs := fun y hy => h y (by simp [hy])
theorem Dg.right {b : Int} {xs ys : List Int} (h : Dg b (xs ++ ys)) : Dg b ys := fun y hy => h y (by simp [hy])
theorem Dg.take {b : Int} {xs : List Int} (h : Dg b xs) (n : Nat) : Dg b (xs.take n) := fun y hy => h y (List.mem_of_mem_take hy)
theorem Dg.drop {b : Int} {xs : List Int} (h : Dg b xs) (n : Nat) : Dg b (xs.drop n) := fun y hy => h y (List.mem_of_mem_drop hy)
theorem Dg.get {b : Int} {xs : List Int} (h : Dg b xs) {i : Nat} (hi : i < xs.length) : 0 ≤ xs[i] ∧ xs[i] < b := h _ (List.getElem_mem hi)
theorem Dg.getD {b : Int} {xs : List Int} (hb : 0 < b) (h : Dg b xs) (i : Nat) : 0 ≤ xs.getD i 0 ∧ xs.getD i 0 < b := by
  by_cases hi : i < xs.length
  · rw [List.getD_eq_getElem?_getD, List.getElem?_eq_getElem hi]; exact h.get hi
  · rw [List.getD_eq_getElem?_getD, List.getElem?_eq_none (by omega)]; simp; omega
theorem Dg.replicate {b : Int} (hb : 0 < b) (n : Nat) : Dg b (List.replicate n 0) := by
  intro y hy
  rw [List.mem_replicate] at hy
  omega
theorem Dg.set {b : Int} {xs : List Int} (h : Dg b xs) {x : Int} (h0 : 0 ≤ x) (h1 : x < b) (i : Nat) : Dg b (xs.set i x) := by
  intro y hy
  rcases List.mem_or_eq_of_mem_set hy with hy | rfl
  · exact h y hy
  · exact ⟨h0, h1⟩

theorem pow_pos {b : Int} (hb : 0 < b) (n : Nat) : 0 < b ^ n := Int.pow_pos hb

theorem dv_append (b : Int) (xs ys : List Int) : dv b (xs ++ ys) = dv b xs + b ^ xs.length * dv b ys := by
  induction xs with
  | nil => simp
  | cons x xs ih =>
    simp only [List.cons_append, dv_cons, List.length_cons, ih, Int.pow_succ]
    grind

theorem dv_nonneg {b : Int} (hb : 0 < b) {xs : List Int} (h : Dg b xs) : 0 ≤ dv b xs := by
  induction xs with
  | nil => simp
  | cons x xs ih =>
    have := h.head
    have := ih h.tail
    have := Int.mul_nonneg (Int.le_of_lt hb) this
    simp only [dv_cons]
    omega

theorem dv_lt {b : Int} (hb : 0 < b) {xs : List Int} (h : Dg b xs) : dv b xs < b ^ xs.length := by
  induction xs with
  | nil => simp
  | cons x xs ih =>
    have h1 := h.head
    have h2 := ih h.tail
    have h3 : b * dv b xs ≤ b * (b ^ xs.length - 1) := Int.mul_le_mul_of_nonneg_left (by omega) (Int.le_of_lt hb)
    simp only [dv_cons, List.length_cons, Int.pow_succ]
    have : b * (b ^ xs.length - 1) = b ^ xs.length * b - b := by grind
    omega

theorem dv_inj {b : Int} (hb : 0 < b) {xs ys : List Int} (h : Dg b xs) (h' : Dg b ys) (hl : xs.length = ys.length) (he : dv b xs = dv b ys) : xs = ys := by
  induction xs generalizing ys with
  | nil => cases ys with
    | nil => rfl
    | cons y ys => simp at hl
  | cons x xs ih => cases ys with
    | nil => simp at hl
    | cons y ys =>
      simp only [dv_cons] at he
      have h1 := h.head
      have h2 := h'.head
      have hx : x = y := by
        have e1 : (x + b * dv b xs) % b = x := by rw [Int.add_mul_emod_self_left]; exact Int.emod_eq_of_lt h1.1 h1.2
        have e2 : (y + b * dv b ys) % b = y := by rw [Int.add_mul_emod_self_left]; exact Int.emod_eq_of_lt h2.1 h2.2
        rw [he, e2] at e1
        exact e1.symm
      subst hx
      have hm : b * dv b xs = b * dv b ys := by omega
      have := Int.eq_of_mul_eq_mul_left (by omega) hm
      rw [ih h.tail h'.tail (by simpa using hl) this]

theorem dv_replicate_zero (b : Int) (n : Nat) : dv b (List.replicate n 0) = 0 := by
  induction n with
  | zero => rfl
  | succ n ih => simp [List.replicate_succ, ih]

theorem dv_snoc (b : Int) (xs : List Int) (x : Int) : dv b (xs ++ [x]) = dv b xs + b ^ xs.length * x := by
  rw [dv_append]; simp

theorem dv_take_succ (b : Int) (xs : List Int) (k : Nat) (h : k < xs.length) : dv b (xs.take (k + 1)) = dv b (xs.take k) + b ^ k * xs[k] := by
  rw [List.take_succ_eq_append_getElem h, dv_snoc, List.length_take, Nat.min_eq_left (by omega)]

theorem dv_split (b : Int) (xs : List Int) (k : Nat) (h : k ≤ xs.length) : dv b xs = dv b (xs.take k) + b ^ k * dv b (xs.drop k) := by
  have := dv_append b (xs.take k) (xs.drop k)
  rw [List.take_append_drop, List.length_take, Nat.min_eq_left h] at this
  exact this

theorem dv_eq_zero {b : Int} (hb : 0 < b) {xs : List Int} (h : Dg b xs) : dv b xs = 0 ↔ ∀ x ∈ xs, x = 0 := by
  induction xs with
  | nil => simp
  | cons x xs ih =>
    have h1 := h.head
    have h2 := dv_nonneg hb h.tail
    have h3 := Int.mul_nonneg (Int.le_of_lt hb) h2
    simp only [dv_cons, List.mem_cons, forall_eq_or_imp]
    rw [← ih h.tail]
    constructor
    · intro e
      refine ⟨by omega, ?_⟩
      have : b * dv b xs = 0 := by omega
      rcases Int.mul_eq_zero.1 this with h | h
      · omega
      · exact h
    · rintro ⟨rfl, e⟩
      rw [e]; simp

end Go.Proofs.YtdnngppofbmpeaaDoor.Bm
