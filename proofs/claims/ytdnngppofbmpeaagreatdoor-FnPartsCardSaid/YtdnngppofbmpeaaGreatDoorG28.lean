/- Proved here: how the arguments lie in memory, and what Right of the reference does. Conditions: none but those that each theorem states. -/
import Derived.Test.YtdnngppofbmpeaaGreatDoorG27
namespace Go.Proofs.YtdnngppofbmpeaaGreatDoor.Bm
open Go Go.RowKit

/-- rows of w cells in the memory that was there -/
def Row (w0 : World) (A : Option Addr) (w : Nat) (rows : List (List Value)) : Prop :=
  rows = [] ∨ ∃ b o d T fr, A = some ⟨b, o, none⟩ ∧ w0.heap[b]? = some (.cells (d : List Value).toArray T fr) ∧ o + rows.length * w ≤ d.length ∧ ∀ j r, rows[j]? = some r → sliceL d (o + j * w) w = r
theorem Row.take {w0 : World} {A : Option Addr} {w : Nat} {rows : List (List Value)} (h : Row w0 A w rows) (n : Nat) : Row w0 A w (rows.take n) := by
  rcases h with rfl | ⟨b, o, d, T, fr, h1, h2, h3, h4⟩
  · exact .inl (by simp)
  · refine .inr ⟨b, o, d, T, fr, h1, h2, ?_, fun j r hr => h4 j r ?_⟩
    · have : (rows.take n).length * w ≤ rows.length * w := Nat.mul_le_mul_right _ (by rw [List.length_take]; omega)
      omega
    · rw [List.getElem?_take] at hr; split at hr
      · exact hr
      · cases hr
theorem heap_below {w0 w : World} {M : Mem} {b : Nat} {o : Obj} (hw : HW w0 M w) (h : w0.heap[b]? = some o) : w.heap[b]? = some o := by
  have hlt : b < w0.heap.size := by
    rcases Nat.lt_or_ge b w0.heap.size with h' | h'
    · exact h'
    · simp [Array.getElem?_eq_none h'] at h
  rw [hw.below.block b hlt]; exact h

/-- a slice of bytes -/
structure Bs where
  A : Option Addr
  bs : List Int
  cap : Nat
def Bs.val (x : Bs) : Value := .slice x.A x.bs.length x.cap
structure BsOk (w0 : World) (x : Bs) : Prop where
  src : Src w0 [] x.A x.bs
  dg : Dg 256 x.bs
  len : x.bs.length ≤ 281474976710656
/-- a step -/
structure Stp where
  k : Int
  o : Int
  a : Int
  b : Int
  m : Int
  num : Int
  d : Bs
abbrev Stp.val (s : Stp) : Value := stV s.k s.o s.a s.b s.m s.num (.slice s.d.A s.d.bs.length s.d.cap)
def Stp.cells (s : Stp) : List Value := [.int .i64 s.k, .int .i64 s.o, .int .i64 s.a, .int .i64 s.b, .int .i64 s.m, .int .i64 s.num, .slice s.d.A s.d.bs.length s.d.cap]
abbrev Stp.obj (s : Stp) : Obj := stO s.k s.o s.a s.b s.m s.num (.slice s.d.A s.d.bs.length s.d.cap)
structure StpOk (w0 : World) (s : Stp) : Prop where
  d : BsOk w0 s.d
  num : -9223372036854775808 ≤ s.num ∧ s.num ≤ 9223372036854775807

/-- moduli in memory; steps in memory -/
structure ModsIn (w0 : World) (A : Option Addr) (X : List Bs) : Prop where
  row : Row w0 A 1 (X.map fun x => [x.val])
  ok : ∀ x ∈ X, BsOk w0 x
  len : X.length ≤ 281474976710656
structure StpsIn (w0 : World) (A : Option Addr) (S : List Stp) : Prop where
  row : Row w0 A 7 (S.map Stp.cells)
  ok : ∀ x ∈ S, StpOk w0 x
  len : S.length ≤ 281474976710656
theorem StpsIn.take {w0 : World} {A : Option Addr} {S : List Stp} (h : StpsIn w0 A S) (n : Nat) : StpsIn w0 A (S.take n) :=
  ⟨by have := h.row.take n; rwa [← List.map_take] at this, fun x hx => h.ok x (List.mem_of_mem_take hx), by have := h.len; rw [List.length_take]; omega⟩
theorem ModsIn.at_ {w0 : World} {A : Option Addr} {X : List Bs} (h : ModsIn w0 A X) {j : Nat} {x : Bs} (hj : X[j]? = some x) : ∃ b o d T fr, A = some ⟨b, o, none⟩ ∧ w0.heap[b]? = some (.cells (d : List Value).toArray T fr) ∧ d[o + j]? = some x.val := by
  have hr : (X.map fun x => [x.val])[j]? = some [x.val] := by rw [List.getElem?_map, hj]; rfl
  rcases h.row with h0 | ⟨b, o, d, T, fr, h1, h2, h3, h4⟩
  · rw [h0] at hr; simp at hr
  · refine ⟨b, o, d, T, fr, h1, h2, ?_⟩
    have h5 := h4 _ _ hr
    have h6 : (sliceL d (o + j * 1) 1)[0]? = some x.val := by rw [h5]; rfl
    unfold sliceL at h6
    rwa [List.getElem?_take, if_pos (by omega), List.getElem?_drop, Nat.mul_one, Nat.add_zero] at h6
theorem StpsIn.at_ {w0 : World} {A : Option Addr} {S : List Stp} (h : StpsIn w0 A S) {j : Nat} {s : Stp} (hj : S[j]? = some s) : ∃ b o d T fr, A = some ⟨b, o, none⟩ ∧ w0.heap[b]? = some (.cells (d : List Value).toArray T fr) ∧ o + j * 7 + 7 ≤ d.length ∧ sliceL d (o + j * 7) 7 = s.cells := by
  have hlt : j < S.length := by
    rcases Nat.lt_or_ge j S.length with h' | h'
    · exact h'
    · simp [List.getElem?_eq_none h'] at hj
  have hr : (S.map Stp.cells)[j]? = some s.cells := by rw [List.getElem?_map, hj]; rfl
  rcases h.row with h0 | ⟨b, o, d, T, fr, h1, h2, h3, h4⟩
  · rw [h0] at hr; simp at hr
  · rw [List.length_map] at h3
    exact ⟨b, o, d, T, fr, h1, h2, by omega, h4 _ _ hr⟩

/-- a modulus, a step, such as Right asks for -/
def ModP (x : Bs) : Prop := x.bs.length ≤ 60 ∧ 1 < dv 256 x.bs.reverse
def StpP (c n : Nat) (s : Stp) : Prop := (0 ≤ s.o ∧ s.o < c) ∧ (0 ≤ s.a ∧ s.a < c) ∧ (0 ≤ s.b ∧ s.b < c) ∧ (0 ≤ s.m ∧ s.m < n) ∧ s.d.bs.length ≤ 60
structure RightP (X : List Bs) (c : Int) (S : List Stp) : Prop where
  n1 : 1 ≤ X.length
  n3 : X.length ≤ 3
  c1 : 1 ≤ c
  c5 : c ≤ 5
  s40 : S.length ≤ 40
  mods : ∀ x ∈ X, ModP x
  steps : ∀ s ∈ S, StpP c.toNat X.length s

/-- a step is written -/
theorem EX.storeS {n : Nat} {w0 : World} {E : Env} {M M' : Mem} {dst : Option Nat} {ty : TypeId} {pos : String} {aft : Array Edge} {g : Option (Nat × Bool)} {x y : Operand} {p : Nat} {c : List Value} {s : Stp} (hx : ev E x = some (.pointer (some ⟨p, 0, none⟩))) (hy : ev E y = some s.val)
    (hm : (p, .cells c.toArray 41 (0, 0)) ∈ M) (hi : c.length = 7) (hu : Upd M p s.obj M') :
    EX n w0 ⟨dst, .store 41 x y, ty, pos, aft, g⟩ E M (fun u M'' => u = undef ∧ M'' = M') :=
  EX.storeA (vs := s.cells) hx hy rfl rfl rfl (by intro u hu; simp only [Stp.cells, List.mem_cons, List.not_mem_nil, or_false] at hu; rcases hu with rfl | rfl | rfl | rfl | rfl | rfl | rfl <;> rfl) hm (by omega) (by rw [putL_all _ _ (by rw [hi]; rfl)]; exact hu)

section
variable {w0 : World} {M : Mem}
theorem src0 {M : Mem} {A : Option Addr} {bs : List Int} (h : Src w0 [] A bs) : Src w0 M A bs := h.mono fun _ hp => by simp at hp
theorem list_at {α : Type} {l : List α} {j : Nat} (h : j < l.length) : ∃ x, l[j]? = some x ∧ x ∈ l := ⟨l[j], List.getElem?_eq_getElem h, List.getElem_mem h⟩
theorem all_snoc {α : Type} {l : List α} {P : α → Prop} {j : Nat} {x : α} (h : ∀ y ∈ l.take j, P y) (hj : l[j]? = some x) (hx : P x) : ∀ y ∈ l.take (j + 1), P y := by
  intro y hy
  rw [List.take_add_one, hj] at hy
  rcases List.mem_append.1 hy with hy | hy
  · exact h y hy
  · simp at hy; subst hy; exact hx

/-- Right -/
theorem sright {A As : Option Addr} {capm caps : Nat} {X : List Bs} {S : List Stp} {c : Int} (hX : ModsIn w0 A X) (hS : StpsIn w0 As S) :
    CS w0 7 [.slice A X.length capm, .int .i64 c, .slice As S.length caps] M (fun u M' => ∃ r, u = .bool r ∧ (r = true → RightP X c S) ∧ ∃ N, M' = N ++ M) := by
  refine CS.post (R := fun u M' => ∃ r, u = .bool r ∧ (r = true → RightP X c S) ∧ M.Sublist M') ?_ (fun v M' ⟨r, h1, h2, h3⟩ => ⟨M, h3, r, h1, h2, [], rfl⟩)
  have hXl := hX.len
  have hSl := hS.len
  refine CS.of Tryz.func7 Tryz.ntmps7 rfl rfl ?_
  by_cases h14 : (X.length : Int) = 0
  · skip
    refine WC.seq (WC.region (WL.q (LX.assign rfl) rfl (WL.nil (thenK_normal (WC.seq (WC.seq (WC.region (WL.q (LX.move rfl) rfl (WL.q (LX.len rfl rfl rfl) rfl (WL.q (LX.eq (LX.bin rfl rfl rfl) (tru h14)) rfl (WL.q (LX.move rfl) rfl (WL.no rfl rfl (by decide) rfl (WL.no rfl rfl (by decide) rfl ?_)))))))))))))
    refine WL.no rfl rfl (by decide) rfl (WL.q (LX.pickT rfl rfl) rfl (WL.q (LX.move rfl) rfl (WL.no rfl rfl (by decide) rfl (WL.no rfl rfl (by decide) rfl (WL.q (LX.pickT rfl rfl) rfl (WL.q (LX.move rfl) rfl (WL.no rfl rfl (by decide) rfl (WL.no rfl rfl (by decide) rfl (WL.q (LX.pickT rfl rfl) rfl (WL.q (LX.move rfl) rfl (WL.no rfl rfl (by decide) rfl (WL.no rfl rfl (by decide) rfl (WL.no rfl rfl (by decide) rfl ?_)))))))))))))
    refine WL.q (LX.pickT rfl rfl) rfl (WL.nil (thenK_normal (WC.yes rfl (WC.seq (WC.region (WL.q (LX.assign rfl) rfl (WL.nil (thenK_normal (WC.ret (thenK_ret ?_))))))))))
    exact KR.one (.inl rfl) rfl rfl ⟨false, rfl, (fun h => by cases h), List.Sublist.refl _⟩
  by_cases h18 : (3 : Int) < X.length
  · skip
    refine WC.seq (WC.region (WL.q (LX.assign rfl) rfl (WL.nil (thenK_normal (WC.seq (WC.seq (WC.region (WL.q (LX.move rfl) rfl (WL.q (LX.len rfl rfl rfl) rfl (WL.q (LX.eq (LX.bin rfl rfl rfl) (fls h14)) rfl (WL.q (LX.move rfl) rfl (WL.yes rfl rfl (WL.q (LX.move rfl) rfl ?_)))))))))))))
    refine WL.yes rfl rfl (WL.q (LX.len rfl rfl rfl) rfl (WL.yes rfl rfl (WL.q (LX.eq (LX.bin rfl rfl rfl) (tru h18)) rfl (WL.q (LX.pickF rfl rfl) rfl (WL.q (LX.move rfl) rfl (WL.no rfl rfl (by decide) rfl (WL.no rfl rfl (by decide) rfl (WL.q (LX.pickT rfl rfl) rfl (WL.q (LX.move rfl) rfl (WL.no rfl rfl (by decide) rfl (WL.no rfl rfl (by decide) rfl (WL.q (LX.pickT rfl rfl) rfl (WL.q (LX.move rfl) rfl ?_)))))))))))))
    refine WL.no rfl rfl (by decide) rfl (WL.no rfl rfl (by decide) rfl (WL.no rfl rfl (by decide) rfl (WL.q (LX.pickT rfl rfl) rfl (WL.nil (thenK_normal (WC.yes rfl (WC.seq (WC.region (WL.q (LX.assign rfl) rfl (WL.nil (thenK_normal (WC.ret (thenK_ret ?_)))))))))))))
    exact KR.one (.inl rfl) rfl rfl ⟨false, rfl, (fun h => by cases h), List.Sublist.refl _⟩
  by_cases h22 : c < 1
  · skip
    refine WC.seq (WC.region (WL.q (LX.assign rfl) rfl (WL.nil (thenK_normal (WC.seq (WC.seq (WC.region (WL.q (LX.move rfl) rfl (WL.q (LX.len rfl rfl rfl) rfl (WL.q (LX.eq (LX.bin rfl rfl rfl) (fls h14)) rfl (WL.q (LX.move rfl) rfl (WL.yes rfl rfl (WL.q (LX.move rfl) rfl ?_)))))))))))))
    refine WL.yes rfl rfl (WL.q (LX.len rfl rfl rfl) rfl (WL.yes rfl rfl (WL.q (LX.eq (LX.bin rfl rfl rfl) (fls h18)) rfl (WL.q (LX.pickF rfl rfl) rfl (WL.q (LX.move rfl) rfl (WL.yes rfl rfl (WL.q (LX.move rfl) rfl (WL.yes rfl rfl (WL.q (LX.eq (LX.bin rfl rfl rfl) (tru h22)) rfl (WL.q (LX.pickF rfl rfl) rfl (WL.q (LX.move rfl) rfl (WL.no rfl rfl (by decide) rfl (WL.no rfl rfl (by decide) rfl ?_)))))))))))))
    refine WL.q (LX.pickT rfl rfl) rfl (WL.q (LX.move rfl) rfl (WL.no rfl rfl (by decide) rfl (WL.no rfl rfl (by decide) rfl (WL.no rfl rfl (by decide) rfl (WL.q (LX.pickT rfl rfl) rfl (WL.nil (thenK_normal (WC.yes rfl (WC.seq (WC.region (WL.q (LX.assign rfl) rfl (WL.nil (thenK_normal ?_)))))))))))))
    refine WC.ret (thenK_ret ?_)
    exact KR.one (.inl rfl) rfl rfl ⟨false, rfl, (fun h => by cases h), List.Sublist.refl _⟩
  by_cases h26 : 5 < c
  · skip
    refine WC.seq (WC.region (WL.q (LX.assign rfl) rfl (WL.nil (thenK_normal (WC.seq (WC.seq (WC.region (WL.q (LX.move rfl) rfl (WL.q (LX.len rfl rfl rfl) rfl (WL.q (LX.eq (LX.bin rfl rfl rfl) (fls h14)) rfl (WL.q (LX.move rfl) rfl (WL.yes rfl rfl (WL.q (LX.move rfl) rfl ?_)))))))))))))
    refine WL.yes rfl rfl (WL.q (LX.len rfl rfl rfl) rfl (WL.yes rfl rfl (WL.q (LX.eq (LX.bin rfl rfl rfl) (fls h18)) rfl (WL.q (LX.pickF rfl rfl) rfl (WL.q (LX.move rfl) rfl (WL.yes rfl rfl (WL.q (LX.move rfl) rfl (WL.yes rfl rfl (WL.q (LX.eq (LX.bin rfl rfl rfl) (fls h22)) rfl (WL.q (LX.pickF rfl rfl) rfl (WL.q (LX.move rfl) rfl (WL.yes rfl rfl (WL.q (LX.move rfl) rfl ?_)))))))))))))
    refine WL.yes rfl rfl (WL.q (LX.eq (LX.bin rfl rfl rfl) (tru h26)) rfl (WL.q (LX.pickF rfl rfl) rfl (WL.q (LX.move rfl) rfl (WL.no rfl rfl (by decide) rfl (WL.no rfl rfl (by decide) rfl (WL.no rfl rfl (by decide) rfl (WL.q (LX.pickT rfl rfl) rfl (WL.nil (thenK_normal (WC.yes rfl (WC.seq (WC.region (WL.q (LX.assign rfl) rfl ?_)))))))))))))
    refine WL.nil (thenK_normal (WC.ret (thenK_ret ?_)))
    exact KR.one (.inl rfl) rfl rfl ⟨false, rfl, (fun h => by cases h), List.Sublist.refl _⟩
  by_cases h31 : (40 : Int) < S.length
  · skip
    refine WC.seq (WC.region (WL.q (LX.assign rfl) rfl (WL.nil (thenK_normal (WC.seq (WC.seq (WC.region (WL.q (LX.move rfl) rfl (WL.q (LX.len rfl rfl rfl) rfl (WL.q (LX.eq (LX.bin rfl rfl rfl) (fls h14)) rfl (WL.q (LX.move rfl) rfl (WL.yes rfl rfl (WL.q (LX.move rfl) rfl ?_)))))))))))))
    refine WL.yes rfl rfl (WL.q (LX.len rfl rfl rfl) rfl (WL.yes rfl rfl (WL.q (LX.eq (LX.bin rfl rfl rfl) (fls h18)) rfl (WL.q (LX.pickF rfl rfl) rfl (WL.q (LX.move rfl) rfl (WL.yes rfl rfl (WL.q (LX.move rfl) rfl (WL.yes rfl rfl (WL.q (LX.eq (LX.bin rfl rfl rfl) (fls h22)) rfl (WL.q (LX.pickF rfl rfl) rfl (WL.q (LX.move rfl) rfl (WL.yes rfl rfl (WL.q (LX.move rfl) rfl ?_)))))))))))))
    refine WL.yes rfl rfl (WL.q (LX.eq (LX.bin rfl rfl rfl) (fls h26)) rfl (WL.q (LX.pickF rfl rfl) rfl (WL.q (LX.move rfl) rfl (WL.yes rfl rfl (WL.q (LX.move rfl) rfl (WL.yes rfl rfl (WL.q (LX.len rfl rfl rfl) rfl (WL.yes rfl rfl (WL.q (LX.eq (LX.bin rfl rfl rfl) (tru h31)) rfl (WL.q (LX.pickF rfl rfl) rfl (WL.nil (thenK_normal (WC.yes rfl ?_)))))))))))))
    refine WC.seq (WC.region (WL.q (LX.assign rfl) rfl (WL.nil (thenK_normal (WC.ret (thenK_ret ?_))))))
    exact KR.one (.inl rfl) rfl rfl ⟨false, rfl, (fun h => by cases h), List.Sublist.refl _⟩
  refine WC.seq (WC.region (WL.q (LX.assign rfl) rfl (WL.nil (thenK_normal (WC.seq (WC.seq (WC.region (WL.q (LX.move rfl) rfl (WL.q (LX.len rfl rfl rfl) rfl (WL.q (LX.eq (LX.bin rfl rfl rfl) (fls h14)) rfl (WL.q (LX.move rfl) rfl (WL.yes rfl rfl (WL.q (LX.move rfl) rfl ?_)))))))))))))
  refine WL.yes rfl rfl (WL.q (LX.len rfl rfl rfl) rfl (WL.yes rfl rfl (WL.q (LX.eq (LX.bin rfl rfl rfl) (fls h18)) rfl (WL.q (LX.pickF rfl rfl) rfl (WL.q (LX.move rfl) rfl (WL.yes rfl rfl (WL.q (LX.move rfl) rfl (WL.yes rfl rfl (WL.q (LX.eq (LX.bin rfl rfl rfl) (fls h22)) rfl (WL.q (LX.pickF rfl rfl) rfl (WL.q (LX.move rfl) rfl (WL.yes rfl rfl (WL.q (LX.move rfl) rfl ?_)))))))))))))
  refine WL.yes rfl rfl (WL.q (LX.eq (LX.bin rfl rfl rfl) (fls h26)) rfl (WL.q (LX.pickF rfl rfl) rfl (WL.q (LX.move rfl) rfl (WL.yes rfl rfl (WL.q (LX.move rfl) rfl (WL.yes rfl rfl (WL.q (LX.len rfl rfl rfl) rfl (WL.yes rfl rfl (WL.q (LX.eq (LX.bin rfl rfl rfl) (fls h31)) rfl (WL.q (LX.pickF rfl rfl) rfl (WL.nil (thenK_normal (WC.no rfl ?_)))))))))))))
  refine WC.skip (thenK_normal (WC.seq (WC.seq (WC.region (WL.q (LX.assign rfl) rfl (WL.nil (thenK_normal (WC.block (WC.loopS (fun i : Nat => [(0, .slice A X.length capm), (1, .int .i64 c), (2, .slice As S.length caps), (7, .int .i64 i)]) (fun _ => M) (fun i => i ≤ X.length ∧ ∀ x ∈ X.take i, ModP x) (fun i => X.length - i) 0 ⟨Nat.zero_le _, by simp⟩ (.cons rfl (.cons rfl (.cons rfl (.cons rfl .nil)))) rfl ?_)))))))))
  rintro i ⟨hi, hall⟩
  refine WC.seq (WC.seq (WC.region (WL.q (LX.move rfl) rfl (WL.q (LX.move rfl) rfl (WL.q (LX.len rfl rfl rfl) rfl (WL.q (LX.bin rfl rfl rfl) rfl (WL.nil (thenK_normal ?_))))))))
  refine WC.test rfl (fun hlt => ?_) (fun hge => ?_)
  · obtain ⟨x, hx, hxm⟩ := list_at (show i < X.length by omega)
    obtain ⟨bA, oA, dA, TA, fA, rfl, hA1, hA2⟩ := hX.at_ hx
    have hxo := hX.ok x hxm
    have hxl := hxo.len
    refine WC.skip (thenK_normal (WC.seq (WC.block (WC.seq (WC.seq (WC.region (WL.q (LX.move rfl) rfl (WL.q (LX.move rfl) rfl (WL.q (LX.idxo rfl rfl rfl i rfl (by omega)) rfl (WL.q (LX.loadW rfl rfl hA1 (Obj.cell_list hA2)) rfl (WL.q (LX.len rfl rfl rfl) rfl (WL.q (LX.bin rfl rfl rfl) rfl (WL.nil ?_)))))))))))))
    refine thenK_normal ?_
    refine WC.test rfl (fun h60 => ?_) (fun h60 => ?_)
    · refine WC.seq (WC.region (WL.q (LX.assign rfl) rfl (WL.nil (thenK_normal (WC.ret (thenK_ret (blockK_ret (thenK_ret (loopS_ret (blockK_ret (thenK_ret ?_)))))))))))
      exact KR.one (.inl rfl) rfl rfl ⟨false, rfl, (fun h => by cases h), List.Sublist.refl _⟩
    · refine WC.skip (thenK_normal (WC.seq (WC.region (WL.q (LX.move rfl) rfl (WL.q (LX.move rfl) rfl (WL.q (LX.idxo rfl rfl rfl i rfl (by omega)) rfl (WL.q (LX.loadW rfl rfl hA1 (Obj.cell_list hA2)) rfl (WL.callR (smodulus (src0 hxo.src) hxo.dg (by omega)) rfl (fun _ => by kernel_rfl) rfl ?_))))))))
      rintro _ _ ⟨v, N, ds, rfl, rfl, hv⟩
      refine WL.q (LX.move rfl) rfl (WL.q (LX.extract rfl rfl) rfl (WL.q (LX.extract rfl rfl) rfl (WL.q (LX.assign rfl) rfl (WL.q (LX.assign rfl) rfl (WL.nil (thenK_normal (WC.seq (WC.region (WL.q (LX.move rfl) rfl (WL.q (LX.not rfl) rfl (WL.nil (thenK_normal ?_))))))))))))
      refine WC.testN rfl (fun h1 => ?_) (fun h1 => ?_)
      · refine WC.seq (WC.region (WL.q (LX.assign rfl) rfl (WL.nil (thenK_normal (WC.ret (blockK_ret (thenK_ret (loopS_ret (blockK_ret (thenK_ret ?_))))))))))
        exact KR.one (.inl rfl) rfl rfl ⟨false, rfl, (fun h => by cases h), List.sublist_append_right _ _⟩
      · refine WC.skip (blockK_normal (thenK_normal (WC.region (WL.q (LX.move rfl) rfl (WL.q (LX.addI rfl rfl (by omega)) rfl (WL.q (LX.assign rfl) rfl (WL.nil ?_)))))))
        exact loopS_nextS (i + 1) ⟨by omega, all_snoc hall hx ⟨by omega, h1⟩⟩ (by omega) (.cons rfl (.cons rfl (.cons rfl (.cons rfl .nil)))) (List.sublist_append_right _ _)
  refine WC.exit (thenK_exit (loopS_exit (blockK_same (thenK_normal (WC.seq (WC.seq (WC.region (WL.q (LX.assign rfl) rfl (WL.nil (thenK_normal (WC.block ?_)))))))))))
  obtain rfl : i = X.length := by omega
  rw [List.take_length] at hall
  refine WC.loopS (fun i : Nat => [(0, .slice A X.length capm), (1, .int .i64 c), (2, .slice As S.length caps), (10, .int .i64 i)]) (fun _ => M) (fun i => i ≤ S.length ∧ ∀ x ∈ S.take i, StpP c.toNat X.length x) (fun i => S.length - i) 0 ⟨Nat.zero_le _, by simp⟩ (.cons rfl (.cons rfl (.cons rfl (.cons rfl .nil)))) rfl ?_
  rintro i ⟨hi, hst⟩
  refine WC.seq (WC.seq (WC.region (WL.q (LX.move rfl) rfl (WL.q (LX.move rfl) rfl (WL.q (LX.len rfl rfl rfl) rfl (WL.q (LX.bin rfl rfl rfl) rfl (WL.nil (thenK_normal ?_))))))))
  refine WC.test rfl (fun hlt => ?_) (fun hge => ?_)
  · obtain ⟨s, hs, hsm⟩ := list_at (show i < S.length by omega)
    obtain ⟨bS, oS, dS, TS, fS, rfl, hS1, hS2, hS3⟩ := hS.at_ hs
    have hsl := (hS.ok s hsm).d.len
    refine WC.skip (thenK_normal (WC.seq (WC.block (WC.seq (WC.region (WL.q (LX.move rfl) rfl (WL.q (LX.move rfl) rfl (WL.q (LX.idx rfl rfl rfl i rfl (by omega)) rfl (WL.q (LX.eq (LX.loadA rfl rfl (fun w hw => heap_below hw hS1) hS2) (show _ = s.val by rw [hS3]; rfl)) rfl (WL.step rfl (EX.alloc (z := .agg #[.int .i64 0, .int .i64 0, .int .i64 0, .int .i64 0, .int .i64 0, .int .i64 0, .slice none 0 0]) (fun _ => by kernel_rfl)) ?_))))))))))
    rintro _ _ ⟨b11, rfl, rfl⟩
    refine WL.put (EX.storeS rfl rfl (by repeat first | assumption | exact List.mem_cons_self | refine List.mem_cons_of_mem _ ?_ | refine List.mem_append_right _ ?_) rfl (by repeat first | exact Upd.here | apply Upd.there | apply Upd.app)) ?_
    refine WL.nil (thenK_normal (WC.seq ?_))
    by_cases h67 : s.o < 0
    · skip
      refine WC.region (WL.q (LX.field0 rfl rfl) rfl ?_)
      refine WL.q (LX.load rfl rfl (by repeat first | assumption | exact List.mem_cons_self | refine List.mem_cons_of_mem _ ?_ | refine List.mem_append_right _ ?_) rfl) rfl ?_
      refine WL.q (LX.eq (LX.bin rfl rfl rfl) (tru h67)) rfl (WL.q (LX.move rfl) rfl (WL.no rfl rfl (by decide) rfl (WL.no rfl rfl (by decide) rfl (WL.no rfl rfl (by decide) rfl (WL.no rfl rfl (by decide) rfl (WL.q (LX.pickT rfl rfl) rfl (WL.q (LX.move rfl) rfl (WL.no rfl rfl (by decide) rfl (WL.no rfl rfl (by decide) rfl (WL.no rfl rfl (by decide) rfl (WL.q (LX.pickT rfl rfl) rfl (WL.q (LX.move rfl) rfl (WL.no rfl rfl (by decide) rfl ?_)))))))))))))
      refine WL.no rfl rfl (by decide) rfl (WL.no rfl rfl (by decide) rfl (WL.no rfl rfl (by decide) rfl (WL.q (LX.pickT rfl rfl) rfl (WL.q (LX.move rfl) rfl (WL.no rfl rfl (by decide) rfl (WL.no rfl rfl (by decide) rfl (WL.no rfl rfl (by decide) rfl (WL.q (LX.pickT rfl rfl) rfl (WL.q (LX.move rfl) rfl (WL.no rfl rfl (by decide) rfl (WL.no rfl rfl (by decide) rfl (WL.no rfl rfl (by decide) rfl (WL.no rfl rfl (by decide) rfl ?_)))))))))))))
      refine WL.q (LX.pickT rfl rfl) rfl (WL.q (LX.move rfl) rfl (WL.no rfl rfl (by decide) rfl (WL.no rfl rfl (by decide) rfl (WL.no rfl rfl (by decide) rfl (WL.q (LX.pickT rfl rfl) rfl (WL.q (LX.move rfl) rfl (WL.no rfl rfl (by decide) rfl (WL.no rfl rfl (by decide) rfl (WL.no rfl rfl (by decide) rfl (WL.no rfl rfl (by decide) rfl (WL.no rfl rfl (by decide) rfl (WL.q (LX.pickT rfl rfl) rfl (WL.q (LX.move rfl) rfl ?_)))))))))))))
      refine WL.no rfl rfl (by decide) rfl (WL.no rfl rfl (by decide) rfl (WL.no rfl rfl (by decide) rfl (WL.no rfl rfl (by decide) rfl (WL.q (LX.pickT rfl rfl) rfl (WL.nil (thenK_normal (WC.yes rfl (WC.seq (WC.region (WL.q (LX.assign rfl) rfl (WL.nil (thenK_normal (WC.ret ?_)))))))))))))
      refine blockK_ret (thenK_ret (loopS_ret (blockK_ret (thenK_ret ?_))))
      exact KR.one (.inl rfl) rfl rfl ⟨false, rfl, (fun h => by cases h), List.sublist_cons_self _ _⟩
    by_cases h72 : c ≤ s.o
    · skip
      refine WC.region (WL.q (LX.field0 rfl rfl) rfl ?_)
      refine WL.q (LX.load rfl rfl (by repeat first | assumption | exact List.mem_cons_self | refine List.mem_cons_of_mem _ ?_ | refine List.mem_append_right _ ?_) rfl) rfl ?_
      refine WL.q (LX.eq (LX.bin rfl rfl rfl) (fls h67)) rfl (WL.q (LX.move rfl) rfl (WL.yes rfl rfl (WL.q (LX.field0 rfl rfl) rfl (WL.yes rfl rfl ?_))))
      refine WL.q (LX.load rfl rfl (by repeat first | assumption | exact List.mem_cons_self | refine List.mem_cons_of_mem _ ?_ | refine List.mem_append_right _ ?_) rfl) rfl ?_
      refine WL.yes rfl rfl (WL.q (LX.move rfl) rfl (WL.yes rfl rfl (WL.q (LX.eq (LX.bin rfl rfl rfl) (tru h72)) rfl (WL.q (LX.pickF rfl rfl) rfl (WL.q (LX.move rfl) rfl (WL.no rfl rfl (by decide) rfl (WL.no rfl rfl (by decide) rfl (WL.no rfl rfl (by decide) rfl (WL.q (LX.pickT rfl rfl) rfl (WL.q (LX.move rfl) rfl (WL.no rfl rfl (by decide) rfl (WL.no rfl rfl (by decide) rfl (WL.no rfl rfl (by decide) rfl ?_)))))))))))))
      refine WL.no rfl rfl (by decide) rfl (WL.q (LX.pickT rfl rfl) rfl (WL.q (LX.move rfl) rfl (WL.no rfl rfl (by decide) rfl (WL.no rfl rfl (by decide) rfl (WL.no rfl rfl (by decide) rfl (WL.q (LX.pickT rfl rfl) rfl (WL.q (LX.move rfl) rfl (WL.no rfl rfl (by decide) rfl (WL.no rfl rfl (by decide) rfl (WL.no rfl rfl (by decide) rfl (WL.no rfl rfl (by decide) rfl (WL.q (LX.pickT rfl rfl) rfl (WL.q (LX.move rfl) rfl ?_)))))))))))))
      refine WL.no rfl rfl (by decide) rfl (WL.no rfl rfl (by decide) rfl (WL.no rfl rfl (by decide) rfl (WL.q (LX.pickT rfl rfl) rfl (WL.q (LX.move rfl) rfl (WL.no rfl rfl (by decide) rfl (WL.no rfl rfl (by decide) rfl (WL.no rfl rfl (by decide) rfl (WL.no rfl rfl (by decide) rfl (WL.no rfl rfl (by decide) rfl (WL.q (LX.pickT rfl rfl) rfl (WL.q (LX.move rfl) rfl (WL.no rfl rfl (by decide) rfl (WL.no rfl rfl (by decide) rfl ?_)))))))))))))
      refine WL.no rfl rfl (by decide) rfl (WL.no rfl rfl (by decide) rfl (WL.q (LX.pickT rfl rfl) rfl (WL.nil (thenK_normal (WC.yes rfl (WC.seq (WC.region (WL.q (LX.assign rfl) rfl (WL.nil (thenK_normal (WC.ret (blockK_ret (thenK_ret ?_)))))))))))))
      refine loopS_ret (blockK_ret (thenK_ret ?_))
      exact KR.one (.inl rfl) rfl rfl ⟨false, rfl, (fun h => by cases h), List.sublist_cons_self _ _⟩
    by_cases h77 : s.a < 0
    · skip
      refine WC.region (WL.q (LX.field0 rfl rfl) rfl ?_)
      refine WL.q (LX.load rfl rfl (by repeat first | assumption | exact List.mem_cons_self | refine List.mem_cons_of_mem _ ?_ | refine List.mem_append_right _ ?_) rfl) rfl ?_
      refine WL.q (LX.eq (LX.bin rfl rfl rfl) (fls h67)) rfl (WL.q (LX.move rfl) rfl (WL.yes rfl rfl (WL.q (LX.field0 rfl rfl) rfl (WL.yes rfl rfl ?_))))
      refine WL.q (LX.load rfl rfl (by repeat first | assumption | exact List.mem_cons_self | refine List.mem_cons_of_mem _ ?_ | refine List.mem_append_right _ ?_) rfl) rfl ?_
      refine WL.yes rfl rfl (WL.q (LX.move rfl) rfl (WL.yes rfl rfl (WL.q (LX.eq (LX.bin rfl rfl rfl) (fls h72)) rfl (WL.q (LX.pickF rfl rfl) rfl (WL.q (LX.move rfl) rfl (WL.yes rfl rfl (WL.q (LX.field0 rfl rfl) rfl (WL.yes rfl rfl ?_))))))))
      refine WL.q (LX.load rfl rfl (by repeat first | assumption | exact List.mem_cons_self | refine List.mem_cons_of_mem _ ?_ | refine List.mem_append_right _ ?_) rfl) rfl ?_
      refine WL.yes rfl rfl (WL.q (LX.eq (LX.bin rfl rfl rfl) (tru h77)) rfl (WL.q (LX.pickF rfl rfl) rfl (WL.q (LX.move rfl) rfl (WL.no rfl rfl (by decide) rfl (WL.no rfl rfl (by decide) rfl (WL.no rfl rfl (by decide) rfl (WL.no rfl rfl (by decide) rfl (WL.q (LX.pickT rfl rfl) rfl (WL.q (LX.move rfl) rfl (WL.no rfl rfl (by decide) rfl (WL.no rfl rfl (by decide) rfl (WL.no rfl rfl (by decide) rfl (WL.q (LX.pickT rfl rfl) rfl ?_)))))))))))))
      refine WL.q (LX.move rfl) rfl (WL.no rfl rfl (by decide) rfl (WL.no rfl rfl (by decide) rfl (WL.no rfl rfl (by decide) rfl (WL.no rfl rfl (by decide) rfl (WL.q (LX.pickT rfl rfl) rfl (WL.q (LX.move rfl) rfl (WL.no rfl rfl (by decide) rfl (WL.no rfl rfl (by decide) rfl (WL.no rfl rfl (by decide) rfl (WL.q (LX.pickT rfl rfl) rfl (WL.q (LX.move rfl) rfl (WL.no rfl rfl (by decide) rfl (WL.no rfl rfl (by decide) rfl ?_)))))))))))))
      refine WL.no rfl rfl (by decide) rfl (WL.no rfl rfl (by decide) rfl (WL.no rfl rfl (by decide) rfl (WL.q (LX.pickT rfl rfl) rfl (WL.q (LX.move rfl) rfl (WL.no rfl rfl (by decide) rfl (WL.no rfl rfl (by decide) rfl (WL.no rfl rfl (by decide) rfl (WL.no rfl rfl (by decide) rfl (WL.q (LX.pickT rfl rfl) rfl (WL.nil (thenK_normal (WC.yes rfl (WC.seq ?_)))))))))))))
      refine WC.region (WL.q (LX.assign rfl) rfl (WL.nil (thenK_normal (WC.ret (blockK_ret (thenK_ret (loopS_ret (blockK_ret (thenK_ret ?_)))))))))
      exact KR.one (.inl rfl) rfl rfl ⟨false, rfl, (fun h => by cases h), List.sublist_cons_self _ _⟩
    by_cases h83 : c ≤ s.a
    · skip
      refine WC.region (WL.q (LX.field0 rfl rfl) rfl ?_)
      refine WL.q (LX.load rfl rfl (by repeat first | assumption | exact List.mem_cons_self | refine List.mem_cons_of_mem _ ?_ | refine List.mem_append_right _ ?_) rfl) rfl ?_
      refine WL.q (LX.eq (LX.bin rfl rfl rfl) (fls h67)) rfl (WL.q (LX.move rfl) rfl (WL.yes rfl rfl (WL.q (LX.field0 rfl rfl) rfl (WL.yes rfl rfl ?_))))
      refine WL.q (LX.load rfl rfl (by repeat first | assumption | exact List.mem_cons_self | refine List.mem_cons_of_mem _ ?_ | refine List.mem_append_right _ ?_) rfl) rfl ?_
      refine WL.yes rfl rfl (WL.q (LX.move rfl) rfl (WL.yes rfl rfl (WL.q (LX.eq (LX.bin rfl rfl rfl) (fls h72)) rfl (WL.q (LX.pickF rfl rfl) rfl (WL.q (LX.move rfl) rfl (WL.yes rfl rfl (WL.q (LX.field0 rfl rfl) rfl (WL.yes rfl rfl ?_))))))))
      refine WL.q (LX.load rfl rfl (by repeat first | assumption | exact List.mem_cons_self | refine List.mem_cons_of_mem _ ?_ | refine List.mem_append_right _ ?_) rfl) rfl ?_
      refine WL.yes rfl rfl (WL.q (LX.eq (LX.bin rfl rfl rfl) (fls h77)) rfl (WL.q (LX.pickF rfl rfl) rfl (WL.q (LX.move rfl) rfl (WL.yes rfl rfl (WL.q (LX.field0 rfl rfl) rfl (WL.yes rfl rfl ?_))))))
      refine WL.q (LX.load rfl rfl (by repeat first | assumption | exact List.mem_cons_self | refine List.mem_cons_of_mem _ ?_ | refine List.mem_append_right _ ?_) rfl) rfl ?_
      refine WL.yes rfl rfl (WL.q (LX.move rfl) rfl (WL.yes rfl rfl (WL.q (LX.eq (LX.bin rfl rfl rfl) (tru h83)) rfl (WL.q (LX.pickF rfl rfl) rfl (WL.q (LX.move rfl) rfl (WL.no rfl rfl (by decide) rfl (WL.no rfl rfl (by decide) rfl (WL.no rfl rfl (by decide) rfl (WL.q (LX.pickT rfl rfl) rfl (WL.q (LX.move rfl) rfl (WL.no rfl rfl (by decide) rfl (WL.no rfl rfl (by decide) rfl (WL.no rfl rfl (by decide) rfl ?_)))))))))))))
      refine WL.no rfl rfl (by decide) rfl (WL.q (LX.pickT rfl rfl) rfl (WL.q (LX.move rfl) rfl (WL.no rfl rfl (by decide) rfl (WL.no rfl rfl (by decide) rfl (WL.no rfl rfl (by decide) rfl (WL.q (LX.pickT rfl rfl) rfl (WL.q (LX.move rfl) rfl (WL.no rfl rfl (by decide) rfl (WL.no rfl rfl (by decide) rfl (WL.no rfl rfl (by decide) rfl (WL.no rfl rfl (by decide) rfl (WL.no rfl rfl (by decide) rfl (WL.q (LX.pickT rfl rfl) rfl ?_)))))))))))))
      refine WL.q (LX.move rfl) rfl (WL.no rfl rfl (by decide) rfl (WL.no rfl rfl (by decide) rfl (WL.no rfl rfl (by decide) rfl (WL.no rfl rfl (by decide) rfl (WL.q (LX.pickT rfl rfl) rfl (WL.nil (thenK_normal (WC.yes rfl (WC.seq (WC.region (WL.q (LX.assign rfl) rfl (WL.nil (thenK_normal ?_)))))))))))))
      refine WC.ret (blockK_ret (thenK_ret (loopS_ret (blockK_ret (thenK_ret ?_)))))
      exact KR.one (.inl rfl) rfl rfl ⟨false, rfl, (fun h => by cases h), List.sublist_cons_self _ _⟩
    by_cases h88 : s.b < 0
    · skip
      refine WC.region (WL.q (LX.field0 rfl rfl) rfl ?_)
      refine WL.q (LX.load rfl rfl (by repeat first | assumption | exact List.mem_cons_self | refine List.mem_cons_of_mem _ ?_ | refine List.mem_append_right _ ?_) rfl) rfl ?_
      refine WL.q (LX.eq (LX.bin rfl rfl rfl) (fls h67)) rfl (WL.q (LX.move rfl) rfl (WL.yes rfl rfl (WL.q (LX.field0 rfl rfl) rfl (WL.yes rfl rfl ?_))))
      refine WL.q (LX.load rfl rfl (by repeat first | assumption | exact List.mem_cons_self | refine List.mem_cons_of_mem _ ?_ | refine List.mem_append_right _ ?_) rfl) rfl ?_
      refine WL.yes rfl rfl (WL.q (LX.move rfl) rfl (WL.yes rfl rfl (WL.q (LX.eq (LX.bin rfl rfl rfl) (fls h72)) rfl (WL.q (LX.pickF rfl rfl) rfl (WL.q (LX.move rfl) rfl (WL.yes rfl rfl (WL.q (LX.field0 rfl rfl) rfl (WL.yes rfl rfl ?_))))))))
      refine WL.q (LX.load rfl rfl (by repeat first | assumption | exact List.mem_cons_self | refine List.mem_cons_of_mem _ ?_ | refine List.mem_append_right _ ?_) rfl) rfl ?_
      refine WL.yes rfl rfl (WL.q (LX.eq (LX.bin rfl rfl rfl) (fls h77)) rfl (WL.q (LX.pickF rfl rfl) rfl (WL.q (LX.move rfl) rfl (WL.yes rfl rfl (WL.q (LX.field0 rfl rfl) rfl (WL.yes rfl rfl ?_))))))
      refine WL.q (LX.load rfl rfl (by repeat first | assumption | exact List.mem_cons_self | refine List.mem_cons_of_mem _ ?_ | refine List.mem_append_right _ ?_) rfl) rfl ?_
      refine WL.yes rfl rfl (WL.q (LX.move rfl) rfl (WL.yes rfl rfl (WL.q (LX.eq (LX.bin rfl rfl rfl) (fls h83)) rfl (WL.q (LX.pickF rfl rfl) rfl (WL.q (LX.move rfl) rfl (WL.yes rfl rfl (WL.q (LX.field0 rfl rfl) rfl (WL.yes rfl rfl ?_))))))))
      refine WL.q (LX.load rfl rfl (by repeat first | assumption | exact List.mem_cons_self | refine List.mem_cons_of_mem _ ?_ | refine List.mem_append_right _ ?_) rfl) rfl ?_
      refine WL.yes rfl rfl (WL.q (LX.eq (LX.bin rfl rfl rfl) (tru h88)) rfl (WL.q (LX.pickF rfl rfl) rfl (WL.q (LX.move rfl) rfl (WL.no rfl rfl (by decide) rfl (WL.no rfl rfl (by decide) rfl (WL.no rfl rfl (by decide) rfl (WL.no rfl rfl (by decide) rfl (WL.q (LX.pickT rfl rfl) rfl (WL.q (LX.move rfl) rfl (WL.no rfl rfl (by decide) rfl (WL.no rfl rfl (by decide) rfl (WL.no rfl rfl (by decide) rfl (WL.q (LX.pickT rfl rfl) rfl ?_)))))))))))))
      refine WL.q (LX.move rfl) rfl (WL.no rfl rfl (by decide) rfl (WL.no rfl rfl (by decide) rfl (WL.no rfl rfl (by decide) rfl (WL.no rfl rfl (by decide) rfl (WL.no rfl rfl (by decide) rfl (WL.q (LX.pickT rfl rfl) rfl (WL.q (LX.move rfl) rfl (WL.no rfl rfl (by decide) rfl (WL.no rfl rfl (by decide) rfl (WL.no rfl rfl (by decide) rfl (WL.no rfl rfl (by decide) rfl (WL.q (LX.pickT rfl rfl) rfl (WL.nil ?_)))))))))))))
      refine thenK_normal (WC.yes rfl (WC.seq (WC.region (WL.q (LX.assign rfl) rfl (WL.nil (thenK_normal (WC.ret (blockK_ret (thenK_ret (loopS_ret (blockK_ret (thenK_ret ?_))))))))))))
      exact KR.one (.inl rfl) rfl rfl ⟨false, rfl, (fun h => by cases h), List.sublist_cons_self _ _⟩
    by_cases h94 : c ≤ s.b
    · skip
      refine WC.region (WL.q (LX.field0 rfl rfl) rfl ?_)
      refine WL.q (LX.load rfl rfl (by repeat first | assumption | exact List.mem_cons_self | refine List.mem_cons_of_mem _ ?_ | refine List.mem_append_right _ ?_) rfl) rfl ?_
      refine WL.q (LX.eq (LX.bin rfl rfl rfl) (fls h67)) rfl (WL.q (LX.move rfl) rfl (WL.yes rfl rfl (WL.q (LX.field0 rfl rfl) rfl (WL.yes rfl rfl ?_))))
      refine WL.q (LX.load rfl rfl (by repeat first | assumption | exact List.mem_cons_self | refine List.mem_cons_of_mem _ ?_ | refine List.mem_append_right _ ?_) rfl) rfl ?_
      refine WL.yes rfl rfl (WL.q (LX.move rfl) rfl (WL.yes rfl rfl (WL.q (LX.eq (LX.bin rfl rfl rfl) (fls h72)) rfl (WL.q (LX.pickF rfl rfl) rfl (WL.q (LX.move rfl) rfl (WL.yes rfl rfl (WL.q (LX.field0 rfl rfl) rfl (WL.yes rfl rfl ?_))))))))
      refine WL.q (LX.load rfl rfl (by repeat first | assumption | exact List.mem_cons_self | refine List.mem_cons_of_mem _ ?_ | refine List.mem_append_right _ ?_) rfl) rfl ?_
      refine WL.yes rfl rfl (WL.q (LX.eq (LX.bin rfl rfl rfl) (fls h77)) rfl (WL.q (LX.pickF rfl rfl) rfl (WL.q (LX.move rfl) rfl (WL.yes rfl rfl (WL.q (LX.field0 rfl rfl) rfl (WL.yes rfl rfl ?_))))))
      refine WL.q (LX.load rfl rfl (by repeat first | assumption | exact List.mem_cons_self | refine List.mem_cons_of_mem _ ?_ | refine List.mem_append_right _ ?_) rfl) rfl ?_
      refine WL.yes rfl rfl (WL.q (LX.move rfl) rfl (WL.yes rfl rfl (WL.q (LX.eq (LX.bin rfl rfl rfl) (fls h83)) rfl (WL.q (LX.pickF rfl rfl) rfl (WL.q (LX.move rfl) rfl (WL.yes rfl rfl (WL.q (LX.field0 rfl rfl) rfl (WL.yes rfl rfl ?_))))))))
      refine WL.q (LX.load rfl rfl (by repeat first | assumption | exact List.mem_cons_self | refine List.mem_cons_of_mem _ ?_ | refine List.mem_append_right _ ?_) rfl) rfl ?_
      refine WL.yes rfl rfl (WL.q (LX.eq (LX.bin rfl rfl rfl) (fls h88)) rfl (WL.q (LX.pickF rfl rfl) rfl (WL.q (LX.move rfl) rfl (WL.yes rfl rfl (WL.q (LX.field0 rfl rfl) rfl (WL.yes rfl rfl ?_))))))
      refine WL.q (LX.load rfl rfl (by repeat first | assumption | exact List.mem_cons_self | refine List.mem_cons_of_mem _ ?_ | refine List.mem_append_right _ ?_) rfl) rfl ?_
      refine WL.yes rfl rfl (WL.q (LX.move rfl) rfl (WL.yes rfl rfl (WL.q (LX.eq (LX.bin rfl rfl rfl) (tru h94)) rfl (WL.q (LX.pickF rfl rfl) rfl (WL.q (LX.move rfl) rfl (WL.no rfl rfl (by decide) rfl (WL.no rfl rfl (by decide) rfl (WL.no rfl rfl (by decide) rfl (WL.q (LX.pickT rfl rfl) rfl (WL.q (LX.move rfl) rfl (WL.no rfl rfl (by decide) rfl (WL.no rfl rfl (by decide) rfl (WL.no rfl rfl (by decide) rfl ?_)))))))))))))
      refine WL.no rfl rfl (by decide) rfl (WL.no rfl rfl (by decide) rfl (WL.q (LX.pickT rfl rfl) rfl (WL.q (LX.move rfl) rfl (WL.no rfl rfl (by decide) rfl (WL.no rfl rfl (by decide) rfl (WL.no rfl rfl (by decide) rfl (WL.no rfl rfl (by decide) rfl (WL.q (LX.pickT rfl rfl) rfl (WL.nil (thenK_normal (WC.yes rfl (WC.seq (WC.region ?_)))))))))))))
      refine WL.q (LX.assign rfl) rfl (WL.nil (thenK_normal (WC.ret (blockK_ret (thenK_ret (loopS_ret (blockK_ret (thenK_ret ?_))))))))
      exact KR.one (.inl rfl) rfl rfl ⟨false, rfl, (fun h => by cases h), List.sublist_cons_self _ _⟩
    by_cases h99 : s.m < 0
    · skip
      refine WC.region (WL.q (LX.field0 rfl rfl) rfl ?_)
      refine WL.q (LX.load rfl rfl (by repeat first | assumption | exact List.mem_cons_self | refine List.mem_cons_of_mem _ ?_ | refine List.mem_append_right _ ?_) rfl) rfl ?_
      refine WL.q (LX.eq (LX.bin rfl rfl rfl) (fls h67)) rfl (WL.q (LX.move rfl) rfl (WL.yes rfl rfl (WL.q (LX.field0 rfl rfl) rfl (WL.yes rfl rfl ?_))))
      refine WL.q (LX.load rfl rfl (by repeat first | assumption | exact List.mem_cons_self | refine List.mem_cons_of_mem _ ?_ | refine List.mem_append_right _ ?_) rfl) rfl ?_
      refine WL.yes rfl rfl (WL.q (LX.move rfl) rfl (WL.yes rfl rfl (WL.q (LX.eq (LX.bin rfl rfl rfl) (fls h72)) rfl (WL.q (LX.pickF rfl rfl) rfl (WL.q (LX.move rfl) rfl (WL.yes rfl rfl (WL.q (LX.field0 rfl rfl) rfl (WL.yes rfl rfl ?_))))))))
      refine WL.q (LX.load rfl rfl (by repeat first | assumption | exact List.mem_cons_self | refine List.mem_cons_of_mem _ ?_ | refine List.mem_append_right _ ?_) rfl) rfl ?_
      refine WL.yes rfl rfl (WL.q (LX.eq (LX.bin rfl rfl rfl) (fls h77)) rfl (WL.q (LX.pickF rfl rfl) rfl (WL.q (LX.move rfl) rfl (WL.yes rfl rfl (WL.q (LX.field0 rfl rfl) rfl (WL.yes rfl rfl ?_))))))
      refine WL.q (LX.load rfl rfl (by repeat first | assumption | exact List.mem_cons_self | refine List.mem_cons_of_mem _ ?_ | refine List.mem_append_right _ ?_) rfl) rfl ?_
      refine WL.yes rfl rfl (WL.q (LX.move rfl) rfl (WL.yes rfl rfl (WL.q (LX.eq (LX.bin rfl rfl rfl) (fls h83)) rfl (WL.q (LX.pickF rfl rfl) rfl (WL.q (LX.move rfl) rfl (WL.yes rfl rfl (WL.q (LX.field0 rfl rfl) rfl (WL.yes rfl rfl ?_))))))))
      refine WL.q (LX.load rfl rfl (by repeat first | assumption | exact List.mem_cons_self | refine List.mem_cons_of_mem _ ?_ | refine List.mem_append_right _ ?_) rfl) rfl ?_
      refine WL.yes rfl rfl (WL.q (LX.eq (LX.bin rfl rfl rfl) (fls h88)) rfl (WL.q (LX.pickF rfl rfl) rfl (WL.q (LX.move rfl) rfl (WL.yes rfl rfl (WL.q (LX.field0 rfl rfl) rfl (WL.yes rfl rfl ?_))))))
      refine WL.q (LX.load rfl rfl (by repeat first | assumption | exact List.mem_cons_self | refine List.mem_cons_of_mem _ ?_ | refine List.mem_append_right _ ?_) rfl) rfl ?_
      refine WL.yes rfl rfl (WL.q (LX.move rfl) rfl (WL.yes rfl rfl (WL.q (LX.eq (LX.bin rfl rfl rfl) (fls h94)) rfl (WL.q (LX.pickF rfl rfl) rfl (WL.q (LX.move rfl) rfl (WL.yes rfl rfl (WL.q (LX.field0 rfl rfl) rfl (WL.yes rfl rfl ?_))))))))
      refine WL.q (LX.load rfl rfl (by repeat first | assumption | exact List.mem_cons_self | refine List.mem_cons_of_mem _ ?_ | refine List.mem_append_right _ ?_) rfl) rfl ?_
      refine WL.yes rfl rfl (WL.q (LX.eq (LX.bin rfl rfl rfl) (tru h99)) rfl (WL.q (LX.pickF rfl rfl) rfl (WL.q (LX.move rfl) rfl (WL.no rfl rfl (by decide) rfl (WL.no rfl rfl (by decide) rfl (WL.no rfl rfl (by decide) rfl (WL.no rfl rfl (by decide) rfl (WL.no rfl rfl (by decide) rfl (WL.q (LX.pickT rfl rfl) rfl (WL.q (LX.move rfl) rfl (WL.no rfl rfl (by decide) rfl (WL.no rfl rfl (by decide) rfl (WL.no rfl rfl (by decide) rfl ?_)))))))))))))
      refine WL.no rfl rfl (by decide) rfl (WL.q (LX.pickT rfl rfl) rfl (WL.nil (thenK_normal (WC.yes rfl (WC.seq (WC.region (WL.q (LX.assign rfl) rfl (WL.nil (thenK_normal (WC.ret (blockK_ret (thenK_ret (loopS_ret ?_)))))))))))))
      refine blockK_ret (thenK_ret ?_)
      exact KR.one (.inl rfl) rfl rfl ⟨false, rfl, (fun h => by cases h), List.sublist_cons_self _ _⟩
    by_cases h106 : (X.length : Int) ≤ s.m
    · skip
      refine WC.region (WL.q (LX.field0 rfl rfl) rfl ?_)
      refine WL.q (LX.load rfl rfl (by repeat first | assumption | exact List.mem_cons_self | refine List.mem_cons_of_mem _ ?_ | refine List.mem_append_right _ ?_) rfl) rfl ?_
      refine WL.q (LX.eq (LX.bin rfl rfl rfl) (fls h67)) rfl (WL.q (LX.move rfl) rfl (WL.yes rfl rfl (WL.q (LX.field0 rfl rfl) rfl (WL.yes rfl rfl ?_))))
      refine WL.q (LX.load rfl rfl (by repeat first | assumption | exact List.mem_cons_self | refine List.mem_cons_of_mem _ ?_ | refine List.mem_append_right _ ?_) rfl) rfl ?_
      refine WL.yes rfl rfl (WL.q (LX.move rfl) rfl (WL.yes rfl rfl (WL.q (LX.eq (LX.bin rfl rfl rfl) (fls h72)) rfl (WL.q (LX.pickF rfl rfl) rfl (WL.q (LX.move rfl) rfl (WL.yes rfl rfl (WL.q (LX.field0 rfl rfl) rfl (WL.yes rfl rfl ?_))))))))
      refine WL.q (LX.load rfl rfl (by repeat first | assumption | exact List.mem_cons_self | refine List.mem_cons_of_mem _ ?_ | refine List.mem_append_right _ ?_) rfl) rfl ?_
      refine WL.yes rfl rfl (WL.q (LX.eq (LX.bin rfl rfl rfl) (fls h77)) rfl (WL.q (LX.pickF rfl rfl) rfl (WL.q (LX.move rfl) rfl (WL.yes rfl rfl (WL.q (LX.field0 rfl rfl) rfl (WL.yes rfl rfl ?_))))))
      refine WL.q (LX.load rfl rfl (by repeat first | assumption | exact List.mem_cons_self | refine List.mem_cons_of_mem _ ?_ | refine List.mem_append_right _ ?_) rfl) rfl ?_
      refine WL.yes rfl rfl (WL.q (LX.move rfl) rfl (WL.yes rfl rfl (WL.q (LX.eq (LX.bin rfl rfl rfl) (fls h83)) rfl (WL.q (LX.pickF rfl rfl) rfl (WL.q (LX.move rfl) rfl (WL.yes rfl rfl (WL.q (LX.field0 rfl rfl) rfl (WL.yes rfl rfl ?_))))))))
      refine WL.q (LX.load rfl rfl (by repeat first | assumption | exact List.mem_cons_self | refine List.mem_cons_of_mem _ ?_ | refine List.mem_append_right _ ?_) rfl) rfl ?_
      refine WL.yes rfl rfl (WL.q (LX.eq (LX.bin rfl rfl rfl) (fls h88)) rfl (WL.q (LX.pickF rfl rfl) rfl (WL.q (LX.move rfl) rfl (WL.yes rfl rfl (WL.q (LX.field0 rfl rfl) rfl (WL.yes rfl rfl ?_))))))
      refine WL.q (LX.load rfl rfl (by repeat first | assumption | exact List.mem_cons_self | refine List.mem_cons_of_mem _ ?_ | refine List.mem_append_right _ ?_) rfl) rfl ?_
      refine WL.yes rfl rfl (WL.q (LX.move rfl) rfl (WL.yes rfl rfl (WL.q (LX.eq (LX.bin rfl rfl rfl) (fls h94)) rfl (WL.q (LX.pickF rfl rfl) rfl (WL.q (LX.move rfl) rfl (WL.yes rfl rfl (WL.q (LX.field0 rfl rfl) rfl (WL.yes rfl rfl ?_))))))))
      refine WL.q (LX.load rfl rfl (by repeat first | assumption | exact List.mem_cons_self | refine List.mem_cons_of_mem _ ?_ | refine List.mem_append_right _ ?_) rfl) rfl ?_
      refine WL.yes rfl rfl (WL.q (LX.eq (LX.bin rfl rfl rfl) (fls h99)) rfl (WL.q (LX.pickF rfl rfl) rfl (WL.q (LX.move rfl) rfl (WL.yes rfl rfl (WL.q (LX.field0 rfl rfl) rfl (WL.yes rfl rfl ?_))))))
      refine WL.q (LX.load rfl rfl (by repeat first | assumption | exact List.mem_cons_self | refine List.mem_cons_of_mem _ ?_ | refine List.mem_append_right _ ?_) rfl) rfl ?_
      refine WL.yes rfl rfl (WL.q (LX.move rfl) rfl (WL.yes rfl rfl (WL.q (LX.len rfl rfl rfl) rfl (WL.yes rfl rfl (WL.q (LX.eq (LX.bin rfl rfl rfl) (tru h106)) rfl (WL.q (LX.pickF rfl rfl) rfl (WL.q (LX.move rfl) rfl (WL.no rfl rfl (by decide) rfl (WL.no rfl rfl (by decide) rfl (WL.no rfl rfl (by decide) rfl (WL.no rfl rfl (by decide) rfl (WL.q (LX.pickT rfl rfl) rfl (WL.nil ?_)))))))))))))
      refine thenK_normal (WC.yes rfl (WC.seq (WC.region (WL.q (LX.assign rfl) rfl (WL.nil (thenK_normal (WC.ret (blockK_ret (thenK_ret (loopS_ret (blockK_ret (thenK_ret ?_))))))))))))
      exact KR.one (.inl rfl) rfl rfl ⟨false, rfl, (fun h => by cases h), List.sublist_cons_self _ _⟩
    by_cases h112 : (60 : Int) < s.d.bs.length
    · skip
      refine WC.region (WL.q (LX.field0 rfl rfl) rfl ?_)
      refine WL.q (LX.load rfl rfl (by repeat first | assumption | exact List.mem_cons_self | refine List.mem_cons_of_mem _ ?_ | refine List.mem_append_right _ ?_) rfl) rfl ?_
      refine WL.q (LX.eq (LX.bin rfl rfl rfl) (fls h67)) rfl (WL.q (LX.move rfl) rfl (WL.yes rfl rfl (WL.q (LX.field0 rfl rfl) rfl (WL.yes rfl rfl ?_))))
      refine WL.q (LX.load rfl rfl (by repeat first | assumption | exact List.mem_cons_self | refine List.mem_cons_of_mem _ ?_ | refine List.mem_append_right _ ?_) rfl) rfl ?_
      refine WL.yes rfl rfl (WL.q (LX.move rfl) rfl (WL.yes rfl rfl (WL.q (LX.eq (LX.bin rfl rfl rfl) (fls h72)) rfl (WL.q (LX.pickF rfl rfl) rfl (WL.q (LX.move rfl) rfl (WL.yes rfl rfl (WL.q (LX.field0 rfl rfl) rfl (WL.yes rfl rfl ?_))))))))
      refine WL.q (LX.load rfl rfl (by repeat first | assumption | exact List.mem_cons_self | refine List.mem_cons_of_mem _ ?_ | refine List.mem_append_right _ ?_) rfl) rfl ?_
      refine WL.yes rfl rfl (WL.q (LX.eq (LX.bin rfl rfl rfl) (fls h77)) rfl (WL.q (LX.pickF rfl rfl) rfl (WL.q (LX.move rfl) rfl (WL.yes rfl rfl (WL.q (LX.field0 rfl rfl) rfl (WL.yes rfl rfl ?_))))))
      refine WL.q (LX.load rfl rfl (by repeat first | assumption | exact List.mem_cons_self | refine List.mem_cons_of_mem _ ?_ | refine List.mem_append_right _ ?_) rfl) rfl ?_
      refine WL.yes rfl rfl (WL.q (LX.move rfl) rfl (WL.yes rfl rfl (WL.q (LX.eq (LX.bin rfl rfl rfl) (fls h83)) rfl (WL.q (LX.pickF rfl rfl) rfl (WL.q (LX.move rfl) rfl (WL.yes rfl rfl (WL.q (LX.field0 rfl rfl) rfl (WL.yes rfl rfl ?_))))))))
      refine WL.q (LX.load rfl rfl (by repeat first | assumption | exact List.mem_cons_self | refine List.mem_cons_of_mem _ ?_ | refine List.mem_append_right _ ?_) rfl) rfl ?_
      refine WL.yes rfl rfl (WL.q (LX.eq (LX.bin rfl rfl rfl) (fls h88)) rfl (WL.q (LX.pickF rfl rfl) rfl (WL.q (LX.move rfl) rfl (WL.yes rfl rfl (WL.q (LX.field0 rfl rfl) rfl (WL.yes rfl rfl ?_))))))
      refine WL.q (LX.load rfl rfl (by repeat first | assumption | exact List.mem_cons_self | refine List.mem_cons_of_mem _ ?_ | refine List.mem_append_right _ ?_) rfl) rfl ?_
      refine WL.yes rfl rfl (WL.q (LX.move rfl) rfl (WL.yes rfl rfl (WL.q (LX.eq (LX.bin rfl rfl rfl) (fls h94)) rfl (WL.q (LX.pickF rfl rfl) rfl (WL.q (LX.move rfl) rfl (WL.yes rfl rfl (WL.q (LX.field0 rfl rfl) rfl (WL.yes rfl rfl ?_))))))))
      refine WL.q (LX.load rfl rfl (by repeat first | assumption | exact List.mem_cons_self | refine List.mem_cons_of_mem _ ?_ | refine List.mem_append_right _ ?_) rfl) rfl ?_
      refine WL.yes rfl rfl (WL.q (LX.eq (LX.bin rfl rfl rfl) (fls h99)) rfl (WL.q (LX.pickF rfl rfl) rfl (WL.q (LX.move rfl) rfl (WL.yes rfl rfl (WL.q (LX.field0 rfl rfl) rfl (WL.yes rfl rfl ?_))))))
      refine WL.q (LX.load rfl rfl (by repeat first | assumption | exact List.mem_cons_self | refine List.mem_cons_of_mem _ ?_ | refine List.mem_append_right _ ?_) rfl) rfl ?_
      refine WL.yes rfl rfl (WL.q (LX.move rfl) rfl (WL.yes rfl rfl (WL.q (LX.len rfl rfl rfl) rfl (WL.yes rfl rfl (WL.q (LX.eq (LX.bin rfl rfl rfl) (fls h106)) rfl (WL.q (LX.pickF rfl rfl) rfl (WL.q (LX.move rfl) rfl (WL.yes rfl rfl (WL.q (LX.field0 rfl rfl) rfl (WL.yes rfl rfl ?_))))))))))
      refine WL.q (LX.load rfl rfl (by repeat first | assumption | exact List.mem_cons_self | refine List.mem_cons_of_mem _ ?_ | refine List.mem_append_right _ ?_) rfl) rfl ?_
      refine WL.yes rfl rfl (WL.q (LX.len rfl rfl rfl) rfl (WL.yes rfl rfl (WL.q (LX.eq (LX.bin rfl rfl rfl) (tru h112)) rfl (WL.q (LX.pickF rfl rfl) rfl (WL.nil (thenK_normal (WC.yes rfl (WC.seq (WC.region (WL.q (LX.assign rfl) rfl (WL.nil (thenK_normal (WC.ret ?_)))))))))))))
      refine blockK_ret (thenK_ret (loopS_ret (blockK_ret (thenK_ret ?_))))
      exact KR.one (.inl rfl) rfl rfl ⟨false, rfl, (fun h => by cases h), List.sublist_cons_self _ _⟩
    refine WC.region (WL.q (LX.field0 rfl rfl) rfl ?_)
    refine WL.q (LX.load rfl rfl (by repeat first | assumption | exact List.mem_cons_self | refine List.mem_cons_of_mem _ ?_ | refine List.mem_append_right _ ?_) rfl) rfl ?_
    refine WL.q (LX.eq (LX.bin rfl rfl rfl) (fls h67)) rfl (WL.q (LX.move rfl) rfl (WL.yes rfl rfl (WL.q (LX.field0 rfl rfl) rfl (WL.yes rfl rfl ?_))))
    refine WL.q (LX.load rfl rfl (by repeat first | assumption | exact List.mem_cons_self | refine List.mem_cons_of_mem _ ?_ | refine List.mem_append_right _ ?_) rfl) rfl ?_
    refine WL.yes rfl rfl (WL.q (LX.move rfl) rfl (WL.yes rfl rfl (WL.q (LX.eq (LX.bin rfl rfl rfl) (fls h72)) rfl (WL.q (LX.pickF rfl rfl) rfl (WL.q (LX.move rfl) rfl (WL.yes rfl rfl (WL.q (LX.field0 rfl rfl) rfl (WL.yes rfl rfl ?_))))))))
    refine WL.q (LX.load rfl rfl (by repeat first | assumption | exact List.mem_cons_self | refine List.mem_cons_of_mem _ ?_ | refine List.mem_append_right _ ?_) rfl) rfl ?_
    refine WL.yes rfl rfl (WL.q (LX.eq (LX.bin rfl rfl rfl) (fls h77)) rfl (WL.q (LX.pickF rfl rfl) rfl (WL.q (LX.move rfl) rfl (WL.yes rfl rfl (WL.q (LX.field0 rfl rfl) rfl (WL.yes rfl rfl ?_))))))
    refine WL.q (LX.load rfl rfl (by repeat first | assumption | exact List.mem_cons_self | refine List.mem_cons_of_mem _ ?_ | refine List.mem_append_right _ ?_) rfl) rfl ?_
    refine WL.yes rfl rfl (WL.q (LX.move rfl) rfl (WL.yes rfl rfl (WL.q (LX.eq (LX.bin rfl rfl rfl) (fls h83)) rfl (WL.q (LX.pickF rfl rfl) rfl (WL.q (LX.move rfl) rfl (WL.yes rfl rfl (WL.q (LX.field0 rfl rfl) rfl (WL.yes rfl rfl ?_))))))))
    refine WL.q (LX.load rfl rfl (by repeat first | assumption | exact List.mem_cons_self | refine List.mem_cons_of_mem _ ?_ | refine List.mem_append_right _ ?_) rfl) rfl ?_
    refine WL.yes rfl rfl (WL.q (LX.eq (LX.bin rfl rfl rfl) (fls h88)) rfl (WL.q (LX.pickF rfl rfl) rfl (WL.q (LX.move rfl) rfl (WL.yes rfl rfl (WL.q (LX.field0 rfl rfl) rfl (WL.yes rfl rfl ?_))))))
    refine WL.q (LX.load rfl rfl (by repeat first | assumption | exact List.mem_cons_self | refine List.mem_cons_of_mem _ ?_ | refine List.mem_append_right _ ?_) rfl) rfl ?_
    refine WL.yes rfl rfl (WL.q (LX.move rfl) rfl (WL.yes rfl rfl (WL.q (LX.eq (LX.bin rfl rfl rfl) (fls h94)) rfl (WL.q (LX.pickF rfl rfl) rfl (WL.q (LX.move rfl) rfl (WL.yes rfl rfl (WL.q (LX.field0 rfl rfl) rfl (WL.yes rfl rfl ?_))))))))
    refine WL.q (LX.load rfl rfl (by repeat first | assumption | exact List.mem_cons_self | refine List.mem_cons_of_mem _ ?_ | refine List.mem_append_right _ ?_) rfl) rfl ?_
    refine WL.yes rfl rfl (WL.q (LX.eq (LX.bin rfl rfl rfl) (fls h99)) rfl (WL.q (LX.pickF rfl rfl) rfl (WL.q (LX.move rfl) rfl (WL.yes rfl rfl (WL.q (LX.field0 rfl rfl) rfl (WL.yes rfl rfl ?_))))))
    refine WL.q (LX.load rfl rfl (by repeat first | assumption | exact List.mem_cons_self | refine List.mem_cons_of_mem _ ?_ | refine List.mem_append_right _ ?_) rfl) rfl ?_
    refine WL.yes rfl rfl (WL.q (LX.move rfl) rfl (WL.yes rfl rfl (WL.q (LX.len rfl rfl rfl) rfl (WL.yes rfl rfl (WL.q (LX.eq (LX.bin rfl rfl rfl) (fls h106)) rfl (WL.q (LX.pickF rfl rfl) rfl (WL.q (LX.move rfl) rfl (WL.yes rfl rfl (WL.q (LX.field0 rfl rfl) rfl (WL.yes rfl rfl ?_))))))))))
    refine WL.q (LX.load rfl rfl (by repeat first | assumption | exact List.mem_cons_self | refine List.mem_cons_of_mem _ ?_ | refine List.mem_append_right _ ?_) rfl) rfl ?_
    refine WL.yes rfl rfl (WL.q (LX.len rfl rfl rfl) rfl (WL.yes rfl rfl (WL.q (LX.eq (LX.bin rfl rfl rfl) (fls h112)) rfl (WL.q (LX.pickF rfl rfl) rfl (WL.nil (thenK_normal (WC.no rfl (WC.skip (blockK_normal (thenK_normal (WC.region (WL.q (LX.move rfl) rfl (WL.q (LX.addI rfl rfl (by omega)) rfl ?_)))))))))))))
    refine WL.q (LX.assign rfl) rfl (WL.nil ?_)
    exact loopS_nextS (i + 1) ⟨by omega, all_snoc hst hs ⟨by omega, by omega, by omega, by omega, by omega⟩⟩ (by omega) (.cons rfl (.cons rfl (.cons rfl (.cons rfl .nil)))) (List.sublist_cons_self _ _)
  refine WC.exit (thenK_exit (loopS_exit (blockK_same (thenK_normal (WC.seq (WC.region (WL.q (LX.assign rfl) rfl (WL.nil (thenK_normal (WC.ret ?_))))))))))
  obtain rfl : i = S.length := by omega
  rw [List.take_length] at hst
  exact KR.one (.inl rfl) rfl rfl ⟨true, rfl, fun _ => ⟨by omega, by omega, by omega, by omega, by omega, hall, hst⟩, List.Sublist.refl _⟩
end
end Go.Proofs.YtdnngppofbmpeaaGreatDoor.Bm
