/- Proved here: how the laws' arguments (moduli, steps) and the table of math/bits lie in memory, off their readings. Conditions: none but those that each theorem states. -/
import Derived.Test.YtdnngppofbmpeaaGreatDoorG34
import Derived.Test.YtdnngppofbmpeaaGreatDoorRows
import Derived.Deep.Matrix
import Derived.SizedLaws
import Derived.OpenShut
import Derived.LaidMore
import Derived.LaidLaws
import Derived.LaidHandle
import Derived.ProofKit
import Derived.ChangeSame
import Derived.RowKit
namespace Go.Proofs.YtdnngppofbmpeaaGreatDoor.Bm
open Go Go.RowKit Go.ChangeShapes Go.WideShapes Go.ChangeAt Go.Deep

theorem add_add (a : Addr) (m k : Nat) : (a.add m).add k = a.add (m + k) := by
  unfold Addr.add
  by_cases hk : k = 0
  · subst hk; simp
  · by_cases hm : m = 0
    · subst hm; simp [hk]
    · have : m + k ≠ 0 := by omega
      simp [hk, hm, Nat.add_assoc]

theorem heap_of {w : World} {a : Addr} {v : Value} (h : w.cell? a = some v) : ∃ c T fr, w.heap[a.block]? = some (.cells c T fr) ∧ c[a.off]? = some v ∧ a.spot = none := by
  have hs := World.cell?_spot h
  unfold World.cell? at h
  split at h
  · rename_i c T fr hh
    rw [hs] at h
    exact ⟨c, T, fr, hh, by simpa using h, hs⟩
  · simp at h

theorem Row.of {w0 : World} {a : Addr} {n : Nat} {rows : List (List Value)} (hn : 0 < n) (h : ∀ j r, rows[j]? = some r → r.length = n ∧ ∀ k v, r[k]? = some v → w0.cell? (a.add (j * n + k)) = some v) : Row w0 (some a) n rows := by
  cases rows with
  | nil => exact .inl rfl
  | cons r0 rs =>
    right
    obtain ⟨l0, c0⟩ := h 0 r0 rfl
    have h00 := c0 0 r0[0] (List.getElem?_eq_getElem (by omega))
    have e0 : a.add (0 * n + 0) = a := by simp [Addr.add]
    rw [e0] at h00
    obtain ⟨c, T, fr, hh, _, hsp⟩ := heap_of h00
    obtain ⟨b, o, s⟩ := a
    simp only at hsp hh
    subst hsp
    have hc : ∀ j r, (r0 :: rs)[j]? = some r → r.length = n ∧ ∀ k v, r[k]? = some v → c.toList[o + (j * n + k)]? = some v := by
      intro j r hr
      obtain ⟨l, h1⟩ := h j r hr
      refine ⟨l, fun k v hk => ?_⟩
      obtain ⟨c', T', fr', hh', hv', _⟩ := heap_of (h1 k v hk)
      rw [add_plain] at hh' hv'
      simp only at hh' hv'
      rw [hh] at hh'
      obtain ⟨rfl, rfl, rfl⟩ : c = c' ∧ T = T' ∧ fr = fr' := by simpa using hh'
      simpa using hv'
    refine ⟨b, o, c.toList, T, fr, rfl, by simpa using hh, ?_, ?_⟩
    · obtain ⟨r, hr⟩ : ∃ r, (r0 :: rs)[rs.length]? = some r := ⟨_, List.getElem?_eq_getElem (by simp)⟩
      obtain ⟨l, h1⟩ := hc _ r hr
      have h2 := h1 (n - 1) r[n - 1] (List.getElem?_eq_getElem (by omega))
      have h3 := (List.getElem?_eq_some_iff.1 h2).1
      rw [List.length_cons, Nat.succ_mul]
      omega
    · intro j r hr
      obtain ⟨l, h1⟩ := hc j r hr
      unfold sliceL
      refine List.ext_getElem? fun k => ?_
      rw [List.getElem?_take]
      split
      · rename_i hk
        rw [List.getElem?_drop, List.getElem?_eq_getElem (show k < r.length by omega), Nat.add_assoc]
        exact h1 k _ (List.getElem?_eq_getElem (by omega))
      · rw [List.getElem?_eq_none (by omega)]

theorem Src.of {w0 : World} {A : Option Addr} {bs : List Int} (h0 : A = none → bs = []) (h : ∀ a, A = some a → ∀ i, i < bs.length → w0.cell? (a.add i) = some (.int .u8 (bs.getD i 0))) : Src w0 [] A bs := by
  cases A with
  | none => exact .inl (h0 rfl)
  | some a =>
    have hr : Row w0 (some a) 1 (bs.map fun z => [Value.int .u8 z]) := Row.of (by omega) fun j r hr => by
      rw [List.getElem?_map] at hr
      cases hb : bs[j]? with
      | none => simp [hb] at hr
      | some z =>
        rw [hb] at hr
        obtain rfl : [Value.int .u8 z] = r := by simpa using hr
        have hj := (List.getElem?_eq_some_iff.1 hb).1
        refine ⟨rfl, fun k v hk => ?_⟩
        match k, hk with
        | 0, hk =>
          obtain rfl : Value.int .u8 z = v := by simpa using hk
          have := h a rfl j hj
          rw [Nat.mul_one, Nat.add_zero, this, List.getD_eq_getElem?_getD, hb]; rfl
        | k + 1, hk => simp at hk
    rcases hr with h1 | ⟨b, o, d, T, fr, h1, h2, h3, h4⟩
    · exact .inl (by simpa using h1)
    · refine .inr ⟨b, o, d, T, fr, h1, fun w hw => ?_, by simpa using h3, ?_⟩
      · rw [hw.below.block b (Array.getElem?_eq_some_iff.1 h2).1]; exact h2
      · refine List.ext_getElem? fun k => ?_
        unfold sliceL
        rw [List.getElem?_take, List.getElem?_map]
        split
        · rename_i hk
          have h5 := h4 k [.int .u8 (bs[k])] (by rw [List.getElem?_map, List.getElem?_eq_getElem hk]; rfl)
          have h6 : (sliceL d (o + k * 1) 1)[0]? = some (.int .u8 bs[k]) := by rw [h5]; rfl
          unfold sliceL at h6
          rw [List.getElem?_take, if_pos (by omega), List.getElem?_drop, Nat.mul_one, Nat.add_zero] at h6
          rw [List.getElem?_drop, h6, List.getElem?_eq_getElem hk]; rfl
        · rw [List.getElem?_eq_none (by omega)]; rfl

theorem weightsAll_mem {H : Type} {P : Program} {e : TypeId} : ∀ {l : List (DataW H)} {d : DataW H}, d ∈ l → ∀ n ∈ d.weights P e, n ∈ DataW.weightsAll P e l
  | d' :: r, d, hd, n, hn => by
    simp only [DataW.weightsAll, List.mem_append]
    rcases List.mem_cons.1 hd with rfl | h
    · exact Or.inl hn
    · exact Or.inr (weightsAll_mem h n hn)

theorem reach_le : reachBytes ≤ 281474976710656 := by decide

section
variable {H : Type} {enc : TypeId × Value → H} {W : World} {m : Nat} {cs : List Value} {y : DataW H × List MemPlace}
theorem bs_of (h : DataW.trod enc Tryz.prog W 0 (fun _ => true) true m 39 cs = some y) (hsz : ∀ n ∈ y.1.weights Tryz.prog 39, n ≤ reachBytes) : ∃ x : Bs, cs = [x.val] ∧ BsOk W x := by
  have hR := reach_le
  rcases open_ints Tryz.underlying39 Tryz.underlying5 (by kernel_rfl) h with ⟨rfl, rfl⟩ | ⟨a, len, cap, zs, rfl, _, hl, hm, hz, rfl, hcell, hwz⟩
  · exact ⟨⟨none, [], 0⟩, rfl, .inl rfl, Dg.nil _, by simp⟩
  · simp only [if_true] at hz
    have hlen : (zs.take len).length = len := by rw [List.length_take]; omega
    have hb : Tryz.prog.bytesOf 5 = 1 := by kernel_rfl
    have hcap : cap ≤ reachBytes := by
      refine hsz _ ?_
      simp only [DataW.weights, Tryz.underlying39, lits, List.length_map, List.length_take, List.length_drop, hb, List.mem_cons, List.mem_append]
      left; omega
    refine ⟨⟨some a, zs.take len, cap⟩, by rw [Bs.val, hlen], Src.of (by simp) (fun a' ha i hi => ?_), fun z hz' => ?_, by rw [hlen]; omega⟩
    · obtain rfl : a = a' := by simpa using ha
      rw [hlen] at hi
      rw [hcell i (by omega), List.getD_eq_getElem?_getD, List.getD_eq_getElem?_getD, List.getElem?_take, if_pos hi]
    · have := hwz z (List.mem_of_mem_take hz')
      simp only [Lit.wf, Bool.and_eq_true, decide_eq_true_eq] at this
      have e1 : IntKind.min .u8 = 0 := by decide
      have e2 : IntKind.max .u8 = 255 := by decide
      rw [e1, e2] at this
      omega

theorem mods_of {d : DataW H} {p : List MemPlace} (h : DataW.trod enc Tryz.prog W 0 (fun _ => true) true m 22 cs = some (d, p)) (hw : ∀ n ∈ d.weights Tryz.prog 22, n ≤ reachBytes) : ∃ A X cap, cs = [.slice A X.length cap] ∧ ModsIn W A X := by
  have hR := reach_le
  rcases open_slice1 Tryz.underlying22 (by kernel_rfl) h with ⟨rfl, _⟩ | ⟨a, len, cap, m, n, V, D, Pl, rfl, hb, hl, hm, hmm, hx, hel⟩
  · exact ⟨none, [], 0, rfl, .inl rfl, by simp, by simp⟩
  · simp only [if_true] at hmm
    subst hmm
    have hd := (Prod.mk.inj hx).1
    have each : ∀ i, i < len → ∃ x : Option Addr × List Int × Nat, V i = (Bs.mk x.1 x.2.1 x.2.2).val ∧ BsOk W ⟨x.1, x.2.1, x.2.2⟩ := fun i hi => by
      obtain ⟨h1, h2⟩ := hel i (by omega)
      obtain ⟨x, e, ok⟩ := bs_of h2 (fun n hn => hw n (by
        rw [hd]
        simp only [DataW.weights, Tryz.underlying22, List.mem_cons, List.mem_append]
        exact .inr (.inl (weightsAll_mem (List.mem_map.2 ⟨i, List.mem_range.2 hi, rfl⟩) n hn))))
      exact ⟨(x.A, x.bs, x.cap), by simpa using e, ok⟩
    obtain ⟨f, hf⟩ := choose_lt each
    have hbb : Tryz.prog.bytesOf 39 = 24 := by kernel_rfl
    have hlen : (len + (m - len)) * 24 ≤ reachBytes := hw _ (by
      rw [hd]
      simp only [DataW.weights, Tryz.underlying22, List.length_map, List.length_range, hbb, List.mem_cons]
      exact .inl trivial)
    refine ⟨some a, (List.range len).map fun i => ⟨(f i).1, (f i).2.1, (f i).2.2⟩, m, by simp, Row.of (by omega) fun j r hr => ?_, fun x hx => ?_, by simp; omega⟩
    · rw [List.getElem?_map, List.getElem?_map] at hr
      rcases Nat.lt_or_ge j len with hj | hj
      · rw [List.getElem?_range hj] at hr
        obtain rfl : [(Bs.mk (f j).1 (f j).2.1 (f j).2.2).val] = r := by simpa using hr
        refine ⟨rfl, fun k v hk => ?_⟩
        match k, hk with
        | 0, hk =>
          obtain rfl : (Bs.mk (f j).1 (f j).2.1 (f j).2.2).val = v := by simpa using hk
          rw [Nat.mul_one, Nat.add_zero, ← (hf j hj).1]
          exact (hel j (by omega)).1
        | k + 1, hk => simp at hk
      · rw [List.getElem?_eq_none (by simpa using hj)] at hr; simp at hr
    · obtain ⟨i, hi, rfl⟩ := List.mem_map.1 hx
      exact (hf i (List.mem_range.1 hi)).2

theorem list7 {α : Type} {l : List α} (h : l.length = 7) : ∃ a b c d e f g, l = [a, b, c, d, e, f, g] := by
  match l, h with
  | [a, b, c, d, e, f, g], _ => exact ⟨a, b, c, d, e, f, g, rfl⟩

theorem i64_of_wf {n : Int} (h : (Lit.int .i64 n).wf = true) : -9223372036854775808 ≤ n ∧ n ≤ 9223372036854775807 := by
  simp only [Lit.wf, Bool.and_eq_true, decide_eq_true_eq] at h
  have e1 : IntKind.min .i64 = -9223372036854775808 := by decide
  have e2 : IntKind.max .i64 = 9223372036854775807 := by decide
  rw [e1, e2] at h
  exact h

theorem stp_of (h : DataW.trod enc Tryz.prog W 0 (fun _ => true) true m 41 cs = some y) (hw : ∀ n ∈ y.1.weights Tryz.prog 41, n ≤ reachBytes) : ∃ s : Stp, cs = s.cells ∧ StpOk W s := by
  obtain ⟨xs, n, rfl, rfl, hl, hlen, hf⟩ := DataW.trod_struct Tryz.underlying41 h
  have hl' : cs.length = 7 := hl.trans (by kernel_rfl)
  have hlen' : xs.length = 7 := hlen
  have c3 : Tryz.prog.cellsOf 3 = 1 := by kernel_rfl
  have c39 : Tryz.prog.cellsOf 39 = 1 := by kernel_rfl
  obtain ⟨c0, c1, c2, c3', c4, c5, c6, rfl⟩ := list7 hl'
  obtain ⟨y0, y1, y2, y3, y4, y5, y6, rfl⟩ := list7 hlen'
  · have g0 : DataW.trod enc Tryz.prog W 0 (fun _ => true) true n 3 (([c0, c1, c2, c3', c4, c5, c6].drop 0).take (Tryz.prog.cellsOf 3)) = some y0 := hf 0 _ rfl
    have g1 : DataW.trod enc Tryz.prog W 0 (fun _ => true) true n 3 (([c0, c1, c2, c3', c4, c5, c6].drop 1).take (Tryz.prog.cellsOf 3)) = some y1 := hf 1 _ rfl
    have g2 : DataW.trod enc Tryz.prog W 0 (fun _ => true) true n 3 (([c0, c1, c2, c3', c4, c5, c6].drop 2).take (Tryz.prog.cellsOf 3)) = some y2 := hf 2 _ rfl
    have g3 : DataW.trod enc Tryz.prog W 0 (fun _ => true) true n 3 (([c0, c1, c2, c3', c4, c5, c6].drop 3).take (Tryz.prog.cellsOf 3)) = some y3 := hf 3 _ rfl
    have g4 : DataW.trod enc Tryz.prog W 0 (fun _ => true) true n 3 (([c0, c1, c2, c3', c4, c5, c6].drop 4).take (Tryz.prog.cellsOf 3)) = some y4 := hf 4 _ rfl
    have g5 : DataW.trod enc Tryz.prog W 0 (fun _ => true) true n 3 (([c0, c1, c2, c3', c4, c5, c6].drop 5).take (Tryz.prog.cellsOf 3)) = some y5 := hf 5 _ rfl
    have g6 : DataW.trod enc Tryz.prog W 0 (fun _ => true) true n 39 (([c0, c1, c2, c3', c4, c5, c6].drop 6).take (Tryz.prog.cellsOf 39)) = some y6 := hf 6 _ rfl
    rw [c3] at g0 g1 g2 g3 g4 g5
    rw [c39] at g6
    obtain ⟨z0, e0, _, _⟩ := DataW.trod_int (x := y0) Tryz.underlying3 g0
    obtain ⟨z1, e1, _, _⟩ := DataW.trod_int (x := y1) Tryz.underlying3 g1
    obtain ⟨z2, e2, _, _⟩ := DataW.trod_int (x := y2) Tryz.underlying3 g2
    obtain ⟨z3, e3, _, _⟩ := DataW.trod_int (x := y3) Tryz.underlying3 g3
    obtain ⟨z4, e4, _, _⟩ := DataW.trod_int (x := y4) Tryz.underlying3 g4
    obtain ⟨z5, e5, _, w5⟩ := DataW.trod_int (x := y5) Tryz.underlying3 g5
    obtain ⟨x, e6, ok⟩ := bs_of (y := y6) g6 (fun n hn => hw n (by
      simp only [DataW.weights, Tryz.underlying41, List.map_cons, List.map_nil, DataW.weightsEach, List.mem_append]
      simp [hn]))
    obtain rfl : c0 = .int .i64 z0 := by simpa using e0
    obtain rfl : c1 = .int .i64 z1 := by simpa using e1
    obtain rfl : c2 = .int .i64 z2 := by simpa using e2
    obtain rfl : c3' = .int .i64 z3 := by simpa using e3
    obtain rfl : c4 = .int .i64 z4 := by simpa using e4
    obtain rfl : c5 = .int .i64 z5 := by simpa using e5
    obtain rfl : c6 = x.val := by simpa using e6
    exact ⟨⟨z0, z1, z2, z3, z4, z5, x⟩, rfl, ok, i64_of_wf w5⟩

theorem stps_of {d : DataW H} {p : List MemPlace} (h : DataW.trod enc Tryz.prog W 0 (fun _ => true) true m 23 cs = some (d, p)) (hw : ∀ n ∈ d.weights Tryz.prog 23, n ≤ reachBytes) : ∃ A S cap, cs = [.slice A S.length cap] ∧ StpsIn W A S ∧ S.length ≤ cap := by
  have hR := reach_le
  have c41 : Tryz.prog.cellsOf 41 = 7 := by kernel_rfl
  rcases open_slice Tryz.underlying23 h with ⟨rfl, _⟩ | ⟨a, len, cap, m, n, D, Pl, rfl, hb, hl, hm, hmm, hx, hel⟩
  · exact ⟨none, [], 0, rfl, ⟨.inl rfl, by simp, by simp⟩, by simp⟩
  · simp only [if_true] at hmm
    subst hmm
    rw [c41] at hel
    have hd := (Prod.mk.inj hx).1
    have each : ∀ i, i < len → ∃ s : Int × Int × Int × Int × Int × Int × Option Addr × List Int × Nat, StpOk W ⟨s.1, s.2.1, s.2.2.1, s.2.2.2.1, s.2.2.2.2.1, s.2.2.2.2.2.1, ⟨s.2.2.2.2.2.2.1, s.2.2.2.2.2.2.2.1, s.2.2.2.2.2.2.2.2⟩⟩ ∧
        W.cells? 0 (a.add (i * 7)) 7 = some (Stp.mk s.1 s.2.1 s.2.2.1 s.2.2.2.1 s.2.2.2.2.1 s.2.2.2.2.2.1 ⟨s.2.2.2.2.2.2.1, s.2.2.2.2.2.2.2.1, s.2.2.2.2.2.2.2.2⟩).cells := fun i hi => by
      obtain ⟨cs', h1, h2⟩ := hel i (by omega)
      obtain ⟨s, rfl, ok⟩ := stp_of h2 (fun n hn => hw n (by
        rw [hd]
        simp only [DataW.weights, Tryz.underlying23, List.mem_cons, List.mem_append]
        exact .inr (.inl (weightsAll_mem (List.mem_map.2 ⟨i, List.mem_range.2 hi, rfl⟩) n hn))))
      exact ⟨(s.k, s.o, s.a, s.b, s.m, s.num, s.d.A, s.d.bs, s.d.cap), ok, h1⟩
    obtain ⟨f, hf⟩ := choose_lt each
    generalize hg : (fun i => Stp.mk (f i).1 (f i).2.1 (f i).2.2.1 (f i).2.2.2.1 (f i).2.2.2.2.1 (f i).2.2.2.2.2.1 ⟨(f i).2.2.2.2.2.2.1, (f i).2.2.2.2.2.2.2.1, (f i).2.2.2.2.2.2.2.2⟩) = g
    replace hf : ∀ i, i < len → StpOk W (g i) ∧ W.cells? 0 (a.add (i * 7)) 7 = some (g i).cells := fun i hi => by subst hg; exact hf i hi
    clear hg
    have hbb : Tryz.prog.bytesOf 41 = 72 := by kernel_rfl
    have hlen : (len + (m - len)) * 72 ≤ reachBytes := hw _ (by
      rw [hd]
      simp only [DataW.weights, Tryz.underlying23, List.length_map, List.length_range, hbb, List.mem_cons]
      exact .inl trivial)
    refine ⟨some a, (List.range len).map g, m, by simp, ⟨Row.of (by omega) fun j r hr => ?_, fun x hx => ?_, by simp; omega⟩, by simpa using hl⟩
    · rw [List.getElem?_map, List.getElem?_map] at hr
      rcases Nat.lt_or_ge j len with hj | hj
      · rw [List.getElem?_range hj] at hr
        obtain rfl : (g j).cells = r := by simpa using hr
        obtain ⟨_, hc⟩ := hf j hj
        obtain ⟨_, _, hc'⟩ := World.cells?_some hc
        refine ⟨rfl, fun k v hk => ?_⟩
        have hk7 : k < 7 := (List.getElem?_eq_some_iff.1 hk).1
        have h1 := hc' k hk7
        rw [hk] at h1
        rw [← h1, add_add]
      · rw [List.getElem?_eq_none (by simpa using hj)] at hr; simp at hr
    · obtain ⟨i, hi, rfl⟩ := List.mem_map.1 hx
      exact (hf i (List.mem_range.1 hi)).1
end

/-- the table of math/bits -/
theorem tab_of {W : World} (h : laidMetH Tryz.prog Rows.fnScriptRow.laid W) : Tab W := by
  intro r hr
  rw [MakeChecks.laidMetH_plain _ _ _ (by kernel_rfl)] at h
  obtain ⟨ps, ⟨_, _, _, _, _, _, _, _, _, _, ⟨g, t, cs, fuel, p, q, hg, ht, hv, hd, _, _⟩, _⟩, _, _⟩ := h
  obtain rfl := Option.some.inj ((show Tryz.prog.globalNamed "math/bits.deBruijn64tab" = some 1 by kernel_rfl).symm.trans hg)
  obtain rfl := Option.some.inj ((show (Tryz.prog.globals[1]?).map (·.type) = some 158 by kernel_rfl).symm.trans ht)
  obtain ⟨xs, m, _, ex, _, hl, hel⟩ := DataW.trod_array Tryz.underlying158 hd
  have c5 : Tryz.prog.cellsOf 5 = 1 := by kernel_rfl
  have hE := hel r hr
  rw [c5, Nat.mul_one, List.getElem?_eq_getElem (by omega)] at hE
  obtain ⟨z, e1, e2, _⟩ := DataW.trod_int Tryz.underlying5 hE
  have hlen : tab64.length = 64 := by kernel_rfl
  have e5 : (Rows.laid_math_bits_deBruijn64tab : DataW Unit) = .agg (tab64.map fun n => .lit (.int .u8 n)) := by kernel_rfl
  have e3 : (xs.map (·.1)) = tab64.map fun n => .lit (.int .u8 n) := (DataW.agg.inj (e5.symm.trans (Prod.mk.inj ex).1)).symm
  have e4 : (xs.map (·.1))[r]? = (tab64.map fun n => (DataW.lit (.int .u8 n) : DataW Unit))[r]? := by rw [e3]
  rw [List.getElem?_map, List.getElem?_map, List.getElem?_eq_getElem (by omega : r < xs.length), List.getElem?_eq_getElem (by omega : r < tab64.length), e2] at e4
  have hz : z = gt tab64 r := by
    simp only [Option.map_some, Option.some.injEq, DataW.lit.injEq, Lit.int.injEq, true_and] at e4
    rw [e4, gt_eq (by omega)]
  rw [World.var?_cell hg hv r, ← hz]
  have : cs.toList[r]? = some (.int .u8 z) := by
    have h0 : ((cs.toList.drop r).take 1)[0]? = some (.int .u8 z) := by rw [e1]; rfl
    simpa using h0
  simpa using this
end Go.Proofs.YtdnngppofbmpeaaGreatDoor.Bm
