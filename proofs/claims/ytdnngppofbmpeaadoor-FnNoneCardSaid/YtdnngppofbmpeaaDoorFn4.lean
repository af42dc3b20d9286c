/- Proved here: what slices.Clone of bytes and resetToBytes of a new number do. No conditions but those that each theorem states. -/
import Derived.Test.YtdnngppofbmpeaaDoorFn3
namespace Go.Proofs.YtdnngppofbmpeaaDoor.Bm
open Go Go.RowKit

def isU8 (v : Value) : Prop := ∃ q, v = .int .u8 q ∧ 0 ≤ q ∧ q < 256
theorem Bsl.mono {M N : Mem} {A : Option Addr} {bs : List Int} {cap : Nat} (h : Bsl M A bs cap) (hs : ∀ p ∈ M, p ∈ N) : Bsl N A bs cap := by
  rcases h with h | ⟨b, full, h1, h2, h3⟩
  · exact .inl h
  · exact .inr ⟨b, full, h1, hs _ h2, h3⟩

/-- memory that reads as bytes, be it the call's own or what was there -/
def Src (w0 : World) (M : Mem) (A : Option Addr) (bs : List Int) : Prop :=
  bs = [] ∨ ∃ b o d T fr, A = some ⟨b, o, none⟩ ∧ (∀ w, HW w0 M w → w.heap[b]? = some (.cells (d : List Value).toArray T fr)) ∧ o + bs.length ≤ d.length ∧ sliceL d o bs.length = bs.map (Value.int .u8)

theorem Own.bsl {u : Value} {bs : List Int} {M M' : Mem} (h : Own isU8 5 u (bs.map (Value.int .u8)) M M') : ∃ A cap N, u = .slice A bs.length cap ∧ M' = N ++ M ∧ Bsl N A bs cap := by
  rcases h with ⟨rfl, h, rfl⟩ | ⟨b, c, rfl, hl, ht, rfl, hG⟩
  · have : bs = [] := by simpa using h
    subst this
    exact ⟨none, 0, [], rfl, rfl, .inl rfl⟩
  · obtain ⟨full, rfl⟩ := ints_of (k := .u8) (fun u hu => let ⟨q, h, _⟩ := hG u hu; ⟨q, h⟩)
    simp only [List.length_map] at hl ht
    refine ⟨some ⟨b, 0, none⟩, full.length, [(b, bytes full)], by simp, rfl, .inr ⟨b, full, rfl, by simp, hl, ?_, ?_, hl⟩⟩
    · rw [← List.map_take] at ht
      have key : ∀ (a c : List Int), a.map (Value.int .u8) = c.map (Value.int .u8) → a = c := by
        intro a
        induction a with
        | nil => intro c h; cases c <;> simp_all
        | cons x a ih => intro c h; cases c with
          | nil => simp at h
          | cons y c => simp only [List.map_cons, List.cons.injEq, Value.int.injEq, true_and] at h; rw [h.1, ih c h.2]
      exact key _ _ ht
    · intro x hx
      obtain ⟨q, h1, h2⟩ := hG (.int .u8 x) (List.mem_map.2 ⟨x, hx, rfl⟩)
      cases h1
      exact h2

section
variable {w0 : World} {M : Mem}
/-- slices.Clone of bytes -/
theorem cloneB {A : Option Addr} {bs : List Int} {cap : Nat} (hs : Src w0 M A bs) (hd : Dg 256 bs) (hl : bs.length ≤ 2147483647) :
    CS w0 6 [.slice A bs.length cap] M (fun u M' => ∃ A' cap' N, u = .slice A' bs.length cap' ∧ M' = N ++ M ∧ Bsl N A' bs cap') := by
  refine CS.of Tryd.func6 Tryd.ntmps6 rfl rfl ?_
  refine WC.seq ?_
  refine WC.region ?_
  refine WL.q (LX.assign rfl) rfl ?_
  refine WL.nil ?_
  refine thenK_normal ?_
  refine WC.seq ?_
  refine WC.seq ?_
  refine WC.region ?_
  refine WL.q (LX.move rfl) rfl ?_
  refine WL.q (LX.isNil rfl rfl) rfl ?_
  refine WL.nil ?_
  refine thenK_normal ?_
  refine WC.cond rfl (fun h => ?_) (fun h => ?_)
  · refine WC.seq ?_
    refine WC.region ?_
    refine WL.q (LX.assign rfl) rfl ?_
    refine WL.nil ?_
    refine thenK_normal ?_
    refine WC.ret ?_
    refine thenK_ret ?_
    obtain rfl : A = none := by simpa using h
    have : bs = [] := by
      rcases hs with h | ⟨_, _, _, _, _, h, _⟩
      · exact h
      · cases h
    subst this
    exact KR.one (.inl rfl) rfl rfl ⟨none, 0, [], rfl, rfl, .inl rfl⟩
  · refine WC.skip ?_
    refine thenK_normal ?_
    refine WC.seq ?_
    refine WC.region ?_
    refine WL.step rfl (EX.bslice (e := 5) (cs := []) rfl (fun _ => by kernel_rfl)) ?_
    rintro _ _ ⟨b, rfl, rfl⟩
    refine WL.q (LX.move rfl) rfl ?_
    have hown : Own isU8 5 (.slice (some ⟨b, 0, none⟩) 0 0) [] M ((b, .cells (#[] : Array Value) 5 (0, 0)) :: M) := .inr ⟨b, [], rfl, Nat.le_refl _, rfl, rfl, by simp⟩
    rcases hs with rfl | ⟨b', o, d, T, fr, rfl, hm, ho, hsl⟩
    · obtain ⟨a, rfl⟩ : ∃ a, A = some a := by cases A with
        | none => simp at h
        | some a => exact ⟨a, rfl⟩
      refine WL.q (LX.append0 rfl (Nat.le_refl _) rfl rfl rfl rfl) rfl ?_
      refine WL.q (LX.assign rfl) rfl ?_
      refine WL.nil ?_
      refine thenK_normal ?_
      refine WC.ret ?_
      exact KR.one (.inl rfl) rfl rfl (hown.bsl (bs := []))
    · skip
      refine WL.appendOwn (EX.append (ds := bs.map (Value.int .u8)) rfl hown rfl rfl rfl rfl rfl ⟨0, rfl, by omega, by omega⟩ ?_ (fun w hw => hm w ⟨hw.below, fun p hp => hw.has p (List.mem_cons_of_mem _ hp)⟩) ho hsl ?_ (by simp; omega)) rfl ?_
      · intro u hu; obtain ⟨q, hq, rfl⟩ := List.mem_map.1 hu; exact ⟨q, rfl, hd q hq⟩
      · intro u hu; obtain ⟨q, hq, rfl⟩ := List.mem_map.1 hu; rfl
      rintro v M' hv
      refine WL.q (LX.assign rfl) rfl ?_
      refine WL.nil ?_
      refine thenK_normal ?_
      refine WC.ret ?_
      exact KR.one (.inl rfl) rfl rfl hv.bsl

theorem gt_rep {k i : Nat} {xs : List Int} (h : i < k) : gt (List.replicate k 0 ++ xs) i = 0 := by
  unfold gt
  rw [List.getD_eq_getElem?_getD, List.getElem?_append_left (by simpa using h), List.getElem?_replicate]
  simp [h]

theorem panic_free : True := trivial

/-- resetToBytes of a new number: the words of the bytes, without zeros at the end -/
theorem resetToBytes {p l cap : Nat} {A : Option Addr} {bs : List Int} (hb : Bsl M A bs cap) (hbd : Dg 256 bs) (hL : bs.length ≤ 248) :
    CS w0 11 [ptr p, .slice A bs.length cap] ((p, natO l 0 32) :: (l, words (List.replicate 32 0)) :: M)
      (fun u M' => u = ptr p ∧ ∃ m ys, ys.length = 32 ∧ Dg W64 ys ∧ m ≤ 32 ∧ dv W64 (ys.take m) = dv 256 bs.reverse ∧ (m = 0 ∨ gt ys (m - 1) ≠ 0) ∧ M' = (p, natO l m 32) :: (l, words ys) :: M) := by
  refine CS.of Tryd.func11 Tryd.ntmps11 rfl rfl ?_
  refine WC.seq ?_
  refine WC.region ?_
  refine WL.q (LX.assign rfl) rfl ?_
  refine WL.nil ?_
  refine thenK_normal ?_
  refine WC.seq ?_
  refine WC.region ?_
  refine WL.q (LX.move rfl) rfl ?_
  refine WL.q (LX.move rfl) rfl ?_
  refine WL.q (LX.len rfl rfl rfl) rfl ?_
  refine WL.q (LX.addI rfl rfl (by omega)) rfl ?_
  refine WL.q (LX.subI rfl rfl (by omega)) rfl ?_
  refine WL.q (LX.eq (LX.quoI rfl rfl (by omega) (by omega)) (show _ = Value.int .i64 (((bs.length + 7) / 8 : Nat) : Int) by congr 1; omega)) rfl ?_
  refine WL.val (EX.call rfl (fun _ => by kernel_rfl) (CS.pm (by repeat first | exact Pm.done | (apply Pm.step; repeat first | exact Rem.here | apply Rem.there)) (nreset (n := (bs.length + 7) / 8) (a := 0) (xs := List.replicate 32 0) (by simp; omega) (Nat.zero_le _) (by simp)))) rfl ?_
  simp only [List.length_replicate, Nat.max_zero]
  refine WL.nil ?_
  refine thenK_normal ?_
  refine WC.seq ?_
  refine WC.seq ?_
  refine WC.region ?_
  refine WL.q (LX.move rfl) rfl ?_
  refine WL.q (LX.move rfl) rfl ?_
  have hl2 : (List.replicate ((bs.length + 7) / 8) (0 : Int) ++ (List.replicate 32 0).drop ((bs.length + 7) / 8)).length = 32 := by simp; omega
  have h3 := setBytes (w0 := w0) (M := M) (p := p) (l := l) (n := (bs.length + 7) / 8) (xs := List.replicate ((bs.length + 7) / 8) (0 : Int) ++ (List.replicate 32 0).drop ((bs.length + 7) / 8)) hb hbd (by omega) (by omega)
    (fun i hi => gt_rep hi) (by omega) ((Dg.replicate W64_pos _).append ((Dg.replicate W64_pos _).drop _))
  rw [hl2] at h3
  refine WL.callR h3 rfl (fun _ => by kernel_rfl) rfl ?_
  rintro _ _ ⟨rfl, ys, hy1, hy2, hy3, rfl⟩
  refine WL.q (LX.assign rfl) rfl ?_
  refine WL.nil ?_
  refine thenK_normal ?_
  refine WC.seq ?_
  refine WC.region ?_
  refine WL.q (LX.move rfl) rfl ?_
  refine WL.q (LX.errNe rfl) rfl ?_
  refine WL.nil ?_
  refine thenK_normal ?_
  refine WC.no rfl ?_
  refine WC.skip ?_
  refine thenK_normal ?_
  refine WC.seq ?_
  refine WC.region ?_
  refine WL.q (LX.move rfl) rfl ?_
  have h4 := trim (w0 := w0) (M := M) (p := p) (l := l) (n := (bs.length + 7) / 8) (xs := ys) (by omega) (by omega)
  rw [hy1] at h4
  refine WL.callR (CS.pm (by repeat first | exact Pm.done | (apply Pm.step; repeat first | exact Rem.here | apply Rem.there)) h4) rfl (fun _ => by kernel_rfl) rfl ?_
  rintro _ _ ⟨rfl, m, hm1, hm2, hm3, rfl⟩
  refine WL.q (LX.assign rfl) rfl ?_
  refine WL.nil ?_
  refine thenK_normal ?_
  refine WC.ret ?_
  exact KR.one (.inl rfl) rfl rfl ⟨rfl, m, ys, hy1, hy2, by omega, by rw [hm2, hy3], hm3, rfl⟩
end
end Go.Proofs.YtdnngppofbmpeaaDoor.Bm
