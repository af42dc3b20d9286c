/- Proved here: the law of a region whose order is drawn and in which three new variables come up at once. Conditions: none but those that each theorem states. -/
import Derived.Test.YtdnngppofbmpeaaGreatDoorG25
namespace Go.Proofs.YtdnngppofbmpeaaGreatDoor.Bm
open Go Go.RowKit

def rdy (ops : Array Oper) (L : Array Bool) (is : List Nat) : Bool := (Region.ready .any ops L) == is
theorem rdy_eq {ops : Array Oper} {L : Array Bool} {is : List Nat} (h : rdy ops L is = true) : Region.ready .any ops L = is := beq_iff_eq.1 h

section
variable {n : Nat} {w0 : World} {E : Env} {M : Mem} {ops : Array Oper} {rs : Nat → Bool} {Ms : Mem} {Qn : Act → World → Prop} {T : TypeId} {z : Value}

theorem ex_step {i d : Nat} {op : Op} {R : Value → Mem → Prop} {ty : TypeId} {pos : String} {aft : Array Edge} {Kn : Act → World → Prop} {a : Act} {w : World} (ho : ops[i]? = some ⟨some d, op, ty, pos, aft, none⟩) (h : EX n w0 ⟨some d, op, ty, pos, aft, none⟩ E M R) (ha : Rep n E a) (hw : HR w0 M w)
    (k : ∀ v M' w', R v M' → HR w0 M' w' → (∀ p ∈ Ms, p ∈ M') ∧ Kn (a.put (some d) v) w') : stepC ops rs (HW w0 Ms) i Kn a w := by
  unfold stepC
  simp only [ho]
  rw [if_pos (by simp [Region.wanted])]
  refine h.run a w ha hw _ _ fun v M' w' hR hw' => ?_
  obtain ⟨k1, k2⟩ := k v M' w' hR hw'
  exact ⟨fun _ _ => hw'.hw_sub k1, k2⟩
/-- a new variable in a drawn region -/
theorem alloc_step {i d : Nat} {ty : TypeId} {pos : String} {aft : Array Edge} {Kn : Act → World → Prop} {a : Act} {w : World} (ho : ops[i]? = some ⟨some d, .alloc T, ty, pos, aft, none⟩) (hz : ∀ w, (zeroValue T).run P w = .ok z w) (ha : Rep n E a) (hw : HR w0 M w) (hMs : ∀ p ∈ Ms, p ∈ M)
    (k : ∀ b w', HR w0 ((b, .cells z.cells T (0, 0)) :: M) w' → Kn (a.put (some d) (ptr b)) w') : stepC ops rs (HW w0 Ms) i Kn a w := by
  refine ex_step ho (EX.alloc hz) ha hw ?_
  rintro v M' w' ⟨b, rfl, rfl⟩ hw'
  exact ⟨fun p hp => List.mem_cons_of_mem _ (hMs p hp), k b w' hw'⟩

theorem fork2 {fuel i j di dj : Nat} {L : Array Bool} {ty ty' : TypeId} {pos pos' : String} {aft aft' : Array Edge} {a : Act} {w : World}
    (hi : ops[i]? = some ⟨some di, .alloc T, ty, pos, aft, none⟩) (hj : ops[j]? = some ⟨some dj, .alloc T, ty', pos', aft', none⟩) (hz : ∀ w, (zeroValue T).run P w = .ok z w) (hdi : di < n) (hdj : dj < n) (hij : di ≠ dj) (hne : i ≠ j)
    (h0 : rdy ops L [i, j] = true) (h1 : rdy ops (L.setIfInBounds i true) [j] = true) (h2 : rdy ops (L.setIfInBounds j true) [i] = true) (ha : Rep n E a) (hw : HR w0 M w) (hMs : ∀ p ∈ Ms, p ∈ M)
    (k : ∀ b c a' w', Rep n ((dj, ptr c) :: (di, ptr b) :: E) a' → HR w0 ((c, .cells z.cells T (0, 0)) :: (b, .cells z.cells T (0, 0)) :: M) w' → anyC ops rs (HW w0 Ms) Qn fuel ((L.setIfInBounds i true).setIfInBounds j true) a' w') :
    anyC ops rs (HW w0 Ms) Qn (fuel + 2) L a w := by
  refine ⟨fun h => (by rw [rdy_eq h0] at h; cases h), fun x hx => ?_⟩
  rw [rdy_eq h0] at hx
  simp only [List.mem_cons, List.not_mem_nil, or_false] at hx
  rcases hx with rfl | rfl
  · refine alloc_step hi hz ha hw hMs fun b w1 hw1 => ?_
    refine ⟨fun h => (by rw [rdy_eq h1] at h; cases h), fun x hx => ?_⟩
    rw [rdy_eq h1, List.mem_singleton] at hx
    subst hx
    refine alloc_step hj hz (ha.put hdi (ptr b)) hw1 (fun p hp => List.mem_cons_of_mem _ (hMs p hp)) fun c w2 hw2 => ?_
    exact k b c _ w2 ((ha.put hdi (ptr b)).put hdj (ptr c)) hw2
  · refine alloc_step hj hz ha hw hMs fun c w1 hw1 => ?_
    refine ⟨fun h => (by rw [rdy_eq h2] at h; cases h), fun y hy => ?_⟩
    rw [rdy_eq h2, List.mem_singleton] at hy
    subst hy
    refine alloc_step hi hz (ha.put hdj (ptr c)) hw1 (fun p hp => List.mem_cons_of_mem _ (hMs p hp)) fun b w2 hw2 => ?_
    rw [Array.setIfInBounds_comm _ _ (Ne.symm hne)]
    refine k b c _ w2 (((ha.put hdj (ptr c)).put hdi (ptr b)).weaken fun t v ht => ?_) (hw2.perm (List.Perm.swap _ _ _))
    simp only [Env.at?] at ht ⊢
    by_cases e1 : Nat.beq di t = true
    · have e2 : Nat.beq dj t = false := by
        rw [Bool.eq_false_iff]; intro e2
        exact hij (by rw [Nat.eq_of_beq_eq_true e1, Nat.eq_of_beq_eq_true e2])
      simp only [e1, e2] at ht ⊢; exact ht
    · have e1 := Bool.eq_false_iff.2 e1
      simp only [e1] at ht ⊢; exact ht

theorem fork3 {fuel i j k di dj dk : Nat} {L : Array Bool} {ty ty' ty'' : TypeId} {pos pos' pos'' : String} {aft aft' aft'' : Array Edge} {a : Act} {w : World}
    (hi : ops[i]? = some ⟨some di, .alloc T, ty, pos, aft, none⟩) (hj : ops[j]? = some ⟨some dj, .alloc T, ty', pos', aft', none⟩) (hk : ops[k]? = some ⟨some dk, .alloc T, ty'', pos'', aft'', none⟩) (hz : ∀ w, (zeroValue T).run P w = .ok z w) (hdi : di < n) (hdj : dj < n) (hdk : dk < n) (hij : di ≠ dj) (hik : di ≠ dk) (hjk : dj ≠ dk) (nij : i ≠ j) (nik : i ≠ k) (njk : j ≠ k)
    (h0 : rdy ops L [i, j, k] = true) (hI : rdy ops (L.setIfInBounds i true) [j, k] = true) (hJ : rdy ops (L.setIfInBounds j true) [i, k] = true) (hK : rdy ops (L.setIfInBounds k true) [i, j] = true)
    (hIJ : rdy ops ((L.setIfInBounds i true).setIfInBounds j true) [k] = true) (hIK : rdy ops ((L.setIfInBounds i true).setIfInBounds k true) [j] = true) (hJK : rdy ops ((L.setIfInBounds j true).setIfInBounds k true) [i] = true)
    (ha : Rep n E a) (hw : HR w0 M w) (hMs : ∀ p ∈ Ms, p ∈ M)
    (kk : ∀ b c d a' w', Rep n ((dk, ptr d) :: (dj, ptr c) :: (di, ptr b) :: E) a' → HR w0 ((d, .cells z.cells T (0, 0)) :: (c, .cells z.cells T (0, 0)) :: (b, .cells z.cells T (0, 0)) :: M) w' → anyC ops rs (HW w0 Ms) Qn fuel (((L.setIfInBounds i true).setIfInBounds j true).setIfInBounds k true) a' w') :
    anyC ops rs (HW w0 Ms) Qn (fuel + 3) L a w := by
  have perm : ∀ {x y : Nat}, x ≠ y → ((L.setIfInBounds x true).setIfInBounds y true) = ((L.setIfInBounds y true).setIfInBounds x true) := fun h => Array.setIfInBounds_comm _ _ h
  have sub : ∀ p : Nat × Obj, ∀ q ∈ Ms, q ∈ p :: M := fun p q hq => List.mem_cons_of_mem _ (hMs q hq)
  refine ⟨fun h => (by rw [rdy_eq h0] at h; cases h), fun x hx => ?_⟩
  rw [rdy_eq h0] at hx
  simp only [List.mem_cons, List.not_mem_nil, or_false] at hx
  rcases hx with rfl | rfl | rfl
  · refine alloc_step hi hz ha hw hMs fun b w1 hw1 => ?_
    exact fork2 hj hk hz hdj hdk hjk njk hI hIJ hIK (ha.put hdi (ptr b)) hw1 (sub _) fun c d a' w' h1 h2 => kk b c d a' w' h1 h2
  · refine alloc_step hj hz ha hw hMs fun c w1 hw1 => (fork2 hi hk hz hdi hdk hik nik hJ (by rw [perm (Ne.symm nij)]; exact hIJ) hJK (ha.put hdj (ptr c)) hw1 (sub _) fun b d a' w' h1 h2 => ?_)
    have := kk b c d a' w' (h1.weaken fun t v ht => ?_) (h2.perm (.cons _ (List.Perm.swap _ _ _)))
    · rw [perm (Ne.symm nij)]; exact this
    · simp only [Env.at?] at ht ⊢
      by_cases e0 : Nat.beq dk t = true
      · simp only [e0] at ht ⊢; exact ht
      · have e0 := Bool.eq_false_iff.2 e0
        simp only [e0] at ht ⊢
        by_cases e1 : Nat.beq di t = true
        · have e2 : Nat.beq dj t = false := by
            rw [Bool.eq_false_iff]; intro e2
            exact hij (by rw [Nat.eq_of_beq_eq_true e1, Nat.eq_of_beq_eq_true e2])
          simp only [e1, e2] at ht ⊢; exact ht
        · have e1 := Bool.eq_false_iff.2 e1
          simp only [e1] at ht ⊢; exact ht
  · refine alloc_step hk hz ha hw hMs fun d w1 hw1 => (fork2 hi hj hz hdi hdj hij nij hK (by rw [perm (Ne.symm nik)]; exact hIK) (by rw [perm (Ne.symm njk)]; exact hJK) (ha.put hdk (ptr d)) hw1 (sub _) fun b c a' w' h1 h2 => ?_)
    have := kk b c d a' w' (h1.weaken fun t v ht => ?_) (h2.perm ((List.Perm.swap _ _ _).trans (.cons _ (List.Perm.swap _ _ _))))
    · rw [perm (Ne.symm nik), Array.setIfInBounds_comm _ _ (Ne.symm njk)]; exact this
    · simp only [Env.at?] at ht ⊢
      by_cases e0 : Nat.beq dk t = true
      · have e1 : Nat.beq di t = false := by
          rw [Bool.eq_false_iff]; intro e2
          exact hik (by rw [Nat.eq_of_beq_eq_true e0, Nat.eq_of_beq_eq_true e2])
        have e2 : Nat.beq dj t = false := by
          rw [Bool.eq_false_iff]; intro e2
          exact hjk (by rw [Nat.eq_of_beq_eq_true e0, Nat.eq_of_beq_eq_true e2])
        simp only [e0, e1, e2] at ht ⊢; exact ht
      · have e0 := Bool.eq_false_iff.2 e0
        simp only [e0] at ht ⊢; exact ht
end

def forkOk (ops : Array Oper) (i j k : Nat) (L : Array Bool) : Bool :=
  rdy ops L [i, j, k] && rdy ops (L.setIfInBounds i true) [j, k] && rdy ops (L.setIfInBounds j true) [i, k] && rdy ops (L.setIfInBounds k true) [i, j] &&
  rdy ops ((L.setIfInBounds i true).setIfInBounds j true) [k] && rdy ops ((L.setIfInBounds i true).setIfInBounds k true) [j] && rdy ops ((L.setIfInBounds j true).setIfInBounds k true) [i]
def chkP (ops : Array Oper) (rs : Nat → Bool) (fin : Array Bool → Bool) : List (Nat × Nat) → Array Bool → Bool
  | [], L => fin L
  | (k, i) :: r, L => (match k with
      | 0 => (Region.ready .any ops L).contains i
      | _ => (Region.ready .any ops L).contains i && rs i) && chkP ops rs fin r (L.setIfInBounds i true)
def chk3 (ops : Array Oper) (rs : Nat → Bool) (i j k : Nat) (post pre : List (Nat × Nat)) (L : Array Bool) : Bool :=
  chkP ops rs (fun L => forkOk ops i j k L && chk ops rs post (((L.setIfInBounds i true).setIfInBounds j true).setIfInBounds k true)) pre L

structure D3 (n : Nat) (w0 : World) (l : List Oper) (rs : Nat → Bool) (Ms : Mem) (K : Exit → Env → Mem → Prop) (i j k : Nat) (post pre : List (Nat × Nat)) (E : Env) (M : Mem) : Prop where
  run : ∀ listed, apartAll l.toArray = true → noSel l = true → chk3 l.toArray rs i j k post pre listed = true → ∀ a w, Rep n E a → HR w0 M w →
    anyC l.toArray rs (HW w0 Ms) (fun a w => KX n w0 K .normal a w) (post.length + 3 + pre.length) listed a w

section
variable {n : Nat} {w0 : World} {K : Exit → Env → Mem → Prop} {E : Env} {M : Mem} {l : List Oper} {rs : Nat → Bool} {Ms : Mem} {i j k : Nat} {post rest : List (Nat × Nat)}
theorem D3.first {x d : Nat} {op : Op} {ty : TypeId} {pos : String} {aft : Array Edge} {g : Option (Nat × Bool)} {v : Value} {D : World → Prop} {q : Nat} (ho : opAt l x = some ⟨some d, op, ty, pos, aft, g⟩) (hd : Nat.blt d n = true)
    (hk : q = 0 ∧ (∀ w, D w) ∨ q = 1 ∧ D = HW w0 Ms) (hDw : ∀ w, HR w0 M w → D w)
    (hy : ∀ a, Rep n E a → Yq l.toArray D ⟨some d, op, ty, pos, aft, g⟩ v a) (kk : D3 n w0 l rs Ms K i j k post rest ((d, v) :: E) M) : D3 n w0 l rs Ms K i j k post ((q, x) :: rest) E M := by
  refine ⟨fun listed hap hns hc a w ha hw => ?_⟩
  rw [opAt_eq] at ho
  have hnext := fun hc => kk.run (listed.setIfInBounds x true) hap hns hc (a.put (some d) v) w (ha.put (by simpa [Nat.blt_eq] using hd) v) hw
  rcases hk with ⟨rfl, hD⟩ | ⟨rfl, rfl⟩
  · simp only [chk3, chkP, Bool.and_eq_true, List.contains_iff_mem] at hc
    exact anyC_first ho (noSel_at hns) (.inl hD) _ _ _ _ (ready_free hap ho hc.1) hc.1 (hy a ha) (hD w) (hnext (by simpa only [chk3, Bool.and_eq_true] using hc.2))
  · simp only [chk3, chkP, Bool.and_eq_true, List.contains_iff_mem] at hc
    exact anyC_first ho (noSel_at hns) (.inr ⟨rfl, hc.1.2⟩) _ _ _ _ (ready_free hap ho hc.1.1) hc.1.1 (hy a ha) (hDw w hw) (hnext (by simpa only [chk3, Bool.and_eq_true] using hc.2))
theorem D3.p {x d : Nat} {op : Op} {ty : TypeId} {pos : String} {aft : Array Edge} {g : Option (Nat × Bool)} {v : Value} (ho : opAt l x = some ⟨some d, op, ty, pos, aft, g⟩) (hg : gok l E g = true)
    (h : ∀ w0, LX n w0 ⟨some d, op, ty, pos, aft, g⟩ E [] v) (hd : Nat.blt d n = true) (kk : D3 n w0 l rs Ms K i j k post rest ((d, v) :: E) M) : D3 n w0 l rs Ms K i j k post ((0, x) :: rest) E M :=
  D3.first (D := fun _ => True) ho hd (.inl ⟨rfl, fun _ => trivial⟩) (fun _ _ => trivial)
    (fun a ha => .inl ⟨gok_wanted ha hg, fun w _ => (h w).run a w ha ⟨Below.refl _ _, fun p hp => by simp at hp⟩⟩) kk
theorem D3.r {x d : Nat} {op : Op} {ty : TypeId} {pos : String} {aft : Array Edge} {g : Option (Nat × Bool)} {v : Value} (ho : opAt l x = some ⟨some d, op, ty, pos, aft, g⟩) (hg : gok l E g = true)
    (h : LX n w0 ⟨some d, op, ty, pos, aft, g⟩ E Ms v) (hs : ∀ p ∈ Ms, p ∈ M) (hd : Nat.blt d n = true) (kk : D3 n w0 l rs Ms K i j k post rest ((d, v) :: E) M) : D3 n w0 l rs Ms K i j k post ((1, x) :: rest) E M :=
  D3.first (D := HW w0 Ms) ho hd (.inr ⟨rfl, rfl⟩) (fun _ hw => hw.hw_sub hs) (fun a ha => .inl ⟨gok_wanted ha hg, fun w hw => h.run a w ha hw⟩) kk
theorem D3.fork {di dj dk : Nat} {T : TypeId} {z : Value} {ty ty' ty'' : TypeId} {pos pos' pos'' : String} {aft aft' aft'' : Array Edge} (hi : opAt l i = some ⟨some di, .alloc T, ty, pos, aft, none⟩) (hj : opAt l j = some ⟨some dj, .alloc T, ty', pos', aft', none⟩) (hk : opAt l k = some ⟨some dk, .alloc T, ty'', pos'', aft'', none⟩) (hz : ∀ w, (zeroValue T).run P w = .ok z w)
    (hdi : Nat.blt di n = true) (hdj : Nat.blt dj n = true) (hdk : Nat.blt dk n = true) (hij : di ≠ dj) (hik : di ≠ dk) (hjk : dj ≠ dk) (nij : i ≠ j) (nik : i ≠ k) (njk : j ≠ k) (hMs : ∀ p ∈ Ms, p ∈ M)
    (kk : ∀ b c d, DW n w0 l rs Ms K post ((dk, ptr d) :: (dj, ptr c) :: (di, ptr b) :: E) ((d, .cells z.cells T (0, 0)) :: (c, .cells z.cells T (0, 0)) :: (b, .cells z.cells T (0, 0)) :: M)) : D3 n w0 l rs Ms K i j k post [] E M := by
  refine ⟨fun listed hap hns hc a w ha hw => ?_⟩
  rw [opAt_eq] at hi hj hk
  simp only [chk3, chkP, forkOk, Bool.and_eq_true] at hc
  obtain ⟨⟨⟨⟨⟨⟨⟨h0, hI⟩, hJ⟩, hK⟩, hIJ⟩, hIK⟩, hJK⟩, hc⟩ := hc
  exact fork3 hi hj hk hz (by simpa [Nat.blt_eq] using hdi) (by simpa [Nat.blt_eq] using hdj) (by simpa [Nat.blt_eq] using hdk) hij hik hjk nij nik njk h0 hI hJ hK hIJ hIK hJK ha hw hMs
    fun b c d a' w' h1 h2 => (kk b c d).run _ hap hns hc a' w' h1 h2

/-- a region whose order is open, in which three new variables come up at once -/
theorem WC.draw3 {id : Nat} (pre : List (Nat × Nat)) (i j k : Nat) (post : List (Nat × Nat)) (Ms : Mem) (hlen : post.length + 3 + pre.length = l.length) (hap : apartAll l.toArray = true) (hns : noSel l = true)
    (hc : chk3 l.toArray (inR (pre ++ post)) i j k post pre (Array.replicate l.length false) = true) (h : D3 n w0 l (inR (pre ++ post)) Ms K i j k post pre E M) : WC n w0 (.region id l.toArray true) K E M := by
  refine ⟨fun a w ha hw => ?_⟩
  refine wp_region_any follows_mixed ?_
  have h1 := h.run _ hap hns hc a { w with drawn := w.drawn + 1 } ha ⟨hw.below.drew, hw.nodup, hw.has⟩
  have := anyC_sound (Q := KX n w0 K) (fun _ _ hq => hq) _ _ _ _ h1
  rw [hlen] at this
  simpa using this
end
end Go.Proofs.YtdnngppofbmpeaaGreatDoor.Bm
