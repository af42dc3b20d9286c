/- Proved here: what impl.Script does with one even modulus above 1 and no steps. No conditions but those that each theorem states. -/
import Derived.Test.YtdnngppofbmpeaaDoorSd1
namespace Go.Proofs.YtdnngppofbmpeaaDoor.Bm
open Go Go.RowKit

theorem Sub.refl {E : Env} : Sub E E := fun _ _ h => h
/-- a loop that is left in its first round -/
theorem WC.loop0 {n : Nat} {w0 : World} {K : Exit → Env → Mem → Prop} {E : Env} {M : Mem} {c : Code} (h : WC n w0 c (Bm.loopS (fun _ : Unit => E) (fun _ => M) (fun _ => True) (fun _ => 0) () K) E M) : WC n w0 (.loop c) K E M :=
  WC.loopS (fun _ : Unit => E) (fun _ => M) (fun _ => True) (fun _ => 0) () trivial Sub.refl rfl fun _ _ => h

theorem Obj.cell_list {cs : List Value} {T : TypeId} {fr : Nat × Nat} {i : Nat} {v : Value} (h : cs[i]? = some v) : Obj.cell (.cells cs.toArray T fr) i = some v := by
  simpa [Obj.cell, lAt_eq] using h

theorem Own.more {G : Value → Prop} {T : TypeId} {v : Value} {l : List Value} {M0 M1 : Mem} (N : Mem) (h : Own G T v l M0 M1) : ∃ M', Own G T v l (N ++ M0) M' ∧ M'.Perm (N ++ M1) := by
  rcases h with ⟨rfl, rfl, rfl⟩ | ⟨b, c, rfl, h1, h2, rfl, h3⟩
  · exact ⟨_, .inl ⟨rfl, rfl, rfl⟩, List.Perm.refl _⟩
  · exact ⟨_, .inr ⟨b, c, rfl, h1, h2, rfl, h3⟩, List.perm_middle.symm⟩
theorem Own.sub {G : Value → Prop} {T : TypeId} {v : Value} {l : List Value} {M0 M1 : Mem} (h : Own G T v l M0 M1) : M0.Sublist M1 := by
  rcases h with ⟨rfl, rfl, rfl⟩ | ⟨b, c, rfl, h1, h2, rfl, h3⟩
  · exact List.Sublist.refl _
  · exact .cons _ (List.Sublist.refl _)

section
variable {w0 : World} {M : Mem}
def SM (M : Mem) : Option (Value × Mem) → Prop
  | none => True
  | some s => M.Sublist s.2
def SMi : Option (Value × Mem) → Int
  | none => 0
  | some _ => 1
def SMv : Option (Value × Mem) → Value
  | none => .slice none 0 0
  | some s => s.1
def SMm (M : Mem) : Option (Value × Mem) → Mem
  | none => M
  | some s => s.2
def SMn : Option (Value × Mem) → Nat
  | none => 1
  | some _ => 0

/-- Script of one even modulus above 1, and no steps -/
theorem scriptOk {a c : Nat} {T : TypeId} {A : Option Addr} {bs : List Int} {cap : Nat} (hm : (a, Obj.cells #[.slice A bs.length cap] T) ∈ M) (hb : Bsl M A bs cap) (hbd : Dg 256 bs) (hL : bs.length ≤ 248) (h1 : 1 < dv 256 bs.reverse) (h2 : dv 256 bs.reverse % 2 = 0) (hc : 1 ≤ c) (hc5 : c ≤ 5) :
    CS w0 4 [.slice (some ⟨a, 0, none⟩) 1 1, .int .i64 c, .slice none 0 0] M (fun u M' => (∃ x y, u = .tuple #[x, y, .bool true]) ∧ M' = M) := by
  refine CS.post (R := fun u M' => (∃ x y, u = .tuple #[x, y, .bool true]) ∧ M.Sublist M') ?_ (fun v M' ⟨h1, h2⟩ => ⟨M, h2, h1, rfl⟩)
  refine CS.of Tryd.func4 Tryd.ntmps4 rfl rfl ?_
  refine WC.seq ?_
  refine WC.region ?_
  refine WL.q (LX.assign rfl) rfl ?_
  refine WL.q (LX.assign rfl) rfl ?_
  refine WL.q (LX.assign rfl) rfl ?_
  refine WL.nil ?_
  refine thenK_normal ?_
  refine WC.seq ?_
  refine WC.seq ?_
  refine WC.region ?_
  refine WL.q (LX.move rfl) rfl ?_
  refine WL.q (LX.eq (LX.bin rfl rfl rfl) (fls (by omega))) rfl ?_
  refine WL.q (LX.move rfl) rfl ?_
  refine WL.yes rfl rfl ?_
  refine WL.q (LX.move rfl) rfl ?_
  refine WL.yes rfl rfl ?_
  refine WL.q (LX.eq (LX.bin rfl rfl rfl) (fls (by omega))) rfl ?_
  refine WL.q (LX.pickF rfl rfl) rfl ?_
  refine WL.nil ?_
  refine thenK_normal ?_
  refine WC.no rfl ?_
  refine WC.skip ?_
  refine thenK_normal ?_
  refine WC.seq ?_
  refine WC.region ?_
  refine WL.q (LX.assign rfl) rfl ?_
  refine WL.nil ?_
  refine thenK_normal ?_
  refine WC.seq ?_
  refine WC.seq ?_
  refine WC.region ?_
  refine WL.q (LX.move rfl) rfl ?_
  refine WL.q (LX.len rfl rfl rfl) rfl ?_
  refine WL.q (LX.move rfl) rfl ?_
  refine WL.nil ?_
  refine thenK_normal ?_
  refine WC.block ?_
  refine WC.loopS (fun s => [(1, .int .i64 c), (2, .slice none 0 0), (9, SMv s), (32, .slice (some ⟨a, 0, none⟩) 1 1), (33, .int .i64 1), (34, .int .i64 (SMi s))]) (SMm M) (SM M) SMn none trivial (.cons rfl (.cons rfl (.cons rfl (.cons rfl (.cons rfl (.cons rfl .nil)))))) rfl ?_
  rintro (_ | ⟨v9, M1⟩) hs
  · skip
    simp only [SMi, SMv, SMm]
    refine WC.seq ?_
    refine WC.region ?_
    refine WL.q (LX.eq (LX.bin rfl rfl rfl) (tru (by decide))) rfl ?_
    refine WL.nil ?_
    refine thenK_normal ?_
    refine WC.seq ?_
    refine WC.yes rfl ?_
    refine WC.skip ?_
    refine thenK_normal ?_
    refine WC.seq ?_
    refine WC.block ?_
    refine WC.seq ?_
    refine WC.region ?_
    refine WL.q (LX.idx1 rfl rfl rfl 0 rfl (by omega)) rfl ?_
    refine WL.q (LX.load rfl rfl (by repeat first | assumption | exact List.mem_cons_self | refine List.mem_cons_of_mem _ ?_) rfl) rfl ?_
    refine WL.q (LX.assign rfl) rfl ?_
    refine WL.nil ?_
    refine thenK_normal ?_
    refine WC.seq ?_
    refine WC.region ?_
    refine WL.q (LX.move rfl) rfl ?_
    refine WL.callR (cloneB hb.src hbd (by omega)) rfl (fun _ => by kernel_rfl) rfl ?_
    rintro _ _ ⟨A', cap', N, rfl, rfl, hb'⟩
    
    refine WL.callR (newModEven (hb'.mono (fun p hp => List.mem_append_left _ hp)) hbd hL h1 h2) rfl (fun _ => by kernel_rfl) rfl ?_
    rintro _ _ ⟨q, p, l, m, ys, hy, hyd, hm1, hv, hz, rfl, rfl⟩
    refine WL.q (LX.move rfl) rfl ?_
    refine WL.q (LX.extract rfl rfl) rfl ?_
    refine WL.q (LX.extract rfl rfl) rfl ?_
    refine WL.q (LX.assign rfl) rfl ?_
    refine WL.q (LX.assign rfl) rfl ?_
    refine WL.nil ?_
    refine thenK_normal ?_
    refine WC.seq ?_
    refine WC.seq ?_
    refine WC.region ?_
    refine WL.q (LX.move rfl) rfl ?_
    refine WL.q (LX.errNe rfl) rfl ?_
    refine WL.nil ?_
    refine thenK_normal ?_
    refine WC.no rfl ?_
    refine WC.skip ?_
    refine thenK_normal ?_
    refine WC.region ?_
    refine WL.q (LX.move rfl) rfl ?_
    refine WL.q (LX.move rfl) rfl ?_
    refine WL.step rfl (EX.bslice (e := 31) (cs := [ptr q]) rfl (fun _ => by kernel_rfl)) ?_
    rintro _ _ ⟨b, rfl, rfl⟩
    
    refine WL.appendOwn (EX.append (G := fun _ => True) (e := 31) (v := .slice none 0 0) (l := []) (ds := [ptr q]) (d := [ptr q]) rfl (.inl ⟨rfl, rfl, rfl⟩) rfl rfl rfl rfl rfl trivial (fun _ _ => trivial) (fun w hw => (hw.has _ (by repeat first | assumption | exact List.mem_cons_self | refine List.mem_cons_of_mem _ ?_)).2) (Nat.le_refl _) rfl (by simp; rfl) (by simp)) rfl ?_
    rintro v9 M1 hv9
    refine WL.q (LX.assign rfl) rfl ?_
    refine WL.nil ?_
    refine blockK_normal ?_
    refine thenK_normal ?_
    refine WC.region ?_
    refine WL.q (LX.addI rfl rfl (by omega)) rfl ?_
    refine WL.q (LX.move rfl) rfl ?_
    refine WL.nil ?_
    exact loopS_next (some (v9, M1)) (List.Sublist.trans (by repeat first | exact List.sublist_append_right _ _ | apply List.Sublist.cons) hv9.sub) Nat.zero_lt_one (.cons rfl (.cons rfl (.cons rfl (.cons rfl (.cons rfl (.cons rfl .nil)))))) rfl
  · skip
    simp only [SMi, SMv, SMm]
    refine WC.seq ?_
    refine WC.region ?_
    refine WL.q (LX.eq (LX.bin rfl rfl rfl) (fls (by decide))) rfl ?_
    refine WL.nil ?_
    refine thenK_normal ?_
    refine WC.seq ?_
    refine WC.no rfl ?_
    refine WC.exit ?_
    refine thenK_exit ?_
    refine loopS_exit ?_
    refine blockK_same ?_
    refine thenK_normal ?_
    refine WC.seq ?_
    refine WC.seq ?_
    refine WC.region ?_
    refine WL.q (LX.move rfl) rfl ?_
    refine WL.q (LX.len rfl rfl rfl) rfl ?_
    refine WL.q (LX.move rfl) rfl ?_
    refine WL.nil ?_
    refine thenK_normal ?_
    refine WC.block ?_
    refine WC.loop0 ?_
    refine WC.seq ?_
    refine WC.region ?_
    refine WL.q (LX.eq (LX.bin rfl rfl rfl) (fls (by decide))) rfl ?_
    refine WL.nil ?_
    refine thenK_normal ?_
    refine WC.seq ?_
    refine WC.no rfl ?_
    refine WC.exit ?_
    refine thenK_exit ?_
    refine loopS_exit ?_
    refine blockK_same ?_
    refine thenK_normal ?_
    refine WC.seq ?_
    refine WC.region ?_
    refine WL.q (LX.assign rfl) rfl ?_
    refine WL.nil ?_
    refine thenK_normal ?_
    refine WC.seq ?_
    refine WC.seq ?_
    refine WC.region ?_
    refine WL.q (LX.move rfl) rfl ?_
    refine WL.q (LX.move rfl) rfl ?_
    refine WL.nil ?_
    refine thenK_normal ?_
    refine WC.block ?_
    refine WC.loopS (fun s : Value × List Nat × Mem × Mem => [(2, .slice none 0 0), (9, v9), (16, s.1), (85, .int .i64 c), (86, .int .i64 (s.2.1.length : Nat))]) (fun s => s.2.2.2)
      (fun s => Own (fun _ => True) 41 s.1 (s.2.1.map ptr) s.2.2.1 s.2.2.2 ∧ (∀ p ∈ s.2.1, ∃ l, (p, natO l 0 32) ∈ s.2.2.1) ∧ M.Sublist s.2.2.1 ∧ s.2.1.length ≤ c) (fun s => c - s.2.1.length)
      (.slice none 0 0, [], M1, M1) ⟨.inl ⟨rfl, rfl, rfl⟩, by simp, hs, Nat.zero_le _⟩ (.cons rfl (.cons rfl (.cons rfl (.cons rfl (.cons rfl .nil))))) rfl ?_
    rintro ⟨v16, ps, M2, M3⟩ ⟨hown, hps, hM, hlen⟩
    dsimp only at hown hps hM hlen ⊢
    refine WC.seq ?_
    refine WC.region ?_
    refine WL.q (LX.bin rfl rfl rfl) rfl ?_
    refine WL.nil ?_
    refine thenK_normal ?_
    refine WC.seq ?_
    refine WC.test rfl (fun hlt => ?_) (fun hge => ?_)
    · refine WC.skip ?_
      refine thenK_normal ?_
      refine WC.seq ?_
      refine WC.block ?_
      refine WC.region ?_
      refine WL.q (LX.move rfl) rfl ?_
      refine WL.callR newNat rfl (fun _ => by kernel_rfl) rfl ?_
      rintro _ _ ⟨p, l, rfl, rfl⟩
      
      refine WL.step rfl (EX.bslice (e := 41) (cs := [ptr p]) rfl (fun _ => by kernel_rfl)) ?_
      rintro _ _ ⟨b, rfl, rfl⟩
      
      obtain ⟨M4, hown4, hperm⟩ := hown.more [(b, .cells #[ptr p] 41 (0, 0)), (p, natO l 0 32), (l, words (List.replicate 32 0))]
      refine WL.appendOwn (EX.pm ⟨hperm⟩ (EX.append (G := fun _ => True) (e := 41) (ds := [ptr p]) (d := [ptr p]) rfl hown4 rfl rfl rfl rfl rfl trivial (fun _ _ => trivial) (fun w hw => (hw.has _ (hperm.symm.subset List.mem_cons_self)).2) (Nat.le_refl _) rfl (by simp; rfl) (by simp; omega))) rfl ?_
      rintro v16' M5 hv
      refine WL.q (LX.assign rfl) rfl ?_
      refine WL.nil ?_
      refine blockK_normal ?_
      refine thenK_normal ?_
      refine WC.region ?_
      refine WL.q (LX.eq (LX.addI rfl rfl (by omega)) (show _ = Value.int .i64 (((ps ++ [p]).length : Nat) : Int) by simp)) rfl ?_
      refine WL.q (LX.move rfl) rfl ?_
      refine WL.nil ?_
      have hv : Own (fun _ => True) 41 v16' ((ps ++ [p]).map ptr) ([(b, .cells #[ptr p] 41 (0, 0)), (p, natO l 0 32), (l, words (List.replicate 32 0))] ++ M2) M5 := by rw [List.map_append]; exact hv
      refine loopS_next (v16', ps ++ [p], _, M5) ⟨hv, ?_, ?_, ?_⟩ ?_ (.cons rfl (.cons rfl (.cons rfl (.cons rfl (.cons rfl .nil))))) rfl
      · intro p' hp'
        rcases List.mem_append.1 hp' with h | h
        · obtain ⟨l', hl'⟩ := hps p' h
          exact ⟨l', List.mem_append_right _ hl'⟩
        · simp at h; subst h; exact ⟨l, by simp⟩
      · exact hM.trans (List.sublist_append_right _ _)
      · simp; omega
      · simp; omega
    · refine WC.exit ?_
      refine thenK_exit ?_
      refine loopS_exit ?_
      refine blockK_same ?_
      refine thenK_normal ?_
      refine WC.seq ?_
      refine WC.region ?_
      refine WL.q (LX.assign rfl) rfl ?_
      refine WL.nil ?_
      refine thenK_normal ?_
      refine WC.seq ?_
      refine WC.seq ?_
      refine WC.region ?_
      refine WL.q (LX.move rfl) rfl ?_
      refine WL.q (LX.len rfl rfl rfl) rfl ?_
      refine WL.q (LX.move rfl) rfl ?_
      refine WL.nil ?_
      refine thenK_normal ?_
      refine WC.block ?_
      have hMM := hown.sub
      obtain ⟨vb, vc, rfl, hvl, hvt, rfl, -⟩ : ∃ (b : Nat) (cc : List Value), v16 = .slice (some ⟨b, 0, none⟩) ps.length cc.length ∧ ps.length ≤ cc.length ∧ cc.take ps.length = ps.map ptr ∧ M3 = (b, .cells cc.toArray 41 (0, 0)) :: M2 ∧ True := by
        rcases hown with ⟨rfl, h, rfl⟩ | ⟨b, cc, rfl, h1, h2, rfl, h3⟩
        · have := congrArg List.length h
          simp at this
          simp [this] at hge
          omega
        · simp only [List.length_map] at h1 h2 ⊢
          exact ⟨b, cc, rfl, h1, h2, rfl, trivial⟩
      refine WC.loop0 ?_
      refine WC.seq ?_
      refine WC.region ?_
      refine WL.q (LX.eq (LX.bin rfl rfl rfl) (fls (by decide))) rfl ?_
      refine WL.nil ?_
      refine thenK_normal ?_
      refine WC.seq ?_
      refine WC.no rfl ?_
      refine WC.exit ?_
      refine thenK_exit ?_
      refine loopS_exit ?_
      refine blockK_same ?_
      refine thenK_normal ?_
      refine WC.seq ?_
      refine WC.region ?_
      refine WL.q (LX.assign rfl) rfl ?_
      refine WL.nil ?_
      refine thenK_normal ?_
      refine WC.seq ?_
      refine WC.seq ?_
      refine WC.region ?_
      refine WL.q (LX.move rfl) rfl ?_
      refine WL.q (LX.len rfl rfl rfl) rfl ?_
      refine WL.q (LX.move rfl) rfl ?_
      refine WL.nil ?_
      refine thenK_normal ?_
      refine WC.block ?_
      refine WC.loopS (fun s : Nat × Value × List Value × Mem × Mem => [(17, .slice none 0 0), (20, s.2.1), (107, .slice (some ⟨vb, 0, none⟩) ps.length vc.length), (108, .int .i64 (ps.length : Nat)), (109, .int .i64 (s.1 : Nat))]) (fun s => s.2.2.2.2)
        (fun s => Own (fun _ => True) 44 s.2.1 s.2.2.1 s.2.2.2.1 s.2.2.2.2 ∧ ((vb, Obj.cells vc.toArray 41 (0, 0)) :: M2).Sublist s.2.2.2.1 ∧ s.2.2.1.length = s.1 ∧ s.1 ≤ ps.length) (fun s => ps.length - s.1)
        (0, .slice none 0 0, [], _, _) ⟨.inl ⟨rfl, rfl, rfl⟩, List.Sublist.refl _, rfl, Nat.zero_le _⟩ (.cons rfl (.cons rfl (.cons rfl (.cons rfl (.cons rfl .nil))))) rfl ?_
      rintro ⟨i, v20, outs, M5, M6⟩ ⟨hown5, hM5, hol, hi⟩
      dsimp only at hown5 hM5 hol hi ⊢
      have hvm : (vb, Obj.cells vc.toArray 41 (0, 0)) ∈ M6 := hown5.sub.subset (hM5.subset List.mem_cons_self)
      refine WC.seq ?_
      refine WC.region ?_
      refine WL.q (LX.bin rfl rfl rfl) rfl ?_
      refine WL.nil ?_
      refine thenK_normal ?_
      refine WC.seq ?_
      refine WC.test rfl (fun hlt => ?_) (fun hge => ?_)
      · have hvc : vc[i]? = some (ptr ps[i]) := by
          have hlt' : i < ps.length := by omega
          have : (vc.take ps.length)[i]? = some (ptr ps[i]) := by rw [hvt, List.getElem?_map, List.getElem?_eq_getElem hlt']; rfl
          rwa [List.getElem?_take, if_pos hlt'] at this
        obtain ⟨l, hl⟩ := hps ps[i] (List.getElem_mem _)
        have hl6 : (ps[i], natO l 0 32) ∈ M6 := hown5.sub.subset (hM5.subset (List.mem_cons_of_mem _ hl))
        refine WC.skip ?_
        refine thenK_normal ?_
        refine WC.seq ?_
        refine WC.block ?_
        refine WC.seq ?_
        refine WC.region ?_
        refine WL.q (LX.idx1 rfl rfl rfl i rfl (by omega)) rfl ?_
        refine WL.q (LX.load rfl rfl hvm (Obj.cell_list hvc)) rfl ?_
        refine WL.q (LX.assign rfl) rfl ?_
        refine WL.nil ?_
        refine thenK_normal ?_
        refine WC.seq ?_
        refine WC.region ?_
        refine WL.step rfl (EX.bslice (e := 48) (cs := []) rfl (fun _ => by kernel_rfl)) ?_
        rintro _ _ ⟨b, rfl, rfl⟩
        refine WL.q (LX.assign rfl) rfl ?_
        refine WL.nil ?_
        refine thenK_normal ?_
        refine WC.seq ?_
        refine WC.seq ?_
        refine WC.region ?_
        refine WL.q (LX.move rfl) rfl ?_
        refine WL.call (natBits (List.mem_cons_of_mem _ hl6)) rfl (fun _ => by kernel_rfl) rfl ?_
        refine WL.q (LX.len rfl rfl rfl) rfl ?_
        refine WL.q (LX.move rfl) rfl ?_
        refine WL.nil ?_
        refine thenK_normal ?_
        refine WC.block ?_
        refine WC.loop0 ?_
        refine WC.seq ?_
        refine WC.region ?_
        refine WL.q (LX.eq (LX.bin rfl rfl rfl) (fls (by decide))) rfl ?_
        refine WL.nil ?_
        refine thenK_normal ?_
        refine WC.seq ?_
        refine WC.no rfl ?_
        refine WC.exit ?_
        refine thenK_exit ?_
        refine loopS_exit ?_
        refine blockK_same ?_
        refine thenK_normal ?_
        refine WC.region ?_
        refine WL.q (LX.move rfl) rfl ?_
        refine WL.q (LX.move rfl) rfl ?_
        refine WL.step rfl (EX.bslice (e := 44) (cs := [.slice (some ⟨b, 0, none⟩) 0 0]) rfl (fun _ => by kernel_rfl)) ?_
        rintro _ _ ⟨b', rfl, rfl⟩
        
        obtain ⟨M7, hown7, hperm⟩ := hown5.more [(b', .cells #[.slice (some ⟨b, 0, none⟩) 0 0] 44 (0, 0)), (b, .cells #[] 48 (0, 0))]
        refine WL.appendOwn (EX.pm ⟨hperm⟩ (EX.append (G := fun _ => True) (e := 44) (ds := [.slice (some ⟨b, 0, none⟩) 0 0]) (d := [.slice (some ⟨b, 0, none⟩) 0 0]) rfl hown7 rfl rfl rfl rfl rfl trivial (fun _ _ => trivial) (fun w hw => (hw.has _ (hperm.symm.subset List.mem_cons_self)).2) (Nat.le_refl _) rfl (by simp; rfl) (by simp; omega))) rfl ?_
        rintro v20' M8 hv
        refine WL.q (LX.assign rfl) rfl ?_
        refine WL.nil ?_
        refine blockK_normal ?_
        refine thenK_normal ?_
        refine WC.region ?_
        refine WL.q (LX.addI rfl rfl (by omega)) rfl ?_
        refine WL.q (LX.move rfl) rfl ?_
        refine WL.nil ?_
        exact loopS_next (i + 1, v20', outs ++ [.slice (some ⟨b, 0, none⟩) 0 0], _, M8) ⟨hv, hM5.trans (List.sublist_append_right _ _), by simp; omega, by omega⟩ (by simp; omega) (.cons rfl (.cons rfl (.cons rfl (.cons rfl (.cons rfl .nil))))) rfl
      · refine WC.exit ?_
        refine thenK_exit ?_
        refine loopS_exit ?_
        refine blockK_same ?_
        refine thenK_normal ?_
        refine WC.seq ?_
        refine WC.region ?_
        refine WL.q (LX.move rfl) rfl ?_
        refine WL.q (LX.move rfl) rfl ?_
        refine WL.q (LX.assign rfl) rfl ?_
        refine WL.q (LX.assign rfl) rfl ?_
        refine WL.q (LX.assign rfl) rfl ?_
        refine WL.nil ?_
        refine thenK_normal ?_
        refine WC.ret ?_
        exact KR.three (.inl rfl) rfl rfl rfl rfl ⟨⟨_, _, rfl⟩, (hM.trans (List.sublist_cons_self _ _)).trans (hM5.trans hown5.sub)⟩
end
end Go.Proofs.YtdnngppofbmpeaaDoor.Bm
