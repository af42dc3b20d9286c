/- Proved here: what Script of the thin package does; what the laws' own helpers do. Conditions: none but those that each theorem states. -/
import Derived.Test.YtdnngppofbmpeaaGreatDoorG32
namespace Go.Proofs.YtdnngppofbmpeaaGreatDoor.Bm
open Go Go.RowKit

/-- a modulus lies in blocks of three types alone -/
theorem ModX.types {M N : Mem} {q n : Nat} {V : Int} (h : ModX M q n V) (hs : ∀ (b : Nat) (c : Array Value) (T : TypeId), (b, Obj.cells c T (0, 0)) ∈ M → T = 117 ∨ T = 83 ∨ T = 53 → (b, Obj.cells c T (0, 0)) ∈ N) : ModX N q n V := by
  have hr : ∀ {pm lm cm : Nat} {odd : Bool} {m0 : Int} {rv : Value} {ms : List Int}, MdR M q pm lm n cm odd m0 rv ms V → MdR N q pm lm n cm odd m0 rv ms V := fun h => ⟨hs _ _ _ h.hq (.inl rfl), hs _ _ _ h.hp (.inr (.inl rfl)), hs _ _ _ h.hl (.inr (.inr rfl)), h.nv⟩
  refine ⟨h.V1, h.n0, h.n8, h.norm, ?_⟩
  rcases h.kind with ⟨h1, pm, lm, ms, h2⟩ | ⟨pm, lm, pr, lr, m0, ms, rs, RR, h2⟩
  · exact .inl ⟨h1, pm, lm, ms, hr h2⟩
  · exact .inr ⟨pm, lm, pr, lr, m0, ms, rs, RR, ⟨⟨hr h2.o.r, h2.o.n0, h2.o.n16, h2.o.V1, h2.o.hm, h2.o.odd⟩, hs _ _ _ h2.hp (.inr (.inl rfl)), hs _ _ _ h2.hl (.inr (.inr rfl)), h2.nv, h2.lt, h2.cg⟩⟩
theorem PtrsIn.of_map {R : Mem} {b : Nat} {L L' : List Nt} (h : PtrsIn R b L) (e : L'.map (·.p) = L.map (·.p)) : PtrsIn R b L' := by
  obtain ⟨c, T, h1, h2⟩ := h.ex
  refine ⟨c, T, h1, fun i t ht => ?_⟩
  have h3 : (L'.map (·.p))[i]? = some t.p := by rw [List.getElem?_map, ht]; rfl
  rw [e, List.getElem?_map] at h3
  obtain ⟨u, hu, hup⟩ := Option.map_eq_some_iff.1 h3
  rw [h2 i u hu, hup]
theorem PtrsIn.mono {R R' : Mem} {b : Nat} {L : List Nt} (h : PtrsIn R b L) (hs : ∀ p ∈ R, p ∈ R') : PtrsIn R' b L := by
  obtain ⟨c, T, h1, h2⟩ := h.ex
  exact ⟨c, T, hs _ h1, h2⟩
theorem MdsIn.mono {R R' : Mem} {b : Nat} {X : List Bs} (h : MdsIn R b X) (hs : ∀ p ∈ R, p ∈ R') : MdsIn R' b X := by
  obtain ⟨c, T, h1, h2⟩ := h.ex
  exact ⟨c, T, hs _ h1, fun i x hx => let ⟨q, n, h3, h4⟩ := h2 i x hx; ⟨q, n, h3, h4.mono hs⟩⟩
theorem OwnQ.block {G : Value → Prop} {T : TypeId} {v : Value} {l : List Value} {pre : Mem} (h : OwnQ G T v l pre) (h0 : 0 < l.length) : ∃ b c cap, v = .slice (some ⟨b, 0, none⟩) l.length cap ∧ (b, .cells (c : List Value).toArray T (0, 0)) ∈ pre ∧ ∀ (i : Nat) (u : Value), l[i]? = some u → c[i]? = some u := by
  rcases h with ⟨rfl, rfl, rfl⟩ | ⟨b, c, rfl, h1, h2, rfl, h3⟩
  · simp at h0
  · refine ⟨b, c, c.length, rfl, List.mem_cons_self, fun i u hu => ?_⟩
    have hi : i < l.length := by
      rcases Nat.lt_or_ge i l.length with h' | h'
      · exact h'
      · simp [List.getElem?_eq_none h'] at hu
    rw [← h2, List.getElem?_take, if_pos hi] at hu
    exact hu

/-- the words in memory are the number's -/
theorem nv_words {n c : Nat} {V : Int} {xs : List Int} (h : NV n c V xs) : xs.take n = wordsOf (V, (n : Int)) := by
  have hl := h.len
  have hle := h.le
  apply List.ext_getElem
  · rw [wordsOf_len, List.length_take]; simp only [Int.toNat_natCast]; omega
  · intro k h1 h2
    rw [List.length_take] at h1
    simp only [wordsOf, List.getElem_map, List.getElem_range, List.getElem_take]
    rw [← h.val, dv_split W64 (xs.take n) k (by rw [List.length_take]; omega), List.take_take, Nat.min_eq_left (by omega)]
    have l1 := dv_nonneg W64_pos (h.dg.take k)
    have l2 := dv_lt W64_pos (h.dg.take k)
    rw [List.length_take, Nat.min_eq_left (by omega)] at l2
    rw [Int.add_mul_ediv_left _ _ (by have := pow_pos W64_pos k; omega), Int.ediv_eq_zero_of_lt l1 l2, Int.zero_add, drop_gt (by rw [List.length_take]; omega), dv_cons, Int.add_mul_emod_self_left, gt_take (by omega), gt_eq (by omega)]
    have h3 : 0 ≤ xs[k] ∧ xs[k] < W64 := h.dg.get (by omega)
    exact (Int.emod_eq_of_lt h3.1 h3.2).symm

section
variable {w0 : World} {M : Mem}
theorem withinT {i n : Int} (h : 0 ≤ i ∧ i < n) : CS w0 18 [.int .i64 i, .int .i64 n] M (fun u M' => u = .bool true ∧ M' = M) :=
  iwithin.mono fun _ _ ⟨h1, h2⟩ => ⟨by rw [h1, decide_eq_true h], h2⟩
theorem nm_rev (L : List Nt) : (nm L.reverse).Perm (nm L) := (List.reverse_perm L).flatMap_right _
/-- Script -/
theorem iscript {A As : Option Addr} {capm caps c : Nat} {X : List Bs} {S : List Stp} {Rf : Nat → List (Int × Int)} {tf : Nat → Int} (hT : Tab w0) (hX : ModsIn w0 A X) (hS : StpsIn w0 As S) (hr : RightP X c S) (hrun : RunF X c S Rf tf) :
    CS w0 9 [.slice A X.length capm, .int .i64 c, .slice As S.length caps] M (fun u M' => ∃ vw vt, u = .tuple #[vw, vt, .bool true] ∧ (∃ N, M' = N ++ M) ∧ Rds M' vt (((List.range S.length).map tf).map (Value.int .i64)) ∧
      ∃ ws, Rds M' vw ws ∧ ws.length = c ∧ ∀ (j : Nat) (p : Int × Int), (Rf S.length)[j]? = some p → ∃ w zs, ws[j]? = some w ∧ Rds M' w ((zs : List Int).map (Value.int .u64)) ∧ (0 ≤ p.2 → zs = wordsOf p)) := by
  have hc1 := hr.c1
  have hc5 := hr.c5
  have hs40 := hr.s40
  have hn1 := hr.n1
  have hn3 := hr.n3
  have hXd : ∀ x ∈ X, ModP x ∧ Dg 256 x.bs := fun x hx => ⟨hr.mods x hx, (hX.ok x hx).dg⟩
  have hSd : ∀ s ∈ S, Dg 256 s.d.bs ∧ s.num < 9223372036854775808 := fun s hs => ⟨(hS.ok s hs).d.dg, by have := (hS.ok s hs).num; omega⟩
  have hc' : (Int.toNat (c : Int)) = c := by omega
  refine CS.of Tryz.func9 Tryz.ntmps9 rfl rfl (WC.seq (WC.region (WL.q (LX.assign rfl) rfl (WL.q (LX.assign rfl) rfl (WL.q (LX.assign rfl) rfl (WL.nil (thenK_normal (WC.seq (WC.seq (WC.region (WL.q (LX.move rfl) rfl (WL.q (LX.eq (LX.bin rfl rfl rfl) (fls (by omega))) rfl (WL.q (LX.move rfl) rfl ?_)))))))))))))
  refine WL.yes rfl rfl (WL.q (LX.move rfl) rfl (WL.yes rfl rfl (WL.q (LX.eq (LX.bin rfl rfl rfl) (fls (by omega))) rfl (WL.q (LX.pickF rfl rfl) rfl (WL.nil (thenK_normal (WC.no rfl (WC.skip (thenK_normal (WC.seq (WC.region (WL.q (LX.assign rfl) rfl (WL.nil ?_)))))))))))))
  refine thenK_normal (WC.seq (WC.seq (WC.region (WL.q (LX.move rfl) rfl (WL.q (LX.len rfl rfl rfl) rfl (WL.q (LX.move rfl) rfl (WL.nil (thenK_normal (WC.block ?_)))))))))
  refine WC.loopS (fun s : Value × List Nat × Mem × Mem => [(1, .int .i64 c), (2, .slice As S.length caps), (9, s.1), (32, .slice A X.length capm), (33, .int .i64 (X.length : Nat)), (34, .int .i64 (s.2.1.length : Nat))]) (fun s => s.2.2.1 ++ (s.2.2.2 ++ M))
    (fun s => s.2.1.length ≤ X.length ∧ OwnQ (fun _ => True) 56 s.1 (s.2.1.map ptr) s.2.2.1 ∧ ∀ (i : Nat) (x : Bs), X[i]? = some x → i < s.2.1.length → ∃ q n, s.2.1[i]? = some q ∧ ModX (s.2.2.2 ++ M) q n (dv 256 x.bs.reverse)) (fun s => X.length - s.2.1.length)
    (.slice none 0 0, [], [], []) ⟨Nat.zero_le _, OwnQ.nil, fun i x _ h => by simp at h⟩ (.cons rfl (.cons rfl (.cons rfl (.cons rfl (.cons rfl (.cons rfl .nil)))))) rfl ?_
  rintro ⟨v9, qs, pre, N⟩ ⟨hql, hq9, hqm⟩
  dsimp only at hql hq9 hqm ⊢
  refine WC.seq (WC.region (WL.q (LX.bin rfl rfl rfl) rfl (WL.nil (thenK_normal (WC.seq ?_)))))
  refine WC.test rfl (fun hlt => ?_) (fun hge => ?_)
  · obtain ⟨x, hx, hxm⟩ := list_at (show qs.length < X.length by omega)
    obtain ⟨bA, oA, dA, TA, fA, hAm, hA1, hA2⟩ := hX.at_ hx
    subst hAm
    have hxo := hX.ok x hxm
    have hxp := hr.mods x hxm
    refine WC.skip (thenK_normal (WC.seq (WC.block (WC.seq (WC.region (WL.q (LX.idxo rfl rfl rfl qs.length (by omega) (by omega)) rfl (WL.q (LX.loadW rfl rfl hA1 (Obj.cell_list hA2)) rfl (WL.q (LX.assign rfl) rfl (WL.nil (thenK_normal (WC.seq (WC.region (WL.q (LX.move rfl) rfl ?_)))))))))))))
    refine WL.callR (cloneB (src0 hxo.src) hxo.dg (by have := hxp.1; omega)) rfl (fun _ => by kernel_rfl) rfl ?_
    rintro _ _ ⟨A', cap', N1, rfl, rfl, hb'⟩
    
    refine WL.callR (newMod (hb'.mono fun _ h => List.mem_append_left _ h) hxo.dg hxp.1 hxp.2) rfl (fun _ => by kernel_rfl) rfl ?_
    rintro _ _ ⟨q, n, N2, rfl, rfl, hmx⟩
    refine WL.q (LX.move rfl) rfl (WL.q (LX.extract rfl rfl) rfl (WL.q (LX.extract rfl rfl) rfl (WL.q (LX.assign rfl) rfl (WL.q (LX.assign rfl) rfl (WL.nil (thenK_normal (WC.seq (WC.seq (WC.region (WL.q (LX.move rfl) rfl (WL.q (LX.errNe rfl) rfl (WL.nil (thenK_normal ?_)))))))))))))
    refine WC.no rfl (WC.skip (thenK_normal (WC.region (WL.q (LX.move rfl) rfl (WL.q (LX.move rfl) rfl (WL.step rfl (EX.bslice (e := 56) (cs := [ptr q]) rfl (fun _ => by kernel_rfl)) ?_))))))
    rintro _ _ ⟨b, rfl, rfl⟩
    
    refine WL.step rfl (EX.memEq (N := ((b, .cells #[ptr q] 56 (0, 0)) :: (N2 ++ N1)) ++ (pre ++ (N ++ M))) (by simp only [List.append_assoc, List.cons_append]) (EX.appendQ (e := 56) (d := ptr q) rfl hq9 rfl rfl rfl rfl trivial trivial rfl List.mem_cons_self (by rw [List.length_map]; omega))) ?_
    rintro v9' _ ⟨pre', rfl, hq'⟩
    refine WL.q (LX.assign rfl) rfl (WL.nil (blockK_normal (thenK_normal (WC.region (WL.q (LX.eq (LX.addI rfl rfl (by omega)) (show _ = Value.int .i64 (((qs ++ [q]).length : Nat) : Int) by simp)) rfl (WL.q (LX.move rfl) rfl (WL.nil ?_)))))))
    refine loopS_next (v9', qs ++ [q], pre', (b, .cells #[ptr q] 56 (0, 0)) :: (N2 ++ N1) ++ N) ⟨by simp; omega, by simp only [List.map_append]; exact hq', fun i y hy hi => ?_⟩ (by simp; omega) (.cons rfl (.cons rfl (.cons rfl (.cons rfl (.cons rfl (.cons rfl .nil)))))) (by simp only [List.append_assoc, List.cons_append])
    simp only [List.length_append, List.length_singleton] at hi ⊢
    rcases Nat.lt_or_ge i qs.length with h1 | h1
    · obtain ⟨q2, n2, h2, h3⟩ := hqm i y hy h1
      exact ⟨q2, n2, by rw [List.getElem?_append_left h1]; exact h2, h3.mono fun _ h => by simp only [List.mem_append, List.mem_cons] at h ⊢; grind⟩
    · obtain rfl : i = qs.length := by omega
      rw [hx] at hy; cases hy
      refine ⟨q, n, by simp, hmx.types fun b' c' T' hm hT' => ?_⟩
      simp only [List.mem_append, List.mem_cons] at hm ⊢
      rcases hm with h | h | h | h
      · grind
      · grind
      · exfalso
        rcases hq9 with ⟨_, _, rfl⟩ | ⟨b3, c3, _, _, _, rfl, _⟩
        · simp at h
        · simp only [List.mem_singleton, Prod.mk.injEq, Obj.cells.injEq] at h
          rcases hT' with rfl | rfl | rfl <;> simp at h
      · grind
  have hqlen : qs.length = X.length := by omega
  obtain ⟨bmm, cm, capq, rfl, hbm, hcm⟩ := hq9.block (by rw [List.length_map]; omega)
  rw [List.length_map, hqlen]
  have hZm : MdsIn (pre ++ (N ++ M)) bmm X := ⟨cm, _, List.mem_append_left _ hbm, fun i x hx => by
    obtain ⟨hi, _⟩ := some_lt hx
    obtain ⟨q, n, h1, h2⟩ := hqm i x hx (by omega)
    exact ⟨q, n, hcm _ _ (by rw [List.getElem?_map, h1]; rfl), h2.mono fun _ h => List.mem_append_right _ h⟩⟩
  have hZM : ∃ N', pre ++ (N ++ M) = N' ++ M := ⟨pre ++ N, by simp⟩
  refine WC.exit (thenK_exit (loopS_exit (blockK_same (thenK_normal (WC.seq (WC.seq (WC.region (WL.q (LX.move rfl) rfl (WL.q (LX.len rfl rfl rfl) rfl (WL.q (LX.move rfl) rfl (WL.nil (thenK_normal (WC.block ?_)))))))))))))
  generalize pre ++ (N ++ M) = Z at hZm hZM
  refine WC.loopS (fun i : Nat => [(1, .int .i64 c), (2, .slice As S.length caps), (9, .slice (some ⟨bmm, 0, none⟩) X.length capq), (51, .slice As S.length caps), (52, .int .i64 (S.length : Nat)), (53, .int .i64 i)]) (fun _ => Z) (fun i => i ≤ S.length) (fun i => S.length - i) 0 (Nat.zero_le _) (.cons rfl (.cons rfl (.cons rfl (.cons rfl (.cons rfl (.cons rfl .nil)))))) rfl ?_
  intro i hi
  refine WC.seq (WC.region (WL.q (LX.bin rfl rfl rfl) rfl (WL.nil (thenK_normal (WC.seq ?_)))))
  refine WC.test rfl (fun hlt => ?_) (fun hge => ?_)
  · obtain ⟨s, hs, hsm⟩ := list_at (show i < S.length by omega)
    obtain ⟨bS, oS, dS, TS, fS, hAs, hS1, hS2, hS3⟩ := hS.at_ hs
    subst hAs
    obtain ⟨so, sa, sb, sm, sl⟩ := hr.steps s hsm
    rw [hc'] at so sa sb
    refine WC.skip (thenK_normal (WC.seq (WC.block (WC.seq (WC.region (WL.q (LX.idx rfl rfl rfl i rfl (by omega)) rfl (WL.q (LX.eq (LX.loadA rfl rfl (fun w hw => heap_below hw hS1) hS2) (show _ = s.val by rw [hS3]; rfl)) rfl (WL.step rfl (EX.alloc (z := .agg #[.int .i64 0, .int .i64 0, .int .i64 0, .int .i64 0, .int .i64 0, .int .i64 0, .slice none 0 0]) (fun _ => by kernel_rfl)) ?_))))))))
    rintro _ _ ⟨b15, rfl, rfl⟩
    refine WL.put (EX.storeS rfl rfl (by repeat first | assumption | exact List.mem_cons_self | refine List.mem_cons_of_mem _ ?_ | refine List.mem_append_right _ ?_) rfl (by repeat first | exact Upd.here | apply Upd.there | apply Upd.app)) ?_
    refine WL.nil (thenK_normal (WC.seq (WC.region (WL.q (LX.field0 rfl rfl) rfl ?_))))
    refine WL.q (LX.load rfl rfl (by repeat first | assumption | exact List.mem_cons_self | refine List.mem_cons_of_mem _ ?_ | refine List.mem_append_right _ ?_) rfl) rfl ?_
    refine WL.q (LX.move rfl) rfl (WL.call (withinT so) rfl (fun _ => by kernel_rfl) rfl (WL.q (LX.not rfl) rfl (WL.q (LX.move rfl) rfl (WL.yes rfl rfl (WL.q (LX.field0 rfl rfl) rfl (WL.yes rfl rfl ?_))))))
    refine WL.q (LX.load rfl rfl (by repeat first | assumption | exact List.mem_cons_self | refine List.mem_cons_of_mem _ ?_ | refine List.mem_append_right _ ?_) rfl) rfl ?_
    refine WL.yes rfl rfl (WL.q (LX.move rfl) rfl (WL.yes rfl rfl (WL.call (withinT sa) rfl (fun _ => by kernel_rfl) rfl (WL.yes rfl rfl (WL.q (LX.not rfl) rfl (WL.q (LX.pickF rfl rfl) rfl (WL.q (LX.move rfl) rfl (WL.yes rfl rfl (WL.q (LX.field0 rfl rfl) rfl (WL.yes rfl rfl ?_))))))))))
    refine WL.q (LX.load rfl rfl (by repeat first | assumption | exact List.mem_cons_self | refine List.mem_cons_of_mem _ ?_ | refine List.mem_append_right _ ?_) rfl) rfl ?_
    refine WL.yes rfl rfl (WL.q (LX.move rfl) rfl (WL.yes rfl rfl (WL.call (withinT sb) rfl (fun _ => by kernel_rfl) rfl (WL.yes rfl rfl (WL.q (LX.not rfl) rfl (WL.q (LX.pickF rfl rfl) rfl (WL.q (LX.move rfl) rfl (WL.yes rfl rfl (WL.q (LX.field0 rfl rfl) rfl (WL.yes rfl rfl ?_))))))))))
    refine WL.q (LX.load rfl rfl (by repeat first | assumption | exact List.mem_cons_self | refine List.mem_cons_of_mem _ ?_ | refine List.mem_append_right _ ?_) rfl) rfl ?_
    refine WL.yes rfl rfl (WL.q (LX.move rfl) rfl (WL.yes rfl rfl (WL.q (LX.len rfl rfl rfl) rfl (WL.yes rfl rfl (WL.call (withinT sm) rfl (fun _ => by kernel_rfl) rfl (WL.yes rfl rfl (WL.q (LX.not rfl) rfl (WL.q (LX.pickF rfl rfl) rfl (WL.nil (thenK_normal (WC.no rfl (WC.skip (blockK_normal ?_)))))))))))))
    refine thenK_normal (WC.region (WL.q (LX.addI rfl rfl (by omega)) rfl (WL.q (LX.move rfl) rfl (WL.nil ?_))))
    exact loopS_nextS (i + 1) (by omega) (by omega) (.cons rfl (.cons rfl (.cons rfl (.cons rfl (.cons rfl (.cons rfl .nil)))))) (List.sublist_cons_self _ _)
  refine WC.exit (thenK_exit (loopS_exit (blockK_same (thenK_normal (WC.seq (WC.region (WL.q (LX.assign rfl) rfl (WL.nil (thenK_normal (WC.seq (WC.seq (WC.region (WL.q (LX.move rfl) rfl ?_)))))))))))))
  refine WL.q (LX.move rfl) rfl (WL.nil (thenK_normal (WC.block ?_)))
  refine WC.loopS (fun s : Value × List Nt × Mem => [(1, .int .i64 c), (2, .slice As S.length caps), (9, .slice (some ⟨bmm, 0, none⟩) X.length capq), (16, s.1), (85, .int .i64 c), (86, .int .i64 (s.2.1.length : Nat))]) (fun s => s.2.2 ++ (nm s.2.1.reverse ++ Z))
    (fun s => s.2.1.length ≤ c ∧ OwnQ (fun _ => True) 64 s.1 (s.2.1.map fun t => ptr t.p) s.2.2 ∧ ∀ t ∈ s.2.1, NtI t (0, 0)) (fun s => c - s.2.1.length)
    (.slice none 0 0, [], []) ⟨Nat.zero_le _, OwnQ.nil, fun t h => by simp at h⟩ (.cons rfl (.cons rfl (.cons rfl (.cons rfl (.cons rfl (.cons rfl .nil)))))) rfl ?_
  rintro ⟨v16, L, pre2⟩ ⟨hLl, hLq, hL0⟩
  dsimp only at hLl hLq hL0 ⊢
  refine WC.seq (WC.region (WL.q (LX.bin rfl rfl rfl) rfl (WL.nil (thenK_normal (WC.seq ?_)))))
  refine WC.test rfl (fun hlt => ?_) (fun hge2 => ?_)
  · refine WC.skip (thenK_normal (WC.seq (WC.block (WC.region (WL.q (LX.move rfl) rfl (WL.callR newNat rfl (fun _ => by kernel_rfl) rfl ?_))))))
    rintro _ _ ⟨p, l, rfl, rfl⟩
    
    refine WL.step rfl (EX.bslice (e := 64) (cs := [ptr p]) rfl (fun _ => by kernel_rfl)) ?_
    rintro _ _ ⟨b, rfl, rfl⟩
    
    refine WL.step rfl (EX.appendQ (A := [(b, .cells #[ptr p] 64 (0, 0)), (p, natO l 0 32), (l, words (List.replicate 32 0))]) (pre := pre2) (B := nm L.reverse ++ Z) (e := 64) (d := ptr p) rfl hLq rfl rfl rfl rfl trivial trivial rfl List.mem_cons_self (by rw [List.length_map]; omega)) ?_
    rintro v16' _ ⟨pre2', rfl, hq'⟩
    refine WL.q (LX.assign rfl) rfl (WL.nil (blockK_normal (thenK_normal (WC.region (WL.q (LX.eq (LX.addI rfl rfl (by omega)) (show _ = Value.int .i64 (((L ++ [(⟨p, l, 0, List.replicate 32 0⟩ : Nt)]).length : Nat) : Int) by simp)) rfl (WL.q (LX.move rfl) rfl (WL.nil ?_)))))))
    refine loopS_nextS (v16', L ++ [⟨p, l, 0, List.replicate 32 0⟩], pre2') ⟨by simp; omega, by simp only [List.map_append]; exact hq', fun t ht => ?_⟩ (by simp; omega) (.cons rfl (.cons rfl (.cons rfl (.cons rfl (.cons rfl (.cons rfl .nil)))))) ?_
    · rcases List.mem_append.1 ht with h | h
      · exact hL0 t h
      · simp only [List.mem_singleton] at h
        subst h
        exact ⟨0, ⟨List.length_replicate, Nat.zero_le _, by decide, Dg.replicate W64_pos _, rfl⟩, Nat.zero_le _, fun _ => ⟨rfl, rfl⟩⟩
    · simp only [List.reverse_append, List.reverse_singleton, List.singleton_append, nm_cons]
      exact (List.Sublist.refl pre2').append (List.sublist_cons_self _ _)
  have hLlen : L.length = c := by omega
  obtain ⟨brr, cr, capr, rfl, hbr, hcr⟩ := hLq.block (by rw [List.length_map]; omega)
  rw [List.length_map, hLlen]
  have hRp : PtrsIn (pre2 ++ Z) brr L := ⟨cr, _, List.mem_append_left _ hbr, fun i t ht => hcr _ _ (by rw [List.getElem?_map, ht]; rfl)⟩
  have hRm : MdsIn (pre2 ++ Z) bmm X := by
    obtain ⟨c1, T1, h1, h2⟩ := hZm.ex
    exact ⟨c1, T1, List.mem_append_right _ h1, fun i x hx => let ⟨q, n, h3, h4⟩ := h2 i x hx; ⟨q, n, h3, h4.mono fun _ h => List.mem_append_right _ h⟩⟩
  have hRM : ∃ N', pre2 ++ Z = N' ++ M := pre_up hZM
  have hI0 : RegI L (Rf 0) := ⟨by rw [hrun.start, List.length_replicate, hLlen], fun i p hp => by
    rw [hrun.start, List.getElem?_replicate] at hp
    split at hp
    · cases hp
      obtain ⟨t, ht, htm⟩ := list_at (show i < L.length by omega)
      exact ⟨t, ht, hL0 t htm⟩
    · cases hp⟩
  refine WC.exit (thenK_exit (loopS_exit (blockK_same (thenK_normal (WC.seq (WC.pm (N := nm L ++ (pre2 ++ Z)) ⟨(List.perm_append_comm_assoc _ _ _).trans (((nm_rev L).symm.append_right Z).append_left pre2)⟩ ?_))))))
  generalize pre2 ++ Z = Y at hRp hRm hRM
  refine WC.region (WL.q (LX.assign rfl) rfl (WL.nil (thenK_normal (WC.seq (WC.seq (WC.region (WL.q (LX.move rfl) rfl (WL.q (LX.len rfl rfl rfl) rfl (WL.q (LX.move rfl) rfl (WL.nil (thenK_normal (WC.block ?_))))))))))))
  have hnod := hrun.bound hXd hSd
  refine WC.loopS (fun s : Nat × List Nt × Value × Mem => [(9, .slice (some ⟨bmm, 0, none⟩) X.length capq), (16, .slice (some ⟨brr, 0, none⟩) c capr), (17, s.2.2.1), (93, .slice As S.length caps), (94, .int .i64 (S.length : Nat)), (95, .int .i64 s.1)]) (fun s => s.2.2.2 ++ (nm s.2.1 ++ Y))
    (fun s => s.1 ≤ S.length ∧ RegI s.2.1 (Rf s.1) ∧ PtrsIn Y brr s.2.1 ∧ OwnQ (fun _ => True) 3 s.2.2.1 (((List.range s.1).map tf).map (Value.int .i64)) s.2.2.2) (fun s => S.length - s.1)
    (0, L, .slice none 0 0, []) ⟨Nat.zero_le _, hI0, hRp, OwnQ.nil⟩ (.cons rfl (.cons rfl (.cons rfl (.cons rfl (.cons rfl (.cons rfl .nil)))))) rfl ?_
  clear hI0 hRp hLq hL0 hcr hLl
  clear hLlen
  rintro ⟨i, L, v17, preT⟩ ⟨hi, hI, hRp, hTq⟩
  dsimp only at hi hI hRp hTq ⊢
  obtain ⟨hPl, hPb⟩ := hnod i hi
  have hLlen : L.length = c := by rw [hI.len, hPl]
  refine WC.seq (WC.region (WL.q (LX.bin rfl rfl rfl) rfl (WL.nil (thenK_normal (WC.seq ?_)))))
  refine WC.test rfl (fun hlt => ?_) (fun hge3 => ?_)
  · obtain ⟨s, hs, hsm⟩ := list_at (show i < S.length by omega)
    obtain ⟨bS, oS, dS, TS, fS, hAs, hS1, hS2, hS3⟩ := hS.at_ hs
    subst hAs
    have hsp := hr.steps s hsm
    rw [hc', ← hLlen] at hsp
    refine WC.skip (thenK_normal (WC.seq (WC.block (WC.seq (WC.region (WL.q (LX.idx rfl rfl rfl i rfl (by omega)) rfl (WL.q (LX.eq (LX.loadA rfl rfl (fun w hw => heap_below hw hS1) hS2) (show _ = s.val by rw [hS3]; rfl)) rfl (WL.step rfl (EX.alloc (z := .agg #[.int .i64 0, .int .i64 0, .int .i64 0, .int .i64 0, .int .i64 0, .int .i64 0, .slice none 0 0]) (fun _ => by kernel_rfl)) ?_))))))))
    rintro _ _ ⟨b19, rfl, rfl⟩
    refine WL.put (EX.storeS rfl rfl (by repeat first | assumption | exact List.mem_cons_self | refine List.mem_cons_of_mem _ ?_ | refine List.mem_append_right _ ?_) rfl (by repeat first | exact Upd.here | apply Upd.there | apply Upd.app)) ?_
    refine WL.nil (thenK_normal (WC.region (WL.q (LX.move rfl) rfl (WL.q (LX.move rfl) rfl (WL.q (LX.move rfl) rfl ?_)))))
    refine WL.q (LX.loadR rfl rfl (by repeat first | assumption | exact List.mem_cons_self | refine List.mem_cons_of_mem _ ?_ | refine List.mem_append_right _ ?_) rfl) rfl ?_
    have hstep := istep (w0 := w0) (R := (b19, s.obj) :: (preT ++ Y)) (capr := capr) (capm := capq) hT hI (hrun.step i s hs) (hRp.mono fun _ h => by simp [h]) (hRm.mono fun _ h => by simp [h]) hPb hXd (hS.ok s hsm) hsp
    rw [hLlen] at hstep
    refine WL.callR (CS.pm (M := (b19, s.obj) :: (preT ++ (nm L ++ Y))) ⟨List.perm_append_comm_assoc (nm L) ((b19, s.obj) :: preT) Y⟩ hstep) rfl (fun _ => by kernel_rfl) rfl ?_
    rintro _ _ ⟨L', rfl, rfl, hI', hmp⟩
    
    refine WL.step rfl (EX.bslice (e := 3) (cs := [.int .i64 (tf i)]) rfl (fun _ => by kernel_rfl)) ?_
    rintro _ _ ⟨bq, rfl, rfl⟩
    
    refine WL.step rfl (EX.memEq (N := ((bq, .cells #[.int .i64 (tf i)] 3 (0, 0)) :: (nm L' ++ [(b19, s.obj)])) ++ (preT ++ Y)) (by simp only [List.append_assoc, List.cons_append, List.nil_append]) (EX.appendQ (e := 3) (d := .int .i64 (tf i)) rfl hTq rfl rfl rfl rfl trivial trivial rfl List.mem_cons_self (by rw [List.length_map, List.length_map, List.length_range]; omega))) ?_
    rintro v17' _ ⟨preT', rfl, hTq'⟩
    refine WL.q (LX.assign rfl) rfl (WL.nil (blockK_normal (thenK_normal (WC.region (WL.q (LX.addI rfl rfl (by omega)) rfl (WL.q (LX.move rfl) rfl (WL.nil ?_)))))))
    refine loopS_nextS (i + 1, L', v17', preT') ⟨by simp only []; omega, hI', hRp.of_map hmp, ?_⟩ (by simp only []; omega) (.cons rfl (.cons rfl (.cons rfl (.cons rfl (.cons rfl (.cons rfl .nil)))))) ?_
    · simp only [List.range_succ, List.map_append, List.map_singleton]
      exact hTq'
    · refine (List.Sublist.refl preT').append ?_
      simp only [List.append_assoc, List.cons_append, List.nil_append]
      exact .cons _ ((List.Sublist.refl _).append (.cons _ (List.Sublist.refl _)))
  obtain rfl : i = S.length := by omega
  refine WC.exit (thenK_exit (loopS_exit (blockK_same (thenK_normal (WC.seq (WC.region (WL.q (LX.assign rfl) rfl (WL.nil (thenK_normal (WC.seq (WC.seq (WC.region (WL.q (LX.move rfl) rfl ?_)))))))))))))
  refine WL.q (LX.len rfl rfl rfl) rfl (WL.q (LX.move rfl) rfl (WL.nil (thenK_normal (WC.block ?_))))
  obtain ⟨cr2, Tr2, hrm2, hrc2⟩ := hRp.ex
  have hWM : ∃ N', preT ++ (nm L ++ Y) = N' ++ M := pre_up (pre_up hRM)
  have htold : Rds (preT ++ (nm L ++ Y)) v17 (((List.range S.length).map tf).map (Value.int .i64)) := hTq.rds fun _ h => List.mem_append_left _ h
  have hW1 : (brr, Obj.cells cr2.toArray Tr2 (0, 0)) ∈ preT ++ (nm L ++ Y) := List.mem_append_right _ (List.mem_append_right _ hrm2)
  have hW2 : ∀ {j : Nat} {t : Nt}, L[j]? = some t → (t.p, natO t.l t.n 32) ∈ preT ++ (nm L ++ Y) ∧ (t.l, words t.xs) ∈ preT ++ (nm L ++ Y) := fun h => nm_any h
  generalize preT ++ (nm L ++ Y) = W at hWM htold hW1 hW2
  obtain ⟨At, capt, hv17⟩ := hTq.form
  refine WC.loopS (fun s : Nat × Value × List Value × Mem × Mem => [(17, v17), (20, s.2.1), (107, .slice (some ⟨brr, 0, none⟩) c capr), (108, .int .i64 (c : Nat)), (109, .int .i64 s.1)]) (fun s => s.2.2.2.1 ++ (s.2.2.2.2 ++ W))
    (fun s => s.1 ≤ c ∧ OwnQ (fun _ => True) 51 s.2.1 s.2.2.1 s.2.2.2.1 ∧ s.2.2.1.length = s.1 ∧ ∀ (j : Nat) (t : Nt), L[j]? = some t → j < s.1 → ∃ w, s.2.2.1[j]? = some w ∧ Rds s.2.2.2.2 w ((t.xs.take t.n).map (Value.int .u64))) (fun s => c - s.1)
    (0, .slice none 0 0, [], [], []) ⟨Nat.zero_le _, OwnQ.nil, rfl, fun j t _ h => by simp at h⟩ (.cons rfl (.cons rfl (.cons rfl (.cons rfl (.cons rfl .nil))))) rfl ?_
  rintro ⟨i, v20, ws, preW, H⟩ ⟨hi8, hWq, hwl, hws⟩
  dsimp only at hi8 hWq hwl hws ⊢
  have hW1' : (brr, Obj.cells cr2.toArray Tr2 (0, 0)) ∈ preW ++ (H ++ W) := List.mem_append_right _ (List.mem_append_right _ hW1)
  refine WC.seq (WC.region (WL.q (LX.bin rfl rfl rfl) rfl (WL.nil (thenK_normal (WC.seq ?_)))))
  refine WC.test rfl (fun hlt => ?_) (fun hge4 => ?_)
  · obtain ⟨t, ht, htm⟩ := list_at (show i < L.length by omega)
    obtain ⟨hp0, hp1⟩ := hW2 ht
    obtain ⟨p, hp, -⟩ := list_at (show i < (Rf S.length).length by omega)
    obtain ⟨t', ht', hnt⟩ := hI.at_ _ _ hp
    rw [ht] at ht'; cases ht'
    obtain ⟨V, hV1, hV2⟩ := hnt.nv
    refine WC.skip (thenK_normal (WC.seq (WC.block (WC.seq (WC.region (WL.q (LX.idx1 rfl rfl rfl i rfl (by omega)) rfl (WL.q (LX.load rfl rfl hW1' (Obj.cell_list (hrc2 _ _ ht))) rfl (WL.q (LX.assign rfl) rfl (WL.nil (thenK_normal (WC.seq (WC.region (WL.step rfl (EX.bslice (e := 52) (cs := []) rfl (fun _ => by kernel_rfl)) ?_)))))))))))))
    rintro _ _ ⟨bl, rfl, rfl⟩
    refine WL.q (LX.assign rfl) rfl (WL.nil (thenK_normal (WC.seq (WC.seq (WC.region (WL.q (LX.move rfl) rfl (WL.call (natBits (List.mem_cons_of_mem _ (List.mem_append_right _ (List.mem_append_right _ hp0)))) rfl (fun _ => by kernel_rfl) rfl (WL.q (LX.len rfl rfl rfl) rfl (WL.q (LX.move rfl) rfl (WL.nil (thenK_normal (WC.block ?_))))))))))))
    refine WC.loopS (fun s : Nat × Value × Mem × Mem => [(17, v17), (20, v20), (23, s.2.1), (107, .slice (some ⟨brr, 0, none⟩) c capr), (108, .int .i64 (c : Nat)), (109, .int .i64 i), (115, .slice (some ⟨t.l, 0, none⟩) t.n 32), (116, .int .i64 (t.n : Nat)), (117, .int .i64 s.1)]) (fun s => s.2.2.1 ++ (s.2.2.2 ++ (preW ++ (H ++ W))))
      (fun s => s.1 ≤ t.n ∧ OwnQ (fun _ => True) 52 s.2.1 ((t.xs.take s.1).map (Value.int .u64)) s.2.2.1) (fun s => t.n - s.1)
      (0, .slice (some ⟨bl, 0, none⟩) 0 0, [(bl, .cells #[] 52 (0, 0))], []) ⟨Nat.zero_le _, .inr ⟨bl, [], rfl, Nat.le_refl _, rfl, rfl, by simp⟩⟩ (.cons rfl (.cons rfl (.cons rfl (.cons rfl (.cons rfl (.cons rfl (.cons rfl (.cons rfl (.cons rfl .nil))))))))) rfl ?_
    rintro ⟨k, vl, preL, G⟩ ⟨hk, hL⟩
    dsimp only at hk hL ⊢
    have hxl := hV1.len
    have hp1' : (t.l, words t.xs) ∈ preL ++ (G ++ (preW ++ (H ++ W))) := List.mem_append_right _ (List.mem_append_right _ (List.mem_append_right _ (List.mem_append_right _ hp1)))
    refine WC.seq (WC.region (WL.q (LX.bin rfl rfl rfl) rfl (WL.nil (thenK_normal (WC.seq ?_)))))
    refine WC.test rfl (fun hlt2 => ?_) (fun hge5 => ?_)
    · refine WC.skip (thenK_normal (WC.seq (WC.block (WC.seq (WC.region (WL.q (LX.idx1 rfl rfl rfl k rfl (by omega)) rfl (WL.q (LX.loadRow rfl rfl hp1' (by omega)) rfl (WL.q (LX.assign rfl) rfl (WL.nil (thenK_normal (WC.region (WL.q (LX.move rfl) rfl (WL.q (LX.move rfl) rfl ?_)))))))))))))
      refine WL.step rfl (EX.bslice (e := 52) (cs := [.int .u64 (gt t.xs k)]) rfl (fun _ => by kernel_rfl)) ?_
      rintro _ _ ⟨bw, rfl, rfl⟩
      
      refine WL.step rfl (EX.appendQ (A := [(bw, .cells #[.int .u64 (gt t.xs k)] 52 (0, 0))]) (pre := preL) (B := G ++ (preW ++ (H ++ W))) (e := 52) (d := .int .u64 (gt t.xs k)) rfl hL rfl rfl rfl rfl trivial trivial rfl List.mem_cons_self (by rw [List.length_map, List.length_take]; omega)) ?_
      rintro vl' _ ⟨preL', rfl, hL'⟩
      refine WL.q (LX.assign rfl) rfl (WL.nil (blockK_normal (thenK_normal (WC.region (WL.q (LX.addI rfl rfl (by omega)) rfl (WL.q (LX.move rfl) rfl (WL.nil ?_)))))))
      refine loopS_next (k + 1, vl', preL', (bw, .cells #[.int .u64 (gt t.xs k)] 52 (0, 0)) :: G) ⟨by simp only []; omega, ?_⟩ (by simp only []; omega) (.cons rfl (.cons rfl (.cons rfl (.cons rfl (.cons rfl (.cons rfl (.cons rfl (.cons rfl (.cons rfl .nil))))))))) rfl
      simp only []
      rw [List.take_succ_eq_append_getElem (by omega), List.map_append, ← gt_eq (by omega)]
      exact hL'
    · obtain rfl : k = t.n := by omega
      have hLo := hL.one
      refine WC.exit (thenK_exit (loopS_exit (blockK_same (thenK_normal (WC.region (WL.q (LX.move rfl) rfl (WL.q (LX.move rfl) rfl (WL.step rfl (EX.bslice (e := 51) (cs := [vl]) rfl (fun _ => by obtain ⟨Al, capl, rfl⟩ := hL.form; kernel_rfl)) ?_))))))))
      rintro _ _ ⟨bv, rfl, rfl⟩
      
      refine WL.step rfl (EX.memEq (N := ((bv, .cells #[vl] 51 (0, 0)) :: (preL ++ G)) ++ (preW ++ (H ++ W))) (by simp only [List.append_assoc, List.cons_append]) (EX.appendQ (e := 51) (d := vl) rfl hWq rfl rfl rfl rfl trivial trivial hLo List.mem_cons_self (by omega))) ?_
      rintro v20' _ ⟨preW', rfl, hWq'⟩
      refine WL.q (LX.assign rfl) rfl (WL.nil (blockK_normal (thenK_normal (WC.region (WL.q (LX.addI rfl rfl (by omega)) rfl (WL.q (LX.move rfl) rfl (WL.nil ?_)))))))
      refine loopS_next (i + 1, v20', ws ++ [vl], preW', (bv, .cells #[vl] 51 (0, 0)) :: (preL ++ G) ++ H) ⟨by simp only []; omega, hWq', by simp; omega, fun j u hu hj => ?_⟩ (by simp only []; omega) (.cons rfl (.cons rfl (.cons rfl (.cons rfl (.cons rfl .nil))))) (by simp only [List.append_assoc, List.cons_append])
      simp only [] at hj ⊢
      rcases Nat.lt_or_ge j i with hji | hji
      · obtain ⟨w, h1, h2⟩ := hws j u hu hji
        exact ⟨w, by rw [List.getElem?_append_left (by omega)]; exact h1, h2.mono fun q hq => List.mem_append_right _ hq⟩
      · obtain rfl : j = i := by omega
        rw [ht] at hu; cases hu
        refine ⟨vl, by rw [← hwl, List.getElem?_append_right (Nat.le_refl _)]; simp, hL.rds fun q hq => ?_⟩
        simp [hq]
  obtain rfl : i = c := by omega
  refine WC.exit (thenK_exit (loopS_exit (blockK_same (thenK_normal (WC.seq (WC.region (WL.q (LX.move rfl) rfl (WL.q (LX.move rfl) rfl (WL.q (LX.assign rfl) rfl (WL.q (LX.assign rfl) rfl (WL.q (LX.assign rfl) rfl (WL.nil (thenK_normal ?_)))))))))))))
  refine WC.ret ?_
  refine KR.three (.inl rfl) rfl rfl rfl rfl ⟨_, _, rfl, pre_up (pre_up hWM), htold.mono fun _ h => List.mem_append_right _ (List.mem_append_right _ h), ws, hWq.rds fun _ h => List.mem_append_left _ h, hwl, fun j p hp => ?_⟩
  obtain ⟨t, ht, hnt⟩ := hI.at_ _ _ hp
  obtain ⟨hj, -⟩ := some_lt ht
  obtain ⟨w, h1, h2⟩ := hws j t ht (by omega)
  obtain ⟨V, h3, h4, h5⟩ := hnt.ex
  refine ⟨w, t.xs.take t.n, h1, h2.mono fun _ h => List.mem_append_right _ (List.mem_append_left _ h), fun h0 => ?_⟩
  obtain ⟨h6, rfl⟩ := h5 h0
  rw [nv_words h3, h6]
end
end Go.Proofs.YtdnngppofbmpeaaGreatDoor.Bm
namespace Go.Proofs.YtdnngppofbmpeaaGreatDoor.Bm
open Go Go.RowKit

theorem Rds.split {M : Mem} {v : Value} {l : List Value} (h : Rds M v l) : ∃ A cap, v = .slice A l.length cap ∧ (0 < l.length → ∃ b c T, A = some ⟨b, 0, none⟩ ∧ (b, .cells (c : List Value).toArray T (0, 0)) ∈ M ∧ ∀ (i : Nat) (u : Value), l[i]? = some u → c[i]? = some u) := by
  have h' := h
  obtain ⟨A, cap, h1, _⟩ := h
  exact ⟨A, cap, h1, fun h0 => h'.at_ h1 h0⟩

section
variable {w0 : World} {M : Mem}
theorem zzFits1 {A : Option Addr} {cap : Nat} {X : List Bs} (hX : ModsIn w0 A X) : CS w0 5 [.slice A X.length cap] M (fun u M' => (∃ r, u = .bool r) ∧ M' = M) := by
  have hXl := hX.len
  refine CS.of Tryz.func5 Tryz.ntmps5 rfl rfl (WC.seq (WC.region (WL.q (LX.assign rfl) rfl (WL.nil (thenK_normal (WC.seq (WC.seq (WC.region (WL.q (LX.move rfl) rfl (WL.q (LX.len rfl rfl rfl) rfl (WL.q (LX.bin rfl rfl rfl) rfl (WL.nil (thenK_normal ?_)))))))))))))
  refine WC.test rfl (fun h0 => ?_) (fun h0 => ?_)
  · refine WC.seq (WC.region (WL.q (LX.assign rfl) rfl (WL.nil (thenK_normal (WC.ret (thenK_ret ?_))))))
    exact KR.one (.inl rfl) rfl rfl ⟨⟨_, rfl⟩, rfl⟩
  refine WC.skip (thenK_normal (WC.seq (WC.seq (WC.region (WL.q (LX.move rfl) rfl (WL.q (LX.len rfl rfl rfl) rfl (WL.q (LX.move rfl) rfl (WL.nil (thenK_normal (WC.block (WC.loopS (fun i : Nat => [(8, .slice A X.length cap), (9, .int .i64 (X.length : Nat)), (10, .int .i64 i)]) (fun _ => M) (fun i => i ≤ X.length) (fun i => X.length - i) 0 (Nat.zero_le _) (.cons rfl (.cons rfl (.cons rfl .nil))) rfl ?_)))))))))))
  intro i hi
  refine WC.seq (WC.region (WL.q (LX.bin rfl rfl rfl) rfl (WL.nil (thenK_normal (WC.seq ?_)))))
  refine WC.test rfl (fun hlt => ?_) (fun hge => ?_)
  · obtain ⟨x, hx, hxm⟩ := list_at (show i < X.length by omega)
    obtain ⟨bA, oA, dA, TA, fA, hAm, hA1, hA2⟩ := hX.at_ hx
    subst hAm
    refine WC.skip (thenK_normal (WC.seq (WC.block (WC.seq (WC.region (WL.q (LX.idxo rfl rfl rfl i rfl (by omega)) rfl (WL.q (LX.loadW rfl rfl hA1 (Obj.cell_list hA2)) rfl (WL.q (LX.assign rfl) rfl (WL.nil (thenK_normal (WC.seq (WC.region (WL.q (LX.move rfl) rfl ?_)))))))))))))
    refine WL.q (LX.len rfl rfl rfl) rfl (WL.q (LX.bin rfl rfl rfl) rfl (WL.nil (thenK_normal ?_)))
    refine WC.test rfl (fun h1 => ?_) (fun h1 => ?_)
    · refine WC.seq (WC.region (WL.q (LX.assign rfl) rfl (WL.nil (thenK_normal (WC.ret (blockK_ret (thenK_ret (loopS_ret (blockK_ret (thenK_ret ?_))))))))))
      exact KR.one (.inl rfl) rfl rfl ⟨⟨_, rfl⟩, rfl⟩
    · refine WC.skip (blockK_normal (thenK_normal (WC.region (WL.q (LX.addI rfl rfl (by omega)) rfl (WL.q (LX.move rfl) rfl (WL.nil ?_))))))
      exact loopS_next (i + 1) (by omega) (by omega) (.cons rfl (.cons rfl (.cons rfl .nil))) rfl
  · refine WC.exit (thenK_exit (loopS_exit (blockK_same (thenK_normal (WC.seq (WC.region (WL.q (LX.assign rfl) rfl (WL.nil (thenK_normal (WC.ret ?_))))))))))
    exact KR.one (.inl rfl) rfl rfl ⟨⟨_, rfl⟩, rfl⟩
theorem zzFits3 {s : Stp} : CS w0 12 [s.val] M (fun u M' => (∃ r, u = .bool r) ∧ M' = M) := by
  refine CS.post (R := fun u M' => (∃ r, u = .bool r) ∧ M.Sublist M') ?_ (fun v M' ⟨h1, h2⟩ => ⟨M, h2, h1, rfl⟩)
  refine CS.of Tryz.func12 Tryz.ntmps12 rfl rfl (WC.seq (WC.region (WL.step rfl (EX.box rfl) ?_)))
  rintro _ _ ⟨b1, rfl, rfl⟩
  refine WL.q (LX.assign rfl) rfl (WL.nil (thenK_normal (WC.seq (WC.seq (WC.region (WL.q (LX.field0 rfl rfl) rfl ?_))))))
  refine WL.q (LX.load rfl rfl (by repeat first | assumption | exact List.mem_cons_self | refine List.mem_cons_of_mem _ ?_ | refine List.mem_append_right _ ?_) rfl) rfl ?_
  refine WL.q (LX.len rfl rfl rfl) rfl (WL.q (LX.bin rfl rfl rfl) rfl (WL.nil (thenK_normal ?_)))
  refine WC.test rfl (fun h0 => ?_) (fun h0 => ?_)
  · refine WC.seq (WC.region (WL.q (LX.assign rfl) rfl (WL.nil (thenK_normal (WC.ret (thenK_ret ?_))))))
    exact KR.one (.inl rfl) rfl rfl ⟨⟨_, rfl⟩, List.sublist_cons_self _ _⟩
  · refine WC.skip (thenK_normal (WC.seq (WC.region (WL.q (LX.assign rfl) rfl (WL.nil (thenK_normal (WC.ret ?_)))))))
    exact KR.one (.inl rfl) rfl rfl ⟨⟨_, rfl⟩, List.sublist_cons_self _ _⟩
theorem zzFits2 {A : Option Addr} {cap : Nat} {S : List Stp} (hS : StpsIn w0 A S) : CS w0 6 [.slice A S.length cap] M (fun u M' => (∃ r, u = .bool r) ∧ M' = M) := by
  refine CS.post (R := fun u M' => (∃ r, u = .bool r) ∧ M.Sublist M') ?_ (fun v M' ⟨h1, h2⟩ => ⟨M, h2, h1, rfl⟩)
  have hSl := hS.len
  refine CS.of Tryz.func6 Tryz.ntmps6 rfl rfl (WC.seq (WC.region (WL.q (LX.assign rfl) rfl (WL.nil (thenK_normal (WC.seq (WC.seq (WC.region (WL.q (LX.move rfl) rfl (WL.q (LX.len rfl rfl rfl) rfl (WL.q (LX.bin rfl rfl rfl) rfl (WL.nil (thenK_normal ?_)))))))))))))
  refine WC.test rfl (fun h0 => ?_) (fun h0 => ?_)
  · refine WC.seq (WC.region (WL.q (LX.assign rfl) rfl (WL.nil (thenK_normal (WC.ret (thenK_ret ?_))))))
    exact KR.one (.inl rfl) rfl rfl ⟨⟨_, rfl⟩, List.Sublist.refl _⟩
  refine WC.skip (thenK_normal (WC.seq (WC.seq (WC.region (WL.q (LX.move rfl) rfl (WL.q (LX.len rfl rfl rfl) rfl (WL.q (LX.move rfl) rfl (WL.nil (thenK_normal (WC.block (WC.loopS (fun i : Nat => [(8, .slice A S.length cap), (9, .int .i64 (S.length : Nat)), (10, .int .i64 i)]) (fun _ => M) (fun i => i ≤ S.length) (fun i => S.length - i) 0 (Nat.zero_le _) (.cons rfl (.cons rfl (.cons rfl .nil))) rfl ?_)))))))))))
  intro i hi
  refine WC.seq (WC.region (WL.q (LX.bin rfl rfl rfl) rfl (WL.nil (thenK_normal (WC.seq ?_)))))
  refine WC.test rfl (fun hlt => ?_) (fun hge => ?_)
  · obtain ⟨s, hs, hsm⟩ := list_at (show i < S.length by omega)
    obtain ⟨bS, oS, dS, TS, fS, hAs, hS1, hS2, hS3⟩ := hS.at_ hs
    subst hAs
    refine WC.skip (thenK_normal (WC.seq (WC.block (WC.seq (WC.region (WL.q (LX.idx rfl rfl rfl i rfl (by omega)) rfl (WL.q (LX.eq (LX.loadA rfl rfl (fun w hw => heap_below hw hS1) hS2) (show _ = s.val by rw [hS3]; rfl)) rfl (WL.step rfl (EX.alloc (z := .agg #[.int .i64 0, .int .i64 0, .int .i64 0, .int .i64 0, .int .i64 0, .int .i64 0, .slice none 0 0]) (fun _ => by kernel_rfl)) ?_))))))))
    rintro _ _ ⟨b4, rfl, rfl⟩
    refine WL.put (EX.storeS rfl rfl (by repeat first | assumption | exact List.mem_cons_self | refine List.mem_cons_of_mem _ ?_ | refine List.mem_append_right _ ?_) rfl (by repeat first | exact Upd.here | apply Upd.there | apply Upd.app)) ?_
    refine WL.nil (thenK_normal (WC.seq (WC.region ?_)))
    refine WL.q (LX.loadR rfl rfl (by repeat first | assumption | exact List.mem_cons_self | refine List.mem_cons_of_mem _ ?_ | refine List.mem_append_right _ ?_) rfl) rfl ?_
    refine WL.callR zzFits3 rfl (fun _ => by kernel_rfl) rfl ?_
    rintro _ _ ⟨⟨r, rfl⟩, hM⟩
    subst hM
    refine WL.q (LX.not rfl) rfl (WL.nil (thenK_normal ?_))
    cases r
    · refine WC.yes rfl (WC.seq (WC.region (WL.q (LX.assign rfl) rfl (WL.nil (thenK_normal (WC.ret (blockK_ret (thenK_ret (loopS_ret (blockK_ret (thenK_ret ?_)))))))))))
      exact KR.one (.inl rfl) rfl rfl ⟨⟨_, rfl⟩, List.sublist_cons_self _ _⟩
    · skip
      refine WC.no rfl (WC.skip (blockK_normal (thenK_normal (WC.region (WL.q (LX.addI rfl rfl (by omega)) rfl (WL.q (LX.move rfl) rfl (WL.nil ?_)))))))
      exact loopS_nextS (i + 1) (by omega) (by omega) (.cons rfl (.cons rfl (.cons rfl .nil))) (List.sublist_cons_self _ _)
  · refine WC.exit (thenK_exit (loopS_exit (blockK_same (thenK_normal (WC.seq (WC.region (WL.q (LX.assign rfl) rfl (WL.nil (thenK_normal (WC.ret ?_))))))))))
    exact KR.one (.inl rfl) rfl rfl ⟨⟨_, rfl⟩, List.Sublist.refl _⟩

/-- same, of lists that are the same -/
theorem lsame {va vb : Value} {T : List Int} (ha : Rds M va (T.map (Value.int .i64))) (hb : Rds M vb (T.map (Value.int .i64))) (hT : T.length ≤ 1000) : CS w0 10 [va, vb] M (fun u M' => u = .bool true ∧ M' = M) := by
  obtain ⟨A, cap, rfl, hA⟩ := ha.split
  obtain ⟨B, cap', rfl, hB⟩ := hb.split
  rw [List.length_map] at hA hB ⊢
  refine CS.of Tryz.func10 Tryz.ntmps10 rfl rfl (WC.seq (WC.region (WL.q (LX.assign rfl) rfl (WL.nil (thenK_normal (WC.seq (WC.seq (WC.region (WL.q (LX.move rfl) rfl (WL.q (LX.len rfl rfl rfl) rfl (WL.q (LX.move rfl) rfl (WL.q (LX.len rfl rfl rfl) rfl (WL.q (LX.eq (LX.bin rfl rfl rfl) (show _ = Value.bool false by simp)) rfl ?_)))))))))))))
  refine WL.nil (thenK_normal (WC.no rfl (WC.skip (thenK_normal (WC.seq (WC.seq (WC.region (WL.q (LX.assign rfl) rfl (WL.nil (thenK_normal (WC.block (WC.loopS (fun i : Nat => [(0, .slice A T.length cap), (1, .slice B T.length cap'), (5, .int .i64 i)]) (fun _ => M) (fun i => i ≤ T.length) (fun i => T.length - i) 0 (Nat.zero_le _) (.cons rfl (.cons rfl (.cons rfl .nil))) rfl ?_))))))))))))
  intro i hi
  refine WC.seq (WC.seq (WC.region (WL.q (LX.move rfl) rfl (WL.q (LX.move rfl) rfl (WL.q (LX.len rfl rfl rfl) rfl (WL.q (LX.bin rfl rfl rfl) rfl (WL.nil (thenK_normal ?_))))))))
  refine WC.test rfl (fun hlt => ?_) (fun hge => ?_)
  · obtain ⟨b1', c1', T1, rfl, hm1, hc1⟩ := hA (by omega)
    obtain ⟨b2', c2', T2, rfl, hm2, hc2⟩ := hB (by omega)
    obtain ⟨x, hx, -⟩ := list_at (show i < T.length by omega)
    have hx' : (T.map (Value.int .i64))[i]? = some (.int .i64 x) := by rw [List.getElem?_map, hx]; rfl
    have hms : ∀ p ∈ [(b1', Obj.cells c1'.toArray T1 (0, 0)), (b2', Obj.cells c2'.toArray T2 (0, 0))], p ∈ M := by
      intro p hp
      simp only [List.mem_cons, List.not_mem_nil, or_false] at hp
      rcases hp with rfl | rfl <;> assumption
    refine WC.skip (thenK_normal (WC.seq (WC.block (WC.seq (WC.draw [(0, 0), (0, 1), (0, 2), (0, 4), (0, 5), (0, 6), (1, 3), (1, 7), (0, 8)] [(b1', Obj.cells c1'.toArray T1 (0, 0)), (b2', Obj.cells c2'.toArray T2 (0, 0))] rfl (by kernel_rfl) rfl (by kernel_rfl) (DW.p rfl rfl (fun _ => LX.move rfl) rfl (DW.p rfl rfl (fun _ => LX.move rfl) rfl (DW.p rfl rfl (fun _ => LX.idx1 rfl rfl rfl i rfl (by omega)) rfl (DW.p rfl rfl (fun _ => LX.move rfl) rfl (DW.p rfl rfl (fun _ => LX.move rfl) rfl (DW.p rfl rfl (fun _ => LX.idx1 rfl rfl rfl i rfl (by omega)) rfl ?_)))))))))))
    refine DW.r rfl rfl (LX.load rfl rfl (by repeat first | assumption | exact List.mem_cons_self | refine List.mem_cons_of_mem _ ?_) (Obj.cell_list (hc1 _ _ hx'))) hms rfl ?_
    refine DW.r rfl rfl (LX.load rfl rfl (by repeat first | assumption | exact List.mem_cons_self | refine List.mem_cons_of_mem _ ?_) (Obj.cell_list (hc2 _ _ hx'))) hms rfl ?_
    refine DW.p rfl rfl (fun _ => LX.eq (LX.bin rfl rfl rfl) (show _ = Value.bool false by simp)) rfl (DW.nil (thenK_normal (WC.no rfl (WC.skip (blockK_normal (thenK_normal (WC.region (WL.q (LX.move rfl) rfl (WL.q (LX.addI rfl rfl (by omega)) rfl (WL.q (LX.assign rfl) rfl (WL.nil ?_)))))))))))
    exact loopS_next (i + 1) (by omega) (by omega) (.cons rfl (.cons rfl (.cons rfl .nil))) rfl
  · refine WC.exit (thenK_exit (loopS_exit (blockK_same (thenK_normal (WC.seq (WC.region (WL.q (LX.assign rfl) rfl (WL.nil (thenK_normal (WC.ret ?_))))))))))
    exact KR.one (.inl rfl) rfl rfl ⟨rfl, rfl⟩
end
end Go.Proofs.YtdnngppofbmpeaaGreatDoor.Bm
