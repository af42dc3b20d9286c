/- Proved here: what quotient of the reference does; what bits, words, octet, octets and short of the reference do. Conditions: none but those that each theorem states. -/
import Derived.Test.YtdnngppofbmpeaaGreatDoorG18
namespace Go.Proofs.YtdnngppofbmpeaaGreatDoor.Bm
open Go Go.RowKit

theorem Num.nil {M : Mem} {A : Option Addr} {cap : Nat} : Num M (.slice A 0 cap) 0 [] := ⟨.nil, Dg.nil _, rfl, .inl rfl⟩
theorem pre_trans {N1 N2 M : Mem} (h : ∃ N, N1 = N ++ M) (k : ∃ N, N2 = N ++ N1) : ∃ N, N2 = N ++ M := by
  obtain ⟨a, rfl⟩ := h; obtain ⟨b, rfl⟩ := k; exact ⟨b ++ a, by simp⟩
theorem Num.top' {M : Mem} {v : Value} {V : Int} {ds : List Int} (h : Num M v V ds) (h0 : 0 < ds.length) : 1 ≤ gt ds (ds.length - 1) ∧ gt ds (ds.length - 1) < 65536 := by
  have h1 : 0 ≤ gt ds (ds.length - 1) ∧ gt ds (ds.length - 1) < 65536 := Dg.getD B16_pos h.dg _
  rcases h.top with h2 | h2
  · subst h2; simp at h0
  · omega
theorem Num.pos {M : Mem} {v : Value} {V : Int} {ds : List Int} (h : Num M v V ds) (hV : 0 < V) : 0 < ds.length := by
  rcases Nat.eq_zero_or_pos ds.length with h1 | h1
  · have := h.zero.2 (List.length_eq_zero_iff.1 h1); omega
  · exact h1
/-- the scaled divisor has as many digits -/
theorem scaled_lt {M : Mem} {v : Value} {W sc : Int} {es : List Int} (k : Num M v W es) (h0 : 0 < es.length) (hs : sc * (gt es (es.length - 1) + 1) ≤ 65536) (hs0 : 0 < sc) : W * sc < B16 ^ es.length := by
  have e1 := dv_take_gt B16 (xs := es) (i := es.length - 1) (by omega)
  rw [show es.length - 1 + 1 = es.length by omega, List.take_length, k.val] at e1
  have l1 := dv_lt B16_pos (k.dg.take (es.length - 1))
  rw [List.length_take, Nat.min_eq_left (by omega)] at l1
  have e2 : (B16 : Int) ^ es.length = B16 ^ (es.length - 1) * 65536 := by
    rw [show es.length = es.length - 1 + 1 by omega, Int.pow_succ]; rfl
  have P0 := dgB (es.length - 1)
  rw [e2, e1]
  generalize (B16 : Int) ^ (es.length - 1) = P at *
  generalize dv B16 (es.take (es.length - 1)) = a at *
  generalize gt es (es.length - 1) = T at *
  have m1 : P * (sc * (T + 1)) ≤ P * 65536 := Int.mul_le_mul_of_nonneg_left hs (Int.le_of_lt P0)
  have m2 : a * sc < P * sc := Int.mul_lt_mul_of_pos_right l1 hs0
  have m3 : (a + P * T) * sc + P * sc = a * sc + P * (sc * (T + 1)) := by grind
  omega

section
variable {w0 : World} {M : Mem}
/-- quotient -/
theorem squot {v w : Value} {V W : Int} {ds es : List Int} (h : Num M v V ds) (k : Num M w W es) (hL : ds.length ≤ 200) (hL' : es.length ≤ 200) (hW : 0 < W) :
    CS w0 103 [v, w] M (fun u M' => ∃ x y N fs gs, u = .tuple #[x, y] ∧ M' = N ++ M ∧ Num M' x (V / W) fs ∧ Num M' y (V % W) gs) := by
  have hV0 := h.nonneg
  have he0 := k.pos hW
  have htop := k.top' he0
  refine CS.of Tryz.func103 Tryz.ntmps103 rfl rfl (WC.seq (WC.region (WL.q (LX.assign rfl) rfl (WL.q (LX.assign rfl) rfl (WL.nil (thenK_normal (WC.seq (WC.seq (WC.region (WL.q (LX.move rfl) rfl (WL.q (LX.move rfl) rfl (WL.call (sless h k (by omega) (by omega)) rfl (fun _ => by kernel_rfl) rfl (WL.nil ?_)))))))))))))
  refine thenK_normal ?_
  refine WC.test rfl (fun hlt => ?_) (fun hge => ?_)
  · refine WC.seq (WC.region (WL.step rfl (EX.bslice (e := 3) (cs := []) rfl (fun _ => by kernel_rfl)) ?_))
    rintro _ _ ⟨b, rfl, rfl⟩
    refine WL.q (LX.move rfl) rfl (WL.q (LX.assign rfl) rfl (WL.q (LX.assign rfl) rfl (WL.nil (thenK_normal (WC.ret (thenK_ret ?_))))))
    refine KR.two (.inl rfl) rfl rfl rfl ⟨_, _, [_], [], ds, rfl, rfl, ?_, ?_⟩
    · rw [Int.ediv_eq_zero_of_lt hV0 hlt]; exact Num.nil
    · rw [Int.emod_eq_of_lt hV0 hlt]; exact h.mono fun _ hp => List.mem_cons_of_mem _ hp
  have hlen : es.length ≤ ds.length := by
    rcases Nat.lt_or_ge ds.length es.length with h1 | h1
    · have := len_lt h k h1; omega
    · exact h1
  obtain ⟨A', cap', rfl, hA'⟩ := k.mem.form
  obtain ⟨b2, o2, full2, rfl, hm2, hl2, hs2, hc2⟩ := hA' he0
  have hg2 : ∀ i, i < es.length → gt full2 (o2 + i) = gt es i := fun i hi => by rw [← sliceL_gt (k := es.length) (by omega), hs2]
  refine WC.skip (thenK_normal (WC.seq (WC.seq (WC.region (WL.q (LX.move rfl) rfl (WL.q (LX.len rfl rfl rfl) rfl (WL.q (LX.bin rfl rfl rfl) rfl (WL.nil (thenK_normal ?_)))))))))
  refine WC.test rfl (fun h1 => ?_) (fun h1 => ?_)
  · have hW1 : W = gt es 0 := by
      obtain ⟨x, rfl⟩ : ∃ x, es = [x] := List.length_eq_one_iff.1 (by omega)
      rw [← k.val]; simp [gt]
    have hes1 : es.length - 1 = 0 := by omega
    rw [hes1, ← hW1] at htop
    refine WC.seq (WC.region (WL.q (LX.move rfl) rfl (WL.q (LX.move rfl) rfl (WL.q (LX.idxo rfl rfl rfl 0 rfl (by omega)) rfl (WL.q (LX.eq (LX.loadRow rfl rfl hm2 (by omega)) (by rw [hg2 0 (by omega), ← hW1])) rfl ?_)))))
    refine WL.callR (sdivided h htop (by omega)) rfl (fun _ => by kernel_rfl) rfl ?_
    rintro _ _ ⟨x, N, fs, rfl, rfl, hx⟩
    refine WL.q (LX.move rfl) rfl (WL.q (LX.extract rfl rfl) rfl (WL.q (LX.extract rfl rfl) rfl (WL.q (LX.assign rfl) rfl (WL.q (LX.assign rfl) rfl (WL.nil (thenK_normal (WC.seq (WC.region (WL.q (LX.move rfl) rfl (WL.q (LX.move rfl) rfl ?_))))))))))
    have r0 := Int.emod_nonneg V (show W ≠ 0 by omega)
    have r1 := Int.emod_lt_of_pos V hW
    refine WL.callR (ssmall r0 (by omega)) rfl (fun _ => by kernel_rfl) rfl ?_
    rintro y _ ⟨N2, gs, rfl, hy⟩
    refine WL.q (LX.assign rfl) rfl (WL.q (LX.assign rfl) rfl (WL.nil (thenK_normal (WC.ret (thenK_ret ?_)))))
    exact KR.two (.inl rfl) rfl rfl rfl ⟨x, y, N2 ++ N, fs, gs, rfl, by simp, hx.mono fun _ hp => List.mem_append_right _ hp, hy⟩
  obtain ⟨sc, hsc⟩ : ∃ sc, sc = 65536 / (gt es (es.length - 1) + 1) := ⟨_, rfl⟩
  have hsc1 : 1 ≤ sc := by rw [hsc]; apply Int.le_ediv_of_mul_le <;> omega
  have hsc2 : sc * (gt es (es.length - 1) + 1) ≤ 65536 := by rw [hsc]; exact Int.ediv_mul_le _ (by omega)
  have hsc3 : sc < 65536 := by rw [hsc]; apply Int.ediv_lt_of_lt_mul <;> omega
  refine WC.skip (thenK_normal (WC.seq (WC.region (WL.q (LX.move rfl) rfl (WL.q (LX.move rfl) rfl (WL.q (LX.len rfl rfl rfl) rfl (WL.q (LX.subI rfl rfl (by omega)) rfl (WL.q (LX.idxo rfl rfl rfl (es.length - 1) (by omega) (by omega)) rfl (WL.q (LX.eq (LX.loadRow rfl rfl hm2 (by omega)) (by rw [hg2 (es.length - 1) (by omega)])) rfl ?_)))))))))
  refine WL.q (LX.addI rfl rfl (by omega)) rfl (WL.q (LX.eq (LX.quoI rfl rfl (by omega) (by omega)) (by rw [← hsc])) rfl ?_)
  refine WL.q (LX.assign rfl) rfl (WL.nil (thenK_normal (WC.seq (WC.region (WL.q (LX.move rfl) rfl (WL.q (LX.move rfl) rfl (WL.callR (ssmall (x := sc) (by omega) (by omega)) rfl (fun _ => by kernel_rfl) rfl ?_)))))))
  rintro s1 _ ⟨N1, ss, rfl, hs1⟩
  have hss : ss.length ≤ 1 := hs1.len (by unfold B16; omega)
  
  refine WL.callR (sprodX (k.mono fun _ hp => List.mem_append_right _ hp) hs1 (by omega) (by omega)) rfl (fun _ => by kernel_rfl) rfl ?_
  rintro vv M1 ⟨vs, ⟨bv, fv, hvv, hvl, hvt, hvd, hM1⟩, kv⟩
  have hpre1 : ∃ N, M1 = N ++ M := ⟨_ :: N1, by rw [hM1]; rfl⟩
  have hsubM : ∀ z ∈ M, z ∈ M1 := by obtain ⟨N, rfl⟩ := hpre1; exact fun z hz => List.mem_append_right _ hz
  clear hM1 hvv hvl hvt hvd hs1
  have hWs := scaled_lt k he0 hsc2 (by omega)
  have hW1 : W ≤ W * sc := by
    have := Int.mul_le_mul_of_nonneg_left hsc1 (Int.le_of_lt hW)
    omega
  have hvn := kv.len hWs
  have hvn0 := kv.pos (by omega)
  have hVs : 0 ≤ V * sc := Int.mul_nonneg hV0 (by omega)
  have hVW : W * sc ≤ V * sc := Int.mul_le_mul_of_nonneg_right (by omega) (by omega)
  have hVs2 : V * sc < B16 ^ (ds.length + 1) := by
    have h1 := h.lt
    have h2 : V * sc ≤ V * 65536 := Int.mul_le_mul_of_nonneg_left (by omega) hV0
    rw [Int.pow_succ]; unfold B16 at *; omega
  refine WL.q (LX.assign rfl) rfl (WL.nil (thenK_normal (WC.seq (WC.region (WL.q (LX.move rfl) rfl (WL.q (LX.move rfl) rfl (WL.callR (ssmall (x := sc) (by omega) (by omega)) rfl (fun _ => by kernel_rfl) rfl ?_)))))))
  rintro s2 _ ⟨N2, ss2, rfl, hs2⟩
  have hss2 : ss2.length ≤ 1 := hs2.len (by unfold B16; omega)
  
  refine WL.callR (sprodX (h.mono fun _ hp => List.mem_append_right _ (hsubM _ hp)) hs2 (by omega) (by omega)) rfl (fun _ => by kernel_rfl) rfl ?_
  rintro uu M2 ⟨us, hown, ku⟩
  have hun := ku.len hVs2
  have hvu : vs.length ≤ us.length := kv.len (Int.lt_of_le_of_lt hVW ku.lt)
  
  refine WL.step rfl (EX.bslice (e := 3) (cs := [.int .i64 0]) rfl (fun _ => by kernel_rfl)) ?_
  rintro _ _ ⟨b', rfl, rfl⟩
  
  obtain ⟨M3, hown2, hperm⟩ := hown.own.more [(b', .cells #[.int .i64 0] 3 (0, 0))]
  refine WL.appendOwn (EX.pm ⟨hperm⟩ (EX.append (ds := [.int .i64 0]) (d := [.int .i64 0]) rfl hown2 rfl rfl rfl rfl rfl ⟨0, rfl, by omega, by decide⟩ (by intro u hu; simp at hu; subst hu; exact ⟨_, rfl, by omega, by decide⟩) (fun w hw => (hw.has _ (hperm.symm.subset List.mem_cons_self)).2) (Nat.le_refl _) rfl (by simp; rfl) (by simp; omega))) rfl ?_
  rintro v' M4 hv'
  have hv' : Own isD 3 v' ((us ++ [0]).map (Value.int .i64)) ([(b', .cells #[.int .i64 0] 3 (0, 0))] ++ (N2 ++ M1)) M4 := by rw [List.map_append]; exact hv'
  obtain ⟨bu, full, rfl, hul, hut, hud, rfl⟩ := hv'.ownB (by simp)
  obtain ⟨M5, hM5⟩ : ∃ M5, M5 = [(b', Obj.cells #[.int .i64 0] 3 (0, 0))] ++ (N2 ++ M1) := ⟨_, rfl⟩
  rw [← hM5]
  have hpre5 : ∃ N, M5 = N ++ M := pre_trans hpre1 ⟨_ :: N2, by rw [hM5]; rfl⟩
  have kv5 : Num M5 vv (W * sc) vs := kv.mono fun _ hp => by rw [hM5]; exact List.mem_append_right _ (List.mem_append_right _ hp)
  obtain ⟨m, hm⟩ : ∃ m, m = us.length + 1 := ⟨_, rfl⟩
  have hml : (us ++ [(0 : Int)]).length = m := by simp [hm]
  have hdv0 : dv B16 (full.take m) = V * sc := by rw [← hml, hut, dv_snoc, ku.val]; omega
  have hdr0 : dv B16 ((full.take m).drop (m - vs.length)) < W * sc := by
    have e1 : full.take m = us ++ [0] := by rw [← hml]; exact hut
    have e2 : (us ++ [(0 : Int)]).drop (m - vs.length) = us.drop (m - vs.length) ++ [0] := by rw [List.drop_append_of_le_length (by omega)]
    rw [e1, e2, dv_snoc]
    have h1 := dv_lt B16_pos (ku.dg.drop (m - vs.length))
    rw [List.length_drop, show us.length - (m - vs.length) = vs.length - 1 by omega] at h1
    have h2 := kv.ge (List.length_pos_iff.1 hvn0)
    omega
  rw [hml] at hul ⊢
  clear hut hv' hown2 hown hs2
  have kv0 := kv5
  obtain ⟨Av, capv, rfl, hAv⟩ := kv5.mem.form
  obtain ⟨bv, ov, fullv, rfl, hmv, hlv, hsv, hcv⟩ := hAv hvn0
  have hgv : gt fullv (ov + (vs.length - 1)) = gt vs (vs.length - 1) := by rw [← sliceL_gt (k := vs.length) (by omega), hsv]
  have hvtop := kv.top' hvn0
  refine WL.q (LX.assign rfl) rfl (WL.nil (thenK_normal (WC.seq (WC.region (WL.q (LX.move rfl) rfl (WL.q (LX.len rfl rfl rfl) rfl (WL.q (LX.move rfl) rfl (WL.q (LX.len rfl rfl rfl) rfl (WL.q (LX.subI rfl rfl (by omega)) rfl (WL.step rfl (EX.make (k := .i64) (e := 3) rfl rfl rfl rfl (m - vs.length) (m - vs.length) (by omega) (by omega) (Nat.le_refl _) (by omega) (by omega)) ?_))))))))))
  rintro _ _ ⟨bq, rfl, rfl⟩
  refine WL.q (LX.assign rfl) rfl (WL.nil (thenK_normal (WC.seq (WC.seq (WC.region (WL.q (LX.move rfl) rfl (WL.q (LX.len rfl rfl rfl) rfl (WL.q (LX.subI rfl rfl (by omega)) rfl (WL.q (LX.assign rfl) rfl (WL.nil (thenK_normal (WC.block (WC.pm (N := (bu, ints full) :: (bq, row .i64 3 (List.replicate (m - vs.length) 0)) :: M5) (by repeat first | exact Pm.done | (apply Pm.step; repeat first | exact Rem.here | apply Rem.there)) ?_)))))))))))))
  refine WC.loopS (fun s : Nat × List Int × List Int => [(8, .int .i64 sc), (9, .slice (some ⟨bv, ov, none⟩) vs.length capv), (10, .slice (some ⟨bu, 0, none⟩) m full.length), (11, .slice (some ⟨bq, 0, none⟩) (m - vs.length) (m - vs.length)), (12, .int .i64 ((s.1 : Int) - 1))]) (fun s => (bu, ints s.2.2) :: (bq, ints s.2.1) :: M5)
    (fun s => s.1 ≤ m - vs.length ∧ s.2.1.length = m - vs.length ∧ Dg B16 s.2.1 ∧ (∀ i, i < s.1 → gt s.2.1 i = 0) ∧ s.2.2.length = full.length ∧ Dg B16 s.2.2 ∧ dv B16 (s.2.2.take m) + W * sc * dv B16 s.2.1 = V * sc ∧ dv B16 ((s.2.2.take m).drop s.1) < W * sc) (fun s => s.1)
    (m - vs.length, List.replicate (m - vs.length) 0, full) ⟨Nat.le_refl _, List.length_replicate, Dg.replicate B16_pos _, fun i _ => (Pr.start _).up i (Nat.zero_le _), rfl, hud, by simp only []; rw [dv_replicate_zero, hdv0]; omega, hdr0⟩ (.cons rfl (.cons rfl (.cons rfl (.cons rfl (.cons rfl .nil))))) rfl ?_
  rintro ⟨j, qs, xs⟩ ⟨hj, hql, hqd, hq0, hxl, hxd, hsum, hlow⟩
  dsimp only at hj hql hqd hq0 hxl hxd hsum hlow ⊢
  refine WC.seq (WC.seq (WC.region (WL.q (LX.move rfl) rfl (WL.q (LX.bin rfl rfl rfl) rfl (WL.nil (thenK_normal ?_))))))
  refine WC.test rfl (fun hge => ?_) (fun hge => ?_)
  · have hxl' : m ≤ xs.length := by omega
    have hlow' : dv B16 ((xs.take m).drop (j - 1 + 1)) < W * sc := by rw [show j - 1 + 1 = j by omega]; exact hlow
    obtain ⟨hl1, hl2, hl3⟩ := win_low (n := vs.length) (t := j - 1) hxd hxl' (by omega) kv.lt hlow'
    have hgs := guess (t := j - 1) (n := vs.length) hxd kv.dg hvn0 rfl kv.val (by omega) (by omega) (by omega)
    have hS0 := dv_nonneg B16_pos (dg_slice hxd (j - 1) (vs.length + 1))
    have hSq : dv B16 (sliceL xs (j - 1) (vs.length + 1)) / (W * sc) < 65536 := Int.ediv_lt_of_lt_mul (by omega) hl3
    have hz1 : 0 ≤ gt xs (j - 1 + vs.length) ∧ gt xs (j - 1 + vs.length) < 65536 := Dg.getD B16_pos hxd _
    have hz2 : 0 ≤ gt xs (j - 1 + vs.length - 1) ∧ gt xs (j - 1 + vs.length - 1) < 65536 := Dg.getD B16_pos hxd _
    have hH := Int.ediv_nonneg (show 0 ≤ gt xs (j - 1 + vs.length) * 65536 + gt xs (j - 1 + vs.length - 1) by omega) (show 0 ≤ gt vs (vs.length - 1) by omega)
    have hms : ∀ z ∈ [(bu, ints xs)], z ∈ (bu, ints xs) :: (bq, ints qs) :: M5 := by
      intro z hz
      simp only [List.mem_cons, List.not_mem_nil, or_false] at hz
      subst hz; exact List.mem_cons_self
    refine WC.skip (thenK_normal (WC.seq (WC.block (WC.seq (WC.draw [(0, 0), (0, 1), (0, 2), (0, 3), (0, 4), (0, 5), (0, 8), (0, 9), (0, 10), (0, 11), (0, 12), (0, 13), (0, 14), (1, 6), (0, 7), (1, 15), (0, 16), (0, 17)] [(bu, ints xs)] rfl (by kernel_rfl) rfl (by kernel_rfl) (DW.p rfl rfl (fun _ => LX.move rfl) rfl (DW.p rfl rfl (fun _ => LX.move rfl) rfl (DW.p rfl rfl (fun _ => LX.move rfl) rfl (DW.p rfl rfl (fun _ => LX.len rfl rfl rfl) rfl (DW.p rfl rfl (fun _ => LX.addI rfl rfl (by omega)) rfl (DW.p rfl rfl (fun _ => LX.idx1 rfl rfl rfl (j - 1 + vs.length) (by omega) (by omega)) rfl (DW.p rfl rfl (fun _ => LX.move rfl) rfl (DW.p rfl rfl (fun _ => LX.move rfl) rfl ?_)))))))))))))
    refine DW.p rfl rfl (fun _ => LX.move rfl) rfl (DW.p rfl rfl (fun _ => LX.len rfl rfl rfl) rfl (DW.p rfl rfl (fun _ => LX.addI rfl rfl (by omega)) rfl (DW.p rfl rfl (fun _ => LX.subI rfl rfl (by omega)) rfl (DW.p rfl rfl (fun _ => LX.idx1 rfl rfl rfl (j - 1 + vs.length - 1) (by omega) (by omega)) rfl ?_))))
    refine DW.r rfl rfl (LX.loadRow rfl rfl (by repeat first | assumption | exact List.mem_cons_self | refine List.mem_cons_of_mem _ ?_) (by omega)) hms rfl ?_
    refine DW.p rfl rfl (fun _ => LX.mulI rfl rfl (by omega)) rfl ?_
    refine DW.r rfl rfl (LX.loadRow rfl rfl (by repeat first | assumption | exact List.mem_cons_self | refine List.mem_cons_of_mem _ ?_) (by omega)) hms rfl ?_
    refine DW.p rfl rfl (fun _ => LX.addI rfl rfl (by omega)) rfl (DW.p rfl rfl (fun _ => LX.assign rfl) rfl (DW.nil (thenK_normal (WC.seq (WC.region (WL.q (LX.move rfl) rfl (WL.q (LX.move rfl) rfl (WL.q (LX.move rfl) rfl (WL.q (LX.len rfl rfl rfl) rfl (WL.q (LX.subI rfl rfl (by omega)) rfl (WL.q (LX.idxo rfl rfl rfl (vs.length - 1) (by omega) (by omega)) rfl (WL.q (LX.eq (LX.loadRow rfl rfl (List.mem_cons_of_mem _ (List.mem_cons_of_mem _ hmv)) (by omega)) (by rw [hgv])) rfl ?_))))))))))))
    refine WL.q (LX.quoI rfl rfl (by omega) (by omega)) rfl (WL.q (LX.assign rfl) rfl (WL.nil (thenK_normal ?_)))
    refine WC.cut (fun E' M' => ∃ x, (0 ≤ x ∧ x < 65536) ∧ dv B16 (sliceL xs (j - 1) (vs.length + 1)) / (W * sc) ≤ x ∧ Sub [(8, .int .i64 sc), (9, .slice (some ⟨bv, ov, none⟩) vs.length capv), (10, .slice (some ⟨bu, 0, none⟩) m full.length), (11, .slice (some ⟨bq, 0, none⟩) (m - vs.length) (m - vs.length)), (12, .int .i64 ((j : Int) - 1)), (14, .int .i64 x)] E' ∧ (bu, ints xs) :: (bq, ints qs) :: M5 = M') ?_ ?_
    · refine WC.seq (WC.region (WL.q (LX.move rfl) rfl (WL.q (LX.bin rfl rfl rfl) rfl (WL.nil (thenK_normal ?_)))))
      refine WC.test rfl (fun h1 => ?_) (fun h1 => ?_)
      · refine WC.region (WL.q (LX.assign rfl) rfl (WL.nil ?_))
        exact ⟨65535, by omega, by omega, (.cons rfl (.cons rfl (.cons rfl (.cons rfl (.cons rfl (.cons rfl .nil)))))), rfl⟩
      · refine WC.skip ?_
        exact ⟨_, ⟨hH, by omega⟩, hgs, (.cons rfl (.cons rfl (.cons rfl (.cons rfl (.cons rfl (.cons rfl .nil)))))), rfl⟩
    rintro E' M' ⟨x, hx, hqx, hE, rfl⟩
    refine WC.cutE _ hE (WC.seq (WC.region (WL.q (LX.move rfl) rfl (WL.q (LX.move rfl) rfl (WL.q (LX.move rfl) rfl (WL.q (LX.move rfl) rfl ?_))))))
    have hstep := staken (w0 := w0) (M := (bq, ints qs) :: M5) (bu := bu) (capu := full.length) (m := m) (t := j - 1) (full := xs) (q := x) (kv0.mono fun _ hp => List.mem_cons_of_mem _ hp) (by omega) hxl' (by omega) hxd hx
    rw [show ((j - 1 : Nat) : Int) = (j : Int) - 1 by omega] at hstep
    refine WL.callR hstep rfl (fun _ => by kernel_rfl) rfl ?_
    rintro _ _ ⟨ys, c, hc, rfl, hwb, heq, rfl⟩
    refine WL.q (LX.assign rfl) rfl (WL.nil (thenK_normal (WC.seq (WC.block ?_))))
    have hB1 : (B16 : Int) ^ (vs.length + 1) = B16 ^ vs.length * 65536 := Int.pow_succ _ _
    have hTb : ∀ ys, Wb (j - 1) (vs.length + 1) xs ys → 0 ≤ dv B16 (sliceL ys (j - 1) (vs.length + 1)) ∧ dv B16 (sliceL ys (j - 1) (vs.length + 1)) < B16 ^ (vs.length + 1) := by
      intro ys hy
      have l1 := dv_lt B16_pos (dg_slice hy.dg (j - 1) (vs.length + 1))
      rw [sliceL_length _ _ _ (by have := hy.len; omega)] at l1
      exact ⟨dv_nonneg B16_pos (dg_slice hy.dg _ _), l1⟩
    have hkn := Kn.start hB1 kv.lt (by omega) hS0 (hTb _ hwb) hx hqx hc heq
    refine WC.loopS (fun s : Int × Bool × List Int => [(8, .int .i64 sc), (9, .slice (some ⟨bv, ov, none⟩) vs.length capv), (10, .slice (some ⟨bu, 0, none⟩) m full.length), (11, .slice (some ⟨bq, 0, none⟩) (m - vs.length) (m - vs.length)), (12, .int .i64 ((j : Int) - 1)), (14, .int .i64 s.1), (15, .bool s.2.1)]) (fun s => (bu, ints s.2.2) :: (bq, ints qs) :: M5)
      (fun s => (0 ≤ s.1 ∧ s.1 < 65536) ∧ Wb (j - 1) (vs.length + 1) xs s.2.2 ∧ Kn (W * sc) (dv B16 (sliceL xs (j - 1) (vs.length + 1))) (B16 ^ (vs.length + 1)) s.1 (dv B16 (sliceL s.2.2 (j - 1) (vs.length + 1))) s.2.1) (fun s => s.1.toNat)
      (x, decide (c = 0), ys) ⟨hx, hwb, hkn⟩ (.cons rfl (.cons rfl (.cons rfl (.cons rfl (.cons rfl (.cons rfl (.cons rfl .nil))))))) rfl ?_
    clear hkn hstep heq hwb hqx
    rintro ⟨x, _ | _, ys⟩ ⟨hx, hwb, hkn⟩
    · dsimp only at hx hwb hkn ⊢
      have hyl := hwb.len
      refine WC.seq (WC.seq (WC.region (WL.q (LX.move rfl) rfl (WL.q (LX.not rfl) rfl (WL.nil (thenK_normal (WC.yes rfl (WC.skip (thenK_normal (WC.block (WC.seq (WC.region (WL.q (LX.move rfl) rfl ?_)))))))))))))
      refine WL.q (LX.subI rfl rfl (by omega)) rfl (WL.q (LX.assign rfl) rfl (WL.nil (thenK_normal (WC.region (WL.q (LX.move rfl) rfl (WL.q (LX.move rfl) rfl (WL.q (LX.move rfl) rfl ?_)))))))
      have hstep := sputBack (w0 := w0) (M := (bq, ints qs) :: M5) (bu := bu) (capu := full.length) (m := m) (t := j - 1) (full := ys) (kv0.mono fun _ hp => List.mem_cons_of_mem _ hp) (by omega) (by omega) (by omega) hwb.dg
      rw [show ((j - 1 : Nat) : Int) = (j : Int) - 1 by omega] at hstep
      refine WL.callR hstep rfl (fun _ => by kernel_rfl) rfl ?_
      rintro _ _ ⟨zs, c, hc, rfl, hwb2, heq, rfl⟩
      refine WL.q (LX.assign rfl) rfl (WL.nil (blockK_normal ?_))
      have hwb3 := hwb.trans hwb2
      obtain ⟨hx0, hkn2⟩ := Kn.next hB1 kv.lt (by omega) hS0 (hTb _ hwb3) hx.1 hc hkn heq
      exact loopS_next (x - 1, decide (0 < c), zs) ⟨by simp only []; omega, hwb3, hkn2⟩ (by simp only []; omega) (.cons rfl (.cons rfl (.cons rfl (.cons rfl (.cons rfl (.cons rfl (.cons rfl .nil))))))) rfl
    · dsimp only at hx hwb hkn ⊢
      have hyl := hwb.len
      refine WC.seq (WC.seq (WC.region (WL.q (LX.move rfl) rfl (WL.q (LX.not rfl) rfl (WL.nil (thenK_normal (WC.no rfl (WC.exit (thenK_exit (loopS_exit (blockK_same (thenK_normal (WC.region ?_)))))))))))))
      refine WL.q (LX.move rfl) rfl (WL.q (LX.move rfl) rfl (WL.q (LX.move rfl) rfl (WL.q (LX.idx1 rfl rfl rfl (j - 1) (by omega) (by omega)) rfl ?_)))
      obtain ⟨hk1, hk2⟩ := hkn
      obtain ⟨hs1, hs2⟩ := kn_step (qs := qs) hxd hwb hxl' (by omega) kv.lt hlow' hk1 (by omega) (hq0 _ (by omega))
      refine WL.put (EX.storeRow rfl rfl rfl (by repeat first | assumption | exact List.mem_cons_self | refine List.mem_cons_of_mem _ ?_) (by omega) (by repeat first | exact Upd.here | apply Upd.there)) ?_
      refine WL.nil (blockK_normal (thenK_normal (WC.region (WL.q (LX.move rfl) rfl (WL.q (LX.eq (LX.subI rfl rfl (by omega)) (show _ = Value.int .i64 (((j - 1 : Nat) : Int) - 1) by congr 1; omega)) rfl (WL.q (LX.assign rfl) rfl (WL.nil ?_)))))))
      refine loopS_next (j - 1, qs.set (j - 1) x, ys) ⟨by simp only []; omega, by simpa using hql, hqd.set hx.1 hx.2 _, fun i hi => ?_, by simp only []; omega, hwb.dg, by simp only []; rw [hs2]; exact hsum, by simp only []; rw [hs1]; omega⟩ (by simp only []; omega) (.cons rfl (.cons rfl (.cons rfl (.cons rfl (.cons rfl .nil))))) rfl
      simp only [] at hi ⊢
      rw [gt_set_ne (by omega)]
      exact hq0 _ (by omega)
  · obtain rfl : j = 0 := by omega
    rw [List.drop_zero] at hlow
    refine WC.exit (thenK_exit (loopS_exit (blockK_same (thenK_normal (WC.seq (WC.region (WL.q (LX.move rfl) rfl ?_)))))))
    have hxm : (xs.take m).length = m := by rw [List.length_take]; omega
    have ht := trimmed (w0 := w0) (M := (bu, ints xs) :: (bq, ints qs) :: M5) (cap := full.length) (full := xs) (ds := xs.take m) List.mem_cons_self (by omega) (by rw [hxm]) (by omega) (hxd.take m) (by omega)
    rw [hxm] at ht
    refine WL.callR ht rfl (fun _ => by kernel_rfl) rfl ?_
    rintro u1 _ ⟨⟨f1, hf1⟩, rfl⟩
    refine WL.q (LX.move rfl) rfl ?_
    have hr0 := hf1.nonneg
    have hrl : f1.length ≤ 202 := hf1.len (Int.lt_of_lt_of_le (Int.lt_of_lt_of_le hlow (Int.le_of_lt kv.lt)) (by rw [B16_two, B16_two]; exact pow2_le (by omega)))
    refine WL.callR (sdivided hf1 (q := sc) (by omega) (by omega)) rfl (fun _ => by kernel_rfl) rfl ?_
    rintro _ _ ⟨u2, N3, f2, rfl, rfl, hf2⟩
    refine WL.q (LX.move rfl) rfl (WL.q (LX.extract rfl rfl) rfl (WL.q (LX.extract rfl rfl) rfl (WL.q (LX.assign rfl) rfl (WL.q (LX.assign rfl) rfl (WL.nil (thenK_normal (WC.seq (WC.region (WL.q (LX.move rfl) rfl ?_)))))))))
    have ht := trimmed (w0 := w0) (M := N3 ++ (bu, ints xs) :: (bq, ints qs) :: M5) (cap := m - vs.length) (full := qs) (ds := qs) (b := bq) (by simp) (Nat.le_refl _) List.take_length (by omega) hqd (by omega)
    rw [hql] at ht
    refine WL.callR ht rfl (fun _ => by kernel_rfl) rfl ?_
    rintro u3 _ ⟨⟨f3, hf3⟩, rfl⟩
    refine WL.q (LX.move rfl) rfl (WL.q (LX.assign rfl) rfl (WL.q (LX.assign rfl) rfl (WL.nil (thenK_normal (WC.ret ?_)))))
    obtain ⟨e1, e2⟩ := kn_end (by omega) hr0 hlow hsum hW
    obtain ⟨N5, rfl⟩ := hpre5
    exact KR.two (.inl rfl) rfl rfl rfl ⟨u3, u2, N3 ++ ((bu, ints xs) :: (bq, ints qs) :: N5), f3, f2, rfl, by simp, by rw [e1]; exact hf3, by rw [e2]; exact hf2⟩
end
end Go.Proofs.YtdnngppofbmpeaaGreatDoor.Bm
namespace Go.Proofs.YtdnngppofbmpeaaGreatDoor.Bm
open Go Go.RowKit

/-- a digit of a number -/
theorem dg_val {ds : List Int} (hd : Dg B16 ds) (j : Nat) : dv B16 ds / B16 ^ j % B16 = dg ds j := by
  unfold dg; split
  · rename_i hj
    have h1 := dv_nonneg B16_pos (hd.take j)
    have h2 := dv_lt B16_pos (hd.take j)
    rw [List.length_take, Nat.min_eq_left (by omega)] at h2
    have h3 : 0 ≤ gt ds j ∧ gt ds j < 65536 := Dg.getD B16_pos hd j
    rw [dv_split B16 ds j (by omega), Int.add_mul_ediv_left _ _ (by have := dgB j; omega), Int.ediv_eq_zero_of_lt h1 h2, Int.zero_add, drop_gt hj, dv_cons, Int.add_mul_emod_self_left]
    exact Int.emod_eq_of_lt h3.1 h3.2
  · rename_i hj
    have h1 := dv_nonneg B16_pos hd
    have h2 := dv_lt B16_pos hd
    have h3 : (B16 : Int) ^ ds.length ≤ B16 ^ j := by rw [B16_two, B16_two]; exact pow2_le (by omega)
    rw [Int.ediv_eq_zero_of_lt h1 (by omega)]; rfl
theorem num_dg {M : Mem} {v : Value} {V : Int} {ds : List Int} (h : Num M v V ds) (j : Nat) : V / B16 ^ j % B16 = dg ds j := by rw [← h.val]; exact dg_val h.dg j
theorem octet_lo {V : Int} {j : Nat} : V / 256 ^ (2 * j) % 256 = V / B16 ^ j % B16 % 256 := by
  rw [show (256 : Int) ^ (2 * j) = B16 ^ j by rw [Int.pow_mul]; rfl]
  unfold B16; omega
theorem octet_hi {V : Int} {j : Nat} : V / 256 ^ (2 * j + 1) % 256 = V / B16 ^ j % B16 / 256 := by
  rw [Int.pow_succ, show (256 : Int) ^ (2 * j) = B16 ^ j by rw [Int.pow_mul]; rfl, ← Int.ediv_ediv_of_nonneg (Int.le_of_lt (dgB j))]
  unfold B16; omega

section
variable {w0 : World} {M : Mem}
/-- bits -/
theorem sbits {v : Value} {V : Int} {ds : List Int} (h : Num M v V ds) (hL : ds.length ≤ 1000) :
    CS w0 61 [v] M (fun u M' => (∃ k : Nat, u = .int .i64 k ∧ k ≤ 16 * ds.length ∧ IsBl V k) ∧ M' = M) := by
  obtain ⟨A, cap, rfl, hA⟩ := h.mem.form
  refine CS.of Tryz.func61 Tryz.ntmps61 rfl rfl (WC.seq (WC.region (WL.q (LX.assign rfl) rfl (WL.nil (thenK_normal (WC.seq (WC.seq (WC.region (WL.q (LX.move rfl) rfl (WL.q (LX.len rfl rfl rfl) rfl (WL.q (LX.bin rfl rfl rfl) rfl (WL.nil (thenK_normal ?_)))))))))))))
  refine WC.test rfl (fun h0 => ?_) (fun h0 => ?_)
  · refine WC.seq (WC.region (WL.q (LX.assign rfl) rfl (WL.nil (thenK_normal (WC.ret (thenK_ret ?_))))))
    have hV : V = 0 := h.zero.2 (List.length_eq_zero_iff.1 (by omega))
    exact KR.one (.inl rfl) rfl rfl ⟨⟨0, rfl, Nat.zero_le _, hV ▸ IsBl.zero⟩, rfl⟩
  · have hl0 : 0 < ds.length := by omega
    obtain ⟨b1, o1, full1, rfl, hm1, hl1, hs1, hc1⟩ := hA hl0
    have hg1 : gt full1 (o1 + (ds.length - 1)) = gt ds (ds.length - 1) := by rw [← sliceL_gt (k := ds.length) (by omega), hs1]
    have htop := h.top' hl0
    refine WC.skip (thenK_normal (WC.seq (WC.region (WL.q (LX.move rfl) rfl (WL.q (LX.len rfl rfl rfl) rfl (WL.q (LX.subI rfl rfl (by omega)) rfl (WL.q (LX.mulI rfl rfl (by omega)) rfl (WL.q (LX.assign rfl) rfl (WL.nil (thenK_normal (WC.seq (WC.seq (WC.region ?_)))))))))))))
    refine WL.q (LX.move rfl) rfl (WL.q (LX.move rfl) rfl (WL.q (LX.len rfl rfl rfl) rfl (WL.q (LX.subI rfl rfl (by omega)) rfl (WL.q (LX.idxo rfl rfl rfl (ds.length - 1) (by omega) (by omega)) rfl (WL.q (LX.eq (LX.loadRow rfl rfl hm1 (by omega)) (by rw [hg1])) rfl ?_)))))
    refine WL.q (LX.assign rfl) rfl (WL.nil (thenK_normal (WC.block ?_)))
    refine WC.loopS (fun s : Nat × Int => [(3, .int .i64 (16 * ((ds.length : Int) - 1) + s.1)), (4, .int .i64 s.2)]) (fun _ => M) (fun s => s.1 ≤ 16 ∧ 0 ≤ s.2 ∧ s.2 < 2 ^ (16 - s.1) ∧ ∀ k, IsBl s.2 k → IsBl (gt ds (ds.length - 1)) (s.1 + k)) (fun s => s.2.toNat)
      (0, gt ds (ds.length - 1)) ⟨Nat.zero_le _, by simp only []; omega, by simp only []; exact htop.2, fun k hk => by simpa using hk⟩ (.cons (by simp [Env.at?]) (.cons rfl .nil)) rfl ?_
    rintro ⟨c, y⟩ ⟨hc, hy0, hy, hk⟩
    dsimp only at hc hy0 hy hk ⊢
    have hy16 : y < 65536 := Int.lt_of_lt_of_le hy (by have := pow2_le (show 16 - c ≤ 16 by omega); simpa using this)
    refine WC.seq (WC.seq (WC.region (WL.q (LX.move rfl) rfl (WL.q (LX.bin rfl rfl rfl) rfl (WL.nil (thenK_normal ?_))))))
    refine WC.test rfl (fun hlt => ?_) (fun hge => ?_)
    · have hc16 : c < 16 := by
        rcases Nat.lt_or_ge c 16 with h1 | h1
        · exact h1
        · rw [show 16 - c = 0 by omega] at hy; omega
      refine WC.skip (thenK_normal (WC.seq (WC.block (WC.region (WL.q (LX.move rfl) rfl (WL.q (LX.addI rfl rfl (by omega)) rfl (WL.q (LX.assign rfl) rfl (WL.nil (blockK_normal (thenK_normal (WC.region (WL.q (LX.move rfl) rfl (WL.q (LX.quoI rfl rfl (by omega) (by omega)) rfl ?_)))))))))))))
      refine WL.q (LX.assign rfl) rfl (WL.nil ?_)
      refine loopS_next (c + 1, y / 2) ⟨by simp only []; omega, by simp only []; omega, ?_, fun k hbl => ?_⟩ (by simp only []; omega) (.cons (by simp [Env.at?]; omega) (.cons rfl .nil)) rfl
      · simp only []
        rw [show 16 - c = 16 - (c + 1) + 1 by omega, pow2_succ] at hy
        omega
      · simp only [] at hbl ⊢
        rw [show c + 1 + k = c + (k + 1) by omega]
        exact hk _ (hbl.half (by omega))
    · obtain rfl : y = 0 := by omega
      have h1 := hk 0 IsBl.zero
      have e1 := dv_take_gt B16 (xs := ds) (i := ds.length - 1) (by omega)
      rw [show ds.length - 1 + 1 = ds.length by omega, List.take_length, h.val] at e1
      have l1 := dv_lt B16_pos (h.dg.take (ds.length - 1))
      rw [List.length_take, Nat.min_eq_left (by omega)] at l1
      have l2 := dv_nonneg B16_pos (h.dg.take (ds.length - 1))
      rw [B16_two] at e1 l1
      have h2 := h1.high l2 l1 (by omega)
      rw [← e1] at h2
      refine WC.exit (thenK_exit (loopS_exit (blockK_same (thenK_normal (WC.seq (WC.region (WL.q (LX.move rfl) rfl (WL.q (LX.assign rfl) rfl (WL.nil (thenK_normal (WC.ret ?_)))))))))))
      exact KR.one (.inl rfl) rfl rfl ⟨⟨16 * (ds.length - 1) + (c + 0), by congr 1; omega, by omega, h2⟩, rfl⟩

/-- words -/
theorem swords {v : Value} {V : Int} {ds : List Int} (h : Num M v V ds) (hL : ds.length ≤ 1000) :
    CS w0 29 [v] M (fun u M' => (∃ k : Nat, u = .int .i64 ((k + 63) / 64 : Nat) ∧ k ≤ 16 * ds.length ∧ IsBl V k) ∧ M' = M) := by
  refine CS.of Tryz.func29 Tryz.ntmps29 rfl rfl (WC.seq (WC.region (WL.q (LX.assign rfl) rfl (WL.nil (thenK_normal (WC.seq (WC.region (WL.q (LX.move rfl) rfl (WL.callR (sbits h hL) rfl (fun _ => by kernel_rfl) rfl ?_)))))))))
  rintro _ _ ⟨⟨k, rfl, hk, hb⟩, hM⟩
  subst hM
  refine WL.q (LX.addI rfl rfl (by omega)) rfl (WL.q (LX.quoI rfl rfl (by omega) (by omega)) rfl (WL.q (LX.assign rfl) rfl (WL.nil (thenK_normal (WC.ret ?_)))))
  exact KR.one (.inl rfl) rfl rfl ⟨⟨k, by congr 1, hk, hb⟩, rfl⟩

/-- octet -/
theorem soctet {v : Value} {V : Int} {ds : List Int} {i : Nat} (h : Num M v V ds) (hL : ds.length ≤ 1000) (hi : i ≤ 1000) :
    CS w0 15 [v, .int .i64 i] M (fun u M' => u = .int .u8 (V / 256 ^ i % 256) ∧ M' = M) := by
  obtain ⟨A, cap, rfl, hA⟩ := h.mem.form
  have hv := num_dg h (i / 2)
  refine CS.of Tryz.func15 Tryz.ntmps15 rfl rfl (WC.seq (WC.region (WL.q (LX.assign rfl) rfl (WL.nil (thenK_normal (WC.seq (WC.seq (WC.region (WL.q (LX.move rfl) rfl (WL.q (LX.quoI rfl rfl (by omega) (by omega)) rfl (WL.q (LX.move rfl) rfl (WL.q (LX.len rfl rfl rfl) rfl (WL.q (LX.bin rfl rfl rfl) rfl ?_)))))))))))))
  refine WL.nil (thenK_normal ?_)
  refine WC.test rfl (fun h0 => ?_) (fun h0 => ?_)
  · refine WC.seq (WC.region (WL.q (LX.assign rfl) rfl (WL.nil (thenK_normal (WC.ret (thenK_ret ?_))))))
    have e : dg ds (i / 2) = 0 := by unfold dg; rw [if_neg (by omega)]
    rw [e] at hv
    refine KR.one (.inl rfl) rfl rfl ⟨?_, rfl⟩
    rcases Nat.mod_two_eq_zero_or_one i with h2 | h2
    · rw [show i = 2 * (i / 2) by omega, octet_lo, hv]; rfl
    · rw [show i = 2 * (i / 2) + 1 by omega, octet_hi, hv]; rfl
  · obtain ⟨b1, o1, full1, rfl, hm1, hl1, hs1, hc1⟩ := hA (by omega)
    have hg1 : gt full1 (o1 + i / 2) = dg ds (i / 2) := by unfold dg; rw [if_pos (by omega), ← sliceL_gt (k := ds.length) (by omega), hs1]
    have hb := dg_bd h.dg (i / 2)
    refine WC.skip (thenK_normal (WC.seq (WC.seq (WC.region (WL.q (LX.move rfl) rfl (WL.q (LX.rem rfl rfl (by omega) (by omega)) rfl (WL.q (LX.bin rfl rfl rfl) rfl (WL.nil (thenK_normal ?_)))))))))
    refine WC.test rfl (fun h1 => ?_) (fun h1 => ?_)
    · refine WC.seq (WC.region (WL.q (LX.move rfl) rfl (WL.q (LX.move rfl) rfl (WL.q (LX.quoI rfl rfl (by omega) (by omega)) rfl (WL.q (LX.idxo rfl rfl rfl (i / 2) (by omega) (by omega)) rfl (WL.q (LX.eq (LX.loadRow rfl rfl hm1 (by omega)) (by rw [hg1])) rfl ?_))))))
      refine WL.q (LX.quoI rfl rfl (by omega) (by omega)) rfl (WL.q (LX.eq (LX.conv rfl rfl rfl) (by rw [u8_in (by omega)])) rfl ?_)
      refine WL.q (LX.assign rfl) rfl (WL.nil (thenK_normal (WC.ret (thenK_ret ?_))))
      refine KR.one (.inl rfl) rfl rfl ⟨?_, rfl⟩
      rw [show i = 2 * (i / 2) + 1 by omega, octet_hi, show (2 * (i / 2) + 1) / 2 = i / 2 by omega, hv]
    · refine WC.skip (thenK_normal (WC.seq (WC.region (WL.q (LX.move rfl) rfl (WL.q (LX.move rfl) rfl (WL.q (LX.quoI rfl rfl (by omega) (by omega)) rfl (WL.q (LX.idxo rfl rfl rfl (i / 2) (by omega) (by omega)) rfl (WL.q (LX.eq (LX.loadRow rfl rfl hm1 (by omega)) (by rw [hg1])) rfl ?_))))))))
      refine WL.q (LX.rem rfl rfl (by omega) (by omega)) rfl (WL.q (LX.eq (LX.conv rfl rfl rfl) (by rw [u8_in (by omega)])) rfl ?_)
      refine WL.q (LX.assign rfl) rfl (WL.nil (thenK_normal (WC.ret ?_)))
      refine KR.one (.inl rfl) rfl rfl ⟨?_, rfl⟩
      rw [show i = 2 * (i / 2) by omega, octet_lo, show 2 * (i / 2) / 2 = i / 2 by omega, hv]

/-- octets -/
theorem soctets {v : Value} {V : Int} {ds : List Int} {n : Nat} (h : Num M v V ds) (hL : ds.length ≤ 1000) (hn : n ≤ 1000) :
    CS w0 74 [v, .int .i64 n] M (fun u M' => ∃ b zs, u = .slice (some ⟨b, 0, none⟩) n n ∧ zs.length = n ∧ Dg 256 zs ∧ dv 256 zs.reverse = V % 256 ^ n ∧ M' = (b, bytes zs) :: M) := by
  refine CS.of Tryz.func74 Tryz.ntmps74 rfl rfl (WC.seq (WC.region (WL.q (LX.assign rfl) rfl (WL.nil (thenK_normal (WC.seq (WC.region (WL.q (LX.move rfl) rfl (WL.step rfl (EX.make (k := .u8) (e := 5) rfl rfl rfl rfl n n rfl rfl (Nat.le_refl _) (by omega) (by omega)) ?_)))))))))
  rintro _ _ ⟨b, rfl, rfl⟩
  refine WL.q (LX.assign rfl) rfl (WL.nil (thenK_normal (WC.seq (WC.seq (WC.region (WL.q (LX.assign rfl) rfl (WL.nil (thenK_normal (WC.block ?_)))))))))
  refine WC.loopS (fun s : Nat × List Int => [(0, v), (1, .int .i64 n), (5, .slice (some ⟨b, 0, none⟩) n n), (6, .int .i64 s.1)]) (fun s => (b, bytes s.2) :: M) (fun s => s.1 ≤ n ∧ By n s.1 V s.2) (fun s => n - s.1)
    (0, _) ⟨Nat.zero_le _, ⟨List.length_replicate, Nat.zero_le _, dg_rep0' _, by simp⟩⟩ (.cons rfl (.cons rfl (.cons rfl (.cons rfl .nil)))) rfl ?_
  rintro ⟨i, zs⟩ ⟨hi, hby⟩
  dsimp only at hi hby ⊢
  have hzl := hby.len
  refine WC.seq (WC.seq (WC.region (WL.q (LX.move rfl) rfl (WL.q (LX.move rfl) rfl (WL.q (LX.bin rfl rfl rfl) rfl (WL.nil (thenK_normal ?_)))))))
  refine WC.test rfl (fun hlt => ?_) (fun hge => ?_)
  · skip
    refine WC.skip (thenK_normal (WC.seq (WC.block (WC.region (WL.q (LX.move rfl) rfl (WL.q (LX.move rfl) rfl (WL.q (LX.subI rfl rfl (by omega)) rfl (WL.q (LX.move rfl) rfl (WL.q (LX.subI rfl rfl (by omega)) rfl (WL.q (LX.move rfl) rfl (WL.q (LX.move rfl) rfl (WL.callR (soctet (h.mono fun _ hp => List.mem_cons_of_mem _ hp) hL (by omega)) rfl (fun _ => by kernel_rfl) rfl ?_))))))))))))
    rintro _ _ ⟨rfl, hM⟩
    subst hM
    refine WL.q (LX.idx1 rfl rfl rfl (n - 1 - i) (by omega) (by omega)) rfl (WL.put (EX.storeRow rfl rfl rfl List.mem_cons_self (by omega) Upd.here) (WL.nil (blockK_normal (thenK_normal (WC.region (WL.q (LX.move rfl) rfl (WL.q (LX.addI rfl rfl (by omega)) rfl (WL.q (LX.assign rfl) rfl (WL.nil ?_)))))))))
    exact loopS_next (i + 1, _) ⟨by simp only []; omega, hby.next (by omega)⟩ (by simp only []; omega) (.cons rfl (.cons rfl (.cons rfl (.cons rfl .nil)))) rfl
  · obtain rfl : i = n := by omega
    refine WC.exit (thenK_exit (loopS_exit (blockK_same (thenK_normal (WC.seq (WC.region (WL.q (LX.move rfl) rfl (WL.q (LX.assign rfl) rfl (WL.nil (thenK_normal (WC.ret ?_)))))))))))
    have hv := hby.val
    rw [List.take_of_length_le (by simp; omega)] at hv
    exact KR.one (.inl rfl) rfl rfl ⟨b, zs, rfl, hzl, hby.dg, hv, rfl⟩

/-- short -/
theorem sshort {v : Value} {V : Int} {ds : List Int} (h : Num M v V ds) (hL : ds.length ≤ 100) :
    CS w0 69 [v] M (fun u M' => ∃ b zs k, IsBl V k ∧ u = .slice (some ⟨b, 0, none⟩) ((k + 7) / 8) ((k + 7) / 8) ∧ zs.length = (k + 7) / 8 ∧ Dg 256 zs ∧ dv 256 zs.reverse = V ∧ M' = (b, bytes zs) :: M) := by
  refine CS.of Tryz.func69 Tryz.ntmps69 rfl rfl (WC.seq (WC.region (WL.q (LX.assign rfl) rfl (WL.nil (thenK_normal (WC.seq (WC.region (WL.q (LX.move rfl) rfl (WL.q (LX.move rfl) rfl (WL.callR (sbits h (by omega)) rfl (fun _ => by kernel_rfl) rfl ?_))))))))))
  rintro _ _ ⟨⟨k, rfl, hk, hb⟩, hM⟩
  subst hM
  refine WL.q (LX.addI rfl rfl (by omega)) rfl (WL.q (LX.eq (LX.quoI rfl rfl (by omega) (by omega)) (show _ = Value.int .i64 (((k + 7) / 8 : Nat) : Int) by congr 1)) rfl (WL.callR (soctets h (by omega) (by omega)) rfl (fun _ => by kernel_rfl) rfl ?_))
  rintro _ _ ⟨b, zs, rfl, hzl, hzd, hzv, rfl⟩
  refine WL.q (LX.assign rfl) rfl (WL.nil (thenK_normal (WC.ret ?_)))
  refine KR.one (.inl rfl) rfl rfl ⟨b, zs, k, hb, rfl, hzl, hzd, ?_, rfl⟩
  rw [hzv]
  apply Int.emod_eq_of_lt hb.nn
  have h1 := pow2_le (show k ≤ 8 * ((k + 7) / 8) by omega)
  rw [pow256]
  have := hb.lt
  omega
end
end Go.Proofs.YtdnngppofbmpeaaGreatDoor.Bm
