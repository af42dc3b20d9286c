/- Proved here: what difference of the reference does; what product of the reference does; what divided of the reference does; what taken and putBack of the reference do; plain laws of long division by digits. Conditions: none but those that each theorem states. -/
import Derived.Test.YtdnngppofbmpeaaGreatDoorG17
namespace Go.Proofs.YtdnngppofbmpeaaGreatDoor.Bm
open Go Go.RowKit

theorem dif_step {Z P c X x Y y c' r : Int} (h : Z - P * c = X - Y) (h2 : r - 65536 * c' = x - c - y) : Z + P * r - (P * 65536) * c' = X + P * x - (Y + P * y) := by grind

section
variable {w0 : World} {M : Mem}
/-- difference, of a number that is at most the first -/
theorem sdiff {v w : Value} {V W : Int} {ds es : List Int} (h : Num M v V ds) (k : Num M w W es) (hVW : W ≤ V) (hL : ds.length ≤ 300) :
    CS w0 65 [v, w] M (fun u M' => ∃ N fs, M' = N ++ M ∧ Num M' u (V - W) fs) := by
  have hle : es.length ≤ ds.length := by
    rcases Nat.lt_or_ge ds.length es.length with h1 | h1
    · have := len_lt h k h1; omega
    · exact h1
  obtain ⟨A, cap, rfl, hA⟩ := h.mem.form
  obtain ⟨A', cap', rfl, hA'⟩ := k.mem.form
  refine CS.of Tryz.func65 Tryz.ntmps65 rfl rfl (WC.seq (WC.region (WL.q (LX.assign rfl) rfl (WL.nil (thenK_normal (WC.seq (WC.region (WL.step rfl (EX.bslice (e := 3) (cs := []) rfl (fun _ => by kernel_rfl)) ?_))))))))
  rintro _ _ ⟨b, rfl, rfl⟩
  refine WL.q (LX.assign rfl) rfl (WL.nil (thenK_normal (WC.seq (WC.region (WL.q (LX.assign rfl) rfl (WL.nil (thenK_normal (WC.seq (WC.seq (WC.region (WL.q (LX.assign rfl) rfl (WL.nil (thenK_normal ?_)))))))))))))
  refine WC.block ?_
  refine WC.loopS (fun s : Nat × Int × List Int × Value × Mem × Mem => [(0, .slice A ds.length cap), (1, .slice A' es.length cap'), (5, s.2.2.2.1), (6, .int .i64 s.2.1), (7, .int .i64 s.1)]) (fun s => s.2.2.2.2.2)
    (fun s => (0 ≤ s.2.1 ∧ s.2.1 ≤ 1) ∧ s.1 ≤ ds.length ∧ OwnB s.2.2.2.1 s.2.2.1 s.2.2.2.2.1 s.2.2.2.2.2 ∧ (∃ N, s.2.2.2.2.1 = N ++ M) ∧ s.2.2.1.length = s.1 ∧ dv B16 s.2.2.1 - B16 ^ s.1 * s.2.1 = dv B16 (ds.take s.1) - dv B16 (es.take s.1)) (fun s => ds.length - s.1)
    (0, 0, [], .slice (some ⟨b, 0, none⟩) 0 0, M, _) ⟨⟨Int.le_refl _, (show (0 : Int) ≤ 1 by decide)⟩, Nat.zero_le _, ⟨b, [], rfl, Nat.le_refl _, rfl, Dg.nil _, rfl⟩, ⟨[], rfl⟩, rfl, by simp⟩ (.cons rfl (.cons rfl (.cons rfl (.cons rfl (.cons rfl .nil))))) rfl ?_
  rintro ⟨i, c, fs, v5, M0, M1⟩ ⟨hc, hi, hown, hN, hfl, hv⟩
  dsimp only at hc hi hown hN hfl hv ⊢
  obtain ⟨hfs, hfd⟩ := hown.own.ds
  have hMM : ∀ z ∈ M, z ∈ M1 := by
    obtain ⟨N, rfl⟩ := hown.own.pre hN
    exact fun z hz => List.mem_append_right _ hz
  have hxb := dg_bd h.dg i
  have hyb := dg_bd k.dg i
  refine WC.seq (WC.seq (WC.region (WL.q (LX.move rfl) rfl (WL.q (LX.move rfl) rfl (WL.q (LX.len rfl rfl rfl) rfl (WL.q (LX.bin rfl rfl rfl) rfl (WL.nil (thenK_normal ?_))))))))
  refine WC.test rfl (fun hlt => ?_) (fun hge => ?_)
  · obtain ⟨b1', o1, full1, rfl, hm1, hl1, hs1, hc1⟩ := hA (by omega)
    have hg : gt full1 (o1 + i) = dg ds i := by unfold dg; rw [if_pos (by omega), ← sliceL_gt (k := ds.length) (by omega), hs1]
    refine WC.skip (thenK_normal (WC.seq (WC.block (WC.seq (WC.region (WL.q (LX.move rfl) rfl (WL.q (LX.move rfl) rfl (WL.q (LX.idxo rfl rfl rfl i rfl (by omega)) rfl (WL.q (LX.eq (LX.loadRow rfl rfl (hMM _ hm1) (by omega)) (by rw [hg])) rfl ?_)))))))))
    refine WL.q (LX.move rfl) rfl (WL.q (LX.subI rfl rfl (by omega)) rfl (WL.q (LX.assign rfl) rfl (WL.nil (thenK_normal ?_))))
    refine WC.cut (fun E' M' => Sub [(0, .slice (some ⟨b1', o1, none⟩) ds.length cap), (1, .slice A' es.length cap'), (5, v5), (7, .int .i64 i), (8, .int .i64 (dg ds i - c - dg es i))] E' ∧ M1 = M') ?_ ?_
    · refine WC.seq (WC.region (WL.q (LX.move rfl) rfl (WL.q (LX.move rfl) rfl (WL.q (LX.len rfl rfl rfl) rfl (WL.q (LX.bin rfl rfl rfl) rfl (WL.nil (thenK_normal ?_)))))))
      refine WC.test rfl (fun h1 => ?_) (fun h1 => ?_)
      · obtain ⟨b2', o2, full2, rfl, hm2, hl2, hs2, hc2⟩ := hA' (by omega)
        have hg2 : gt full2 (o2 + i) = dg es i := by unfold dg; rw [if_pos (by omega), ← sliceL_gt (k := es.length) (by omega), hs2]
        refine WC.region (WL.q (LX.move rfl) rfl (WL.q (LX.move rfl) rfl (WL.q (LX.move rfl) rfl (WL.q (LX.idxo rfl rfl rfl i rfl (by omega)) rfl (WL.q (LX.eq (LX.loadRow rfl rfl (hMM _ hm2) (by omega)) (by rw [hg2])) rfl ?_)))))
        refine WL.q (LX.subI rfl rfl (by omega)) rfl (WL.q (LX.assign rfl) rfl (WL.nil ?_))
        exact ⟨(.cons rfl (.cons rfl (.cons rfl (.cons rfl (.cons rfl .nil))))), rfl⟩
      · refine WC.skip ?_
        have e0 : dg es i = 0 := by unfold dg; rw [if_neg (by omega)]
        rw [e0, Int.sub_zero]
        exact ⟨(.cons rfl (.cons rfl (.cons rfl (.cons rfl (.cons rfl .nil))))), rfl⟩
    rintro E' M' ⟨hE, rfl⟩
    refine WC.cutE _ hE (WC.seq (WC.region (WL.q (LX.assign rfl) rfl (WL.nil (thenK_normal ?_)))))
    refine WC.cut (fun E' M' => ∃ r c', (0 ≤ r ∧ r < 65536) ∧ (0 ≤ c' ∧ c' ≤ 1) ∧ r - 65536 * c' = dg ds i - c - dg es i ∧ Sub [(0, .slice (some ⟨b1', o1, none⟩) ds.length cap), (1, .slice A' es.length cap'), (5, v5), (6, .int .i64 c'), (7, .int .i64 i), (8, .int .i64 r)] E' ∧ M1 = M') ?_ ?_
    · refine WC.seq (WC.region (WL.q (LX.move rfl) rfl (WL.q (LX.bin rfl rfl rfl) rfl (WL.nil (thenK_normal ?_)))))
      refine WC.test rfl (fun h1 => ?_) (fun h1 => ?_)
      · refine WC.seq (WC.region (WL.q (LX.move rfl) rfl (WL.q (LX.addI rfl rfl (by omega)) rfl (WL.q (LX.assign rfl) rfl (WL.nil (thenK_normal (WC.region (WL.q (LX.assign rfl) rfl (WL.nil ?_)))))))))
        exact ⟨dg ds i - c - dg es i + 65536, 1, by omega, by omega, by omega, (.cons rfl (.cons rfl (.cons rfl (.cons rfl (.cons rfl (.cons rfl .nil)))))), rfl⟩
      · refine WC.skip ?_
        exact ⟨dg ds i - c - dg es i, 0, by omega, by omega, by omega, (.cons rfl (.cons rfl (.cons rfl (.cons rfl (.cons rfl (.cons rfl .nil)))))), rfl⟩
    rintro E' M' ⟨r, c', hr, hc', hrc, hE, rfl⟩
    refine WC.cutE _ hE (WC.region (WL.q (LX.move rfl) rfl (WL.q (LX.move rfl) rfl (WL.step rfl (EX.bslice (e := 3) (cs := [.int .i64 r]) rfl (fun _ => by kernel_rfl)) ?_))))
    rintro _ _ ⟨b', rfl, rfl⟩
    
    obtain ⟨M2, hown2, hperm⟩ := hown.own.more [(b', .cells #[.int .i64 r] 3 (0, 0))]
    refine WL.appendOwn (EX.pm ⟨hperm⟩ (EX.append (ds := [.int .i64 r]) (d := [.int .i64 r]) rfl hown2 rfl rfl rfl rfl rfl ⟨0, rfl, by omega, by decide⟩ (by intro u hu; simp at hu; subst hu; exact ⟨_, rfl, hr.1, hr.2⟩) (fun w hw => (hw.has _ (hperm.symm.subset List.mem_cons_self)).2) (Nat.le_refl _) rfl (by simp; rfl) (by simp; omega))) rfl ?_
    rintro v' M3 hv'
    have hv' : Own isD 3 v' ((fs ++ [r]).map (Value.int .i64)) ([(b', .cells #[.int .i64 r] 3 (0, 0))] ++ M0) M3 := by rw [List.map_append]; exact hv'
    refine WL.q (LX.assign rfl) rfl (WL.nil (blockK_normal (thenK_normal (WC.region (WL.q (LX.move rfl) rfl (WL.q (LX.addI rfl rfl (by omega)) rfl (WL.q (LX.assign rfl) rfl (WL.nil ?_))))))))
    obtain ⟨N, hN⟩ := hN
    refine loopS_next (i + 1, c', fs ++ [r], v', _, M3) ⟨hc', by simp only []; omega, hv'.ownB (by simp), ⟨_ :: N, by rw [hN]; rfl⟩, by simp; omega, ?_⟩ (by simp only []; omega) (.cons rfl (.cons rfl (.cons rfl (.cons rfl (.cons rfl .nil))))) rfl
    simp only []
    rw [dv_snoc, hfl, Int.pow_succ, dv_take_dg, dv_take_dg]
    exact dif_step hv hrc
  · refine WC.exit (thenK_exit (loopS_exit (blockK_same (thenK_normal (WC.seq (WC.region (WL.q (LX.move rfl) rfl ?_)))))))
    obtain rfl : i = ds.length := by omega
    rw [List.take_length, List.take_of_length_le (by omega), h.val, k.val] at hv
    have h1 := dv_lt B16_pos hfd
    have h2 := dv_nonneg B16_pos hfd
    rw [hfl] at h1
    obtain rfl : c = 0 := by
      have h3 := pow_pos B16_pos ds.length
      rcases (show c = 0 ∨ c = 1 by omega) with h4 | h4
      · exact h4
      · subst h4; omega
    rw [Int.mul_zero, Int.sub_zero] at hv
    obtain ⟨N, hN'⟩ := hown.own.pre hN
    obtain ⟨bf, full, rfl, hl1, hl2, hl3, rfl⟩ := hown
    refine WL.callR (trimmed (M := (bf, ints full) :: M0) (full := full) (ds := fs) List.mem_cons_self hl1 hl2 hl1 hfd (by omega)) rfl (fun _ => by kernel_rfl) rfl ?_
    rintro u M2 ⟨⟨gs, hgs⟩, hM2⟩
    subst hM2
    refine WL.q (LX.assign rfl) rfl (WL.nil (thenK_normal (WC.ret ?_)))
    rw [hv] at hgs
    exact KR.one (.inl rfl) rfl rfl ⟨N, gs, hN', hgs⟩
end
end Go.Proofs.YtdnngppofbmpeaaGreatDoor.Bm
namespace Go.Proofs.YtdnngppofbmpeaaGreatDoor.Bm
open Go Go.RowKit

theorem mul16 {x y : Int} (hx : 0 ≤ x ∧ x < 65536) (hy : 0 ≤ y ∧ y < 65536) : 0 ≤ x * y ∧ x * y ≤ 4294836225 := by
  have h1 := Int.mul_nonneg hx.1 hy.1
  have h2 : x * y ≤ 65535 * 65535 := Int.mul_le_mul (by omega) (by omega) hy.1 (by omega)
  omega
/-- so many digits, nought from t on -/
structure Pr (L t : Nat) (zs : List Int) : Prop where
  len : zs.length = L
  dg : Dg B16 zs
  up : ∀ j, t ≤ j → gt zs j = 0
theorem Pr.start (L : Nat) : Pr L 0 (List.replicate L 0) :=
  ⟨by simp, Dg.replicate B16_pos _, fun j _ => by unfold gt; rw [List.getD_eq_getElem?_getD, List.getElem?_replicate]; split <;> rfl⟩
theorem Pr.set {L t j : Nat} {zs : List Int} (h : Pr L t zs) {v : Int} (hv : 0 ≤ v ∧ v < 65536) (hj : j < t) : Pr L t (zs.set j v) :=
  ⟨by simpa using h.len, h.dg.set hv.1 hv.2 _, fun i hi => by rw [gt_set_ne (by omega)]; exact h.up i hi⟩
theorem Pr.mono {L t s : Nat} {zs : List Int} (h : Pr L t zs) (hs : t ≤ s) : Pr L s zs := ⟨h.len, h.dg, fun j hj => h.up j (by omega)⟩
theorem Pr.bd {L t : Nat} {zs : List Int} (h : Pr L t zs) (j : Nat) : 0 ≤ gt zs j ∧ gt zs j < 65536 := Dg.getD B16_pos h.dg j
theorem prod_step {D B P Q D0 x y S c z r c' : Int} (h : D + P * c = D0 + B * (x * S)) (hP : P = B * Q) (e : c + z + x * y = r + 65536 * c') : D + P * (r - z) + (P * 65536) * c' = D0 + B * (x * (S + Q * y)) := by
  subst hP; grind

section
variable {w0 : World} {M : Mem}
/-- product, told by where it lies -/
theorem sprodX {v w : Value} {V W : Int} {ds es : List Int} (h : Num M v V ds) (k : Num M w W es) (hL : ds.length ≤ 300) (hL' : es.length ≤ 300) :
    CS w0 66 [v, w] M (fun u M' => ∃ fs, OwnB u fs M M' ∧ Num M' u (V * W) fs) := by
  obtain ⟨A, cap, rfl, hA⟩ := h.mem.form
  obtain ⟨A', cap', rfl, hA'⟩ := k.mem.form
  refine CS.of Tryz.func66 Tryz.ntmps66 rfl rfl (WC.seq (WC.region (WL.q (LX.assign rfl) rfl (WL.nil (thenK_normal (WC.seq (WC.region (WL.q (LX.move rfl) rfl (WL.q (LX.len rfl rfl rfl) rfl (WL.q (LX.move rfl) rfl (WL.q (LX.len rfl rfl rfl) rfl (WL.q (LX.addI rfl rfl (by omega)) rfl (WL.step rfl (EX.make (k := .i64) (e := 3) rfl rfl rfl rfl (ds.length + es.length) (ds.length + es.length) (by omega) (by omega) (Nat.le_refl _) (by omega) (by omega)) ?_)))))))))))))
  rintro _ _ ⟨b, rfl, rfl⟩
  refine WL.q (LX.assign rfl) rfl (WL.nil (thenK_normal (WC.seq (WC.seq (WC.region (WL.q (LX.assign rfl) rfl (WL.nil (thenK_normal (WC.block ?_)))))))))
  refine WC.loopS (fun s : Nat × List Int => [(0, .slice A ds.length cap), (1, .slice A' es.length cap'), (5, .slice (some ⟨b, 0, none⟩) (ds.length + es.length) (ds.length + es.length)), (6, .int .i64 s.1)]) (fun s => (b, ints s.2) :: M)
    (fun s => s.1 ≤ ds.length ∧ Pr (ds.length + es.length) (s.1 + es.length) s.2 ∧ dv B16 s.2 = dv B16 (ds.take s.1) * W) (fun s => ds.length - s.1) (0, _) ⟨Nat.zero_le _, (Pr.start _).mono (Nat.zero_le _), by simp [dv_replicate_zero]⟩ (.cons rfl (.cons rfl (.cons rfl (.cons rfl .nil)))) rfl ?_
  rintro ⟨i, zs⟩ ⟨hi, hp, hv⟩
  dsimp only at hi hp hv ⊢
  refine WC.seq (WC.seq (WC.region (WL.q (LX.move rfl) rfl (WL.q (LX.move rfl) rfl (WL.q (LX.len rfl rfl rfl) rfl (WL.q (LX.bin rfl rfl rfl) rfl (WL.nil (thenK_normal ?_))))))))
  refine WC.test rfl (fun hlt => ?_) (fun hge => ?_)
  · obtain ⟨b1', o1, full1, rfl, hm1, hl1, hs1, hc1⟩ := hA (by omega)
    have hg1 : gt full1 (o1 + i) = gt ds i := by rw [← sliceL_gt (k := ds.length) (by omega), hs1]
    have hx : 0 ≤ gt ds i ∧ gt ds i < 65536 := Dg.getD B16_pos h.dg i
    refine WC.skip (thenK_normal (WC.seq (WC.block (WC.seq (WC.region (WL.q (LX.assign rfl) rfl (WL.nil (thenK_normal (WC.seq (WC.seq (WC.region (WL.q (LX.assign rfl) rfl (WL.nil ?_)))))))))))))
    refine thenK_normal (WC.block ?_)
    refine WC.loopS (fun s : Nat × Int × List Int => [(0, .slice (some ⟨b1', o1, none⟩) ds.length cap), (1, .slice A' es.length cap'), (5, .slice (some ⟨b, 0, none⟩) (ds.length + es.length) (ds.length + es.length)), (6, .int .i64 i), (7, .int .i64 s.2.1), (8, .int .i64 s.1)]) (fun s => (b, ints s.2.2) :: M)
      (fun s => s.1 ≤ es.length ∧ (0 ≤ s.2.1 ∧ s.2.1 < 65536) ∧ Pr (ds.length + es.length) (i + es.length) s.2.2 ∧ dv B16 s.2.2 + B16 ^ (i + s.1) * s.2.1 = dv B16 zs + B16 ^ i * (gt ds i * dv B16 (es.take s.1))) (fun s => es.length - s.1)
      (0, 0, zs) ⟨Nat.zero_le _, ⟨Int.le_refl _, (show (0 : Int) < 65536 by decide)⟩, hp, by simp⟩ (.cons rfl (.cons rfl (.cons rfl (.cons rfl (.cons rfl (.cons rfl .nil)))))) rfl ?_
    rintro ⟨j, c, ys⟩ ⟨hj, hc, hq, hw⟩
    dsimp only at hj hc hq hw ⊢
    have hyl := hq.len
    refine WC.seq (WC.seq (WC.region (WL.q (LX.move rfl) rfl (WL.q (LX.move rfl) rfl (WL.q (LX.len rfl rfl rfl) rfl (WL.q (LX.bin rfl rfl rfl) rfl (WL.nil (thenK_normal ?_))))))))
    refine WC.test rfl (fun hlt2 => ?_) (fun hge2 => ?_)
    · obtain ⟨b2', o2, full2, rfl, hm2, hl2, hs2, hc2⟩ := hA' (by omega)
      have hg2 : gt full2 (o2 + j) = gt es j := by rw [← sliceL_gt (k := es.length) (by omega), hs2]
      have hy : 0 ≤ gt es j ∧ gt es j < 65536 := Dg.getD B16_pos k.dg j
      have hz := hq.bd (i + j)
      have hxy := mul16 hx hy
      have hms : ∀ z ∈ [(b, ints ys), (b1', ints full1), (b2', ints full2)], z ∈ (b, ints ys) :: M := by
        intro z hz
        simp only [List.mem_cons, List.not_mem_nil, or_false] at hz
        rcases hz with rfl | rfl | rfl
        · exact List.mem_cons_self
        · exact List.mem_cons_of_mem _ hm1
        · exact List.mem_cons_of_mem _ hm2
      refine WC.skip (thenK_normal (WC.seq (WC.block (WC.seq (WC.draw [(0, 0), (0, 1), (0, 2), (0, 3), (0, 4), (0, 5), (0, 8), (0, 9), (0, 10), (0, 12), (0, 13), (0, 14), (1, 6), (0, 7), (1, 11), (1, 15), (0, 16), (0, 17), (0, 18)] [(b, ints ys), (b1', ints full1), (b2', ints full2)] rfl (by kernel_rfl) rfl (by kernel_rfl) (DW.p rfl rfl (fun _ => LX.move rfl) rfl (DW.p rfl rfl (fun _ => LX.move rfl) rfl (DW.p rfl rfl (fun _ => LX.move rfl) rfl (DW.p rfl rfl (fun _ => LX.move rfl) rfl (DW.p rfl rfl (fun _ => LX.addI rfl rfl (by omega)) rfl (DW.p rfl rfl (fun _ => LX.idx1 rfl rfl rfl (i + j) (by omega) (by omega)) rfl (DW.p rfl rfl (fun _ => LX.move rfl) rfl (DW.p rfl rfl (fun _ => LX.move rfl) rfl ?_)))))))))))))
      refine DW.p rfl rfl (fun _ => LX.idxo rfl rfl rfl i rfl (by omega)) rfl (DW.p rfl rfl (fun _ => LX.move rfl) rfl (DW.p rfl rfl (fun _ => LX.move rfl) rfl (DW.p rfl rfl (fun _ => LX.idxo rfl rfl rfl j rfl (by omega)) rfl ?_)))
      refine DW.r rfl rfl (LX.loadRow rfl rfl (by repeat first | assumption | exact List.mem_cons_self | refine List.mem_cons_of_mem _ ?_) (by omega)) hms rfl ?_
      refine DW.p rfl rfl (fun _ => LX.addI rfl rfl (by omega)) rfl ?_
      refine DW.r rfl rfl (LX.eq (LX.loadRow rfl rfl (by repeat first | assumption | exact List.mem_cons_self | refine List.mem_cons_of_mem _ ?_) (by omega)) (by rw [hg1])) hms rfl ?_
      refine DW.r rfl rfl (LX.eq (LX.loadRow rfl rfl (by repeat first | assumption | exact List.mem_cons_self | refine List.mem_cons_of_mem _ ?_) (by omega)) (by rw [hg2])) hms rfl ?_
      refine DW.p rfl rfl (fun _ => LX.mulI rfl rfl (by omega)) rfl (DW.p rfl rfl (fun _ => LX.addI rfl rfl (by omega)) rfl (DW.p rfl rfl (fun _ => LX.assign rfl) rfl (DW.nil (thenK_normal (WC.seq (WC.region (WL.q (LX.move rfl) rfl (WL.q (LX.move rfl) rfl (WL.q (LX.move rfl) rfl (WL.q (LX.addI rfl rfl (by omega)) rfl (WL.q (LX.move rfl) rfl (WL.q (LX.rem rfl rfl (by omega) (by omega)) rfl (WL.q (LX.idx1 rfl rfl rfl (i + j) (by omega) (by omega)) rfl ?_)))))))))))))
      refine WL.put (EX.storeRow rfl rfl rfl List.mem_cons_self (by omega) Upd.here) (WL.nil (thenK_normal (WC.region (WL.q (LX.move rfl) rfl (WL.q (LX.quoI rfl rfl (by omega) (by omega)) rfl (WL.q (LX.assign rfl) rfl (WL.nil (blockK_normal (thenK_normal (WC.region (WL.q (LX.move rfl) rfl (WL.q (LX.addI rfl rfl (by omega)) rfl (WL.q (LX.assign rfl) rfl ?_)))))))))))))
      refine WL.nil ?_
      refine loopS_next (j + 1, (c + gt ys (i + j) + gt ds i * gt es j) / 65536, ys.set (i + j) ((c + gt ys (i + j) + gt ds i * gt es j) % 65536)) ⟨by simp only []; omega, by simp only []; omega, hq.set (by omega) (by omega), ?_⟩ (by simp only []; omega) (.cons rfl (.cons rfl (.cons rfl (.cons rfl (.cons rfl (.cons rfl .nil)))))) rfl
      simp only []
      rw [dv_set (by omega), dv_take_gt _ (by omega), show i + (j + 1) = i + j + 1 by omega, Int.pow_succ]
      exact prod_step (Q := B16 ^ j) hw (Int.pow_add _ _ _) (by omega)
    · obtain rfl : j = es.length := by omega
      refine WC.exit (thenK_exit (loopS_exit (blockK_same (thenK_normal (WC.region (WL.q (LX.move rfl) rfl (WL.q (LX.move rfl) rfl (WL.q (LX.move rfl) rfl (WL.q (LX.len rfl rfl rfl) rfl (WL.q (LX.addI rfl rfl (by omega)) rfl (WL.q (LX.move rfl) rfl (WL.q (LX.idx1 rfl rfl rfl (i + es.length) (by omega) (by omega)) rfl (WL.put (EX.storeRow rfl rfl rfl List.mem_cons_self (by omega) Upd.here) ?_)))))))))))))
      refine WL.nil (blockK_normal (thenK_normal (WC.region (WL.q (LX.move rfl) rfl (WL.q (LX.addI rfl rfl (by omega)) rfl (WL.q (LX.assign rfl) rfl (WL.nil ?_)))))))
      refine loopS_next (i + 1, ys.set (i + es.length) c) ⟨by simp only []; omega, (hq.mono (by simp only []; omega)).set hc (by simp only []; omega), ?_⟩ (by simp only []; omega) (.cons rfl (.cons rfl (.cons rfl (.cons rfl .nil)))) rfl
      simp only []
      rw [List.take_length, k.val, hv] at hw
      rw [dv_set (by omega), hq.up _ (Nat.le_refl _), dv_take_gt _ (by omega), Int.sub_zero, hw]
      grind
  · refine WC.exit (thenK_exit (loopS_exit (blockK_same (thenK_normal (WC.seq (WC.region (WL.q (LX.move rfl) rfl ?_)))))))
    obtain rfl : i = ds.length := by omega
    have hzl := hp.len
    rw [List.take_length, h.val] at hv
    have ht := trimmedX (w0 := w0) (M := (b, ints zs) :: M) (cap := ds.length + es.length) (full := zs) (ds := zs) List.mem_cons_self (Nat.le_refl _) List.take_length (by omega) (by omega)
    rw [hzl] at ht
    refine WL.callR ht rfl (fun _ => by kernel_rfl) rfl ?_
    rintro u M1 ⟨⟨t, rfl, htl, htv, htop⟩, hM1⟩
    subst hM1
    refine WL.q (LX.assign rfl) rfl (WL.nil (thenK_normal (WC.ret ?_)))
    have htk : (zs.take t).length = t := by rw [List.length_take]; omega
    refine KR.one (.inl rfl) rfl rfl ⟨zs.take t, ⟨b, zs, by rw [htk, hzl], by rw [htk]; omega, by rw [htk], hp.dg, rfl⟩, ?_⟩
    rw [← hv, ← htv]
    exact num_take List.mem_cons_self (Nat.le_refl _) List.take_length (by omega) hp.dg (by omega) htop
end
end Go.Proofs.YtdnngppofbmpeaaGreatDoor.Bm
namespace Go.Proofs.YtdnngppofbmpeaaGreatDoor.Bm
open Go Go.RowKit

theorem drop_gt {xs : List Int} {j : Nat} (h : j < xs.length) : xs.drop j = gt xs j :: xs.drop (j + 1) := by rw [List.drop_eq_getElem_cons h, gt_eq h]
theorem set_drop {xs : List Int} {j : Nat} (h : j < xs.length) (v : Int) : (xs.set j v).drop j = v :: xs.drop (j + 1) := by
  rw [drop_gt (by simpa using h), gt_set_eq h, drop_set_gt]

section
variable {w0 : World} {M : Mem}
/-- divided -/
theorem sdivided {v : Value} {V q : Int} {ds : List Int} (h : Num M v V ds) (hq : 1 ≤ q ∧ q < 65536) (hL : ds.length ≤ 900) :
    CS w0 72 [v, .int .i64 q] M (fun u M' => ∃ x N fs, u = .tuple #[x, .int .i64 (V % q)] ∧ M' = N ++ M ∧ Num M' x (V / q) fs) := by
  obtain ⟨A, cap, rfl, hA⟩ := h.mem.form
  refine CS.of Tryz.func72 Tryz.ntmps72 rfl rfl (WC.seq (WC.region (WL.q (LX.assign rfl) rfl (WL.q (LX.assign rfl) rfl (WL.nil (thenK_normal (WC.seq (WC.region (WL.q (LX.move rfl) rfl (WL.q (LX.len rfl rfl rfl) rfl (WL.step rfl (EX.make (k := .i64) (e := 3) rfl rfl rfl rfl ds.length ds.length rfl rfl (Nat.le_refl _) (by omega) (by omega)) ?_)))))))))))
  rintro _ _ ⟨b, rfl, rfl⟩
  refine WL.q (LX.assign rfl) rfl (WL.nil (thenK_normal (WC.seq (WC.region (WL.q (LX.assign rfl) rfl (WL.nil (thenK_normal (WC.seq (WC.seq (WC.region (WL.q (LX.move rfl) rfl (WL.q (LX.len rfl rfl rfl) rfl (WL.q (LX.subI rfl rfl (by omega)) rfl ?_)))))))))))))
  refine WL.q (LX.assign rfl) rfl (WL.nil (thenK_normal (WC.block ?_)))
  refine WC.loopS (fun s : Nat × Int × List Int => [(0, .slice A ds.length cap), (1, .int .i64 q), (6, .slice (some ⟨b, 0, none⟩) ds.length ds.length), (7, .int .i64 s.2.1), (8, .int .i64 ((s.1 : Int) - 1))]) (fun s => (b, ints s.2.2) :: M)
    (fun s => s.1 ≤ ds.length ∧ (0 ≤ s.2.1 ∧ s.2.1 < q) ∧ s.2.2.length = ds.length ∧ Dg B16 s.2.2 ∧ dv B16 (s.2.2.drop s.1) * q + s.2.1 = dv B16 (ds.drop s.1)) (fun s => s.1) (ds.length, 0, _) ⟨Nat.le_refl _, ⟨Int.le_refl _, (show (0 : Int) < q by omega)⟩, List.length_replicate, Dg.replicate B16_pos _, by simp⟩ (.cons rfl (.cons rfl (.cons rfl (.cons rfl (.cons rfl .nil))))) rfl ?_
  rintro ⟨j, r, zs⟩ ⟨hj, hr, hzl, hzd, hv⟩
  dsimp only at hj hr hzl hzd hv ⊢
  refine WC.seq (WC.seq (WC.region (WL.q (LX.move rfl) rfl (WL.q (LX.bin rfl rfl rfl) rfl (WL.nil (thenK_normal ?_))))))
  refine WC.test rfl (fun hge => ?_) (fun hge => ?_)
  · obtain ⟨b1', o1, full1, rfl, hm1, hl1, hs1, hc1⟩ := hA (by omega)
    have hg1 : gt full1 (o1 + (j - 1)) = gt ds (j - 1) := by rw [← sliceL_gt (k := ds.length) (by omega), hs1]
    have hx : 0 ≤ gt ds (j - 1) ∧ gt ds (j - 1) < 65536 := Dg.getD B16_pos h.dg (j - 1)
    refine WC.skip (thenK_normal (WC.seq (WC.block (WC.seq (WC.region (WL.q (LX.move rfl) rfl (WL.q (LX.mulI rfl rfl (by omega)) rfl (WL.q (LX.move rfl) rfl (WL.q (LX.move rfl) rfl (WL.q (LX.idxo rfl rfl rfl (j - 1) (by omega) (by omega)) rfl (WL.q (LX.eq (LX.loadRow rfl rfl (List.mem_cons_of_mem _ hm1) (by omega)) (by rw [hg1])) rfl ?_)))))))))))
    refine WL.q (LX.addI rfl rfl (by omega)) rfl (WL.q (LX.assign rfl) rfl (WL.nil (thenK_normal (WC.seq (WC.region (WL.q (LX.move rfl) rfl (WL.q (LX.move rfl) rfl (WL.q (LX.move rfl) rfl (WL.q (LX.move rfl) rfl (WL.q (LX.quoI rfl rfl (by omega) (by omega)) rfl (WL.q (LX.idx1 rfl rfl rfl (j - 1) (by omega) (by omega)) rfl ?_)))))))))))
    have e1 : (r * 65536 + gt ds (j - 1)) / q * q + (r * 65536 + gt ds (j - 1)) % q = r * 65536 + gt ds (j - 1) := by
      have := Int.mul_ediv_add_emod (r * 65536 + gt ds (j - 1)) q
      rw [Int.mul_comm] at this; exact this
    have e2 := Int.emod_nonneg (r * 65536 + gt ds (j - 1)) (show q ≠ 0 by omega)
    have e3 := Int.emod_lt_of_pos (r * 65536 + gt ds (j - 1)) (show 0 < q by omega)
    have e4 : 0 ≤ (r * 65536 + gt ds (j - 1)) / q := Int.ediv_nonneg (by omega) (by omega)
    have e5 : (r * 65536 + gt ds (j - 1)) / q < 65536 := by
      apply Int.ediv_lt_of_lt_mul (by omega)
      omega
    refine WL.put (EX.storeRow rfl rfl rfl List.mem_cons_self (by omega) Upd.here) (WL.nil (thenK_normal (WC.region (WL.q (LX.move rfl) rfl (WL.q (LX.move rfl) rfl (WL.q (LX.rem rfl rfl (by omega) (by omega)) rfl (WL.q (LX.assign rfl) rfl (WL.nil (blockK_normal (thenK_normal (WC.region (WL.q (LX.move rfl) rfl (WL.q (LX.eq (LX.subI rfl rfl (by omega)) (show _ = Value.int .i64 (((j - 1 : Nat) : Int) - 1) by congr 1; omega)) rfl ?_)))))))))))))
    refine WL.q (LX.assign rfl) rfl (WL.nil ?_)
    refine loopS_next (j - 1, (r * 65536 + gt ds (j - 1)) % q, zs.set (j - 1) ((r * 65536 + gt ds (j - 1)) / q)) ⟨by simp only []; omega, ⟨e2, e3⟩, by simpa using hzl, hzd.set e4 e5 _, ?_⟩ (by simp only []; omega) (.cons rfl (.cons rfl (.cons rfl (.cons rfl (.cons rfl .nil))))) rfl
    simp only []
    rw [set_drop (by omega), drop_gt (show j - 1 < ds.length by omega), show j - 1 + 1 = j by omega, dv_cons, dv_cons, ← hv]
    generalize (r * 65536 + gt ds (j - 1)) / q = Q at *
    generalize (r * 65536 + gt ds (j - 1)) % q = R at *
    unfold B16
    grind
  · refine WC.exit (thenK_exit (loopS_exit (blockK_same (thenK_normal (WC.seq (WC.region (WL.q (LX.move rfl) rfl ?_)))))))
    obtain rfl : j = 0 := by omega
    rw [List.drop_zero, List.drop_zero, h.val] at hv
    have ht := trimmed (w0 := w0) (M := (b, ints zs) :: M) (cap := ds.length) (full := zs) (ds := zs) List.mem_cons_self (Nat.le_refl _) List.take_length (by omega) hzd (by omega)
    rw [hzl] at ht
    refine WL.callR ht rfl (fun _ => by kernel_rfl) rfl ?_
    rintro u M1 ⟨⟨fs, hfs⟩, hM1⟩
    subst hM1
    refine WL.q (LX.move rfl) rfl (WL.q (LX.assign rfl) rfl (WL.q (LX.assign rfl) rfl (WL.nil (thenK_normal (WC.ret ?_)))))
    have e1 : V / q = dv B16 zs ∧ V % q = r := by
      rw [← hv]
      have h1 : (dv B16 zs * q + r) / q = dv B16 zs := by
        rw [Int.add_comm, Int.add_mul_ediv_right _ _ (by omega), Int.ediv_eq_zero_of_lt hr.1 hr.2]; omega
      exact ⟨h1, by rw [Int.add_comm, Int.add_mul_emod_self_right]; exact Int.emod_eq_of_lt hr.1 hr.2⟩
    rw [e1.2]
    exact KR.two (.inl rfl) rfl rfl rfl ⟨u, [_], fs, rfl, rfl, by rw [e1.1]; exact hfs⟩
end
end Go.Proofs.YtdnngppofbmpeaaGreatDoor.Bm
namespace Go.Proofs.YtdnngppofbmpeaaGreatDoor.Bm
open Go Go.RowKit

/-- as before but for j digits from o on -/
structure Wb (o j : Nat) (zs zs' : List Int) : Prop where
  len : zs'.length = zs.length
  dg : Dg B16 zs'
  lo : zs'.take o = zs.take o
  hi : zs'.drop (o + j) = zs.drop (o + j)
theorem Wb.refl {o : Nat} {zs : List Int} (h : Dg B16 zs) : Wb o 0 zs zs := ⟨rfl, h, rfl, rfl⟩
theorem Wb.next {o j : Nat} {zs zs' : List Int} (h : Wb o j zs zs') {v : Int} (hv : 0 ≤ v ∧ v < 65536) : Wb o (j + 1) zs (zs'.set (o + j) v) :=
  ⟨by simpa using h.len, h.dg.set hv.1 hv.2 _, by rw [take_set_le (by omega), h.lo], by rw [← Nat.add_assoc, drop_set_gt]; exact drop_next h.hi⟩
theorem Wb.trans {o j : Nat} {a b c : List Int} (h : Wb o j a b) (k : Wb o j b c) : Wb o j a c := ⟨k.len.trans h.len, k.dg, k.lo.trans h.lo, k.hi.trans h.hi⟩
theorem Wb.gt {o j : Nat} {zs zs' : List Int} (h : Wb o j zs zs') : gt zs' (o + j) = gt zs (o + j) := gt_drop h.hi (Nat.le_refl _)
theorem dv_slice_set16 {xs : List Int} {o j : Nat} {v : Int} (h : o + j < xs.length) : dv B16 (sliceL (xs.set (o + j) v) o (j + 1)) = dv B16 (sliceL xs o j) + B16 ^ j * v := by
  rw [dv_slice_snoc (by simpa using h), sliceL_set, gt_set_eq h]
theorem take_step {S S0 P w w' Q W y z x : Int} (h : S - P * w = S0 - Q * W) (e : x - 65536 * w' = z - w - Q * y) : S + P * x - (P * 65536) * w' = S0 + P * z - Q * (W + P * y) := by grind
theorem put_step {S S0 P c c' W y z r : Int} (h : S + P * c = S0 + W) (e : r + 65536 * c' = c + z + y) : S + P * r + (P * 65536) * c' = S0 + P * z + (W + P * y) := by grind

section
variable {w0 : World} {M : Mem}
/-- taken -/
theorem staken {bu capu m t : Nat} {full : List Int} {w : Value} {W q : Int} {es : List Int} (k : Num M w W es) (ht : t + es.length + 1 ≤ m) (hm : m ≤ full.length) (hmN : m ≤ 1000) (hd : Dg B16 full) (hq : 0 ≤ q ∧ q < 65536) :
    CS w0 114 [.slice (some ⟨bu, 0, none⟩) m capu, w, .int .i64 t, .int .i64 q] ((bu, ints full) :: M) (fun u M' => ∃ ys c, 0 ≤ c ∧ u = .bool (decide (c = 0)) ∧ Wb t (es.length + 1) full ys ∧
      dv B16 (sliceL ys t (es.length + 1)) - B16 ^ (es.length + 1) * c = dv B16 (sliceL full t (es.length + 1)) - q * W ∧ M' = (bu, ints ys) :: M) := by
  obtain ⟨A', cap', rfl, hA'⟩ := k.mem.form
  refine CS.of Tryz.func114 Tryz.ntmps114 rfl rfl (WC.seq (WC.region (WL.q (LX.assign rfl) rfl (WL.nil (thenK_normal (WC.seq (WC.region (WL.q (LX.assign rfl) rfl (WL.nil (thenK_normal (WC.seq (WC.seq (WC.region ?_)))))))))))))
  refine WL.q (LX.assign rfl) rfl (WL.nil (thenK_normal (WC.block ?_)))
  refine WC.loopS (fun s : Nat × Int × List Int => [(0, .slice (some ⟨bu, 0, none⟩) m capu), (1, .slice A' es.length cap'), (2, .int .i64 t), (3, .int .i64 q), (9, .int .i64 s.2.1), (10, .int .i64 s.1)]) (fun s => (bu, ints s.2.2) :: M)
    (fun s => s.1 ≤ es.length + 1 ∧ (0 ≤ s.2.1 ∧ s.2.1 ≤ 65536) ∧ Wb t s.1 full s.2.2 ∧ dv B16 (sliceL s.2.2 t s.1) - B16 ^ s.1 * s.2.1 = dv B16 (sliceL full t s.1) - q * dv B16 (es.take s.1)) (fun s => es.length + 1 - s.1) (0, 0, full) ⟨Nat.zero_le _, ⟨Int.le_refl _, (show (0 : Int) ≤ 65536 by decide)⟩, Wb.refl hd, by simp [sliceL]⟩ (.cons rfl (.cons rfl (.cons rfl (.cons rfl (.cons rfl (.cons rfl .nil)))))) rfl ?_
  rintro ⟨i, c, zs⟩ ⟨hi, hc, hw, hv⟩
  dsimp only at hi hc hw hv ⊢
  have hzl := hw.len
  have hz : 0 ≤ gt zs (t + i) ∧ gt zs (t + i) < 65536 := Dg.getD B16_pos hw.dg _
  have hyb := dg_bd k.dg i
  have hqy := mul16 hq hyb
  have hgt := hw.gt
  refine WC.seq (WC.seq (WC.region (WL.q (LX.move rfl) rfl (WL.q (LX.move rfl) rfl (WL.q (LX.len rfl rfl rfl) rfl (WL.q (LX.bin rfl rfl rfl) rfl (WL.nil (thenK_normal ?_))))))))
  refine WC.test rfl (fun hlt => ?_) (fun hge => ?_)
  · skip
    refine WC.skip (thenK_normal (WC.seq (WC.block (WC.seq (WC.region (WL.q (LX.move rfl) rfl (WL.q (LX.move rfl) rfl (WL.q (LX.move rfl) rfl (WL.q (LX.addI rfl rfl (by omega)) rfl (WL.q (LX.idx1 rfl rfl rfl (t + i) (by omega) (by omega)) rfl ?_))))))))))
    refine WL.q (LX.loadRow rfl rfl (by repeat first | assumption | exact List.mem_cons_self | refine List.mem_cons_of_mem _ ?_) (by omega)) rfl ?_
    refine WL.q (LX.move rfl) rfl (WL.q (LX.subI rfl rfl (by omega)) rfl (WL.q (LX.assign rfl) rfl (WL.nil (thenK_normal ?_))))
    refine WC.cut (fun E' M' => Sub [(0, .slice (some ⟨bu, 0, none⟩) m capu), (1, .slice A' es.length cap'), (2, .int .i64 t), (3, .int .i64 q), (10, .int .i64 i), (11, .int .i64 (gt zs (t + i) - c - q * dg es i))] E' ∧ (bu, ints zs) :: M = M') ?_ ?_
    · refine WC.seq (WC.region (WL.q (LX.move rfl) rfl (WL.q (LX.move rfl) rfl (WL.q (LX.len rfl rfl rfl) rfl (WL.q (LX.bin rfl rfl rfl) rfl (WL.nil (thenK_normal ?_)))))))
      refine WC.test rfl (fun h1 => ?_) (fun h1 => ?_)
      · obtain ⟨b2', o2, full2, rfl, hm2, hl2, hs2, hc2⟩ := hA' (by omega)
        have hg2 : gt full2 (o2 + i) = dg es i := by unfold dg; rw [if_pos (by omega), ← sliceL_gt (k := es.length) (by omega), hs2]
        refine WC.region (WL.q (LX.move rfl) rfl (WL.q (LX.move rfl) rfl (WL.q (LX.move rfl) rfl (WL.q (LX.move rfl) rfl (WL.q (LX.idxo rfl rfl rfl i rfl (by omega)) rfl (WL.q (LX.eq (LX.loadRow rfl rfl (List.mem_cons_of_mem _ hm2) (by omega)) (by rw [hg2])) rfl ?_))))))
        refine WL.q (LX.mulI rfl rfl (by omega)) rfl (WL.q (LX.subI rfl rfl (by omega)) rfl (WL.q (LX.assign rfl) rfl (WL.nil ?_)))
        exact ⟨(.cons rfl (.cons rfl (.cons rfl (.cons rfl (.cons rfl (.cons rfl .nil)))))), rfl⟩
      · refine WC.skip ?_
        have e0 : dg es i = 0 := by unfold dg; rw [if_neg (by omega)]
        rw [e0, Int.mul_zero, Int.sub_zero]
        exact ⟨(.cons rfl (.cons rfl (.cons rfl (.cons rfl (.cons rfl (.cons rfl .nil)))))), rfl⟩
    rintro E' M' ⟨hE, rfl⟩
    refine WC.cutE _ hE ?_
    obtain ⟨x, hx⟩ : ∃ x, x = gt zs (t + i) - c - q * dg es i := ⟨_, rfl⟩
    rw [← hx]
    refine WC.seq (WC.region (WL.q (LX.assign rfl) rfl (WL.nil (thenK_normal ?_))))
    refine WC.cut (fun E' M' => ∃ r c', (0 ≤ r ∧ r < 65536) ∧ (0 ≤ c' ∧ c' ≤ 65536) ∧ r - 65536 * c' = gt zs (t + i) - c - q * dg es i ∧ Sub [(0, .slice (some ⟨bu, 0, none⟩) m capu), (1, .slice A' es.length cap'), (2, .int .i64 t), (3, .int .i64 q), (9, .int .i64 c'), (10, .int .i64 i), (11, .int .i64 r)] E' ∧ (bu, ints zs) :: M = M') ?_ ?_
    · refine WC.seq (WC.region (WL.q (LX.move rfl) rfl (WL.q (LX.bin rfl rfl rfl) rfl (WL.nil (thenK_normal ?_)))))
      refine WC.test rfl (fun h1 => ?_) (fun h1 => ?_)
      · refine WC.seq (WC.region (WL.q (LX.move rfl) rfl (WL.q (LX.eq (LX.neg rfl) (by rw [i64_in (by omega)])) rfl ?_)))
        refine WL.q (LX.addI rfl rfl (by omega)) rfl (WL.q (LX.subI rfl rfl (by omega)) rfl (WL.q (LX.quoI rfl rfl (by omega) (by omega)) rfl (WL.q (LX.assign rfl) rfl (WL.nil (thenK_normal (WC.region (WL.q (LX.move rfl) rfl (WL.q (LX.move rfl) rfl (WL.q (LX.mulI rfl rfl (by omega)) rfl (WL.q (LX.addI rfl rfl (by omega)) rfl (WL.q (LX.assign rfl) rfl (WL.nil ?_))))))))))))
        exact ⟨x + (0 - x + 65536 - 1) / 65536 * 65536, (0 - x + 65536 - 1) / 65536, by omega, by omega, by omega, (.cons rfl (.cons rfl (.cons rfl (.cons rfl (.cons rfl (.cons rfl (.cons rfl .nil))))))), rfl⟩
      · refine WC.skip ?_
        exact ⟨x, 0, by omega, by omega, by omega, (.cons rfl (.cons rfl (.cons rfl (.cons rfl (.cons rfl (.cons rfl (.cons rfl .nil))))))), rfl⟩
    rintro E' M' ⟨r, c', hr, hc', hrc, hE, rfl⟩
    refine WC.cutE _ hE (WC.region (WL.q (LX.move rfl) rfl (WL.q (LX.move rfl) rfl (WL.q (LX.move rfl) rfl (WL.q (LX.addI rfl rfl (by omega)) rfl (WL.q (LX.move rfl) rfl (WL.q (LX.idx1 rfl rfl rfl (t + i) (by omega) (by omega)) rfl (WL.put (EX.storeRow rfl rfl rfl List.mem_cons_self (by omega) Upd.here) (WL.nil (blockK_normal (thenK_normal (WC.region (WL.q (LX.move rfl) rfl ?_)))))))))))))
    refine WL.q (LX.addI rfl rfl (by omega)) rfl (WL.q (LX.assign rfl) rfl (WL.nil ?_))
    refine loopS_next (i + 1, c', zs.set (t + i) r) ⟨by simp only []; omega, hc', hw.next hr, ?_⟩ (by simp only []; omega) (.cons rfl (.cons rfl (.cons rfl (.cons rfl (.cons rfl (.cons rfl .nil)))))) rfl
    simp only []
    rw [dv_slice_set16 (by omega), dv_slice_snoc (by omega), dv_take_dg, ← hgt, Int.pow_succ]
    exact take_step hv hrc
  · refine WC.exit (thenK_exit (loopS_exit (blockK_same (thenK_normal (WC.seq (WC.region (WL.q (LX.move rfl) rfl (WL.q (LX.bin rfl rfl rfl) rfl (WL.q (LX.assign rfl) rfl (WL.nil (thenK_normal (WC.ret ?_))))))))))))
    obtain rfl : i = es.length + 1 := by omega
    rw [List.take_of_length_le (by omega), k.val] at hv
    exact KR.one (.inl rfl) rfl rfl ⟨zs, c, hc.1, rfl, hw, hv, rfl⟩

/-- putBack -/
theorem sputBack {bu capu m t : Nat} {full : List Int} {w : Value} {W : Int} {es : List Int} (k : Num M w W es) (ht : t + es.length + 1 ≤ m) (hm : m ≤ full.length) (hmN : m ≤ 1000) (hd : Dg B16 full) :
    CS w0 115 [.slice (some ⟨bu, 0, none⟩) m capu, w, .int .i64 t] ((bu, ints full) :: M) (fun u M' => ∃ ys c, 0 ≤ c ∧ u = .bool (decide (0 < c)) ∧ Wb t (es.length + 1) full ys ∧
      dv B16 (sliceL ys t (es.length + 1)) + B16 ^ (es.length + 1) * c = dv B16 (sliceL full t (es.length + 1)) + W ∧ M' = (bu, ints ys) :: M) := by
  obtain ⟨A', cap', rfl, hA'⟩ := k.mem.form
  refine CS.of Tryz.func115 Tryz.ntmps115 rfl rfl (WC.seq (WC.region (WL.q (LX.assign rfl) rfl (WL.nil (thenK_normal (WC.seq (WC.region (WL.q (LX.assign rfl) rfl (WL.nil (thenK_normal (WC.seq (WC.seq (WC.region ?_)))))))))))))
  refine WL.q (LX.assign rfl) rfl (WL.nil (thenK_normal (WC.block ?_)))
  refine WC.loopS (fun s : Nat × Int × List Int => [(0, .slice (some ⟨bu, 0, none⟩) m capu), (1, .slice A' es.length cap'), (2, .int .i64 t), (7, .int .i64 s.2.1), (8, .int .i64 s.1)]) (fun s => (bu, ints s.2.2) :: M)
    (fun s => s.1 ≤ es.length + 1 ∧ (0 ≤ s.2.1 ∧ s.2.1 ≤ 1) ∧ Wb t s.1 full s.2.2 ∧ dv B16 (sliceL s.2.2 t s.1) + B16 ^ s.1 * s.2.1 = dv B16 (sliceL full t s.1) + dv B16 (es.take s.1)) (fun s => es.length + 1 - s.1) (0, 0, full) ⟨Nat.zero_le _, ⟨Int.le_refl _, (show (0 : Int) ≤ 1 by decide)⟩, Wb.refl hd, by simp [sliceL]⟩ (.cons rfl (.cons rfl (.cons rfl (.cons rfl (.cons rfl .nil))))) rfl ?_
  rintro ⟨i, c, zs⟩ ⟨hi, hc, hw, hv⟩
  dsimp only at hi hc hw hv ⊢
  have hzl := hw.len
  have hz : 0 ≤ gt zs (t + i) ∧ gt zs (t + i) < 65536 := Dg.getD B16_pos hw.dg _
  have hyb := dg_bd k.dg i
  have hgt := hw.gt
  refine WC.seq (WC.seq (WC.region (WL.q (LX.move rfl) rfl (WL.q (LX.move rfl) rfl (WL.q (LX.len rfl rfl rfl) rfl (WL.q (LX.bin rfl rfl rfl) rfl (WL.nil (thenK_normal ?_))))))))
  refine WC.test rfl (fun hlt => ?_) (fun hge => ?_)
  · skip
    refine WC.skip (thenK_normal (WC.seq (WC.block (WC.seq (WC.region (WL.q (LX.move rfl) rfl (WL.q (LX.move rfl) rfl (WL.q (LX.move rfl) rfl (WL.q (LX.move rfl) rfl (WL.q (LX.addI rfl rfl (by omega)) rfl (WL.q (LX.idx1 rfl rfl rfl (t + i) (by omega) (by omega)) rfl ?_)))))))))))
    refine WL.q (LX.loadRow rfl rfl (by repeat first | assumption | exact List.mem_cons_self | refine List.mem_cons_of_mem _ ?_) (by omega)) rfl ?_
    refine WL.q (LX.addI rfl rfl (by omega)) rfl (WL.q (LX.assign rfl) rfl (WL.nil (thenK_normal ?_)))
    refine WC.cut (fun E' M' => Sub [(0, .slice (some ⟨bu, 0, none⟩) m capu), (1, .slice A' es.length cap'), (2, .int .i64 t), (7, .int .i64 (c + gt zs (t + i) + dg es i)), (8, .int .i64 i)] E' ∧ (bu, ints zs) :: M = M') ?_ ?_
    · refine WC.seq (WC.region (WL.q (LX.move rfl) rfl (WL.q (LX.move rfl) rfl (WL.q (LX.len rfl rfl rfl) rfl (WL.q (LX.bin rfl rfl rfl) rfl (WL.nil (thenK_normal ?_)))))))
      refine WC.test rfl (fun h1 => ?_) (fun h1 => ?_)
      · obtain ⟨b2', o2, full2, rfl, hm2, hl2, hs2, hc2⟩ := hA' (by omega)
        have hg2 : gt full2 (o2 + i) = dg es i := by unfold dg; rw [if_pos (by omega), ← sliceL_gt (k := es.length) (by omega), hs2]
        refine WC.region (WL.q (LX.move rfl) rfl (WL.q (LX.move rfl) rfl (WL.q (LX.move rfl) rfl (WL.q (LX.idxo rfl rfl rfl i rfl (by omega)) rfl (WL.q (LX.eq (LX.loadRow rfl rfl (List.mem_cons_of_mem _ hm2) (by omega)) (by rw [hg2])) rfl ?_)))))
        refine WL.q (LX.addI rfl rfl (by omega)) rfl (WL.q (LX.assign rfl) rfl (WL.nil ?_))
        exact ⟨(.cons rfl (.cons rfl (.cons rfl (.cons rfl (.cons rfl .nil))))), rfl⟩
      · refine WC.skip ?_
        have e0 : dg es i = 0 := by unfold dg; rw [if_neg (by omega)]
        rw [e0, Int.add_zero]
        exact ⟨(.cons rfl (.cons rfl (.cons rfl (.cons rfl (.cons rfl .nil))))), rfl⟩
    rintro E' M' ⟨hE, rfl⟩
    refine WC.cutE _ hE (WC.seq (WC.region (WL.q (LX.move rfl) rfl (WL.q (LX.move rfl) rfl (WL.q (LX.move rfl) rfl (WL.q (LX.addI rfl rfl (by omega)) rfl (WL.q (LX.move rfl) rfl (WL.q (LX.rem rfl rfl (by omega) (by omega)) rfl (WL.q (LX.idx1 rfl rfl rfl (t + i) (by omega) (by omega)) rfl (WL.put (EX.storeRow rfl rfl rfl List.mem_cons_self (by omega) Upd.here) (WL.nil (thenK_normal (WC.region ?_)))))))))))))
    refine WL.q (LX.move rfl) rfl (WL.q (LX.quoI rfl rfl (by omega) (by omega)) rfl (WL.q (LX.assign rfl) rfl (WL.nil (blockK_normal (thenK_normal (WC.region (WL.q (LX.move rfl) rfl (WL.q (LX.addI rfl rfl (by omega)) rfl (WL.q (LX.assign rfl) rfl (WL.nil ?_))))))))))
    refine loopS_next (i + 1, (c + gt zs (t + i) + dg es i) / 65536, zs.set (t + i) ((c + gt zs (t + i) + dg es i) % 65536)) ⟨by simp only []; omega, by simp only []; omega, hw.next (by omega), ?_⟩ (by simp only []; omega) (.cons rfl (.cons rfl (.cons rfl (.cons rfl (.cons rfl .nil))))) rfl
    simp only []
    rw [dv_slice_set16 (by omega), dv_slice_snoc (by omega), dv_take_dg, ← hgt, Int.pow_succ]
    exact put_step hv (by omega)
  · refine WC.exit (thenK_exit (loopS_exit (blockK_same (thenK_normal (WC.seq (WC.region (WL.q (LX.move rfl) rfl (WL.q (LX.bin rfl rfl rfl) rfl (WL.q (LX.assign rfl) rfl (WL.nil (thenK_normal (WC.ret ?_))))))))))))
    obtain rfl : i = es.length + 1 := by omega
    rw [List.take_of_length_le (by omega), k.val] at hv
    exact KR.one (.inl rfl) rfl rfl ⟨zs, c, hc.1, rfl, hw, hv, rfl⟩
end
end Go.Proofs.YtdnngppofbmpeaaGreatDoor.Bm
namespace Go.Proofs.YtdnngppofbmpeaaGreatDoor.Bm
open Go Go.RowKit

theorem drop_take_gt {xs : List Int} {m i : Nat} (hi : i < m) (hm : m ≤ xs.length) : (xs.take m).drop i = gt xs i :: (xs.take m).drop (i + 1) := by
  rw [drop_gt (by rw [List.length_take]; omega), gt_take hi]
/-- a window of k digits from t on, and what lies above -/
theorem win {xs : List Int} {m t : Nat} (hm : m ≤ xs.length) : ∀ k, t + k ≤ m → dv B16 ((xs.take m).drop t) = dv B16 (sliceL xs t k) + B16 ^ k * dv B16 ((xs.take m).drop (t + k))
  | 0, _ => by simp [sliceL]
  | k + 1, h => by
    rw [win hm k (by omega), drop_take_gt (show t + k < m by omega) hm, dv_cons, dv_slice_snoc (by omega), Int.pow_succ, show t + k + 1 = t + (k + 1) by omega]
    grind
theorem wb_above {xs ys : List Int} {t k m : Nat} (h : Wb t k xs ys) : (ys.take m).drop (t + k) = (xs.take m).drop (t + k) := by
  rw [List.drop_take, List.drop_take, h.hi]
theorem wb_below {xs ys : List Int} {t k m : Nat} (h : Wb t k xs ys) (ht : t ≤ m) : dv B16 ((ys.take m).take t) = dv B16 ((xs.take m).take t) := by
  rw [List.take_take, List.take_take, Nat.min_eq_left ht, h.lo]
theorem gt_take' {xs : List Int} {i k : Nat} : gt (xs.take k) i = if i < k then gt xs i else 0 := by
  split
  · exact gt_take ‹_›
  · unfold gt; rw [List.getD_eq_getElem?_getD, List.getElem?_take, if_neg (by omega)]; rfl

theorem dgB (k : Nat) : (0 : Int) < B16 ^ k := pow_pos B16_pos k

/-- nothing lies above the window, and the window is below B16 * W -/
theorem win_low {xs : List Int} {m t n : Nat} {W : Int} (hd : Dg B16 xs) (hm : m ≤ xs.length) (ht : t + n + 1 ≤ m) (hW : W < B16 ^ n) (h : dv B16 ((xs.take m).drop (t + 1)) < W) :
    dv B16 ((xs.take m).drop (t + (n + 1))) = 0 ∧ dv B16 ((xs.take m).drop t) = dv B16 (sliceL xs t (n + 1)) ∧ dv B16 (sliceL xs t (n + 1)) < B16 * W := by
  have e1 := win (xs := xs) (m := m) (t := t + 1) hm n (by omega)
  rw [show t + 1 + n = t + (n + 1) by omega] at e1
  have p1 := dv_nonneg B16_pos (dg_slice hd (t + 1) n)
  have p2 := dv_nonneg B16_pos ((hd.take m).drop (t + (n + 1)))
  have h0 : dv B16 ((xs.take m).drop (t + (n + 1))) = 0 := by
    rcases Int.lt_or_le 0 (dv B16 ((xs.take m).drop (t + (n + 1)))) with h1 | h1
    · have h2 : B16 ^ n * 1 ≤ B16 ^ n * dv B16 ((xs.take m).drop (t + (n + 1))) := Int.mul_le_mul_of_nonneg_left (by omega) (Int.le_of_lt (dgB n))
      omega
    · omega
  have e2 := win (xs := xs) (m := m) (t := t) hm (n + 1) (by omega)
  rw [h0, Int.mul_zero, Int.add_zero] at e2
  refine ⟨h0, e2, ?_⟩
  rw [← e2, drop_take_gt (by omega) hm, dv_cons]
  have h3 : 0 ≤ gt xs t ∧ gt xs t < 65536 := Dg.getD B16_pos hd t
  unfold B16 at *
  omega

/-- the guess is not below the digit -/
theorem guess {xs vs : List Int} {t n : Nat} {W : Int} (hd : Dg B16 xs) (hvd : Dg B16 vs) (hn : 0 < n) (hvl : vs.length = n) (hv : dv B16 vs = W) (ht : t + n < xs.length) (hW : 0 < W) (hvt : 0 < gt vs (n - 1)) :
    dv B16 (sliceL xs t (n + 1)) / W ≤ (gt xs (t + n) * 65536 + gt xs (t + n - 1)) / gt vs (n - 1) := by
  have e1 : dv B16 (sliceL xs t (n + 1)) = dv B16 (sliceL xs t (n - 1)) + B16 ^ (n - 1) * (gt xs (t + n) * 65536 + gt xs (t + n - 1)) := by
    rw [dv_slice_snoc (by omega)]
    have h1 := dv_slice_snoc (b := B16) (xs := xs) (o := t) (k := n - 1) (by omega)
    rw [show n - 1 + 1 = n by omega, show t + (n - 1) = t + n - 1 by omega] at h1
    have h2 : (B16 : Int) ^ n = B16 ^ (n - 1) * B16 := by rw [← Int.pow_succ]; congr 1; omega
    rw [h1, h2]; unfold B16; grind
  have e2 : W = dv B16 (vs.take (n - 1)) + B16 ^ (n - 1) * gt vs (n - 1) := by
    have h1 := dv_take_gt B16 (xs := vs) (i := n - 1) (by omega)
    rw [show n - 1 + 1 = n by omega, ← hvl, List.take_length, hv, hvl] at h1
    exact h1
  have l1 := dv_lt B16_pos (dg_slice hd t (n - 1))
  rw [sliceL_length _ _ _ (by omega)] at l1
  have l2 := dv_nonneg B16_pos (hvd.take (n - 1))
  have l3 := dv_nonneg B16_pos (dg_slice hd t (n + 1))
  apply Int.le_ediv_of_mul_le hvt
  have q0 := Int.ediv_nonneg l3 (Int.le_of_lt hW)
  have q1 : dv B16 (sliceL xs t (n + 1)) / W * W ≤ dv B16 (sliceL xs t (n + 1)) := Int.ediv_mul_le _ (by omega)
  generalize dv B16 (sliceL xs t (n + 1)) = S at *
  generalize S / W = q at *
  generalize gt xs (t + n) * 65536 + gt xs (t + n - 1) = H at *
  generalize gt vs (n - 1) = T at *
  have P0 := dgB (n - 1)
  generalize (B16 : Int) ^ (n - 1) = P at *
  generalize dv B16 (sliceL xs t (n - 1)) = a at *
  generalize dv B16 (vs.take (n - 1)) = b at *
  subst e1 e2
  rcases Int.lt_or_le H (q * T) with h | h
  · exfalso
    have m1 : P * (H + 1) ≤ P * (q * T) := Int.mul_le_mul_of_nonneg_left (by omega) (Int.le_of_lt P0)
    have m2 : 0 ≤ q * b := Int.mul_nonneg q0 l2
    have m3 : q * (b + P * T) = q * b + P * (q * T) := by grind
    have m4 : P * (H + 1) = P * H + P := by grind
    omega
  · exact h

/-- a round of the division -/
theorem kn_step {xs ys qs : List Int} {m t n : Nat} {W x : Int} (hd : Dg B16 xs) (hw : Wb t (n + 1) xs ys) (hm : m ≤ xs.length) (ht : t + n + 1 ≤ m) (hW : W < B16 ^ n) (h : dv B16 ((xs.take m).drop (t + 1)) < W)
    (he : dv B16 (sliceL ys t (n + 1)) = dv B16 (sliceL xs t (n + 1)) - x * W) (hq : t < qs.length) (hq0 : gt qs t = 0) :
    dv B16 ((ys.take m).drop t) = dv B16 (sliceL ys t (n + 1)) ∧ dv B16 (ys.take m) + W * dv B16 (qs.set t x) = dv B16 (xs.take m) + W * dv B16 qs := by
  obtain ⟨h1, h2, -⟩ := win_low hd hm ht hW h
  have hyl := hw.len
  have h3 := win (xs := ys) (m := m) (t := t) (by omega) (n + 1) (by omega)
  rw [wb_above hw, h1, Int.mul_zero, Int.add_zero] at h3
  refine ⟨h3, ?_⟩
  have s1 := dv_split B16 (ys.take m) t (by rw [List.length_take]; omega)
  have s2 := dv_split B16 (xs.take m) t (by rw [List.length_take]; omega)
  rw [s1, s2, wb_below hw (by omega), h3, h2, he, dv_set hq, hq0]
  grind

/-- where the guess stands: the window T, of S and so many times W taken -/
def Kn (W S B1 x T : Int) : Bool → Prop
  | true => T = S - x * W ∧ T < W
  | false => S - x * W < 0 ∧ T = S - x * W + B1
theorem Kn.start {W S B1 P x T c : Int} (hB : B1 = P * 65536) (hWP : W < P) (hW : 0 < W) (hS : 0 ≤ S) (hT : 0 ≤ T ∧ T < B1) (hx : 0 ≤ x ∧ x < 65536) (hq : S / W ≤ x) (hc : 0 ≤ c) (h : T - B1 * c = S - x * W) : Kn W S B1 x T (decide (c = 0)) := by
  have h1 : S < (S / W + 1) * W := Int.lt_ediv_add_one_mul_self S hW
  have h2 : (S / W + 1) * W ≤ (x + 1) * W := Int.mul_le_mul_of_nonneg_right (by omega) (by omega)
  have h3 : (x + 1) * W = x * W + W := by grind
  by_cases h0 : c = 0
  · rw [decide_eq_true h0]; subst h0
    exact ⟨by omega, by omega⟩
  · rw [decide_eq_false h0]
    have h4 : x * W ≤ 65535 * W := Int.mul_le_mul_of_nonneg_right (by omega) (by omega)
    have h5 : c = 1 := by
      rcases Int.lt_or_le 1 c with h6 | h6
      · exfalso
        have h7 : B1 * 2 ≤ B1 * c := Int.mul_le_mul_of_nonneg_left (by omega) (by omega)
        omega
      · omega
    subst h5
    exact ⟨by omega, by omega⟩
theorem Kn.next {W S B1 P x T T' c : Int} (hB : B1 = P * 65536) (hWP : W < P) (hW : 0 < W) (hS : 0 ≤ S) (hT : 0 ≤ T' ∧ T' < B1) (hx : 0 ≤ x) (hc : 0 ≤ c) (hk : Kn W S B1 x T false) (h : T' + B1 * c = T + W) : 0 < x ∧ Kn W S B1 (x - 1) T' (decide (0 < c)) := by
  obtain ⟨h1, h2⟩ := hk
  have h0 : 0 < x := by
    rcases Int.lt_or_le 0 x with h3 | h3
    · exact h3
    · obtain rfl : x = 0 := by omega
      omega
  have e : (x - 1) * W = x * W - W := by grind
  refine ⟨h0, ?_⟩
  by_cases hc0 : c = 0
  · subst hc0
    rw [decide_eq_false (by omega)]
    exact ⟨by omega, by omega⟩
  · have h5 : c = 1 := by
      rcases Int.lt_or_le 1 c with h6 | h6
      · exfalso
        have h7 : B1 * 2 ≤ B1 * c := Int.mul_le_mul_of_nonneg_left (by omega) (by omega)
        omega
      · omega
    subst h5
    rw [decide_eq_true (by omega)]
    exact ⟨by omega, by omega⟩

/-- the end of the division -/
theorem kn_end {V W sc r Q : Int} (hs : 0 < sc) (hr0 : 0 ≤ r) (hr : r < W * sc) (h : r + W * sc * Q = V * sc) (hW : 0 < W) : V / W = Q ∧ V % W = r / sc := by
  have e1 : r = (V - W * Q) * sc := by grind
  have e2 : r / sc = V - W * Q := by rw [e1]; exact Int.mul_ediv_cancel _ (by omega)
  have e3 : 0 ≤ V - W * Q := by rw [← e2]; exact Int.ediv_nonneg hr0 (by omega)
  have e4 : V - W * Q < W := by rw [← e2]; exact Int.ediv_lt_of_lt_mul hs hr
  have e5 : V = (V - W * Q) + W * Q := by omega
  constructor
  · rw [e5, Int.add_mul_ediv_left _ _ (by omega), Int.ediv_eq_zero_of_lt e3 e4]; omega
  · rw [e2]
    conv => lhs; rw [e5]
    rw [Int.add_mul_emod_self_left]
    exact Int.emod_eq_of_lt e3 e4
end Go.Proofs.YtdnngppofbmpeaaGreatDoor.Bm
