/- Proved here: what montgomeryMul does; congruence modulo an odd number, and what montgomeryRepresentation, montgomeryReduction and Mul modulo an odd number do; what Mul modulo an odd number and rr do; what rr does. Conditions: none but those that each theorem states. -/
import Derived.Test.YtdnngppofbmpeaaGreatDoorG9
namespace Go.Proofs.YtdnngppofbmpeaaGreatDoor.Bm
open Go Go.RowKit

theorem dv_slice_cons {xs : List Int} {o n : Nat} (h : o + n ≤ xs.length) (hn : 0 < n) : dv W64 (sliceL xs o n) = gt xs o + W64 * dv W64 (sliceL xs (o + 1) (n - 1)) := by
  obtain ⟨m, rfl⟩ : ∃ m, n = m + 1 := ⟨n - 1, by omega⟩
  unfold sliceL
  rw [List.drop_eq_getElem_cons (by omega), List.take_succ_cons, dv_cons, gt_eq (by omega)]
  rfl
theorem dv_slice_wd {xs : List Int} (hd : Dg W64 xs) (o n : Nat) : 0 ≤ dv W64 (sliceL xs o n) := dv_nonneg W64_pos ((hd.drop o).take n)

theorem mg_step {P W N N1 T T1 T2 L A B V q c c1 c2 cc tn d Y : Int} (hN : N = W * N1) (e1 : T1 + N * c1 = T + d * A) (e2 : T2 + N * c2 = T1 + Y * V) (e3 : tn + W * cc = c1 + c2 + c) (e4 : T2 = W * L)
    (eq : P * (T + N * c) = A * B + V * q) : (P * W) * (L + N1 * tn + N * cc) = A * (B + P * d) + V * (q + P * Y) := by
  subst hN
  grind

theorem mg_low {t0 t1 V m0 Y W N c2 T1 T2 L1 L2 N1 : Int} (hW : 0 < W) (h1 : T1 = t1 + W * L1) (h2 : T2 = t0 + W * L2) (hN : N = W * N1) (e2 : T2 + N * c2 = T1 + Y * V) (hY : Y = (t1 * m0) % W) (hm : (V * m0 + 1) % W = 0) (ht : 0 ≤ t0 ∧ t0 < W) : t0 = 0 := by
  obtain ⟨u, hu⟩ := dvd_of_mod hm
  have h3 := Int.mul_ediv_add_emod (t1 * m0) W
  rw [← hY] at h3
  have h4 : ∃ s, t0 = W * s := ⟨L1 - L2 + t1 * u - V * ((t1 * m0) / W) - N1 * c2, by
    generalize (t1 * m0) / W = w at *
    subst h1 h2 hN
    have : Y = t1 * m0 - W * w := by omega
    subst this
    grind⟩
  obtain ⟨s, hs⟩ := h4
  have h5 : t0 % W = 0 := by rw [hs]; exact Int.mul_emod_right _ _
  rwa [Int.emod_eq_of_lt ht.1 ht.2] at h5

/-- the state of the loop: the words that are kept, and the carry -/
structure Mg (n i : Nat) (A V : Int) (bs ts : List Int) (c : Int) : Prop where
  len : ts.length = 64
  dg : Dg W64 ts
  cb : bt c
  eq : ∃ q, 0 ≤ q ∧ q < W64 ^ i ∧ W64 ^ i * (dv W64 (sliceL ts i n) + W64 ^ n * c) = A * dv W64 (bs.take i) + V * q

theorem Mg.step {n i : Nat} {A V c c1 c2 m0 : Int} {bs ts ts1 ts2 : List Int} (h : Mg n i A V bs ts c) (hn : 0 < n) (hi : i < n) (hn2 : n ≤ 32) (hb : n ≤ bs.length) (w1 : Wn i n ts ts1) (w2 : Wn i n ts1 ts2)
    (hc1 : wd c1) (hc2 : wd c2) (e1 : dv W64 (sliceL ts1 i n) + W64 ^ n * c1 = dv W64 (sliceL ts i n) + gt bs i * A)
    (e2 : dv W64 (sliceL ts2 i n) + W64 ^ n * c2 = dv W64 (sliceL ts1 i n) + (gt ts1 i * m0) % W64 * V) (hm : (V * m0 + 1) % W64 = 0) :
    Mg n (i + 1) A V bs (ts2.set (n + i) (sumW c1 c2 c)) (sumC c1 c2 c) := by
  obtain ⟨hl, hd, hc, q, hq0, hq1, heq⟩ := h
  have hl1 := w1.len; have hl2 := w2.len
  have hN : W64 ^ n = W64 * W64 ^ (n - 1) := by
    obtain ⟨m, rfl⟩ : ∃ m, n = m + 1 := ⟨n - 1, by omega⟩
    rw [Int.pow_succ, Int.mul_comm]; rfl
  have hz : gt ts2 i = 0 := mg_low W64_pos (dv_slice_cons (by omega) hn) (dv_slice_cons (by omega) hn) hN e2 rfl hm (dg_gt w2.dg i)
  have e4 : dv W64 (sliceL ts2 i n) = W64 * dv W64 (sliceL ts2 (i + 1) (n - 1)) := by rw [dv_slice_cons (by omega) hn, hz]; omega
  refine ⟨by simp; omega, w2.dg.set (sumW_wd _ _ _).1 (sumW_wd _ _ _).2 _, sumC_bt hc1 hc2 hc, q + W64 ^ i * ((gt ts1 i * m0) % W64), ?_, ?_, ?_⟩
  · have := Int.mul_nonneg (Int.le_of_lt (pow_pos W64_pos i)) (wd_mod (gt ts1 i * m0)).1; omega
  · have h1 := (wd_mod (gt ts1 i * m0)).2
    have h2 : W64 ^ i * ((gt ts1 i * m0) % W64 + 1) ≤ W64 ^ i * W64 := Int.mul_le_mul_of_nonneg_left (by omega) (Int.le_of_lt (pow_pos W64_pos i))
    rw [Int.mul_add, Int.mul_one] at h2
    rw [Int.pow_succ]; omega
  · have hs : dv W64 (sliceL (ts2.set (n + i) (sumW c1 c2 c)) (i + 1) n) = dv W64 (sliceL ts2 (i + 1) (n - 1)) + W64 ^ (n - 1) * sumW c1 c2 c := by
      have := dv_slice_set (xs := ts2) (o := i + 1) (j := n - 1) (v := sumW c1 c2 c) (by omega)
      rwa [show i + 1 + (n - 1) = n + i by omega, show n - 1 + 1 = n by omega] at this
    rw [hs, Int.pow_succ, dv_take_gt W64 (xs := bs) (by omega)]
    exact mg_step hN e1 e2 (sum_eq _ _ _) e4 heq

theorem Mg.start {n : Nat} {A V : Int} {bs : List Int} : Mg n 0 A V bs (List.replicate 64 0) 0 := by
  refine ⟨by simp, Dg.replicate W64_pos 64, bt_zero, 0, by omega, by simp, ?_⟩
  have : dv W64 (sliceL (List.replicate 64 0) 0 n) = 0 := by
    unfold sliceL
    rw [List.drop_zero, List.take_replicate, dv_replicate_zero]
  rw [this]; simp

/-- what is left at the end -/
theorem Mg.fin {n : Nat} {A B V : Int} {bs ts : List Int} {c : Int} (h : Mg n n A V bs ts c) (hB : dv W64 (bs.take n) = B) (hA : 0 ≤ A) (hB0 : 0 ≤ B) (hAB : A * B < V * W64 ^ n) (hV : 0 < V) :
    dv W64 (sliceL ts n n) + W64 ^ n * c < 2 * V ∧ ∀ R e, R = dv W64 (sliceL ts n n) + W64 ^ n * c - V * e → (R * W64 ^ n - A * B) % V = 0 := by
  obtain ⟨_, _, _, q, hq0, hq1, heq⟩ := h
  rw [hB] at heq
  have hp := pow_pos W64_pos n
  generalize W64 ^ n = N at *
  generalize dv W64 (sliceL ts n n) + N * c = U at *
  constructor
  · have h1 : V * q < V * N := Int.mul_lt_mul_of_pos_left hq1 hV
    have h2 : N * U < N * (2 * V) := by grind
    exact Int.lt_of_mul_lt_mul_left h2 (Int.le_of_lt hp)
  · intro R e hR
    subst hR
    have : (U - V * e) * N - A * B = V * (q - e * N) := by grind
    rw [this, Int.mul_emod_right]

theorem NV.putS {n c o : Nat} {X : Int} {xs ys : List Int} (hx : NV n c X xs) (hy : o + n ≤ ys.length) (hyd : Dg W64 ys) : NV n c (dv W64 (sliceL ys o n)) (putL xs 0 (sliceL ys o n)) := by
  have h1 := hx.len; have h2 := hx.le
  have hl : (sliceL ys o n).length = n := sliceL_length _ _ _ hy
  refine ⟨?_, hx.le, hx.small, ((hx.dg.take 0).append ((hyd.drop o).take n)).append (hx.dg.drop _), ?_⟩
  · unfold putL; simp [hl]; omega
  · unfold putL
    rw [List.take_zero, List.nil_append, List.take_append_of_le_length (by omega), List.take_of_length_le (by omega)]

section
variable {w0 : World} {M : Mem}
/-- montgomeryMul; a and b may be x -/
theorem mmul {p l nx c pa la ca pb lb cb q pm lm cm n : Nat} {odd : Bool} {m0 A B V : Int} {rv : Value} {xs us bs ms : List Int} (hl : xs.length = c) (hnx : nx ≤ c) (hn : 0 < n) (hn8 : n < 16) (hnc : n ≤ c) (hc : c ≤ 1000) (hd : Dg W64 xs)
    (ha : NV n ca A us) (hb : NV n cb B bs) (hpa : (pa, natO la n ca) ∈ (p, natO l nx c) :: (l, words xs) :: M) (hla : (la, words us) ∈ (p, natO l nx c) :: (l, words xs) :: M)
    (hpb : (pb, natO lb n cb) ∈ (p, natO l nx c) :: (l, words xs) :: M) (hlb : (lb, words bs) ∈ (p, natO l nx c) :: (l, words xs) :: M)
    (hM : MdR M q pm lm n cm odd m0 rv ms V) (hV : 0 < V) (hm : (V * m0 + 1) % W64 = 0) (hAB : A * B < V * W64 ^ n) :
    CS w0 93 [ptr p, ptr pa, ptr pb, ptr q] ((p, natO l nx c) :: (l, words xs) :: M)
      (fun u M' => ∃ zs Z, u = ptr p ∧ NV n c Z zs ∧ Z < V ∧ (Z * W64 ^ n - A * B) % V = 0 ∧ M' = (p, natO l n c) :: (l, words zs) :: M) := by
  refine CS.post (R := fun u M' => ∃ zs Z a, u = ptr p ∧ NV n c Z zs ∧ Z < V ∧ (Z * W64 ^ n - A * B) % V = 0 ∧ M' = (p, natO l n c) :: (l, words zs) :: a :: M) ?_
    (fun v M' ⟨zs, Z, a, h1, h2, h3, h4, h5⟩ => ⟨(p, natO l n c) :: (l, words zs) :: M, h5 ▸ .cons_cons _ (.cons_cons _ (.cons _ (List.Sublist.refl _))), zs, Z, h1, h2, h3, h4, rfl⟩)
  obtain ⟨hmq, hmp, hml, hmv⟩ := id hM
  have hmle := hmv.le; have hmlen := hmv.len
  have hale := ha.le; have halen := ha.len
  have hble := hb.le; have hblen := hb.len
  have has := ha.small
  have hbs := hb.small
  have hms := hmv.small
  refine CS.of Tryz.func93 Tryz.ntmps93 rfl rfl (WC.seq (WC.region (WL.q (LX.assign rfl) rfl (WL.nil (thenK_normal (WC.seq (WC.region (WL.q (LX.move rfl) rfl (WL.q (LX.nilCheck rfl) rfl (WL.q (LX.field0 rfl rfl) rfl ?_))))))))))
  refine WL.q (LX.load rfl rfl (by repeat first | assumption | exact List.mem_cons_self | refine List.mem_cons_of_mem _ ?_) rfl) rfl ?_
  refine WL.q (LX.nilCheck rfl) rfl (WL.q (LX.field0 rfl rfl) rfl ?_)
  refine WL.q (LX.load rfl rfl (by repeat first | assumption | exact List.mem_cons_self | refine List.mem_cons_of_mem _ ?_) rfl) rfl ?_
  refine WL.q (LX.len rfl rfl rfl) rfl (WL.q (LX.assign rfl) rfl (WL.nil (thenK_normal (WC.seq (WC.region (WL.q (LX.move rfl) rfl (WL.q (LX.nilCheck rfl) rfl (WL.q (LX.field0 rfl rfl) rfl ?_))))))))
  refine WL.q (LX.load rfl rfl (by repeat first | assumption | exact List.mem_cons_self | refine List.mem_cons_of_mem _ ?_) rfl) rfl ?_
  refine WL.q (LX.nilCheck rfl) rfl (WL.q (LX.field0 rfl rfl) rfl ?_)
  refine WL.q (LX.load rfl rfl (by repeat first | assumption | exact List.mem_cons_self | refine List.mem_cons_of_mem _ ?_) rfl) rfl ?_
  refine WL.q (LX.move rfl) rfl (WL.q (LX.sliceTo rfl rfl rfl _ rfl (by omega)) rfl (WL.q (LX.assign rfl) rfl (WL.nil (thenK_normal (WC.seq (WC.region (WL.q (LX.move rfl) rfl (WL.q (LX.nilCheck rfl) rfl (WL.q (LX.field0 rfl rfl) rfl ?_)))))))))
  refine WL.q (LX.load rfl rfl (by repeat first | assumption | exact List.mem_cons_self | refine List.mem_cons_of_mem _ ?_) rfl) rfl ?_
  refine WL.q (LX.move rfl) rfl (WL.q (LX.sliceTo rfl rfl rfl _ rfl (by omega)) rfl (WL.q (LX.assign rfl) rfl (WL.nil (thenK_normal (WC.seq (WC.region (WL.q (LX.move rfl) rfl (WL.q (LX.nilCheck rfl) rfl (WL.q (LX.field0 rfl rfl) rfl ?_)))))))))
  refine WL.q (LX.load rfl rfl (by repeat first | assumption | exact List.mem_cons_self | refine List.mem_cons_of_mem _ ?_) rfl) rfl ?_
  refine WL.q (LX.move rfl) rfl (WL.q (LX.sliceTo rfl rfl rfl _ rfl (by omega)) rfl (WL.q (LX.assign rfl) rfl (WL.nil (thenK_normal (WC.seq (WC.seq (WC.region (WL.q (LX.move rfl) rfl (WL.nil (thenK_normal (WC.block (WC.seq (WC.region ?_)))))))))))))
  refine WL.q (LX.bin rfl rfl rfl) rfl (WL.q (LX.assign rfl) rfl (WL.nil (thenK_normal ?_)))
  refine WC.test rfl (fun h => absurd h (by omega)) (fun _ => ?_)
  refine WC.seq (WC.region (WL.q (LX.bin rfl rfl rfl) rfl (WL.q (LX.assign rfl) rfl (WL.nil (thenK_normal ?_)))))
  refine WC.test rfl (fun h => absurd h (by omega)) (fun _ => ?_)
  refine WC.seq (WC.region (WL.q (LX.bin rfl rfl rfl) rfl (WL.q (LX.assign rfl) rfl (WL.nil (thenK_normal ?_)))))
  refine WC.test rfl (fun h => absurd h (by omega)) (fun _ => ?_)
  refine WC.seq (WC.region (WL.step rfl (EX.make rfl rfl rfl rfl 0 64 rfl rfl (by decide) (by decide) (by decide)) ?_))
  rintro _ _ ⟨lt, rfl, rfl⟩
  refine WL.q (LX.assign rfl) rfl (WL.nil (thenK_normal (WC.seq (WC.seq (WC.region (WL.q (LX.move rfl) rfl (WL.q (LX.cap rfl rfl rfl) rfl (WL.q (LX.move rfl) rfl (WL.q (LX.mulI rfl rfl (by omega)) rfl (WL.q (LX.bin rfl rfl rfl) rfl (WL.nil (thenK_normal ?_))))))))))))
  refine WC.test rfl (fun h => absurd h (by omega)) (fun _ => ?_)
  refine WC.skip (thenK_normal (WC.seq (WC.region (WL.q (LX.move rfl) rfl (WL.q (LX.move rfl) rfl (WL.q (LX.mulI rfl rfl (by omega)) rfl (WL.q (LX.sliceTo rfl rfl rfl (2 * n) (by omega) (by omega)) rfl (WL.q (LX.assign rfl) rfl (WL.nil (thenK_normal (WC.seq (WC.region (WL.q (LX.assign rfl) rfl ?_)))))))))))))
  refine WL.nil (thenK_normal (WC.seq (WC.seq (WC.region (WL.q (LX.assign rfl) rfl (WL.nil (thenK_normal (WC.block ?_))))))))
  refine WC.loopS (fun s : Nat × List Int × Int => [(0, ptr p), (3, ptr q), (9, .int .i64 n), (10, .slice (some ⟨lm, 0, none⟩) n cm), (11, .slice (some ⟨la, 0, none⟩) n ca), (12, .slice (some ⟨lb, 0, none⟩) n cb), (13, .slice (some ⟨lt, 0, none⟩) (2 * n) 64), (14, .int .u64 s.2.2), (15, .int .i64 s.1)])
    (fun s => (lt, words s.2.1) :: (p, natO l nx c) :: (l, words xs) :: M)
    (fun s => s.1 ≤ n ∧ Mg n s.1 A V bs s.2.1 s.2.2) (fun s => n - s.1) (0, List.replicate 64 0, 0)
    ⟨Nat.zero_le _, Mg.start⟩ (.cons rfl (.cons rfl (.cons rfl (.cons rfl (.cons rfl (.cons rfl (.cons rfl (.cons rfl (.cons rfl .nil))))))))) rfl ?_
  rintro ⟨i, ts, k⟩ ⟨hi, hg⟩
  dsimp only at hi hg ⊢
  have htl := hg.len
  refine WC.seq (WC.seq (WC.region (WL.q (LX.move rfl) rfl (WL.q (LX.move rfl) rfl (WL.q (LX.bin rfl rfl rfl) rfl (WL.nil (thenK_normal ?_)))))))
  refine WC.test rfl (fun hlt => ?_) (fun hge => ?_)
  · refine WC.skip (thenK_normal (WC.seq (WC.block (WC.seq (WC.region (WL.q (LX.move rfl) rfl (WL.q (LX.move rfl) rfl (WL.q (LX.move rfl) rfl (WL.q (LX.addI rfl rfl (by omega)) rfl (WL.q (LX.idx1 rfl rfl rfl (n + i) rfl (by omega)) rfl (WL.q (LX.loadRow rfl rfl List.mem_cons_self (by omega)) rfl (WL.nil (thenK_normal ?_)))))))))))))
    refine WC.seq (WC.region (WL.q (LX.move rfl) rfl (WL.q (LX.move rfl) rfl (WL.q (LX.idx1 rfl rfl rfl _ rfl (by omega)) rfl (WL.q (LX.loadRow rfl rfl (List.mem_cons_of_mem _ hlb) (by omega)) rfl (WL.q (LX.assign rfl) rfl (WL.nil (thenK_normal (WC.seq (WC.region (WL.q (LX.move rfl) rfl (WL.q (LX.move rfl) rfl (WL.q (LX.move rfl) rfl ?_)))))))))))))
    refine WL.q (LX.move rfl) rfl (WL.q (LX.addI rfl rfl (by omega)) rfl (WL.q (LX.eq (LX.sliceLH rfl rfl rfl rfl i (n + i) rfl rfl (by omega) (by omega) (by omega)) (by rw [Nat.zero_add, Nat.add_sub_cancel])) rfl ?_))
    refine WL.q (LX.move rfl) rfl (WL.q (LX.move rfl) rfl (WL.callR (amv (xs := us) (by omega) (by omega) hg.dg (by omega) ha.dg (Nat.le_refl _) (dg_gt hb.dg i) hn hla) rfl (fun _ => by kernel_rfl) rfl ?_))
    rintro _ _ ⟨ts1, c1, hc1, rfl, w1, e1, rfl⟩
    have hl1 := w1.len
    have hmm : ∀ z ∈ [(lt, words ts1), (q, modO pm odd m0 rv)], z ∈ (lt, words ts1) :: (p, natO l nx c) :: (l, words xs) :: M := by
      intro z hz
      simp only [List.mem_cons, List.not_mem_nil, or_false] at hz
      rcases hz with rfl | rfl
      · exact List.mem_cons_self
      · exact List.mem_cons_of_mem _ (List.mem_cons_of_mem _ (List.mem_cons_of_mem _ hmq))
    refine WL.q (LX.assign rfl) rfl (WL.nil (thenK_normal (WC.seq (WC.draw [(0, 0), (0, 1), (0, 2), (0, 4), (0, 5), (0, 6), (1, 3), (1, 7), (0, 8), (0, 9)] [(lt, words ts1), (q, modO pm odd m0 rv)] rfl (by kernel_rfl) rfl (by kernel_rfl) (DW.p rfl rfl (fun _ => LX.move rfl) rfl (DW.p rfl rfl (fun _ => LX.move rfl) rfl (DW.p rfl rfl (fun _ => LX.idx1 rfl rfl rfl _ rfl (by omega)) rfl (DW.p rfl rfl (fun _ => LX.move rfl) rfl (DW.p rfl rfl (fun _ => LX.nilCheck rfl) rfl (DW.p rfl rfl (fun _ => LX.field0 rfl rfl) rfl ?_))))))))))
    refine DW.r rfl rfl (LX.loadRow rfl rfl (by repeat first | assumption | exact List.mem_cons_self | refine List.mem_cons_of_mem _ ?_) (by omega)) hmm rfl ?_
    refine DW.r rfl rfl (LX.load rfl rfl (by repeat first | assumption | exact List.mem_cons_self | refine List.mem_cons_of_mem _ ?_) rfl) hmm rfl ?_
    refine DW.p rfl rfl (fun _ => LX.bin rfl rfl rfl) rfl (DW.p rfl rfl (fun _ => LX.assign rfl) rfl (DW.nil (thenK_normal (WC.seq (WC.region (WL.q (LX.move rfl) rfl (WL.q (LX.move rfl) rfl (WL.q (LX.move rfl) rfl (WL.q (LX.move rfl) rfl (WL.q (LX.addI rfl rfl (by omega)) rfl (WL.q (LX.eq (LX.sliceLH rfl rfl rfl rfl i (n + i) rfl rfl (by omega) (by omega) (by omega)) (by rw [Nat.zero_add, Nat.add_sub_cancel])) rfl ?_)))))))))))
    refine WL.q (LX.move rfl) rfl (WL.q (LX.move rfl) rfl (WL.callR (amv (xs := ms) (by omega) (by omega) w1.dg (by omega) hmv.dg (Nat.le_refl _) (by rw [IntKind.wrap_u64]; exact wd_mod _) hn (List.mem_cons_of_mem _ (List.mem_cons_of_mem _ hml))) rfl (fun _ => by kernel_rfl) rfl ?_))
    rintro _ _ ⟨ts2, c2, hc2, rfl, w2, e2, rfl⟩
    have hl2 := w2.len
    refine WL.q (LX.assign rfl) rfl (WL.nil (thenK_normal (WC.region (WL.q (LX.move rfl) rfl (WL.q (LX.move rfl) rfl (WL.q (LX.move rfl) rfl (WL.q (LX.addI rfl rfl (by omega)) rfl (WL.q (LX.move rfl) rfl (WL.q (LX.move rfl) rfl (WL.q (LX.move rfl) rfl (WL.call (bitsAdd hc1 hc2 hg.cb) rfl (fun _ => by kernel_rfl) rfl (WL.q (LX.move rfl) rfl (WL.q (LX.extract rfl rfl) rfl ?_)))))))))))))
    refine WL.q (LX.extract rfl rfl) rfl (WL.q (LX.idx1 rfl rfl rfl (n + i) rfl (by omega)) rfl ?_)
    refine WL.put (EX.storeRow rfl rfl rfl (by repeat first | assumption | exact List.mem_cons_self | refine List.mem_cons_of_mem _ ?_) (by omega) (by repeat first | exact Upd.here | apply Upd.there)) ?_
    refine WL.q (LX.assign rfl) rfl (WL.nil (blockK_normal (thenK_normal (WC.region (WL.q (LX.move rfl) rfl (WL.q (LX.addI rfl rfl (by omega)) rfl (WL.q (LX.assign rfl) rfl (WL.nil ?_))))))))
    rw [ha.val] at e1
    rw [hmv.val, IntKind.wrap_u64] at e2
    exact loopS_next (i + 1, ts2.set (n + i) (sumW c1 c2 k), sumC c1 c2 k) ⟨by omega, hg.step hn (by omega) (by omega) (by omega) w1 w2 hc1 hc2 e1 e2 hm⟩ (by simp; omega) (.cons rfl (.cons rfl (.cons rfl (.cons rfl (.cons rfl (.cons rfl (.cons rfl (.cons rfl (.cons rfl .nil))))))))) rfl
  · skip
    refine WC.exit (thenK_exit (loopS_exit (blockK_same (thenK_normal (WC.seq (WC.draw [(0, 0), (0, 1), (0, 6), (0, 7), (0, 8), (2, 2), (0, 3), (0, 4), (2, 5), (2, 9)] [(p, natO l n c)] rfl (by kernel_rfl) rfl (by kernel_rfl) (DW.p rfl rfl (fun _ => LX.move rfl) rfl (DW.p rfl rfl (fun _ => LX.move rfl) rfl (DW.p rfl rfl (fun _ => LX.move rfl) rfl (DW.p rfl rfl (fun _ => LX.move rfl) rfl (DW.p rfl rfl (fun _ => LX.eq (LX.sliceFrom rfl rfl rfl n rfl (by omega) (by omega) (by omega)) (by rw [Nat.zero_add, show 2 * n - n = n by omega])) rfl ?_)))))))))))
    obtain rfl : i = n := by omega
    refine DW.t rfl rfl (EX.call rfl (fun _ => by kernel_rfl) (CS.pm (by repeat first | exact Pm.done | (apply Pm.step; repeat first | exact Rem.here | apply Rem.there)) (nreset' (M := (lt, words ts) :: M) hl hnc hnx hc hd))) rfl (by kernel_rfl) ?_
    rintro _ _ ⟨zs, rfl, hz, rfl⟩
    have hzl := hz.len
    refine DW.p rfl rfl (fun _ => LX.nilCheck rfl) rfl (DW.p rfl rfl (fun _ => LX.field0 rfl rfl) rfl (DW.fval rfl rfl (EX.of_LX (LX.load rfl rfl List.mem_cons_self rfl)) (fun q hq => by simp at hq; subst hq; exact List.mem_cons_self) rfl ?_))
    
    refine DW.tval rfl rfl (EX.copy (s := 0) (k := .u64) rfl rfl rfl rfl (by repeat first | assumption | exact List.mem_cons_self | refine List.mem_cons_of_mem _ ?_) (by repeat first | assumption | exact List.mem_cons_self | refine List.mem_cons_of_mem _ ?_) (by omega) (by omega) (Nat.min_self i).symm (by repeat first | exact Upd.here | apply Upd.there)) (by kernel_rfl) rfl ?_
    refine DW.nil (thenK_normal (WC.region (WL.q (LX.move rfl) rfl (WL.q (LX.move rfl) rfl (WL.q (LX.move rfl) rfl ?_)))))
    have hfin := hg.fin hb.val ha.nonneg hb.nonneg hAB hV
    have hz2 := hz.putS (o := i) (by omega) hg.dg
    refine WL.callR (maybeSub hg.cb hz2 (by omega) (hM.mono fun _ h => List.mem_cons_of_mem _ h) hfin.1) rfl (fun _ => by kernel_rfl) rfl ?_
    rintro _ _ ⟨us, rfl, hu, rfl⟩
    refine WL.nil (blockK_normal (thenK_normal (WC.seq (WC.region (WL.q (LX.move rfl) rfl (WL.q (LX.assign rfl) rfl (WL.nil (thenK_normal (WC.ret ?_)))))))))
    have hnn := hz2.nonneg
    refine KR.one (.inl rfl) rfl rfl ⟨us, _, _, rfl, hu, ?_, ?_, rfl⟩
    · split <;> omega
    · split
      · exact hfin.2 _ 0 (by omega)
      · exact hfin.2 _ 1 (by omega)
end
end Go.Proofs.YtdnngppofbmpeaaGreatDoor.Bm
namespace Go.Proofs.YtdnngppofbmpeaaGreatDoor.Bm
open Go Go.RowKit

def Cg (V a b : Int) : Prop := ∃ t, a = b + V * t
theorem Cg.refl {V a : Int} : Cg V a a := ⟨0, by omega⟩
theorem Cg.of_eq {V a b : Int} (h : a = b) : Cg V a b := h ▸ Cg.refl
theorem Cg.symm {V a b : Int} : Cg V a b → Cg V b a := fun ⟨t, h⟩ => ⟨-t, by grind⟩
theorem Cg.trans {V a b c : Int} : Cg V a b → Cg V b c → Cg V a c := fun ⟨t, h⟩ ⟨s, k⟩ => ⟨t + s, by grind⟩
theorem Cg.add {V a b c d : Int} : Cg V a b → Cg V c d → Cg V (a + c) (b + d) := fun ⟨t, h⟩ ⟨s, k⟩ => ⟨t + s, by grind⟩
theorem Cg.sub {V a b c d : Int} : Cg V a b → Cg V c d → Cg V (a - c) (b - d) := fun ⟨t, h⟩ ⟨s, k⟩ => ⟨t - s, by grind⟩
theorem Cg.mul {V a b c d : Int} : Cg V a b → Cg V c d → Cg V (a * c) (b * d) := fun ⟨t, h⟩ ⟨s, k⟩ => ⟨t * d + b * s + V * t * s, by grind⟩
theorem Cg.of_mod {V a b : Int} (h : (a - b) % V = 0) : Cg V a b := by
  obtain ⟨t, ht⟩ := dvd_of_mod h
  exact ⟨t, by omega⟩
theorem Cg.mod {V a : Int} : Cg V (a % V) a := ⟨-(a / V), by have := Int.mul_ediv_add_emod a V; rw [Int.mul_neg]; omega⟩
theorem Cg.eq_mod {V a b : Int} (h : Cg V a b) (h0 : 0 ≤ a) (h1 : a < V) : a = b % V := by
  obtain ⟨t, rfl⟩ := h
  have : (b + V * t) % V = b % V := Int.add_mul_emod_self_left _ _ _
  rw [← this, Int.emod_eq_of_lt h0 h1]
theorem Cg.half {V a b : Int} (ho : V % 2 = 1) (h : Cg V (2 * a) (2 * b)) : Cg V a b := by
  obtain ⟨t, ht⟩ := h
  obtain ⟨v, hv⟩ : ∃ v, V = 2 * v + 1 := ⟨V / 2, by omega⟩
  exact ⟨a - b - v * t, by subst hv; grind⟩
theorem Cg.cancel2 {V a b : Int} (ho : V % 2 = 1) : ∀ k : Nat, Cg V (2 ^ k * a) (2 ^ k * b) → Cg V a b
  | 0, h => by simpa using h
  | k + 1, h => by
    rw [pow2_succ, Int.mul_assoc, Int.mul_assoc] at h
    exact Cg.cancel2 ho k (h.half ho)
theorem Cg.cancel {V a b : Int} {n : Nat} (ho : V % 2 = 1) (h : Cg V (a * W64 ^ n) (b * W64 ^ n)) : Cg V a b := by
  rw [W64_two, Int.mul_comm a, Int.mul_comm b] at h
  exact Cg.cancel2 ho _ h

/-- an odd modulus, behind newModulus but for rr -/
structure MdO (M : Mem) (q pm lm n cm : Nat) (m0 : Int) (rv : Value) (ms : List Int) (V : Int) : Prop where
  r : MdR M q pm lm n cm true m0 rv ms V
  n0 : 0 < n
  n16 : n < 16
  V1 : 1 < V
  hm : (V * m0 + 1) % W64 = 0
  odd : V % 2 = 1
theorem MdO.mono {M N : Mem} {q pm lm n cm : Nat} {m0 : Int} {rv : Value} {ms : List Int} {V : Int} (h : MdO M q pm lm n cm m0 rv ms V) (hs : ∀ p ∈ M, p ∈ N) : MdO N q pm lm n cm m0 rv ms V :=
  ⟨h.r.mono hs, h.n0, h.n16, h.V1, h.hm, h.odd⟩
/-- an odd modulus whole -/
structure MdX (M : Mem) (q pm lm pr lr n : Nat) (m0 : Int) (ms rs : List Int) (V RR : Int) : Prop where
  o : MdO M q pm lm n 32 m0 (ptr pr) ms V
  hp : (pr, natO lr n 32) ∈ M
  hl : (lr, words rs) ∈ M
  nv : NV n 32 RR rs
  lt : RR < V
  cg : Cg V RR (W64 ^ n * W64 ^ n)
theorem MdX.mono {M N : Mem} {q pm lm pr lr n : Nat} {m0 : Int} {ms rs : List Int} {V RR : Int} (h : MdX M q pm lm pr lr n m0 ms rs V RR) (hs : ∀ p ∈ M, p ∈ N) : MdX N q pm lm pr lr n m0 ms rs V RR :=
  ⟨h.o.mono hs, hs _ h.hp, hs _ h.hl, h.nv, h.lt, h.cg⟩

theorem mul_lt2 {A B V N : Int} (hA : 0 ≤ A) (hAV : A < V) (hB : 0 ≤ B) (hBN : B < N) : A * B < V * N := by
  have h1 : A * B ≤ A * N := Int.mul_le_mul_of_nonneg_left (by omega) hA
  have h2 : A * N < V * N := Int.mul_lt_mul_of_pos_right hAV (by omega)
  omega

section
variable {w0 : World} {M : Mem}
/-- montgomeryMul, told by congruence -/
theorem mmulC {p l nx c pa la ca pb lb cb q pm lm cm n : Nat} {m0 A B V : Int} {rv : Value} {xs us bs ms : List Int} (hl : xs.length = c) (hnx : nx ≤ c) (hnc : n ≤ c) (hc : c ≤ 1000) (hd : Dg W64 xs)
    (ha : NV n ca A us) (hb : NV n cb B bs) (hpa : (pa, natO la n ca) ∈ (p, natO l nx c) :: (l, words xs) :: M) (hla : (la, words us) ∈ (p, natO l nx c) :: (l, words xs) :: M)
    (hpb : (pb, natO lb n cb) ∈ (p, natO l nx c) :: (l, words xs) :: M) (hlb : (lb, words bs) ∈ (p, natO l nx c) :: (l, words xs) :: M)
    (hM : MdO M q pm lm n cm m0 rv ms V) (hA : A < V) :
    CS w0 93 [ptr p, ptr pa, ptr pb, ptr q] ((p, natO l nx c) :: (l, words xs) :: M)
      (fun u M' => ∃ zs Z, u = ptr p ∧ NV n c Z zs ∧ Z < V ∧ Cg V (Z * W64 ^ n) (A * B) ∧ M' = (p, natO l n c) :: (l, words zs) :: M) := by
  refine CS.post (mmul hl hnx hM.n0 hM.n16 hnc hc hd ha hb hpa hla hpb hlb hM.r (by have := hM.V1; omega) hM.hm (mul_lt2 ha.nonneg hA hb.nonneg hb.lt)) ?_
  rintro v M' ⟨zs, Z, h1, h2, h3, h4, rfl⟩
  exact ⟨_, List.Sublist.refl _, zs, Z, h1, h2, h3, .of_mod h4, rfl⟩

/-- into Montgomery's form -/
theorem mrep {p l c q pm lm pr lr n : Nat} {m0 X V RR : Int} {xs ms rs : List Int} (hx : NV n c X xs) (hX : X < V) (hM : MdX M q pm lm pr lr n m0 ms rs V RR) :
    CS w0 92 [ptr p, ptr q] ((p, natO l n c) :: (l, words xs) :: M)
      (fun u M' => ∃ zs Z, u = ptr p ∧ NV n c Z zs ∧ Z < V ∧ Cg V Z (X * W64 ^ n) ∧ M' = (p, natO l n c) :: (l, words zs) :: M) := by
  obtain ⟨hq, hp, hl, hmv⟩ := id hM.o.r
  refine CS.of Tryz.func92 Tryz.ntmps92 rfl rfl (WC.seq (WC.region (WL.q (LX.assign rfl) rfl (WL.nil (thenK_normal (WC.seq (WC.region (WL.q (LX.move rfl) rfl (WL.q (LX.move rfl) rfl (WL.q (LX.move rfl) rfl (WL.q (LX.nilCheck rfl) rfl (WL.q (LX.field0 rfl rfl) rfl ?_))))))))))))
  refine WL.q (LX.load rfl rfl (by repeat first | assumption | exact List.mem_cons_self | refine List.mem_cons_of_mem _ ?_) rfl) rfl ?_
  refine WL.q (LX.move rfl) rfl (WL.callR (mmulC hx.len hx.le hx.le hx.small hx.dg hx hM.nv List.mem_cons_self (List.mem_cons_of_mem _ List.mem_cons_self) (List.mem_cons_of_mem _ (List.mem_cons_of_mem _ hM.hp)) (List.mem_cons_of_mem _ (List.mem_cons_of_mem _ hM.hl)) hM.o hX) rfl (fun _ => by kernel_rfl) rfl ?_)
  rintro _ _ ⟨zs, Z, rfl, hz, hZ, hcg, rfl⟩
  refine WL.q (LX.assign rfl) rfl (WL.nil (thenK_normal (WC.ret ?_)))
  refine KR.one (.inl rfl) rfl rfl ⟨zs, Z, rfl, hz, hZ, ?_, rfl⟩
  refine Cg.cancel (n := n) hM.o.odd (hcg.trans ((Cg.refl.mul hM.cg).trans (.of_eq ?_)))
  rw [Int.mul_assoc]

/-- out of Montgomery's form -/
theorem mred {p l c q pm lm n cm : Nat} {m0 X V : Int} {rv : Value} {xs ms : List Int} (hx : NV n c X xs) (hX : X < V) (hM : MdO M q pm lm n cm m0 rv ms V) :
    CS w0 97 [ptr p, ptr q] ((p, natO l n c) :: (l, words xs) :: M)
      (fun u M' => ∃ zs Z, u = ptr p ∧ NV n c Z zs ∧ Z < V ∧ Cg V (Z * W64 ^ n) X ∧ M' = (p, natO l n c) :: (l, words zs) :: M) := by
  refine CS.post (R := fun u M' => ∃ zs Z a b, u = ptr p ∧ NV n c Z zs ∧ Z < V ∧ Cg V (Z * W64 ^ n) X ∧ M' = (p, natO l n c) :: (l, words zs) :: a :: b :: M) ?_
    (fun v M' ⟨zs, Z, a, b, h1, h2, h3, h4, h5⟩ => ⟨(p, natO l n c) :: (l, words zs) :: M, h5 ▸ .cons_cons _ (.cons_cons _ (.cons _ (.cons _ (List.Sublist.refl _)))), zs, Z, h1, h2, h3, h4, rfl⟩)
  have h16 := hM.n16
  have h0 := hM.n0
  refine CS.of Tryz.func97 Tryz.ntmps97 rfl rfl (WC.seq (WC.region (WL.q (LX.assign rfl) rfl (WL.nil (thenK_normal (WC.seq (WC.region (WL.callR newNat rfl (fun _ => by kernel_rfl) rfl ?_))))))))
  rintro _ _ ⟨pt, lt, rfl, rfl⟩
  refine WL.q (LX.move rfl) rfl ?_
  have hz0 : NV 0 32 0 (List.replicate 32 0) := NV.zero (Nat.zero_le _) (by omega) (by simp) (Dg.replicate W64_pos 32) (by intro i hi; omega)
  refine WL.callR (nexpandFor hz0 (Nat.zero_le _) (by omega) (by omega) (hM.r.mono fun _ h => List.mem_cons_of_mem _ (List.mem_cons_of_mem _ h))) rfl (fun _ => by kernel_rfl) rfl ?_
  rintro _ _ ⟨ts, rfl, ht, rfl⟩
  have htl := ht.len
  refine WL.q (LX.assign rfl) rfl (WL.nil (thenK_normal (WC.seq (WC.region (WL.q (LX.move rfl) rfl (WL.q (LX.nilCheck rfl) rfl (WL.q (LX.field0 rfl rfl) rfl ?_)))))))
  refine WL.q (LX.load rfl rfl (by repeat first | assumption | exact List.mem_cons_self | refine List.mem_cons_of_mem _ ?_) rfl) rfl ?_
  refine WL.q (LX.idx1 rfl rfl rfl 0 rfl (by omega)) rfl ?_
  refine WL.put (EX.storeRow rfl rfl rfl (by repeat first | assumption | exact List.mem_cons_self | refine List.mem_cons_of_mem _ ?_) (by omega) (by repeat first | exact Upd.here | apply Upd.there)) ?_
  refine WL.nil (thenK_normal (WC.seq (WC.region (WL.q (LX.move rfl) rfl (WL.q (LX.move rfl) rfl (WL.q (LX.move rfl) rfl (WL.q (LX.move rfl) rfl ?_)))))))
  refine WL.callR (CS.pm (by repeat first | exact Pm.done | (apply Pm.step; repeat first | exact Rem.here | apply Rem.there)) (mmulC hx.len hx.le hx.le hx.small hx.dg hx (ht.one h0 wd_one) List.mem_cons_self (List.mem_cons_of_mem _ List.mem_cons_self) (by repeat first | assumption | exact List.mem_cons_self | refine List.mem_cons_of_mem _ ?_) (by repeat first | assumption | exact List.mem_cons_self | refine List.mem_cons_of_mem _ ?_) (hM.mono fun _ h => List.mem_cons_of_mem _ (List.mem_cons_of_mem _ h)) hX)) rfl (fun _ => by kernel_rfl) rfl ?_
  rintro _ _ ⟨zs, Z, rfl, hz, hZ, hcg, rfl⟩
  refine WL.q (LX.assign rfl) rfl (WL.nil (thenK_normal (WC.ret ?_)))
  rw [Int.mul_one] at hcg
  exact KR.one (.inl rfl) rfl rfl ⟨zs, Z, _, _, rfl, hz, hZ, hcg, rfl⟩
end
end Go.Proofs.YtdnngppofbmpeaaGreatDoor.Bm
namespace Go.Proofs.YtdnngppofbmpeaaGreatDoor.Bm
open Go Go.RowKit

theorem shrN {N i : Nat} (hi : i ≤ 64) : (N : Int) / 2 ^ (min (i : Int).toNat IntKind.u64.bits) = ((N / 2 ^ i : Nat) : Int) := by
  have h1 : min (i : Int).toNat IntKind.u64.bits = i := by
    have : IntKind.u64.bits = 64 := rfl
    rw [this]; omega
  rw [h1]; simp
theorem and1N {N : Nat} (h : N < 18446744073709551616) : bits .and .u64 (N : Int) 1 = ((N % 2 : Nat) : Int) := by
  rw [and_one (by unfold wd W64; omega)]; rfl

theorem NV.top {n c : Nat} {v : Int} {xs : List Int} (h : NV n c 0 xs) (h0 : 0 < n) (hv : wd v) : NV n c (W64 ^ (n - 1) * v) (xs.set (n - 1) v) := by
  have h1 := h.len; have h2 := h.le
  refine ⟨by simpa using h.len, h.le, h.small, h.dg.set hv.1 hv.2 _, ?_⟩
  have e := dv_take_set (b := W64) (xs := xs) (k := n - 1) (by omega) v
  rw [show n - 1 + 1 = n by omega] at e
  rw [e, dv_take_zero (k := 0) (Nat.zero_le _) (by omega) (fun i _ hi => h.gt0 (by omega))]
  simp

theorem double_lt {X V : Int} (h : X < V) : (if X + X < V then X + X else X + X - V) < V := by split <;> omega
theorem double_cg {X V a : Int} {k : Nat} (h : Cg V X (a * 2 ^ k)) : Cg V (if X + X < V then X + X else X + X - V) (a * 2 ^ (k + 1)) := by
  have h2 : Cg V (X + X) (a * 2 ^ (k + 1)) := (h.add h).trans (.of_eq (by rw [pow2_succ]; grind))
  split
  · exact h2
  · obtain ⟨t, ht⟩ := h2
    exact ⟨t - 1, by rw [Int.mul_sub]; omega⟩
theorem square_cg {X Z V R : Int} {n e : Nat} (ho : V % 2 = 1) (hR : R = W64 ^ n) (hx : Cg V X (R * 2 ^ e)) (hz : Cg V (Z * R) (X * X)) : Cg V Z (R * 2 ^ (2 * e)) := by
  subst hR
  refine Cg.cancel (n := n) ho (hz.trans ((hx.mul hx).trans (.of_eq ?_)))
  rw [show 2 * e = e + e by omega, Int.pow_add]
  grind

section
variable {w0 : World} {M : Mem}
/-- Mul modulo an odd number; y may be x -/
theorem nMulOdd {p l c py ly cy q pm lm pr lr n : Nat} {m0 X Y V RR : Int} {xs ys ms rs : List Int} (hx : NV n c X xs) (hX : X < V) (hy : NV n cy Y ys) (hpy : (py, natO ly n cy) ∈ (p, natO l n c) :: (l, words xs) :: M) (hly : (ly, words ys) ∈ (p, natO l n c) :: (l, words xs) :: M)
    (hM : MdX M q pm lm pr lr n m0 ms rs V RR) :
    CS w0 41 [ptr p, ptr py, ptr q] ((p, natO l n c) :: (l, words xs) :: M)
      (fun u M' => ∃ zs Z, u = ptr p ∧ NV n c Z zs ∧ Z < V ∧ Cg V Z (X * Y) ∧ M' = (p, natO l n c) :: (l, words zs) :: M) := by
  refine CS.post (R := fun u M' => ∃ zs Z a b, u = ptr p ∧ NV n c Z zs ∧ Z < V ∧ Cg V Z (X * Y) ∧ M' = (p, natO l n c) :: (l, words zs) :: a :: b :: M) ?_
    (fun v M' ⟨zs, Z, a, b, h1, h2, h3, h4, h5⟩ => ⟨(p, natO l n c) :: (l, words zs) :: M, h5 ▸ .cons_cons _ (.cons_cons _ (.cons _ (.cons _ (List.Sublist.refl _)))), zs, Z, h1, h2, h3, h4, rfl⟩)
  have hmq := hM.o.r.hq
  have h16 := hM.o.n16
  refine CS.of Tryz.func41 Tryz.ntmps41 rfl rfl (WC.seq (WC.region (WL.q (LX.assign rfl) rfl (WL.nil (thenK_normal (WC.seq (WC.seq (WC.region (WL.q (LX.move rfl) rfl (WL.q (LX.nilCheck rfl) rfl (WL.q (LX.field0 rfl rfl) rfl ?_)))))))))))
  refine WL.q (LX.load rfl rfl (by repeat first | assumption | exact List.mem_cons_self | refine List.mem_cons_of_mem _ ?_) rfl) rfl ?_
  refine WL.nil (thenK_normal (WC.yes rfl (WC.seq (WC.region (WL.callR newNat rfl (fun _ => by kernel_rfl) rfl ?_)))))
  rintro _ _ ⟨pt, lt, rfl, rfl⟩
  refine WL.q (LX.move rfl) rfl ?_
  refine WL.callR (nset (by simp) (by omega) (by omega) (by omega) (Dg.replicate W64_pos 32) hx (by repeat first | assumption | exact List.mem_cons_self | refine List.mem_cons_of_mem _ ?_) (by repeat first | assumption | exact List.mem_cons_self | refine List.mem_cons_of_mem _ ?_)) rfl (fun _ => by kernel_rfl) rfl ?_
  rintro _ _ ⟨ts, rfl, ht, rfl⟩
  refine WL.q (LX.move rfl) rfl (WL.callR (mrep ht hX (hM.mono fun _ h => List.mem_cons_of_mem _ (List.mem_cons_of_mem _ h))) rfl (fun _ => by kernel_rfl) rfl ?_)
  rintro _ _ ⟨us, U, rfl, hu, hU, hUc, rfl⟩
  refine WL.q (LX.assign rfl) rfl (WL.nil (thenK_normal (WC.seq (WC.region (WL.q (LX.move rfl) rfl (WL.q (LX.move rfl) rfl (WL.q (LX.move rfl) rfl (WL.q (LX.move rfl) rfl ?_))))))))
  have hpy' : ∀ {z}, z ∈ (p, natO l n c) :: (l, words xs) :: M → z ∈ (p, natO l n c) :: (l, words xs) :: (pt, natO lt n 32) :: (lt, words us) :: M := by
    intro z hz
    rcases List.mem_cons.1 hz with rfl | hz
    · exact List.mem_cons_self
    · rcases List.mem_cons.1 hz with rfl | hz
      · exact List.mem_cons_of_mem _ List.mem_cons_self
      · exact List.mem_cons_of_mem _ (List.mem_cons_of_mem _ (List.mem_cons_of_mem _ (List.mem_cons_of_mem _ hz)))
  refine WL.callR (CS.pm (by repeat first | exact Pm.done | (apply Pm.step; repeat first | exact Rem.here | apply Rem.there)) (mmulC (M := (pt, natO lt n 32) :: (lt, words us) :: M) hx.len hx.le hx.le hx.small hx.dg hu hy (by repeat first | assumption | exact List.mem_cons_self | refine List.mem_cons_of_mem _ ?_) (by repeat first | assumption | exact List.mem_cons_self | refine List.mem_cons_of_mem _ ?_) (hpy' hpy) (hpy' hly) (hM.o.mono fun _ h => List.mem_cons_of_mem _ (List.mem_cons_of_mem _ h)) hU)) rfl (fun _ => by kernel_rfl) rfl ?_
  rintro _ _ ⟨zs, Z, rfl, hz, hZ, hcg, rfl⟩
  refine WL.q (LX.assign rfl) rfl (WL.nil (thenK_normal (WC.ret (thenK_ret ?_))))
  refine KR.one (.inl rfl) rfl rfl ⟨zs, Z, _, _, rfl, hz, hZ, ?_, rfl⟩
  exact Cg.cancel (n := n) hM.o.odd (hcg.trans ((hUc.mul Cg.refl).trans (.of_eq (by grind))))
end
end Go.Proofs.YtdnngppofbmpeaaGreatDoor.Bm
namespace Go.Proofs.YtdnngppofbmpeaaGreatDoor.Bm
open Go Go.RowKit

section
variable {w0 : World} {M : Mem}
/-- rr -/
theorem nrr {q pm lm n : Nat} {m0 V : Int} {rv : Value} {ms : List Int} (hM : MdO M q pm lm n 32 m0 rv ms V) (hnorm : W64 ^ (n - 1) ≤ V) :
    CS w0 81 [ptr q] M (fun u M' => ∃ p l zs RR, u = ptr p ∧ NV n 32 RR zs ∧ RR < V ∧ Cg V RR (W64 ^ n * W64 ^ n) ∧ M' = (p, natO l n 32) :: (l, words zs) :: M) := by
  have h16 := hM.n16
  have h0 := hM.n0
  have hodd := hM.odd
  refine CS.of Tryz.func81 Tryz.ntmps81 rfl rfl (WC.seq (WC.region (WL.q (LX.assign rfl) rfl (WL.nil (thenK_normal (WC.seq (WC.region (WL.callR newNat rfl (fun _ => by kernel_rfl) rfl ?_))))))))
  rintro _ _ ⟨p, l, rfl, rfl⟩
  refine WL.q (LX.move rfl) rfl ?_
  have hz0 : NV 0 32 0 (List.replicate 32 0) := NV.zero (Nat.zero_le _) (by omega) (by simp) (Dg.replicate W64_pos 32) (by intro i hi; omega)
  refine WL.callR (nexpandFor hz0 (Nat.zero_le _) (by omega) (by omega) hM.r) rfl (fun _ => by kernel_rfl) rfl ?_
  rintro _ _ ⟨ts, rfl, ht, rfl⟩
  have htl := ht.len
  refine WL.q (LX.assign rfl) rfl (WL.nil (thenK_normal (WC.seq (WC.region (WL.q (LX.move rfl) rfl (WL.q (LX.nilCheck rfl) rfl (WL.q (LX.field0 rfl rfl) rfl ?_)))))))
  refine WL.q (LX.load rfl rfl (by repeat first | assumption | exact List.mem_cons_self | refine List.mem_cons_of_mem _ ?_) rfl) rfl ?_
  refine WL.q (LX.len rfl rfl rfl) rfl (WL.q (LX.convU rfl rfl rfl (by omega)) rfl (WL.q (LX.assign rfl) rfl (WL.nil (thenK_normal (WC.seq (WC.region (WL.q (LX.move rfl) rfl (WL.callR (modBitLen (hM.r.mono fun _ h => List.mem_cons_of_mem _ (List.mem_cons_of_mem _ h))) rfl (fun _ => by kernel_rfl) rfl ?_))))))))
  rintro _ _ ⟨⟨k, rfl, hk, hb⟩, rfl⟩
  have hk1 : 64 * (n - 1) < k := by
    rcases Nat.lt_or_ge (64 * (n - 1)) k with h | h
    · exact h
    · have h1 := hb.lt
      have h2 := pow2_le h
      rw [W64_two] at hnorm
      omega
  have hsh : IntKind.u64.wrap (1 * 2 ^ (min (((k : Int) - 1) % 64).toNat IntKind.u64.bits)) = 2 ^ ((k - 1) % 64) := by
    have hb64 : IntKind.u64.bits = 64 := rfl
    have e1 : min (((k : Int) - 1) % 64).toNat IntKind.u64.bits = (k - 1) % 64 := by rw [hb64]; omega
    rw [e1, Int.one_mul, u64_in]
    have h1 := pow2_pos ((k - 1) % 64)
    have h2 := pow2_le (show (k - 1) % 64 ≤ 63 by omega)
    have h3 : (2 : Int) ^ 63 = 9223372036854775808 := by decide
    omega
  have hwd : wd (2 ^ ((k - 1) % 64)) := by
    have h1 := pow2_pos ((k - 1) % 64)
    have h2 := pow2_le (show (k - 1) % 64 ≤ 63 by omega)
    have h3 : (2 : Int) ^ 63 = 9223372036854775808 := by decide
    unfold wd W64; omega
  refine WL.q (LX.convU rfl rfl rfl (by omega)) rfl (WL.q (LX.assign rfl) rfl (WL.nil (thenK_normal (WC.seq (WC.region (WL.q (LX.move rfl) rfl (WL.q (LX.eq (LX.bin rfl rfl rfl) (show _ = Value.int .u64 ((64 * n : Nat) : Int) by rw [u64_in (by omega)]; congr 1)) rfl (WL.q (LX.assign rfl) rfl (WL.nil (thenK_normal (WC.seq (WC.region (WL.q (LX.move rfl) rfl ?_)))))))))))))
  refine WL.q (LX.nilCheck rfl) rfl (WL.q (LX.field0 rfl rfl) rfl ?_)
  refine WL.q (LX.load rfl rfl (by repeat first | assumption | exact List.mem_cons_self | refine List.mem_cons_of_mem _ ?_) rfl) rfl ?_
  refine WL.q (LX.move rfl) rfl (WL.q (LX.eq (LX.bin rfl rfl rfl) (show _ = Value.int .u64 ((n - 1 : Nat) : Int) by rw [u64_in (by omega)]; congr 1; omega)) rfl (WL.q (LX.move rfl) rfl (WL.q (LX.eq (LX.bin rfl rfl rfl) (show _ = Value.int .u64 ((k : Int) - 1) by rw [u64_in (by omega)])) rfl (WL.q (LX.rem rfl rfl (by omega) (by omega)) rfl (WL.q (LX.eq (LX.shl rfl rfl (by omega)) (by rw [hsh])) rfl ?_)))))
  refine WL.q (LX.idx1 rfl rfl rfl (n - 1) rfl (by omega)) rfl ?_
  refine WL.put (EX.storeRow rfl rfl rfl (by repeat first | assumption | exact List.mem_cons_self | refine List.mem_cons_of_mem _ ?_) (by omega) (by repeat first | exact Upd.here | apply Upd.there)) ?_
  refine WL.nil (thenK_normal (WC.seq (WC.seq (WC.region (WL.q (LX.move rfl) rfl (WL.q (LX.eq (LX.bin rfl rfl rfl) (show _ = Value.int .u64 ((k - 1 : Nat) : Int) by rw [u64_in (by omega)]; congr 1; omega)) rfl (WL.q (LX.assign rfl) rfl (WL.nil (thenK_normal (WC.block ?_))))))))))
  have htop := ht.top h0 hwd
  have hval : W64 ^ (n - 1) * 2 ^ ((k - 1) % 64) = 2 ^ (k - 1) := by
    rw [W64_two, ← Int.pow_add]; congr 1; omega
  rw [hval] at htop
  have hstart : (2 : Int) ^ (k - 1) < V := by
    rcases hb.ge with h | h
    · omega
    · rcases Int.lt_or_eq_of_le h with h1 | h1
      · exact h1
      · exfalso
        cases hk' : k - 1 with
        | zero => rw [hk'] at h1; have := hM.V1; simp at h1; omega
        | succ j => rw [hk', pow2_succ] at h1; omega
  have hMM : ∀ {zs : List Int}, MdO ((p, natO l n 32) :: (l, words zs) :: M) q pm lm n 32 m0 rv ms V := fun {zs} => hM.mono fun _ h => List.mem_cons_of_mem _ (List.mem_cons_of_mem _ h)
  refine WC.loopS (fun s : Nat × List Int × Int => [(0, ptr q), (3, ptr p), (4, .int .u64 n), (6, .int .u64 ((64 * n : Nat) : Int)), (7, .int .u64 s.1)]) (fun s => (p, natO l n 32) :: (l, words s.2.1) :: M)
    (fun s => k - 1 ≤ s.1 ∧ s.1 ≤ 64 * n ∧ NV n 32 s.2.2 s.2.1 ∧ s.2.2 < V ∧ Cg V s.2.2 (1 * 2 ^ s.1)) (fun s => 64 * n - s.1) (k - 1, _, _)
    ⟨Nat.le_refl _, by omega, htop, hstart, .of_eq (by rw [Int.one_mul])⟩ (.cons rfl (.cons rfl (.cons rfl (.cons rfl (.cons rfl .nil))))) rfl ?_
  rintro ⟨j, zs, X⟩ ⟨hj1, hj2, hz, hX, hc⟩
  dsimp only at hj1 hj2 hz hX hc ⊢
  refine WC.seq (WC.seq (WC.region (WL.q (LX.move rfl) rfl (WL.q (LX.move rfl) rfl (WL.q (LX.bin rfl rfl rfl) rfl (WL.nil (thenK_normal ?_)))))))
  refine WC.test rfl (fun hlt => ?_) (fun hge => ?_)
  · refine WC.skip (thenK_normal (WC.seq (WC.block (WC.region (WL.q (LX.move rfl) rfl (WL.q (LX.move rfl) rfl (WL.q (LX.move rfl) rfl (WL.callR (nAddSelf (by omega) hz hM.r hX) rfl (fun _ => by kernel_rfl) rfl ?_))))))))
    rintro _ _ ⟨us, rfl, hu, rfl⟩
    refine WL.nil (blockK_normal (thenK_normal (WC.region (WL.q (LX.move rfl) rfl (WL.q (LX.eq (LX.bin rfl rfl rfl) (show _ = Value.int .u64 ((j + 1 : Nat) : Int) by rw [u64_in (by omega)]; congr 1)) rfl (WL.q (LX.assign rfl) rfl (WL.nil ?_)))))))
    exact loopS_next (j + 1, us, _) ⟨by omega, by omega, hu, double_lt hX, double_cg hc⟩ (by simp; omega) (.cons rfl (.cons rfl (.cons rfl (.cons rfl (.cons rfl .nil))))) rfl
  refine WC.exit (thenK_exit (loopS_exit (blockK_same (thenK_normal (WC.seq (WC.region (WL.q (LX.move rfl) rfl (WL.q (LX.quoU rfl rfl (by omega) (by omega)) rfl (WL.q (LX.assign rfl) rfl (WL.nil (thenK_normal (WC.seq (WC.region ?_)))))))))))))
  refine WL.q (LX.assign rfl) rfl (WL.nil (thenK_normal (WC.seq (WC.block ?_))))
  obtain rfl : j = 64 * n := by omega
  rw [Int.one_mul, ← W64_two] at hc
  refine WC.loopS (fun i : Nat => [(0, ptr q), (3, ptr p), (6, .int .u64 ((64 * n : Nat) : Int)), (8, .int .u64 ((n : Int) / 4)), (9, .int .i64 i)]) (fun _ => (p, natO l n 32) :: (l, words zs) :: M)
    (fun i => i ≤ 64) (fun i => i) 64 (Nat.le_refl _) (.cons rfl (.cons rfl (.cons rfl (.cons rfl (.cons rfl .nil))))) rfl ?_
  intro i hi
  refine WC.seq (WC.seq (WC.region (WL.q (LX.move rfl) rfl (WL.q (LX.move rfl) rfl (WL.q (LX.eq (LX.shr rfl rfl (by omega) (by omega)) (by rw [shrN hi])) rfl ?_)))))
  refine WL.q (LX.move rfl) rfl (WL.q (LX.bin rfl rfl rfl) rfl (WL.nil (thenK_normal ?_)))
  refine WC.test rfl (fun hlt => ?_) (fun hge => ?_)
  · have hi0 : 0 < i := by
      cases i with
      | zero => simp at hlt; omega
      | succ i => omega
    refine WC.skip (thenK_normal (WC.block (WC.region (WL.q (LX.move rfl) rfl (WL.q (LX.eq (LX.subI rfl rfl (by omega)) (show _ = Value.int .i64 ((i - 1 : Nat) : Int) by congr 1; omega)) rfl (WL.q (LX.assign rfl) rfl (WL.nil (blockK_normal ?_))))))))
    exact loopS_next (i - 1) (by omega) (by omega) (.cons rfl (.cons rfl (.cons rfl (.cons rfl (.cons rfl .nil))))) rfl
  refine WC.exit (thenK_exit (loopS_exit (blockK_same (thenK_normal (WC.seq (WC.seq (WC.region (WL.q (LX.assign rfl) rfl (WL.nil (thenK_normal (WC.block ?_)))))))))))
  have he : 64 * n / 2 ^ i ≤ 64 * n := Nat.div_le_self _ _
  refine WC.loopS (fun s : Nat × List Int × Int => [(0, ptr q), (3, ptr p), (6, .int .u64 ((64 * n : Nat) : Int)), (9, .int .i64 i), (10, .int .u64 s.1)]) (fun s => (p, natO l n 32) :: (l, words s.2.1) :: M)
    (fun s => s.1 ≤ 64 * n / 2 ^ i ∧ NV n 32 s.2.2 s.2.1 ∧ s.2.2 < V ∧ Cg V s.2.2 (W64 ^ n * 2 ^ s.1)) (fun s => 64 * n / 2 ^ i - s.1) (0, zs, X)
    ⟨Nat.zero_le _, hz, hX, hc.trans (.of_eq (by simp))⟩ (.cons rfl (.cons rfl (.cons rfl (.cons rfl (.cons rfl .nil))))) rfl ?_
  rintro ⟨e, ys, Y⟩ ⟨he1, hy, hY, hcy⟩
  dsimp only at he1 hy hY hcy ⊢
  refine WC.seq (WC.seq (WC.region (WL.q (LX.move rfl) rfl (WL.q (LX.move rfl) rfl (WL.q (LX.move rfl) rfl (WL.q (LX.eq (LX.shr rfl rfl (by omega) (by omega)) (by rw [shrN hi])) rfl ?_))))))
  refine WL.q (LX.bin rfl rfl rfl) rfl (WL.nil (thenK_normal ?_))
  refine WC.test rfl (fun hlt => ?_) (fun hge => ?_)
  · refine WC.skip (thenK_normal (WC.seq (WC.block (WC.region (WL.q (LX.move rfl) rfl (WL.q (LX.move rfl) rfl (WL.q (LX.move rfl) rfl (WL.callR (nAddSelf (by omega) hy hM.r hY) rfl (fun _ => by kernel_rfl) rfl ?_))))))))
    rintro _ _ ⟨us, rfl, hu, rfl⟩
    refine WL.nil (blockK_normal (thenK_normal (WC.region (WL.q (LX.move rfl) rfl (WL.q (LX.eq (LX.bin rfl rfl rfl) (show _ = Value.int .u64 ((e + 1 : Nat) : Int) by rw [u64_in (by omega)]; congr 1)) rfl (WL.q (LX.assign rfl) rfl (WL.nil ?_)))))))
    exact loopS_next (e + 1, us, _) ⟨by omega, hu, double_lt hY, double_cg hcy⟩ (by simp; omega) (.cons rfl (.cons rfl (.cons rfl (.cons rfl (.cons rfl .nil))))) rfl
  refine WC.exit (thenK_exit (loopS_exit (blockK_same (thenK_normal (WC.seq (WC.block ?_))))))
  obtain rfl : e = 64 * n / 2 ^ i := by omega
  refine WC.loopS (fun s : Nat × List Int × Int => [(0, ptr q), (3, ptr p), (6, .int .u64 ((64 * n : Nat) : Int)), (9, .int .i64 s.1)]) (fun s => (p, natO l n 32) :: (l, words s.2.1) :: M)
    (fun s => s.1 ≤ 64 ∧ NV n 32 s.2.2 s.2.1 ∧ s.2.2 < V ∧ Cg V s.2.2 (W64 ^ n * 2 ^ (64 * n / 2 ^ s.1))) (fun s => s.1) (i, ys, Y)
    ⟨hi, hy, hY, hcy⟩ (.cons rfl (.cons rfl (.cons rfl (.cons rfl .nil)))) rfl ?_
  rintro ⟨i, ys, Y⟩ ⟨hi, hy, hY, hcy⟩
  dsimp only at hi hy hY hcy ⊢
  refine WC.seq (WC.seq (WC.region (WL.q (LX.move rfl) rfl (WL.q (LX.bin rfl rfl rfl) rfl (WL.nil (thenK_normal ?_))))))
  refine WC.test rfl (fun hlt => ?_) (fun hge => ?_)
  · refine WC.skip (thenK_normal (WC.block (WC.seq (WC.region (WL.q (LX.move rfl) rfl (WL.q (LX.move rfl) rfl (WL.q (LX.move rfl) rfl (WL.q (LX.move rfl) rfl (WL.callR (mmulC hy.len hy.le hy.le hy.small hy.dg hy hy List.mem_cons_self (List.mem_cons_of_mem _ List.mem_cons_self) List.mem_cons_self (List.mem_cons_of_mem _ List.mem_cons_self) hM hY) rfl (fun _ => by kernel_rfl) rfl ?_)))))))))
    rintro _ _ ⟨us, U, rfl, hu, hU, hcu, rfl⟩
    have hsq := square_cg hodd rfl hcy hcu
    have hpow : 64 * n / 2 ^ (i - 1) / 2 = 64 * n / 2 ^ i := by
      rw [Nat.div_div_eq_div_mul, ← Nat.pow_succ]
      congr 2; omega
    refine WL.nil (thenK_normal (WC.seq (WC.region (WL.q (LX.move rfl) rfl (WL.q (LX.eq (LX.subI rfl rfl (by omega)) (show _ = Value.int .i64 ((i - 1 : Nat) : Int) by congr 1; omega)) rfl (WL.q (LX.assign rfl) rfl (WL.nil (thenK_normal (WC.seq (WC.region (WL.q (LX.move rfl) rfl (WL.q (LX.move rfl) rfl (WL.q (LX.eq (LX.shr rfl rfl (by omega) (by omega)) (by rw [shrN (by omega)])) rfl ?_)))))))))))))
    refine WL.q (LX.eq (LX.bin rfl rfl rfl) (by rw [and1N (Nat.lt_of_le_of_lt (Nat.div_le_self _ _) (by omega))])) rfl ?_
    refine WL.q (LX.bin rfl rfl rfl) rfl (WL.nil (thenK_normal ?_))
    refine WC.testN rfl (fun hbit => ?_) (fun hbit => ?_)
    · refine WC.region (WL.q (LX.move rfl) rfl (WL.q (LX.move rfl) rfl (WL.q (LX.move rfl) rfl (WL.callR (nAddSelf (by omega) hu hM.r hU) rfl (fun _ => by kernel_rfl) rfl ?_))))
      rintro _ _ ⟨vs, rfl, hv, rfl⟩
      refine WL.nil (blockK_normal ?_)
      refine loopS_next (i - 1, vs, _) ⟨by omega, hv, double_lt hU, ?_⟩ (by simp; omega) (.cons rfl (.cons rfl (.cons rfl (.cons rfl .nil)))) rfl
      have := double_cg hsq
      have e : 2 * (64 * n / 2 ^ i) + 1 = 64 * n / 2 ^ (i - 1) := by omega
      rwa [e] at this
    · refine WC.skip (blockK_normal ?_)
      refine loopS_next (i - 1, us, U) ⟨by omega, hu, hU, ?_⟩ (by simp; omega) (.cons rfl (.cons rfl (.cons rfl (.cons rfl .nil)))) rfl
      have e : 2 * (64 * n / 2 ^ i) = 64 * n / 2 ^ (i - 1) := by omega
      rwa [e] at hsq
  refine WC.exit (thenK_exit (loopS_exit (blockK_same (thenK_normal (WC.seq (WC.region (WL.q (LX.move rfl) rfl (WL.q (LX.assign rfl) rfl (WL.nil (thenK_normal (WC.ret ?_)))))))))))
  obtain rfl : i = 0 := by omega
  refine KR.one (.inl rfl) rfl rfl ⟨p, l, ys, Y, rfl, hy, hY, ?_, rfl⟩
  rw [Nat.pow_zero, Nat.div_one, ← W64_two] at hcy
  exact hcy
end
end Go.Proofs.YtdnngppofbmpeaaGreatDoor.Bm
