/- Proved here: what Mul does; laws on lists of numbers in memory, and what ExpShortVarTime does; laws on loads and stores of many cells, on a list of numbers in memory and on loops left at once. Conditions: none but those that each theorem states. -/
import Derived.Test.YtdnngppofbmpeaaGreatDoorG11
namespace Go.Proofs.YtdnngppofbmpeaaGreatDoor.Bm
open Go Go.RowKit

theorem take_slice {b : Int} {xs : List Int} {i n : Nat} (h : n + i ≤ xs.length) : dv b (xs.take (n + i)) = dv b (xs.take i) + b ^ i * dv b (sliceL xs i n) := by
  rw [dv_split b (xs.take (n + i)) i (by simp; omega), List.take_take, Nat.min_eq_left (by omega)]
  congr 2
  unfold sliceL
  rw [List.drop_take, show n + i - i = n by omega]

theorem mule_step {T0 P S S1 N k y X B : Int} (h : T0 + P * S = X * B) (e : S1 + N * k = S + y * X) : T0 + P * S1 + (P * N) * k = X * (B + P * y) := by grind

section
variable {w0 : World} {M : Mem}
/-- Mul modulo an even number; y may be x -/
theorem nMulEven {p l c py ly cy q pm lm n : Nat} {X Y V m0 : Int} {rv : Value} {xs ys ms : List Int} (hx : NV n c X xs) (hy : NV n cy Y ys) (hpy : (py, natO ly n cy) ∈ (p, natO l n c) :: (l, words xs) :: M) (hly : (ly, words ys) ∈ (p, natO l n c) :: (l, words xs) :: M)
    (hM : MdR M q pm lm n 32 false m0 rv ms V) (hn0 : 0 < n) (hn8 : n < 16) (hnorm : W64 ^ (n - 1) ≤ V) :
    CS w0 41 [ptr p, ptr py, ptr q] ((p, natO l n c) :: (l, words xs) :: M)
      (fun u M' => ∃ zs Z, u = ptr p ∧ NV n c Z zs ∧ Z < V ∧ Cg V Z (X * Y) ∧ M' = (p, natO l n c) :: (l, words zs) :: M) := by
  refine CS.post (R := fun u M' => ∃ zs Z a b, u = ptr p ∧ NV n c Z zs ∧ Z < V ∧ Cg V Z (X * Y) ∧ M' = (p, natO l n c) :: (l, words zs) :: a :: b :: M) ?_
    (fun v M' ⟨zs, Z, a, b, h1, h2, h3, h4, h5⟩ => ⟨(p, natO l n c) :: (l, words zs) :: M, h5 ▸ .cons_cons _ (.cons_cons _ (.cons _ (.cons _ (List.Sublist.refl _)))), zs, Z, h1, h2, h3, h4, rfl⟩)
  obtain ⟨hmq, hmp, hml, hmv⟩ := id hM
  have hxlen := hx.len; have hxle := hx.le; have hxsm := hx.small
  have hylen := hy.len; have hyle := hy.le; have hysm := hy.small
  refine CS.of Tryz.func41 Tryz.ntmps41 rfl rfl (WC.seq (WC.region (WL.q (LX.assign rfl) rfl (WL.nil (thenK_normal (WC.seq (WC.seq (WC.region (WL.q (LX.move rfl) rfl (WL.q (LX.nilCheck rfl) rfl (WL.q (LX.field0 rfl rfl) rfl ?_)))))))))))
  refine WL.q (LX.load rfl rfl (by repeat first | assumption | exact List.mem_cons_self | refine List.mem_cons_of_mem _ ?_) rfl) rfl ?_
  refine WL.nil (thenK_normal (WC.no rfl (WC.skip (thenK_normal (WC.seq (WC.region (WL.q (LX.move rfl) rfl (WL.q (LX.nilCheck rfl) rfl (WL.q (LX.field0 rfl rfl) rfl ?_)))))))))
  refine WL.q (LX.load rfl rfl (by repeat first | assumption | exact List.mem_cons_self | refine List.mem_cons_of_mem _ ?_) rfl) rfl ?_
  refine WL.q (LX.nilCheck rfl) rfl (WL.q (LX.field0 rfl rfl) rfl ?_)
  refine WL.q (LX.load rfl rfl (by repeat first | assumption | exact List.mem_cons_self | refine List.mem_cons_of_mem _ ?_) rfl) rfl ?_
  refine WL.q (LX.len rfl rfl rfl) rfl (WL.q (LX.assign rfl) rfl (WL.nil (thenK_normal (WC.seq (WC.region (WL.q (LX.move rfl) rfl (WL.q (LX.nilCheck rfl) rfl (WL.q (LX.field0 rfl rfl) rfl ?_))))))))
  refine WL.q (LX.load rfl rfl (by repeat first | assumption | exact List.mem_cons_self | refine List.mem_cons_of_mem _ ?_) rfl) rfl ?_
  refine WL.q (LX.move rfl) rfl (WL.q (LX.sliceTo rfl rfl rfl _ rfl (by omega)) rfl (WL.q (LX.assign rfl) rfl (WL.nil (thenK_normal (WC.seq (WC.region (WL.q (LX.move rfl) rfl (WL.q (LX.nilCheck rfl) rfl (WL.q (LX.field0 rfl rfl) rfl ?_)))))))))
  refine WL.q (LX.load rfl rfl (by repeat first | assumption | exact List.mem_cons_self | refine List.mem_cons_of_mem _ ?_) rfl) rfl ?_
  refine WL.q (LX.move rfl) rfl (WL.q (LX.sliceTo rfl rfl rfl _ rfl (by omega)) rfl (WL.q (LX.assign rfl) rfl (WL.nil (thenK_normal (WC.seq (WC.region (WL.q (LX.move rfl) rfl (WL.nil (thenK_normal (WC.block (WC.seq (WC.region (WL.q (LX.bin rfl rfl rfl) rfl ?_)))))))))))))
  refine WL.q (LX.assign rfl) rfl (WL.nil (thenK_normal ?_))
  refine WC.test rfl (fun h => absurd h (by omega)) (fun _ => ?_)
  refine WC.seq (WC.region (WL.q (LX.bin rfl rfl rfl) rfl (WL.q (LX.assign rfl) rfl (WL.nil (thenK_normal ?_)))))
  refine WC.test rfl (fun h => absurd h (by omega)) (fun _ => ?_)
  refine WC.seq (WC.region (WL.q (LX.bin rfl rfl rfl) rfl (WL.q (LX.assign rfl) rfl (WL.nil (thenK_normal ?_)))))
  refine WC.test rfl (fun h => absurd h (by omega)) (fun _ => ?_)
  refine WC.seq (WC.region (WL.step rfl (EX.make rfl rfl rfl rfl 0 64 rfl rfl (by decide) (by decide) (by decide)) ?_))
  rintro _ _ ⟨lt, rfl, rfl⟩
  refine WL.q (LX.assign rfl) rfl (WL.nil (thenK_normal (WC.seq (WC.seq (WC.region (WL.q (LX.move rfl) rfl (WL.q (LX.cap rfl rfl rfl) rfl (WL.q (LX.move rfl) rfl (WL.q (LX.mulI rfl rfl (by omega)) rfl (WL.q (LX.bin rfl rfl rfl) rfl (WL.nil (thenK_normal ?_))))))))))))
  refine WC.test rfl (fun h => absurd h (by omega)) (fun _ => ?_)
  refine WC.skip (thenK_normal (WC.seq (WC.region (WL.q (LX.move rfl) rfl (WL.q (LX.move rfl) rfl (WL.q (LX.mulI rfl rfl (by omega)) rfl (WL.q (LX.sliceTo rfl rfl rfl (2 * n) (by omega) (by omega)) rfl (WL.q (LX.assign rfl) rfl (WL.nil (thenK_normal (WC.seq (WC.seq (WC.region ?_)))))))))))))
  refine WL.q (LX.assign rfl) rfl (WL.nil (thenK_normal (WC.block ?_)))
  refine WC.loopS (fun s : Nat × List Int => [(0, ptr p), (2, ptr q), (8, .int .i64 n), (9, .slice (some ⟨l, 0, none⟩) n c), (10, .slice (some ⟨ly, 0, none⟩) n cy), (11, .slice (some ⟨lt, 0, none⟩) (2 * n) 64), (12, .int .i64 s.1)])
    (fun s => (lt, words s.2) :: (p, natO l n c) :: (l, words xs) :: M)
    (fun s => s.1 ≤ n ∧ s.2.length = 64 ∧ Dg W64 s.2 ∧ dv W64 (s.2.take (n + s.1)) = X * dv W64 (ys.take s.1)) (fun s => n - s.1) (0, List.replicate 64 0)
    ⟨Nat.zero_le _, by simp, Dg.replicate W64_pos 64, by simp only [List.take_replicate, dv_replicate_zero]; simp⟩ (.cons rfl (.cons rfl (.cons rfl (.cons rfl (.cons rfl (.cons rfl (.cons rfl .nil))))))) rfl ?_
  rintro ⟨i, ts⟩ ⟨hi, htl, htd, hv⟩
  dsimp only at hi htl htd hv ⊢
  have hmm : ∀ {z}, z ∈ [(ly, words ys)] → ∀ {us : List Int}, z ∈ (lt, words us) :: (p, natO l n c) :: (l, words xs) :: M := by
    intro z hz us
    simp only [List.mem_cons, List.not_mem_nil, or_false] at hz
    subst hz
    exact List.mem_cons_of_mem _ hly
  refine WC.seq (WC.seq (WC.region (WL.q (LX.move rfl) rfl (WL.q (LX.move rfl) rfl (WL.q (LX.bin rfl rfl rfl) rfl (WL.nil (thenK_normal ?_)))))))
  refine WC.test rfl (fun hlt => ?_) (fun hge => ?_)
  · refine WC.skip (thenK_normal (WC.seq (WC.block (WC.draw [(0, 0), (0, 1), (0, 2), (0, 3), (0, 4), (0, 5), (0, 6), (0, 7), (0, 8), (0, 9), (0, 10), (0, 11), (0, 12), (0, 13), (1, 14), (2, 15), (0, 16), (2, 17)] [(ly, words ys)] rfl (by kernel_rfl) rfl (by kernel_rfl) (DW.p rfl rfl (fun _ => LX.move rfl) rfl (DW.p rfl rfl (fun _ => LX.move rfl) rfl (DW.p rfl rfl (fun _ => LX.move rfl) rfl (DW.p rfl rfl (fun _ => LX.addI rfl rfl (by omega)) rfl (DW.p rfl rfl (fun _ => LX.move rfl) rfl (DW.p rfl rfl (fun _ => LX.move rfl) rfl (DW.p rfl rfl (fun _ => LX.move rfl) rfl (DW.p rfl rfl (fun _ => LX.move rfl) rfl (DW.p rfl rfl (fun _ => LX.addI rfl rfl (by omega)) rfl ?_)))))))))))))
    refine DW.p rfl rfl (fun _ => LX.eq (LX.sliceLH rfl rfl rfl rfl i (n + i) rfl rfl (by omega) (by omega) (by omega)) (by rw [Nat.zero_add, Nat.add_sub_cancel])) rfl ?_
    refine DW.p rfl rfl (fun _ => LX.move rfl) rfl (DW.p rfl rfl (fun _ => LX.move rfl) rfl (DW.p rfl rfl (fun _ => LX.move rfl) rfl (DW.p rfl rfl (fun _ => LX.idx1 rfl rfl rfl _ rfl (by omega)) rfl (DW.r rfl rfl (LX.loadRow rfl rfl List.mem_cons_self (by omega)) (fun _ hz => hmm hz) rfl (DW.f rfl rfl (EX.call rfl (fun _ => by kernel_rfl) (amv (xs := xs) (by omega) (by omega) htd (by omega) hx.dg (Nat.le_refl _) (dg_gt hy.dg i) hn0 (List.mem_cons_of_mem _ List.mem_cons_self))) rfl ?_)))))
    rintro _ _ ⟨ts1, k, hk, rfl, w1, e1, rfl⟩
    refine ⟨fun _ hz => hmm hz, ?_⟩
    have hl1 := w1.len
    refine DW.p rfl rfl (fun _ => LX.idx1 rfl rfl rfl (n + i) rfl (by omega)) rfl ?_
    refine DW.tput rfl rfl (EX.storeRow rfl rfl rfl (by repeat first | assumption | exact List.mem_cons_self | refine List.mem_cons_of_mem _ ?_) (by omega) (by repeat first | exact Upd.here | apply Upd.there)) (by kernel_rfl) ?_
    refine DW.nil (blockK_normal (thenK_normal (WC.region (WL.q (LX.move rfl) rfl (WL.q (LX.addI rfl rfl (by omega)) rfl (WL.q (LX.assign rfl) rfl (WL.nil ?_)))))))
    refine loopS_next (i + 1, ts1.set (n + i) k) ⟨by omega, by simp; omega, w1.dg.set hk.1 hk.2 _, ?_⟩ (by simp; omega) (.cons rfl (.cons rfl (.cons rfl (.cons rfl (.cons rfl (.cons rfl (.cons rfl .nil))))))) rfl
    dsimp only
    rw [hx.val] at e1
    rw [← Nat.add_assoc, dv_take_set (by omega), take_slice (by omega), w1.lo, Int.pow_add, Int.mul_comm (W64 ^ n), dv_take_gt W64 (xs := ys) (by omega)]
    rw [take_slice (by omega)] at hv
    exact mule_step hv e1
  · refine WC.exit (thenK_exit (loopS_exit (blockK_same (thenK_normal (WC.seq (WC.region (WL.q (LX.move rfl) rfl (WL.q (LX.move rfl) rfl ?_))))))))
    obtain rfl : i = n := by omega
    refine WL.q (LX.build (v := .agg #[.slice (some ⟨lt, 0, none⟩) (2 * i) 64]) rfl (fun _ => by kernel_rfl)) rfl ?_
    
    refine WL.step rfl (EX.box rfl) ?_
    rintro _ _ ⟨pt, rfl, rfl⟩
    refine WL.q (LX.move rfl) rfl ?_
    have hT : NV (2 * i) 64 (X * Y) ts := ⟨htl, by omega, by omega, htd, by rw [show 2 * i = i + i by omega, hv, hy.val]⟩
    refine WL.callR (CS.pm (by repeat first | exact Pm.done | (apply Pm.step; repeat first | exact Rem.here | apply Rem.there)) (nMod (M := (pt, natO lt (2 * i) 64) :: (lt, words ts) :: M) hx.len hx.le hx.le hx.small hx.dg hT List.mem_cons_self (List.mem_cons_of_mem _ List.mem_cons_self) (hM.mono fun _ h => List.mem_cons_of_mem _ (List.mem_cons_of_mem _ h)) hn0 hnorm)) rfl (fun _ => by kernel_rfl) rfl ?_
    rintro _ _ ⟨zs, Z, rfl, hz, hZ, hcg, rfl⟩
    refine WL.q (LX.assign rfl) rfl (WL.nil (thenK_normal (WC.ret (blockK_ret ?_))))
    exact KR.one (.inl rfl) rfl rfl ⟨zs, Z, _, _, rfl, hz, hZ, hcg, rfl⟩

/-- Mul -/
theorem nMul {p l c py ly cy q n : Nat} {X Y V : Int} {xs ys : List Int} (hx : NV n c X xs) (hX : X < V) (hy : NV n cy Y ys) (hpy : (py, natO ly n cy) ∈ (p, natO l n c) :: (l, words xs) :: M) (hly : (ly, words ys) ∈ (p, natO l n c) :: (l, words xs) :: M)
    (hM : ModX M q n V) :
    CS w0 41 [ptr p, ptr py, ptr q] ((p, natO l n c) :: (l, words xs) :: M)
      (fun u M' => ∃ zs Z, u = ptr p ∧ NV n c Z zs ∧ Z < V ∧ Cg V Z (X * Y) ∧ M' = (p, natO l n c) :: (l, words zs) :: M) := by
  rcases hM.kind with ⟨_, pm, lm, ms, h⟩ | ⟨pm, lm, pr, lr, m0, ms, rs, RR, h⟩
  · exact nMulEven hx hy hpy hly h hM.n0 (by have := hM.n8; omega) hM.norm
  · exact nMulOdd hx hX hy hpy hly h
end
end Go.Proofs.YtdnngppofbmpeaaGreatDoor.Bm
namespace Go.Proofs.YtdnngppofbmpeaaGreatDoor.Bm
open Go Go.RowKit

/-- a number in memory: where it lies, its size and words -/
structure Nt where
  p : Nat
  l : Nat
  n : Nat
  xs : List Int
def nm1 (t : Nt) : Mem := [(t.p, natO t.l t.n 32), (t.l, words t.xs)]
def nm (L : List Nt) : Mem := L.flatMap nm1
theorem nm_cons (t : Nt) (L : List Nt) : nm (t :: L) = (t.p, natO t.l t.n 32) :: (t.l, words t.xs) :: nm L := rfl
theorem nm_pick : ∀ (L : List Nt) (i : Nat) (h : i < L.length), (nm L).Perm ((L[i].p, natO L[i].l L[i].n 32) :: (L[i].l, words L[i].xs) :: nm (L.eraseIdx i))
  | [], i, h => by simp at h
  | t :: L, 0, h => List.Perm.refl _
  | t :: L, i + 1, h => by
    have ih := nm_pick L i (by simpa using h)
    simp only [List.getElem_cons_succ, List.eraseIdx_cons_succ, nm_cons]
    refine ((ih.cons _).cons _).trans ?_
    have h1 : ∀ (a b c d : Nat × Obj) (M : Mem), (a :: b :: c :: d :: M).Perm (c :: d :: a :: b :: M) := by
      intro a b c d M
      have : (a :: b :: c :: d :: M) = [a, b] ++ ([c, d] ++ M) := rfl
      rw [this]
      exact (List.perm_append_comm_assoc [a, b] [c, d] M)
    exact h1 _ _ _ _ _
theorem nm_put (L : List Nt) (i : Nat) (h : i < L.length) (t : Nt) : (nm (L.set i t)).Perm ((t.p, natO t.l t.n 32) :: (t.l, words t.xs) :: nm (L.eraseIdx i)) := by
  have := nm_pick (L.set i t) i (by simpa using h)
  simpa [List.getElem_set_self, List.eraseIdx_set_eq] using this
theorem nm_mem {L : List Nt} {t : Nt} (h : t ∈ L) : (t.p, natO t.l t.n 32) ∈ nm L ∧ (t.l, words t.xs) ∈ nm L :=
  ⟨List.mem_flatMap.2 ⟨t, h, List.mem_cons_self⟩, List.mem_flatMap.2 ⟨t, h, List.mem_cons_of_mem _ List.mem_cons_self⟩⟩
theorem nm_erase {L : List Nt} {i j : Nat} (hi : i < L.length) (hj : j < L.length) (hne : j ≠ i) : L[j] ∈ L.eraseIdx i := by
  rw [List.mem_eraseIdx_iff_getElem]
  exact ⟨j, hj, hne, rfl⟩

theorem natpow_shift {E s : Nat} : E / 2 ^ s = 2 * (E / 2 ^ (s + 1)) + E / 2 ^ s % 2 := by
  have : E / 2 ^ (s + 1) = E / 2 ^ s / 2 := by rw [Nat.div_div_eq_div_mul, ← Nat.pow_succ]
  omega
theorem exp_sq {X U O V R : Int} {n a : Nat} (ho : V % 2 = 1) (hR : R = W64 ^ n) (hO : Cg V O (X ^ a * R)) (hU : Cg V (U * R) (O * O)) : Cg V U (X ^ (2 * a) * R) := by
  subst hR
  refine Cg.cancel (n := n) ho (hU.trans ((hO.mul hO).trans (.of_eq ?_)))
  rw [show 2 * a = a + a by omega, Int.pow_add]; grind
theorem exp_mul {X U O T V R : Int} {n a b : Nat} (ho : V % 2 = 1) (hR : R = W64 ^ n) (hO : Cg V O (X ^ a * R)) (hT : Cg V T (X ^ b * R)) (hU : Cg V (U * R) (O * T)) : Cg V U (X ^ (a + b) * R) := by
  subst hR
  refine Cg.cancel (n := n) ho (hU.trans ((hO.mul hT).trans (.of_eq ?_)))
  rw [Int.pow_add]; grind

section
variable {w0 : World} {M : Mem}
/-- ExpShortVarTime; out and x are apart -/
theorem nExpShort {p l a c px lx cx q pm lm pr lr n E : Nat} {m0 X V RR : Int} {us xs ms rs : List Int} (hl : us.length = c) (ha : a ≤ c) (hnc : n ≤ c) (hc : c ≤ 1000) (hd : Dg W64 us) (hx : NV n cx X xs) (hX : X < V) (hpx : (px, natO lx n cx) ∈ M) (hlx : (lx, words xs) ∈ M)
    (hM : MdX M q pm lm pr lr n m0 ms rs V RR) (hE1 : 1 ≤ E) (hE2 : E < 18446744073709551616) :
    CS w0 43 [ptr p, ptr px, .int .u64 E, ptr q] ((p, natO l a c) :: (l, words us) :: M)
      (fun u M' => ∃ zs Z, u = ptr p ∧ NV n c Z zs ∧ Z < V ∧ Cg V Z (X ^ E) ∧ M' = (p, natO l n c) :: (l, words zs) :: M) := by
  refine CS.post (R := fun u M' => ∃ zs Z a b, u = ptr p ∧ NV n c Z zs ∧ Z < V ∧ Cg V Z (X ^ E) ∧ M' = (p, natO l n c) :: (l, words zs) :: a :: b :: M) ?_
    (fun v M' ⟨zs, Z, a, b, h1, h2, h3, h4, h5⟩ => ⟨(p, natO l n c) :: (l, words zs) :: M, h5 ▸ .cons_cons _ (.cons_cons _ (.cons _ (.cons _ (List.Sublist.refl _)))), zs, Z, h1, h2, h3, h4, rfl⟩)
  have hmq := hM.o.r.hq
  have h16 := hM.o.n16
  have hodd := hM.o.odd
  refine CS.of Tryz.func43 Tryz.ntmps43 rfl rfl (WC.seq (WC.region (WL.q (LX.assign rfl) rfl (WL.nil (thenK_normal (WC.seq (WC.seq (WC.region (WL.q (LX.move rfl) rfl (WL.q (LX.nilCheck rfl) rfl (WL.q (LX.field0 rfl rfl) rfl ?_)))))))))))
  refine WL.q (LX.load rfl rfl (by repeat first | assumption | exact List.mem_cons_self | refine List.mem_cons_of_mem _ ?_) rfl) rfl ?_
  refine WL.q (LX.not rfl) rfl (WL.nil (thenK_normal (WC.no rfl (WC.skip (thenK_normal (WC.seq (WC.region (WL.callR newNat rfl (fun _ => by kernel_rfl) rfl ?_))))))))
  rintro _ _ ⟨pt, lt, rfl, rfl⟩
  refine WL.q (LX.move rfl) rfl ?_
  refine WL.callR (nset (by simp) (by omega) (by omega) (by omega) (Dg.replicate W64_pos 32) hx (by repeat first | assumption | exact List.mem_cons_self | refine List.mem_cons_of_mem _ ?_) (by repeat first | assumption | exact List.mem_cons_self | refine List.mem_cons_of_mem _ ?_)) rfl (fun _ => by kernel_rfl) rfl ?_
  rintro _ _ ⟨ts, rfl, ht, rfl⟩
  refine WL.q (LX.move rfl) rfl (WL.callR (mrep ht hX (hM.mono fun _ h => List.mem_cons_of_mem _ (List.mem_cons_of_mem _ h))) rfl (fun _ => by kernel_rfl) rfl ?_)
  rintro _ _ ⟨ys, Y, rfl, hy, hY, hYc, rfl⟩
  refine WL.q (LX.assign rfl) rfl (WL.nil (thenK_normal (WC.seq (WC.region (WL.q (LX.move rfl) rfl (WL.q (LX.move rfl) rfl ?_))))))
  refine WL.callR (CS.pm (by repeat first | exact Pm.done | (apply Pm.step; repeat first | exact Rem.here | apply Rem.there)) (nset (M := (pt, natO lt n 32) :: (lt, words ys) :: M) hl ha hnc hc hd hy (by repeat first | assumption | exact List.mem_cons_self | refine List.mem_cons_of_mem _ ?_) (by repeat first | assumption | exact List.mem_cons_self | refine List.mem_cons_of_mem _ ?_))) rfl (fun _ => by kernel_rfl) rfl ?_
  rintro _ _ ⟨os, rfl, ho, rfl⟩
  refine WL.nil (thenK_normal (WC.seq (WC.seq (WC.region (WL.q (LX.move rfl) rfl (WL.callR (bitsLen (x := E) (by unfold wd W64; omega)) rfl (fun _ => by kernel_rfl) rfl ?_))))))
  rintro _ _ ⟨⟨k, rfl, hk, hb⟩, rfl⟩
  have hk1 : 1 ≤ k := by
    rcases Nat.eq_zero_or_pos k with h | h
    · subst h; have := hb.of0; omega
    · exact h
  refine WL.q (LX.subI rfl rfl (by omega)) rfl (WL.q (LX.eq (LX.addI rfl rfl (by omega)) (show _ = Value.int .i64 ((65 - k : Nat) : Int) by congr 1; omega)) rfl (WL.q (LX.assign rfl) rfl (WL.nil (thenK_normal (WC.block ?_)))))
  have hstart : E / 2 ^ (k - 1) = 1 := by
    have h1 := hb.lt
    have h2 : (2 : Int) ^ (k - 1) ≤ E := by rcases hb.ge with h | h; omega; exact h
    have h3 := pow2_succ (k - 1)
    rw [show k - 1 + 1 = k by omega] at h3
    have h4 : (2 : Int) ^ (k - 1) = ((2 ^ (k - 1) : Nat) : Int) := by simp
    rw [h4] at h2 h3
    have hp : 0 < 2 ^ (k - 1) := Nat.two_pow_pos _
    apply Nat.div_eq_of_lt_le <;> omega
  have hMM : ∀ {zs : List Int}, MdO ((pt, natO lt n 32) :: (lt, words ys) :: M) q pm lm n 32 m0 (ptr pr) ms V := hM.o.mono fun _ h => List.mem_cons_of_mem _ (List.mem_cons_of_mem _ h)
  refine WC.loopS (fun s : Nat × List Int × Int => [(0, ptr p), (2, .int .u64 E), (3, ptr q), (9, ptr pt), (10, .int .i64 s.1)]) (fun s => (p, natO l n c) :: (l, words s.2.1) :: (pt, natO lt n 32) :: (lt, words ys) :: M)
    (fun s => s.1 ≤ 64 ∧ NV n c s.2.2 s.2.1 ∧ s.2.2 < V ∧ Cg V s.2.2 (X ^ (E / 2 ^ (64 - s.1)) * W64 ^ n)) (fun s => 64 - s.1) (65 - k, os, Y)
    ⟨by simp only []; omega, ho, hY, ?_⟩ (.cons rfl (.cons rfl (.cons rfl (.cons rfl (.cons rfl .nil))))) rfl ?_
  · dsimp only
    rw [show 64 - (65 - k) = k - 1 by omega, hstart, Int.pow_succ, Int.pow_zero, Int.one_mul]
    exact hYc
  rintro ⟨i, os, O⟩ ⟨hi, ho, hO, hOc⟩
  dsimp only at hi ho hO hOc ⊢
  have hshr : i < 64 → (E : Int) / 2 ^ (min ((64 : Int) - i - 1).toNat IntKind.u64.bits) = ((E / 2 ^ (63 - i) : Nat) : Int) := by
    intro h
    rw [show (64 : Int) - i - 1 = ((63 - i : Nat) : Int) by omega, shrN (by omega)]
  refine WC.seq (WC.seq (WC.region (WL.q (LX.move rfl) rfl (WL.q (LX.bin rfl rfl rfl) rfl (WL.nil (thenK_normal ?_))))))
  refine WC.test rfl (fun hlt => ?_) (fun hge => ?_)
  · refine WC.skip (thenK_normal (WC.seq (WC.block (WC.seq (WC.region (WL.q (LX.move rfl) rfl (WL.q (LX.move rfl) rfl (WL.q (LX.move rfl) rfl (WL.q (LX.move rfl) rfl (WL.callR (mmulC ho.len ho.le ho.le ho.small ho.dg ho ho List.mem_cons_self (List.mem_cons_of_mem _ List.mem_cons_self) List.mem_cons_self (List.mem_cons_of_mem _ List.mem_cons_self) (hMM (zs := os)) hO) rfl (fun _ => by kernel_rfl) rfl ?_))))))))))
    rintro _ _ ⟨us, U, rfl, hu, hU, hUc, rfl⟩
    have hsq := exp_sq hodd rfl hOc hUc
    have hE := natpow_shift (E := E) (s := 63 - i)
    rw [show 63 - i + 1 = 64 - i by omega] at hE
    refine WL.nil (thenK_normal (WC.seq (WC.region (WL.q (LX.move rfl) rfl (WL.q (LX.move rfl) rfl (WL.q (LX.subI rfl rfl (by omega)) rfl (WL.q (LX.subI rfl rfl (by omega)) rfl (WL.q (LX.eq (LX.shr rfl rfl (by omega) (by omega)) (by rw [hshr (by omega)])) rfl ?_))))))))
    refine WL.q (LX.eq (LX.bin rfl rfl rfl) (by rw [and1N (Nat.lt_of_le_of_lt (Nat.div_le_self _ _) (by omega))])) rfl ?_
    refine WL.q (LX.assign rfl) rfl (WL.nil (thenK_normal (WC.seq (WC.region (WL.q (LX.move rfl) rfl (WL.q (LX.bin rfl rfl rfl) rfl (WL.nil (thenK_normal ?_))))))))
    refine WC.testN rfl (fun hbit => ?_) (fun hbit => ?_)
    · refine WC.region (WL.q (LX.move rfl) rfl (WL.q (LX.move rfl) rfl (WL.q (LX.move rfl) rfl (WL.q (LX.move rfl) rfl ?_))))
      refine WL.callR (mmulC hu.len hu.le hu.le hu.small hu.dg hu hy List.mem_cons_self (List.mem_cons_of_mem _ List.mem_cons_self) (by repeat first | assumption | exact List.mem_cons_self | refine List.mem_cons_of_mem _ ?_) (by repeat first | assumption | exact List.mem_cons_self | refine List.mem_cons_of_mem _ ?_) (hMM (zs := os)) hU) rfl (fun _ => by kernel_rfl) rfl ?_
      rintro _ _ ⟨vs, W, rfl, hv, hW, hWc, rfl⟩
      refine WL.nil (blockK_normal (thenK_normal (WC.region (WL.q (LX.move rfl) rfl (WL.q (LX.addI rfl rfl (by omega)) rfl (WL.q (LX.assign rfl) rfl (WL.nil ?_)))))))
      refine loopS_next (i + 1, vs, W) ⟨by omega, hv, hW, ?_⟩ (by simp; omega) (.cons rfl (.cons rfl (.cons rfl (.cons rfl (.cons rfl .nil))))) rfl
      have hb1 : E / 2 ^ (63 - i) % 2 = 1 := by omega
      have := exp_mul hodd rfl hsq (b := 1) (hYc.trans (.of_eq (by rw [Int.pow_succ, Int.pow_zero, Int.one_mul]))) hWc
      dsimp only
      rw [show 64 - (i + 1) = 63 - i by omega, hE, hb1]
      exact this
    · refine WC.skip (blockK_normal (thenK_normal (WC.region (WL.q (LX.move rfl) rfl (WL.q (LX.addI rfl rfl (by omega)) rfl (WL.q (LX.assign rfl) rfl (WL.nil ?_)))))))
      refine loopS_next (i + 1, us, U) ⟨by omega, hu, hU, ?_⟩ (by simp; omega) (.cons rfl (.cons rfl (.cons rfl (.cons rfl (.cons rfl .nil))))) rfl
      have hb1 : E / 2 ^ (63 - i) % 2 = 0 := by omega
      dsimp only
      rw [show 64 - (i + 1) = 63 - i by omega, hE, hb1, Nat.add_zero]
      exact hsq
  · refine WC.exit (thenK_exit (loopS_exit (blockK_same (thenK_normal (WC.seq (WC.region (WL.q (LX.move rfl) rfl (WL.q (LX.move rfl) rfl ?_))))))))
    obtain rfl : i = 64 := by omega
    refine WL.callR (mred ho hO (hMM (zs := os))) rfl (fun _ => by kernel_rfl) rfl ?_
    rintro _ _ ⟨zs, Z, rfl, hz, hZ, hZc, rfl⟩
    refine WL.q (LX.assign rfl) rfl (WL.nil (thenK_normal (WC.ret ?_)))
    refine KR.one (.inl rfl) rfl rfl ⟨zs, Z, _, _, rfl, hz, hZ, ?_, rfl⟩
    rw [Nat.sub_self, Nat.pow_zero, Nat.div_one] at hOc
    exact Cg.cancel (n := n) hodd (hZc.trans hOc)
end
end Go.Proofs.YtdnngppofbmpeaaGreatDoor.Bm
namespace Go.Proofs.YtdnngppofbmpeaaGreatDoor.Bm
open Go Go.RowKit

theorem Sub.refl {E : Env} : Sub E E := fun _ _ h => h
/-- a loop that is left in its first round -/
theorem WC.loop0 {n : Nat} {w0 : World} {K : Exit → Env → Mem → Prop} {E : Env} {M : Mem} {c : Code} (h : WC n w0 c (Bm.loopS (fun _ : Unit => E) (fun _ => M) (fun _ => True) (fun _ => 0) () K) E M) : WC n w0 (.loop c) K E M :=
  WC.loopS (fun _ : Unit => E) (fun _ => M) (fun _ => True) (fun _ => 0) () trivial Sub.refl rfl fun _ _ => h
theorem Obj.cell_list {cs : List Value} {T : TypeId} {fr : Nat × Nat} {i : Nat} {v : Value} (h : cs[i]? = some v) : Obj.cell (.cells cs.toArray T fr) i = some v := by
  simpa [Obj.cell, lAt_eq] using h
theorem Own.more {G : Value → Prop} {T : TypeId} {v : Value} {l : List Value} {M0 M1 : Mem} (N : Mem) (h : Own G T v l M0 M1) : ∃ M', Own G T v l (N ++ M0) M' ∧ M'.Perm (N ++ M1) := by
  rcases h with ⟨rfl, rfl, rfl⟩ | ⟨b, c, rfl, h1, h2, rfl, h3⟩
  · exact ⟨_, .inl ⟨rfl, rfl, rfl⟩, List.Perm.refl _⟩
  · exact ⟨_, .inr ⟨b, c, rfl, h1, h2, rfl, h3⟩, List.perm_middle.symm⟩
theorem Own.sub {G : Value → Prop} {T : TypeId} {v : Value} {l : List Value} {M0 M1 : Mem} (h : Own G T v l M0 M1) : M0.Sublist M1 := by
  rcases h with ⟨rfl, rfl, rfl⟩ | ⟨b, c, rfl, h1, h2, rfl, h3⟩
  · exact List.Sublist.refl _
  · exact .cons _ (List.Sublist.refl _)

/-- types of many cells -/
def sz : Nat → Option Nat
  | 128 => some 15
  | 41 => some 7
  | 48 => some 2
  | 31 => some 3
  | _ => none
theorem sz_ok {t k : Nat} (h : sz t = some k) (w : World) : (isAgg t).run P w = .ok true w ∧ (sizeOf t).run P w = .ok k w := by
  unfold sz at h
  split at h <;> first | (cases h; exact ⟨by kernel_rfl, by kernel_rfl⟩) | cases h

section
variable {n : Nat} {w0 : World} {E : Env} {M M' : Mem} {dst : Option Nat} {ty : TypeId} {pos : String} {aft : Array Edge} {g : Option (Nat × Bool)}

/-- a store of many cells -/
theorem EX.storeA {t k : Nat} {x y : Operand} {b o : Nat} {c vs : List Value} {T : TypeId} {v : Value} (hx : ev E x = some (.pointer (some ⟨b, o, none⟩))) (hy : ev E y = some v) (ht : sz t = some k)
    (hv : v.cells = vs.toArray) (hk : vs.length = k) (h1 : ∀ u ∈ vs, u.oneCell' = true) (hm : (b, .cells c.toArray T (0, 0)) ∈ M) (hi : o + k ≤ c.length) (hu : Upd M b (.cells (putL c o vs).toArray T (0, 0)) M') :
    EX n w0 ⟨dst, .store t x y, ty, pos, aft, g⟩ E M (fun u M'' => u = undef ∧ M'' = M') := by
  refine ⟨fun a w ha hw K Q hq => ?_⟩
  have e1 := ha.eval hx
  have e2 := ha.eval hy
  obtain ⟨w', h4, h5, h6⟩ := storeCells_run (b := b) (o := o) (T := T) vs 0 c w (hw.has _ hm).2 (by omega) h1
  have : (execOp a.eval ⟨dst, .store t x y, ty, pos, aft, g⟩).run P w = .ok .skip w' := by
    simp only [execOp, e1, e2, Instr.storeAt, Instr.sureAddr, storeVar, hv]
    simp [sz_ok ht w, hk, h4]
  unfold Oper.wp
  rw [this, Oper.upon_skip]
  exact hq undef M' _ ⟨rfl, rfl⟩ (hw.but hm hu h6 (by rw [h5, Nat.add_zero]))

/-- a load of many cells -/
theorem LX.loadA {t k : Nat} {x : Operand} {b o T : Nat} {c : List Value} {fr : Nat × Nat} (hx : ev E x = some (.pointer (some ⟨b, o, none⟩))) (ht : sz t = some k) (hm : ∀ w, HW w0 M w → w.heap[b]? = some (.cells c.toArray T fr)) (hi : o + k ≤ c.length) :
    LX n w0 ⟨dst, .load t x, ty, pos, aft, g⟩ E M (.agg (sliceL c o k).toArray) := by
  refine ⟨fun a w ha hw => ?_⟩
  have e1 := ha.eval hx
  have h3 := loadCells_run (o := o) (hm w hw) k 0 #[] (by simpa using hi)
  simp only [execOp, e1, Instr.loadAt, Instr.sureAddr, loadVar]
  simp [sz_ok ht w, loadCells, h3, sliceL]

/-- an operation on one of the numbers of a list -/
theorem CS.nm {f : FuncId} {args : List Value} {L : List Nt} {R : Mem} {i n' : Nat} (h : i < L.length) {Q : Value → List Int → Prop}
    (hc : CS w0 f args ((L[i].p, natO L[i].l L[i].n 32) :: (L[i].l, words L[i].xs) :: (nm (L.eraseIdx i) ++ R)) (fun u M' => ∃ zs, Q u zs ∧ M' = (L[i].p, natO L[i].l n' 32) :: (L[i].l, words zs) :: (nm (L.eraseIdx i) ++ R))) :
    CS w0 f args (nm L ++ R) (fun u M' => ∃ zs, Q u zs ∧ M' = nm (L.set i ⟨L[i].p, L[i].l, n', zs⟩) ++ R) := by
  refine CS.perm (CS.pm ⟨?_⟩ hc) ?_
  · exact ((nm_pick L i h).append_right R).symm
  · rintro v M' ⟨zs, hq, rfl⟩
    refine ⟨_, ?_, zs, hq, rfl⟩
    exact (nm_put L i h ⟨L[i].p, L[i].l, n', zs⟩).append_right R
end
end Go.Proofs.YtdnngppofbmpeaaGreatDoor.Bm
