/- Proved here: what extendedGCD does with numbers above 0, not both even. Conditions: none but those that each theorem states. -/
import Derived.Test.YtdnngppofbmpeaaGreatDoorG14
namespace Go.Proofs.YtdnngppofbmpeaaGreatDoor.Bm
open Go Go.RowKit

/-- the state of the loop, as numbers -/
structure GI (a m u v A B C D : Int) : Prop where
  u0 : 0 < u
  ua : u ≤ a
  v0 : 0 ≤ v
  vm : v ≤ m
  odd : u % 2 = 1 ∨ v % 2 = 1
  cd : Cd a m u v
  md : a < m → GM a m u v A B C D

/-- the six numbers: their words and values -/
structure Gs where
  us : List Int
  As : List Int
  vs : List Int
  Bs : List Int
  Cs : List Int
  Ds : List Int
  u : Int
  A : Int
  v : Int
  B : Int
  C : Int
  D : Int
def Gs.nv (na nm' : Nat) (s : Gs) : Prop := NV (max na nm') 32 s.u s.us ∧ NV nm' 32 s.A s.As ∧ NV (max na nm') 32 s.v s.vs ∧ NV na 32 s.B s.Bs ∧ NV nm' 32 s.C s.Cs ∧ NV na 32 s.D s.Ds

section
variable {w0 : World} {M : Mem}
theorem extGCD {pa la na ca pm lm nm' cm : Nat} {a m : Int} {xa xm : List Int} (hA : NV na ca a xa) (hM : NV nm' cm m xm) (ha0 : 0 < a) (hm0 : 0 < m) (ho : a % 2 = 1 ∨ m % 2 = 1) (hna : na ≤ 31) (hnm : nm' ≤ 31)
    (hpa : (pa, natO la na ca) ∈ M) (hla : (la, words xa) ∈ M) (hpm : (pm, natO lm nm' cm) ∈ M) (hlm : (lm, words xm) ∈ M) :
    CS w0 99 [ptr pa, ptr pm] M (fun u M' => ∃ pu lu us pA lA As g A N, u = .tuple #[ptr pu, ptr pA, .nilIface] ∧ M' = (pu, natO lu (max na nm') 32) :: (lu, words us) :: (pA, natO lA nm' 32) :: (lA, words As) :: (N ++ M) ∧
      NV (max na nm') 32 g us ∧ NV nm' 32 A As ∧ 0 < g ∧ g ≤ a ∧ Cd a m g 0 ∧ (a < m → ∃ B, g = A * a - B * m ∧ 0 ≤ A ∧ A < m)) := by
  have hna0 : 0 < na := by
    rcases Nat.eq_zero_or_pos na with h | h
    · subst h; have := hA.lt; simp at this; omega
    · exact h
  have hnm0 : 0 < nm' := by
    rcases Nat.eq_zero_or_pos nm' with h | h
    · subst h; have := hM.lt; simp at this; omega
    · exact h
  have hr32 : Dg W64 (List.replicate 32 0) := Dg.replicate W64_pos 32
  refine CS.of Tryz.func99 Tryz.ntmps99 rfl rfl (WC.seq (WC.region (WL.q (LX.assign rfl) rfl (WL.q (LX.assign rfl) rfl (WL.q (LX.assign rfl) rfl (WL.nil (thenK_normal (WC.seq (WC.seq (WC.region (WL.q (LX.move rfl) rfl (WL.call (isZeroN hA hpa hla) rfl (fun _ => by kernel_rfl) rfl ?_))))))))))))
  rw [b1_not (show ¬ a = 0 by omega)]
  refine WL.q (LX.bin rfl rfl rfl) rfl (WL.q (LX.move rfl) rfl (WL.yes rfl rfl (WL.q (LX.move rfl) rfl (WL.yes rfl rfl (WL.callR (isZeroN hM hpm hlm) rfl (fun _ => by kernel_rfl) rfl ?_)))))
  rintro _ M1 ⟨rfl, h1⟩
  obtain rfl : M = M1 := h1.symm
  rw [b1_not (show ¬ m = 0 by omega)]
  refine WL.yes rfl rfl (WL.q (LX.bin rfl rfl rfl) rfl (WL.q (LX.pickF rfl rfl) rfl (WL.nil (thenK_normal (WC.no rfl (WC.skip (thenK_normal ?_)))))))
  refine WC.cut (fun E' M' => Sub [(0, ptr pa), (1, ptr pm)] E' ∧ M = M') ?_ ?_
  · refine WC.seq (WC.region (WL.q (LX.move rfl) rfl ?_))
    rcases Int.emod_two_eq a with h2 | h2
    · refine WL.call (isOddN hA hpa hla) rfl (fun _ => by kernel_rfl) rfl ?_
      rw [h2]
      refine WL.q (LX.bin rfl rfl rfl) rfl (WL.q (LX.move rfl) rfl (WL.yes rfl rfl (WL.q (LX.move rfl) rfl (WL.yes rfl rfl (WL.callR (isOddN hM hpm hlm) rfl (fun _ => by kernel_rfl) rfl ?_)))))
      rintro _ M1 ⟨rfl, h1⟩
      obtain rfl : M = M1 := h1.symm
      rw [show m % 2 = 1 by omega]
      refine WL.yes rfl rfl (WL.q (LX.bin rfl rfl rfl) rfl (WL.q (LX.pickT rfl rfl) rfl (WL.nil (thenK_normal (WC.no rfl (WC.skip ?_))))))
      exact ⟨(.cons rfl (.cons rfl .nil)), rfl⟩
    · skip
      refine WL.call (isOddN hA hpa hla) rfl (fun _ => by kernel_rfl) rfl ?_
      rw [h2]
      refine WL.q (LX.bin rfl rfl rfl) rfl (WL.q (LX.move rfl) rfl (WL.no rfl rfl (by decide) rfl (WL.no rfl rfl (by decide) rfl (WL.no rfl rfl (by decide) rfl (WL.q (LX.pickF rfl rfl) rfl (WL.nil (thenK_normal (WC.no rfl (WC.skip ?_)))))))))
      exact ⟨(.cons rfl (.cons rfl .nil)), rfl⟩
  rintro E' M' ⟨hE, rfl⟩
  refine WC.cutE _ hE ?_
  have hmm0 : ∀ z ∈ [(pa, natO la na ca), (pm, natO lm nm' cm)], z ∈ M := by
    intro z hz
    simp only [List.mem_cons, List.not_mem_nil, or_false] at hz
    rcases hz with rfl | rfl
    · exact hpa
    · exact hpm
  refine WC.seq (WC.draw [(0, 0), (0, 1), (0, 2), (0, 5), (0, 6), (0, 7), (1, 3), (0, 4), (1, 8), (0, 9), (0, 10), (0, 11)] [(pa, natO la na ca), (pm, natO lm nm' cm)] rfl (by kernel_rfl) rfl (by kernel_rfl) (DW.p rfl rfl (fun _ => LX.move rfl) rfl (DW.p rfl rfl (fun _ => LX.nilCheck rfl) rfl (DW.p rfl rfl (fun _ => LX.field0 rfl rfl) rfl (DW.p rfl rfl (fun _ => LX.move rfl) rfl (DW.p rfl rfl (fun _ => LX.nilCheck rfl) rfl (DW.p rfl rfl (fun _ => LX.field0 rfl rfl) rfl ?_)))))))
  refine DW.r rfl rfl (LX.load rfl rfl (by repeat first | assumption | exact List.mem_cons_self | refine List.mem_cons_of_mem _ ?_) rfl) (fun z hz => by repeat first | exact hmm0 z hz | refine List.mem_cons_of_mem _ ?_) rfl ?_
  refine DW.p rfl rfl (fun _ => LX.len rfl rfl rfl) rfl ?_
  refine DW.r rfl rfl (LX.load rfl rfl (by repeat first | assumption | exact List.mem_cons_self | refine List.mem_cons_of_mem _ ?_) rfl) (fun z hz => by repeat first | exact hmm0 z hz | refine List.mem_cons_of_mem _ ?_) rfl ?_
  refine DW.p rfl rfl (fun _ => LX.len rfl rfl rfl) rfl (DW.p rfl rfl (fun _ => LX.eq (LX.max rfl rfl) (by rw [max_cast na nm'])) rfl ?_)
  refine DW.p rfl rfl (fun _ => LX.assign rfl) rfl (DW.nil (thenK_normal (WC.seq (WC.region (WL.callR newNat rfl (fun _ => by kernel_rfl) rfl ?_)))))
  rintro _ _ ⟨pu, lu, rfl, rfl⟩
  refine WL.q (LX.move rfl) rfl ?_
  refine WL.callR (nset (by simp) (by omega) (by omega) (by omega) hr32 hA (by repeat first | assumption | exact List.mem_cons_self | refine List.mem_cons_of_mem _ ?_) (by repeat first | assumption | exact List.mem_cons_self | refine List.mem_cons_of_mem _ ?_)) rfl (fun _ => by kernel_rfl) rfl ?_
  rintro _ _ ⟨us, rfl, hu, rfl⟩
  refine WL.q (LX.move rfl) rfl (WL.callR (nexpand hu (Nat.le_max_left _ _) (by omega) (by omega)) rfl (fun _ => by kernel_rfl) rfl ?_)
  rintro _ _ ⟨us, rfl, hu, rfl⟩
  refine WL.q (LX.assign rfl) rfl (WL.nil (thenK_normal (WC.seq (WC.region (WL.callR newNat rfl (fun _ => by kernel_rfl) rfl ?_)))))
  rintro _ _ ⟨pv, lv, rfl, rfl⟩
  refine WL.q (LX.move rfl) rfl ?_
  refine WL.callR (nset (by simp) (by omega) (by omega) (by omega) hr32 hM (by repeat first | assumption | exact List.mem_cons_self | refine List.mem_cons_of_mem _ ?_) (by repeat first | assumption | exact List.mem_cons_self | refine List.mem_cons_of_mem _ ?_)) rfl (fun _ => by kernel_rfl) rfl ?_
  rintro _ _ ⟨vs, rfl, hv, rfl⟩
  refine WL.q (LX.move rfl) rfl (WL.callR (nexpand hv (Nat.le_max_right _ _) (by omega) (by omega)) rfl (fun _ => by kernel_rfl) rfl ?_)
  rintro _ _ ⟨vs, rfl, hv, rfl⟩
  refine WL.q (LX.assign rfl) rfl (WL.nil (thenK_normal (WC.seq (WC.draw [(0, 1), (0, 2), (0, 3), (1, 4), (0, 5), (2, 0), (2, 6), (0, 7)] [(pa, natO la na ca), (pm, natO lm nm' cm)] rfl (by kernel_rfl) rfl (by kernel_rfl) (DW.p rfl rfl (fun _ => LX.move rfl) rfl (DW.p rfl rfl (fun _ => LX.nilCheck rfl) rfl (DW.p rfl rfl (fun _ => LX.field0 rfl rfl) rfl ?_)))))))
  refine DW.r rfl rfl (LX.load rfl rfl (by repeat first | assumption | exact List.mem_cons_self | refine List.mem_cons_of_mem _ ?_) rfl) (fun z hz => by repeat first | exact hmm0 z hz | refine List.mem_cons_of_mem _ ?_) rfl ?_
  refine DW.p rfl rfl (fun _ => LX.len rfl rfl rfl) rfl (DW.f rfl rfl (EX.call rfl (fun _ => by kernel_rfl) newNat) rfl ?_)
  rintro _ _ ⟨pA, lA, rfl, rfl⟩
  refine ⟨(fun z hz => by repeat first | exact hmm0 z hz | refine List.mem_cons_of_mem _ ?_), ?_⟩
  
  refine DW.f rfl rfl (EX.call rfl (fun _ => by kernel_rfl) (nreset' (n := nm') (by simp) (by omega) (by omega) (by omega) hr32)) rfl ?_
  rintro _ _ ⟨As, rfl, hAs, rfl⟩
  refine ⟨(fun z hz => by repeat first | exact hmm0 z hz | refine List.mem_cons_of_mem _ ?_), ?_⟩
  have hAl := hAs.len
  refine DW.p rfl rfl (fun _ => LX.assign rfl) rfl (DW.nil (thenK_normal (WC.seq (WC.region (WL.q (LX.move rfl) rfl (WL.q (LX.nilCheck rfl) rfl (WL.q (LX.field0 rfl rfl) rfl ?_)))))))
  refine WL.q (LX.load rfl rfl (by repeat first | assumption | exact List.mem_cons_self | refine List.mem_cons_of_mem _ ?_) rfl) rfl ?_
  refine WL.q (LX.idx1 rfl rfl rfl 0 rfl (by omega)) rfl ?_
  refine WL.put (EX.storeRow rfl rfl rfl (by repeat first | assumption | exact List.mem_cons_self | refine List.mem_cons_of_mem _ ?_) (by omega) (by repeat first | exact Upd.here | apply Upd.there)) ?_
  replace hAs := hAs.one (by omega) wd_one
  generalize As.set 0 1 = As' at hAs ⊢
  refine WL.nil (thenK_normal (WC.seq (WC.draw [(0, 1), (0, 2), (0, 3), (1, 4), (0, 5), (2, 0), (2, 6), (0, 7)] [(pa, natO la na ca), (pm, natO lm nm' cm)] rfl (by kernel_rfl) rfl (by kernel_rfl) (DW.p rfl rfl (fun _ => LX.move rfl) rfl (DW.p rfl rfl (fun _ => LX.nilCheck rfl) rfl (DW.p rfl rfl (fun _ => LX.field0 rfl rfl) rfl ?_))))))
  refine DW.r rfl rfl (LX.load rfl rfl (by repeat first | assumption | exact List.mem_cons_self | refine List.mem_cons_of_mem _ ?_) rfl) (fun z hz => by repeat first | exact hmm0 z hz | refine List.mem_cons_of_mem _ ?_) rfl ?_
  refine DW.p rfl rfl (fun _ => LX.len rfl rfl rfl) rfl (DW.f rfl rfl (EX.call rfl (fun _ => by kernel_rfl) newNat) rfl ?_)
  rintro _ _ ⟨pB, lB, rfl, rfl⟩
  refine ⟨(fun z hz => by repeat first | exact hmm0 z hz | refine List.mem_cons_of_mem _ ?_), ?_⟩
  
  refine DW.f rfl rfl (EX.call rfl (fun _ => by kernel_rfl) (nreset' (n := na) (by simp) (by omega) (by omega) (by omega) hr32)) rfl ?_
  rintro _ _ ⟨Bs, rfl, hBs, rfl⟩
  refine ⟨(fun z hz => by repeat first | exact hmm0 z hz | refine List.mem_cons_of_mem _ ?_), ?_⟩
  have hBl := hBs.len
  refine DW.p rfl rfl (fun _ => LX.assign rfl) rfl (DW.nil (thenK_normal (WC.seq (WC.draw [(0, 1), (0, 2), (0, 3), (1, 4), (0, 5), (2, 0), (2, 6), (0, 7)] [(pa, natO la na ca), (pm, natO lm nm' cm)] rfl (by kernel_rfl) rfl (by kernel_rfl) (DW.p rfl rfl (fun _ => LX.move rfl) rfl (DW.p rfl rfl (fun _ => LX.nilCheck rfl) rfl (DW.p rfl rfl (fun _ => LX.field0 rfl rfl) rfl ?_)))))))
  refine DW.r rfl rfl (LX.load rfl rfl (by repeat first | assumption | exact List.mem_cons_self | refine List.mem_cons_of_mem _ ?_) rfl) (fun z hz => by repeat first | exact hmm0 z hz | refine List.mem_cons_of_mem _ ?_) rfl ?_
  refine DW.p rfl rfl (fun _ => LX.len rfl rfl rfl) rfl (DW.f rfl rfl (EX.call rfl (fun _ => by kernel_rfl) newNat) rfl ?_)
  rintro _ _ ⟨pC, lC, rfl, rfl⟩
  refine ⟨(fun z hz => by repeat first | exact hmm0 z hz | refine List.mem_cons_of_mem _ ?_), ?_⟩
  
  refine DW.f rfl rfl (EX.call rfl (fun _ => by kernel_rfl) (nreset' (n := nm') (by simp) (by omega) (by omega) (by omega) hr32)) rfl ?_
  rintro _ _ ⟨Cs, rfl, hCs, rfl⟩
  refine ⟨(fun z hz => by repeat first | exact hmm0 z hz | refine List.mem_cons_of_mem _ ?_), ?_⟩
  have hCl := hCs.len
  refine DW.p rfl rfl (fun _ => LX.assign rfl) rfl (DW.nil (thenK_normal (WC.seq (WC.draw [(0, 1), (0, 2), (0, 3), (1, 4), (0, 5), (2, 0), (2, 6), (0, 7)] [(pa, natO la na ca), (pm, natO lm nm' cm)] rfl (by kernel_rfl) rfl (by kernel_rfl) (DW.p rfl rfl (fun _ => LX.move rfl) rfl (DW.p rfl rfl (fun _ => LX.nilCheck rfl) rfl (DW.p rfl rfl (fun _ => LX.field0 rfl rfl) rfl ?_)))))))
  refine DW.r rfl rfl (LX.load rfl rfl (by repeat first | assumption | exact List.mem_cons_self | refine List.mem_cons_of_mem _ ?_) rfl) (fun z hz => by repeat first | exact hmm0 z hz | refine List.mem_cons_of_mem _ ?_) rfl ?_
  refine DW.p rfl rfl (fun _ => LX.len rfl rfl rfl) rfl (DW.f rfl rfl (EX.call rfl (fun _ => by kernel_rfl) newNat) rfl ?_)
  rintro _ _ ⟨pD, lD, rfl, rfl⟩
  refine ⟨(fun z hz => by repeat first | exact hmm0 z hz | refine List.mem_cons_of_mem _ ?_), ?_⟩
  
  refine DW.f rfl rfl (EX.call rfl (fun _ => by kernel_rfl) (nreset' (n := na) (by simp) (by omega) (by omega) (by omega) hr32)) rfl ?_
  rintro _ _ ⟨Ds, rfl, hDs, rfl⟩
  refine ⟨(fun z hz => by repeat first | exact hmm0 z hz | refine List.mem_cons_of_mem _ ?_), ?_⟩
  have hDl := hDs.len
  refine DW.p rfl rfl (fun _ => LX.assign rfl) rfl (DW.nil (thenK_normal (WC.seq (WC.region (WL.q (LX.move rfl) rfl (WL.q (LX.nilCheck rfl) rfl (WL.q (LX.field0 rfl rfl) rfl ?_)))))))
  refine WL.q (LX.load rfl rfl (by repeat first | assumption | exact List.mem_cons_self | refine List.mem_cons_of_mem _ ?_) rfl) rfl ?_
  refine WL.q (LX.idx1 rfl rfl rfl 0 rfl (by omega)) rfl ?_
  refine WL.put (EX.storeRow rfl rfl rfl (by repeat first | assumption | exact List.mem_cons_self | refine List.mem_cons_of_mem _ ?_) (by omega) (by repeat first | exact Upd.here | apply Upd.there)) ?_
  replace hDs := hDs.one (by omega) wd_one
  generalize Ds.set 0 1 = Ds' at hDs ⊢
  refine WL.nil (thenK_normal (WC.block (WC.pm (N := (pu, natO lu (max na nm') 32) :: (lu, words us) :: (pA, natO lA nm' 32) :: (lA, words As') :: (pv, natO lv (max na nm') 32) :: (lv, words vs) :: (pB, natO lB na 32) :: (lB, words Bs) :: (pC, natO lC nm' 32) :: (lC, words Cs) :: (pD, natO lD na 32) :: (lD, words Ds') :: M) (by repeat first | exact Pm.done | (apply Pm.step; repeat first | exact Rem.here | apply Rem.there)) ?_)))
  refine WC.loopS (fun _ : Gs => [(0, ptr pa), (1, ptr pm), (4, ptr pu), (5, ptr pA), (8, ptr pv), (9, ptr pB), (10, ptr pC), (11, ptr pD)]) (fun s => (pu, natO lu (max na nm') 32) :: (lu, words s.us) :: (pA, natO lA nm' 32) :: (lA, words s.As) :: (pv, natO lv (max na nm') 32) :: (lv, words s.vs) :: (pB, natO lB na 32) :: (lB, words s.Bs) :: (pC, natO lC nm' 32) :: (lC, words s.Cs) :: (pD, natO lD na 32) :: (lD, words s.Ds) :: M)
    (fun s => s.nv na nm' ∧ GI a m s.u s.v s.A s.B s.C s.D ∧ 0 < s.v) (fun s => (s.u + s.v).toNat) ⟨us, As', vs, Bs, Cs, Ds', a, 1, m, 0, 0, 1⟩
    ⟨⟨hu, hAs, hv, hBs, hCs, hDs⟩, ⟨ha0, Int.le_refl _, by simp only []; omega, Int.le_refl _, ho, Cd.refl, fun h => GM.start ha0 h⟩, hm0⟩ (.cons rfl (.cons rfl (.cons rfl (.cons rfl (.cons rfl (.cons rfl (.cons rfl (.cons rfl .nil)))))))) rfl ?_
  clear hu hv hAs hBs hCs hDs
  rintro ⟨us, As, vs, Bs, Cs, Ds, u, A, v, B, C, D⟩ ⟨⟨hu, hAs, hv, hBs, hCs, hDs⟩, hG, hv0⟩
  dsimp only at hu hAs hv hBs hCs hDs hG hv0 ⊢
  have hu0 := hG.u0
  have hPA : ∀ {N : Mem}, (pa, natO la na ca) ∈ N ++ M := List.mem_append_right _ hpa
  refine WC.block ?_
  refine WC.cut (fun E' M' => ∃ (t : Gs) (M2 : Mem), t.nv na nm' ∧ GI a m t.u t.v t.A t.B t.C t.D ∧ t.u % 2 + t.v % 2 = 1 ∧ (t.u + t.v < u + v ∨ t.u + t.v = u + v ∧ 0 < t.v) ∧ Sub [(0, ptr pa), (1, ptr pm), (4, ptr pu), (5, ptr pA), (8, ptr pv), (9, ptr pB), (10, ptr pC), (11, ptr pD)] E' ∧ ((pu, natO lu (max na nm') 32) :: (lu, words t.us) :: (pA, natO lA nm' 32) :: (lA, words t.As) :: (pv, natO lv (max na nm') 32) :: (lv, words t.vs) :: (pB, natO lB na 32) :: (lB, words t.Bs) :: (pC, natO lC nm' 32) :: (lC, words t.Cs) :: (pD, natO lD na 32) :: (lD, words t.Ds) :: M).Sublist M2 ∧ M2.Perm M') ?_ ?_
  · refine WC.seq (WC.region (WL.q (LX.move rfl) rfl ?_))
    rcases Int.emod_two_eq u with h2 | h2
    · refine WL.call (isOddN hu (by repeat first | assumption | exact List.mem_cons_self | refine List.mem_cons_of_mem _ ?_) (by repeat first | assumption | exact List.mem_cons_self | refine List.mem_cons_of_mem _ ?_)) rfl (fun _ => by kernel_rfl) rfl ?_
      rw [h2]
      refine WL.q (LX.bin rfl rfl rfl) rfl (WL.q (LX.move rfl) rfl (WL.no rfl rfl (by decide) rfl (WL.no rfl rfl (by decide) rfl (WL.no rfl rfl (by decide) rfl (WL.q (LX.pickF rfl rfl) rfl (WL.nil (thenK_normal (WC.no rfl (WC.skip ?_)))))))))
      exact ⟨⟨us, As, vs, Bs, Cs, Ds, u, A, v, B, C, D⟩, _, ⟨hu, hAs, hv, hBs, hCs, hDs⟩, hG, by have := hG.odd; simp only []; omega, .inr ⟨rfl, hv0⟩, (.cons rfl (.cons rfl (.cons rfl (.cons rfl (.cons rfl (.cons rfl (.cons rfl (.cons rfl .nil)))))))), List.Sublist.refl _, List.Perm.refl _⟩
    refine WL.call (isOddN hu (by repeat first | assumption | exact List.mem_cons_self | refine List.mem_cons_of_mem _ ?_) (by repeat first | assumption | exact List.mem_cons_self | refine List.mem_cons_of_mem _ ?_)) rfl (fun _ => by kernel_rfl) rfl ?_
    rw [h2]
    refine WL.q (LX.bin rfl rfl rfl) rfl (WL.q (LX.move rfl) rfl (WL.yes rfl rfl (WL.q (LX.move rfl) rfl (WL.yes rfl rfl ?_))))
    rcases Int.emod_two_eq v with h3 | h3
    · refine WL.callR (isOddN hv (by repeat first | assumption | exact List.mem_cons_self | refine List.mem_cons_of_mem _ ?_) (by repeat first | assumption | exact List.mem_cons_self | refine List.mem_cons_of_mem _ ?_)) rfl (fun _ => by kernel_rfl) rfl ?_
      rintro _ M1 ⟨rfl, h1⟩
      subst h1
      rw [h3]
      refine WL.yes rfl rfl (WL.q (LX.bin rfl rfl rfl) rfl (WL.q (LX.pickT rfl rfl) rfl (WL.nil (thenK_normal (WC.no rfl (WC.skip ?_))))))
      exact ⟨⟨us, As, vs, Bs, Cs, Ds, u, A, v, B, C, D⟩, _, ⟨hu, hAs, hv, hBs, hCs, hDs⟩, hG, by simp only []; omega, .inr ⟨rfl, hv0⟩, (.cons rfl (.cons rfl (.cons rfl (.cons rfl (.cons rfl (.cons rfl (.cons rfl (.cons rfl .nil)))))))), List.Sublist.refl _, List.Perm.refl _⟩
    refine WL.callR (isOddN hv (by repeat first | assumption | exact List.mem_cons_self | refine List.mem_cons_of_mem _ ?_) (by repeat first | assumption | exact List.mem_cons_self | refine List.mem_cons_of_mem _ ?_)) rfl (fun _ => by kernel_rfl) rfl ?_
    rintro _ M1 ⟨rfl, h1⟩
    subst h1
    rw [h3]
    refine WL.yes rfl rfl (WL.q (LX.bin rfl rfl rfl) rfl (WL.q (LX.pickT rfl rfl) rfl (WL.nil (thenK_normal (WC.yes rfl (WC.seq (WC.region (WL.q (LX.move rfl) rfl (WL.q (LX.move rfl) rfl ?_)))))))))
    refine WL.call (cmpGeq hv hu (by repeat first | assumption | exact List.mem_cons_self | refine List.mem_cons_of_mem _ ?_) (by repeat first | assumption | exact List.mem_cons_self | refine List.mem_cons_of_mem _ ?_) (by repeat first | assumption | exact List.mem_cons_self | refine List.mem_cons_of_mem _ ?_) (by repeat first | assumption | exact List.mem_cons_self | refine List.mem_cons_of_mem _ ?_)) rfl (fun _ => by kernel_rfl) rfl ?_
    by_cases hge : u ≤ v
    · rw [b1_is hge]
      refine WL.q (LX.bin rfl rfl rfl) rfl (WL.nil (thenK_normal (WC.no rfl (WC.seq (WC.region (WL.q (LX.move rfl) rfl (WL.q (LX.move rfl) rfl ?_)))))))
      refine WL.callR (CS.pm (by repeat first | exact Pm.done | (apply Pm.step; repeat first | exact Rem.here | apply Rem.there)) (nsub (M := (pu, natO lu (max na nm') 32) :: (lu, words us) :: (pA, natO lA nm' 32) :: (lA, words As) :: (pB, natO lB na 32) :: (lB, words Bs) :: (pC, natO lC nm' 32) :: (lC, words Cs) :: (pD, natO lD na 32) :: (lD, words Ds) :: M) hv hu (by repeat first | assumption | exact List.mem_cons_self | refine List.mem_cons_of_mem _ ?_) (by repeat first | assumption | exact List.mem_cons_self | refine List.mem_cons_of_mem _ ?_))) rfl (fun _ => by kernel_rfl) rfl ?_
      rintro _ _ ⟨zs, kk, Z, hkk, rfl, hz, hZ, rfl⟩
      obtain rfl : Z = v - u := by
        have h1 := hz.lt
        rcases hkk with rfl | rfl <;> omega
      refine WL.nil (thenK_normal (WC.seq (WC.region (WL.q (LX.move rfl) rfl (WL.q (LX.move rfl) rfl (WL.q (LX.move rfl) rfl (WL.q (LX.build (v := .agg #[ptr pm, .bool false, .int .u64 0, .pointer none]) rfl (fun _ => by kernel_rfl)) rfl ?_)))))))
      
      refine WL.step rfl (EX.box rfl) ?_
      rintro _ _ ⟨q1, rfl, rfl⟩
      
      refine WL.callR (CS.pm (by repeat first | exact Pm.done | (apply Pm.step; repeat first | exact Rem.here | apply Rem.there)) (nAddA (M := (pu, natO lu (max na nm') 32) :: (lu, words us) :: (pA, natO lA nm' 32) :: (lA, words As) :: (pv, natO lv (max na nm') 32) :: (lv, words zs) :: (pB, natO lB na 32) :: (lB, words Bs) :: (pD, natO lD na 32) :: (lD, words Ds) :: (q1, modO pm false 0 (.pointer none)) :: M) (by omega) hCs hAs (by repeat first | assumption | exact List.mem_cons_self | refine List.mem_cons_of_mem _ ?_) (by repeat first | assumption | exact List.mem_cons_self | refine List.mem_cons_of_mem _ ?_) (q := q1) (pm := pm) (lm := lm) (ms := xm) (V := m) ⟨(by repeat first | assumption | exact List.mem_cons_self | refine List.mem_cons_of_mem _ ?_), (by repeat first | assumption | exact List.mem_cons_self | refine List.mem_cons_of_mem _ ?_), (by repeat first | assumption | exact List.mem_cons_self | refine List.mem_cons_of_mem _ ?_), hM⟩)) rfl (fun _ => by kernel_rfl) rfl ?_
      rintro _ _ ⟨ys1, Y1, rfl, hy1, hY1, rfl⟩
      refine WL.nil (thenK_normal (WC.region (WL.q (LX.move rfl) rfl (WL.q (LX.move rfl) rfl (WL.q (LX.move rfl) rfl (WL.q (LX.build (v := .agg #[ptr pa, .bool false, .int .u64 0, .pointer none]) rfl (fun _ => by kernel_rfl)) rfl ?_))))))
      
      refine WL.step rfl (EX.box rfl) ?_
      rintro _ _ ⟨q2, rfl, rfl⟩
      
      refine WL.callR (CS.pm (by repeat first | exact Pm.done | (apply Pm.step; repeat first | exact Rem.here | apply Rem.there)) (nAddA (M := (pu, natO lu (max na nm') 32) :: (lu, words us) :: (pA, natO lA nm' 32) :: (lA, words As) :: (pv, natO lv (max na nm') 32) :: (lv, words zs) :: (pB, natO lB na 32) :: (lB, words Bs) :: (pC, natO lC nm' 32) :: (lC, words ys1) :: (q2, modO pa false 0 (.pointer none)) :: (q1, modO pm false 0 (.pointer none)) :: M) (by omega) hDs hBs (by repeat first | assumption | exact List.mem_cons_self | refine List.mem_cons_of_mem _ ?_) (by repeat first | assumption | exact List.mem_cons_self | refine List.mem_cons_of_mem _ ?_) (q := q2) (pm := pa) (lm := la) (ms := xa) (V := a) ⟨(by repeat first | assumption | exact List.mem_cons_self | refine List.mem_cons_of_mem _ ?_), (by repeat first | assumption | exact List.mem_cons_self | refine List.mem_cons_of_mem _ ?_), (by repeat first | assumption | exact List.mem_cons_self | refine List.mem_cons_of_mem _ ?_), hA⟩)) rfl (fun _ => by kernel_rfl) rfl ?_
      rintro _ _ ⟨ys2, Y2, rfl, hy2, hY2, rfl⟩
      refine WL.nil ?_
      refine ⟨⟨us, As, zs, Bs, ys1, ys2, u, A, (v - u), B, Y1, Y2⟩, (pu, natO lu (max na nm') 32) :: (lu, words us) :: (pA, natO lA nm' 32) :: (lA, words As) :: (pv, natO lv (max na nm') 32) :: (lv, words zs) :: (pB, natO lB na 32) :: (lB, words Bs) :: (pC, natO lC nm' 32) :: (lC, words ys1) :: (pD, natO lD na 32) :: (lD, words ys2) :: (q2, modO pa false 0 (.pointer none)) :: (q1, modO pm false 0 (.pointer none)) :: M, ⟨hu, hAs, hz, hBs, hy1, hy2⟩, ⟨?_, ?_, ?_, ?_, ?_, ?_, ?_⟩, ?_, .inl ?_, (.cons rfl (.cons rfl (.cons rfl (.cons rfl (.cons rfl (.cons rfl (.cons rfl (.cons rfl .nil)))))))), (.cons_cons _ (.cons_cons _ (.cons_cons _ (.cons_cons _ (.cons_cons _ (.cons_cons _ (.cons_cons _ (.cons_cons _ (.cons_cons _ (.cons_cons _ (.cons_cons _ (.cons_cons _ (.cons _ (.cons _ (List.Sublist.refl _))))))))))))))), (show Pm _ _ from (by repeat first | exact Pm.done | (apply Pm.step; repeat first | exact Rem.here | apply Rem.there))).perm⟩
      all_goals try (simp only []; omega)
      · exact hG.ua
      · have := hG.vm; simp only []; omega
      · exact hG.cd.symm.subU.symm
      · intro h
        have hmd := hG.md h
        obtain ⟨b1', b2', h3⟩ := (hmd.subV ha0 h hu0 h2 hG.vm hge)
        rw [← hY1 (by omega), ← hY2 (by omega)] at h3
        exact h3
    · have hlt : v < u := by omega
      rw [b1_not hge]
      refine WL.q (LX.bin rfl rfl rfl) rfl (WL.nil (thenK_normal (WC.yes rfl (WC.seq (WC.region (WL.q (LX.move rfl) rfl (WL.q (LX.move rfl) rfl ?_)))))))
      refine WL.callR (CS.pm (by repeat first | exact Pm.done | (apply Pm.step; repeat first | exact Rem.here | apply Rem.there)) (nsub (M := (pA, natO lA nm' 32) :: (lA, words As) :: (pv, natO lv (max na nm') 32) :: (lv, words vs) :: (pB, natO lB na 32) :: (lB, words Bs) :: (pC, natO lC nm' 32) :: (lC, words Cs) :: (pD, natO lD na 32) :: (lD, words Ds) :: M) hu hv (by repeat first | assumption | exact List.mem_cons_self | refine List.mem_cons_of_mem _ ?_) (by repeat first | assumption | exact List.mem_cons_self | refine List.mem_cons_of_mem _ ?_))) rfl (fun _ => by kernel_rfl) rfl ?_
      rintro _ _ ⟨zs, kk, Z, hkk, rfl, hz, hZ, rfl⟩
      obtain rfl : Z = u - v := by
        have h1 := hz.lt
        rcases hkk with rfl | rfl <;> omega
      refine WL.nil (thenK_normal (WC.seq (WC.region (WL.q (LX.move rfl) rfl (WL.q (LX.move rfl) rfl (WL.q (LX.move rfl) rfl (WL.q (LX.build (v := .agg #[ptr pm, .bool false, .int .u64 0, .pointer none]) rfl (fun _ => by kernel_rfl)) rfl ?_)))))))
      
      refine WL.step rfl (EX.box rfl) ?_
      rintro _ _ ⟨q1, rfl, rfl⟩
      
      refine WL.callR (CS.pm (by repeat first | exact Pm.done | (apply Pm.step; repeat first | exact Rem.here | apply Rem.there)) (nAddA (M := (pu, natO lu (max na nm') 32) :: (lu, words zs) :: (pv, natO lv (max na nm') 32) :: (lv, words vs) :: (pB, natO lB na 32) :: (lB, words Bs) :: (pC, natO lC nm' 32) :: (lC, words Cs) :: (pD, natO lD na 32) :: (lD, words Ds) :: (q1, modO pm false 0 (.pointer none)) :: M) (by omega) hAs hCs (by repeat first | assumption | exact List.mem_cons_self | refine List.mem_cons_of_mem _ ?_) (by repeat first | assumption | exact List.mem_cons_self | refine List.mem_cons_of_mem _ ?_) (q := q1) (pm := pm) (lm := lm) (ms := xm) (V := m) ⟨(by repeat first | assumption | exact List.mem_cons_self | refine List.mem_cons_of_mem _ ?_), (by repeat first | assumption | exact List.mem_cons_self | refine List.mem_cons_of_mem _ ?_), (by repeat first | assumption | exact List.mem_cons_self | refine List.mem_cons_of_mem _ ?_), hM⟩)) rfl (fun _ => by kernel_rfl) rfl ?_
      rintro _ _ ⟨ys1, Y1, rfl, hy1, hY1, rfl⟩
      refine WL.nil (thenK_normal (WC.region (WL.q (LX.move rfl) rfl (WL.q (LX.move rfl) rfl (WL.q (LX.move rfl) rfl (WL.q (LX.build (v := .agg #[ptr pa, .bool false, .int .u64 0, .pointer none]) rfl (fun _ => by kernel_rfl)) rfl ?_))))))
      
      refine WL.step rfl (EX.box rfl) ?_
      rintro _ _ ⟨q2, rfl, rfl⟩
      
      refine WL.callR (CS.pm (by repeat first | exact Pm.done | (apply Pm.step; repeat first | exact Rem.here | apply Rem.there)) (nAddA (M := (pu, natO lu (max na nm') 32) :: (lu, words zs) :: (pA, natO lA nm' 32) :: (lA, words ys1) :: (pv, natO lv (max na nm') 32) :: (lv, words vs) :: (pC, natO lC nm' 32) :: (lC, words Cs) :: (pD, natO lD na 32) :: (lD, words Ds) :: (q2, modO pa false 0 (.pointer none)) :: (q1, modO pm false 0 (.pointer none)) :: M) (by omega) hBs hDs (by repeat first | assumption | exact List.mem_cons_self | refine List.mem_cons_of_mem _ ?_) (by repeat first | assumption | exact List.mem_cons_self | refine List.mem_cons_of_mem _ ?_) (q := q2) (pm := pa) (lm := la) (ms := xa) (V := a) ⟨(by repeat first | assumption | exact List.mem_cons_self | refine List.mem_cons_of_mem _ ?_), (by repeat first | assumption | exact List.mem_cons_self | refine List.mem_cons_of_mem _ ?_), (by repeat first | assumption | exact List.mem_cons_self | refine List.mem_cons_of_mem _ ?_), hA⟩)) rfl (fun _ => by kernel_rfl) rfl ?_
      rintro _ _ ⟨ys2, Y2, rfl, hy2, hY2, rfl⟩
      refine WL.nil ?_
      refine ⟨⟨zs, ys1, vs, ys2, Cs, Ds, (u - v), Y1, v, Y2, C, D⟩, (pu, natO lu (max na nm') 32) :: (lu, words zs) :: (pA, natO lA nm' 32) :: (lA, words ys1) :: (pv, natO lv (max na nm') 32) :: (lv, words vs) :: (pB, natO lB na 32) :: (lB, words ys2) :: (pC, natO lC nm' 32) :: (lC, words Cs) :: (pD, natO lD na 32) :: (lD, words Ds) :: (q2, modO pa false 0 (.pointer none)) :: (q1, modO pm false 0 (.pointer none)) :: M, ⟨hz, hy1, hv, hy2, hCs, hDs⟩, ⟨?_, ?_, ?_, ?_, ?_, ?_, ?_⟩, ?_, .inl ?_, (.cons rfl (.cons rfl (.cons rfl (.cons rfl (.cons rfl (.cons rfl (.cons rfl (.cons rfl .nil)))))))), (.cons_cons _ (.cons_cons _ (.cons_cons _ (.cons_cons _ (.cons_cons _ (.cons_cons _ (.cons_cons _ (.cons_cons _ (.cons_cons _ (.cons_cons _ (.cons_cons _ (.cons_cons _ (.cons _ (.cons _ (List.Sublist.refl _))))))))))))))), (show Pm _ _ from (by repeat first | exact Pm.done | (apply Pm.step; repeat first | exact Rem.here | apply Rem.there))).perm⟩
      all_goals try (simp only []; omega)
      · have := hG.ua; simp only []; omega
      · exact hG.vm
      · exact hG.cd.subU
      · intro h
        have hmd := hG.md h
        obtain ⟨b1', b2', h3⟩ := (hmd.subU ha0 h hu0 hG.ua hv0 hlt)
        rw [← hY1 (by omega), ← hY2 (by omega)] at h3
        exact h3
  rintro E' M' ⟨⟨us, As, vs, Bs, Cs, Ds, u', A, v', B, C, D⟩, M2, ⟨hu, hAs, hv, hBs, hCs, hDs⟩, hG, hpar, hmes, hE, hsub, hprm⟩
  refine WC.pm ⟨hprm⟩ (WC.cutM hsub (WC.cutE _ hE ?_))
  dsimp only at hu hAs hv hBs hCs hDs hG hpar hmes ⊢
  refine WC.seq (WC.seq (WC.region (WL.q (LX.move rfl) rfl ?_)))
  refine WL.call (isOddN hu (by repeat first | assumption | exact List.mem_cons_self | refine List.mem_cons_of_mem _ ?_) (by repeat first | assumption | exact List.mem_cons_self | refine List.mem_cons_of_mem _ ?_)) rfl (fun _ => by kernel_rfl) rfl ?_
  refine WL.q (LX.move rfl) rfl ?_
  refine WL.call (isOddN hv (by repeat first | assumption | exact List.mem_cons_self | refine List.mem_cons_of_mem _ ?_) (by repeat first | assumption | exact List.mem_cons_self | refine List.mem_cons_of_mem _ ?_)) rfl (fun _ => by kernel_rfl) rfl ?_
  refine WL.q (LX.eq (LX.bin rfl rfl rfl) (fls (by omega))) rfl (WL.nil (thenK_normal (WC.no rfl (WC.skip (thenK_normal ?_)))))
  refine WC.cut (fun E' M' => ∃ (t : Gs) (M2 : Mem), t.nv na nm' ∧ GI a m t.u t.v t.A t.B t.C t.D ∧ t.u + t.v < u + v ∧ Sub [(0, ptr pa), (1, ptr pm), (4, ptr pu), (5, ptr pA), (8, ptr pv), (9, ptr pB), (10, ptr pC), (11, ptr pD)] E' ∧ ((pu, natO lu (max na nm') 32) :: (lu, words t.us) :: (pA, natO lA nm' 32) :: (lA, words t.As) :: (pv, natO lv (max na nm') 32) :: (lv, words t.vs) :: (pB, natO lB na 32) :: (lB, words t.Bs) :: (pC, natO lC nm' 32) :: (lC, words t.Cs) :: (pD, natO lD na 32) :: (lD, words t.Ds) :: M).Sublist M2 ∧ M2.Perm M') ?_ ?_
  · refine WC.seq (WC.region (WL.q (LX.move rfl) rfl ?_))
    refine WL.call (isOddN hu (by repeat first | assumption | exact List.mem_cons_self | refine List.mem_cons_of_mem _ ?_) (by repeat first | assumption | exact List.mem_cons_self | refine List.mem_cons_of_mem _ ?_)) rfl (fun _ => by kernel_rfl) rfl ?_
    rcases Int.emod_two_eq u' with h2 | h2
    · rw [h2]
      refine WL.q (LX.bin rfl rfl rfl) rfl (WL.nil (thenK_normal (WC.yes rfl (WC.seq (WC.region (WL.q (LX.move rfl) rfl (WL.callR (CS.pm (by repeat first | exact Pm.done | (apply Pm.step; repeat first | exact Rem.here | apply Rem.there)) (rshift1 (M := (pA, natO lA nm' 32) :: (lA, words As) :: (pv, natO lv (max na nm') 32) :: (lv, words vs) :: (pB, natO lB na 32) :: (lB, words Bs) :: (pC, natO lC nm' 32) :: (lC, words Cs) :: (pD, natO lD na 32) :: (lD, words Ds) :: M) bt_zero hu)) rfl (fun _ => by kernel_rfl) rfl ?_)))))))
      rintro _ _ ⟨zs, rfl, hz, rfl⟩
      rw [Int.mul_zero, Int.add_zero] at hz
      refine WL.nil (thenK_normal (WC.seq (WC.region (WL.q (LX.move rfl) rfl ?_))))
      refine WL.call (isOddN hAs (by repeat first | assumption | exact List.mem_cons_self | refine List.mem_cons_of_mem _ ?_) (by repeat first | assumption | exact List.mem_cons_self | refine List.mem_cons_of_mem _ ?_)) rfl (fun _ => by kernel_rfl) rfl ?_
      rcases Int.emod_two_eq A with hx1 | hx1
      · rw [hx1]
        refine WL.q (LX.bin rfl rfl rfl) rfl (WL.q (LX.move rfl) rfl (WL.yes rfl rfl (WL.q (LX.move rfl) rfl (WL.yes rfl rfl ?_))))
        refine WL.callR (isOddN hBs (by repeat first | assumption | exact List.mem_cons_self | refine List.mem_cons_of_mem _ ?_) (by repeat first | assumption | exact List.mem_cons_self | refine List.mem_cons_of_mem _ ?_)) rfl (fun _ => by kernel_rfl) rfl ?_
        rintro _ M1 ⟨rfl, hM1⟩
        subst hM1
        rcases Int.emod_two_eq B with hx2 | hx2
        · rw [hx2]
          have hp : ¬ (A % 2 = 1 ∨ B % 2 = 1) := by omega
          refine WL.yes rfl rfl (WL.q (LX.bin rfl rfl rfl) rfl (WL.q (LX.pickF rfl rfl) rfl (WL.nil (thenK_normal (WC.no rfl (WC.seq (WC.region (WL.q (LX.move rfl) rfl (WL.callR (CS.pm (by repeat first | exact Pm.done | (apply Pm.step; repeat first | exact Rem.here | apply Rem.there)) (rshift1 (M := (pu, natO lu (max na nm') 32) :: (lu, words zs) :: (pv, natO lv (max na nm') 32) :: (lv, words vs) :: (pB, natO lB na 32) :: (lB, words Bs) :: (pC, natO lC nm' 32) :: (lC, words Cs) :: (pD, natO lD na 32) :: (lD, words Ds) :: M) bt_zero hAs)) rfl (fun _ => by kernel_rfl) rfl ?_)))))))))
          rintro _ _ ⟨ys0, rfl, hy0, rfl⟩
          rw [Int.mul_zero, Int.add_zero] at hy0
          refine WL.nil (thenK_normal (WC.region (WL.q (LX.move rfl) rfl (WL.callR (CS.pm (by repeat first | exact Pm.done | (apply Pm.step; repeat first | exact Rem.here | apply Rem.there)) (rshift1 (M := (pu, natO lu (max na nm') 32) :: (lu, words zs) :: (pA, natO lA nm' 32) :: (lA, words ys0) :: (pv, natO lv (max na nm') 32) :: (lv, words vs) :: (pC, natO lC nm' 32) :: (lC, words Cs) :: (pD, natO lD na 32) :: (lD, words Ds) :: M) bt_zero hBs)) rfl (fun _ => by kernel_rfl) rfl ?_))))
          rintro _ _ ⟨ys1, rfl, hy1, rfl⟩
          rw [Int.mul_zero, Int.add_zero] at hy1
          refine WL.nil ?_
          refine ⟨⟨zs, ys0, vs, ys1, Cs, Ds, (u' / 2), (A / 2), v', (B / 2), C, D⟩, _, ⟨hz, hy0, hv, hy1, hCs, hDs⟩, ⟨?_, ?_, ?_, ?_, ?_, ?_, ?_⟩, ?_, (.cons rfl (.cons rfl (.cons rfl (.cons rfl (.cons rfl (.cons rfl (.cons rfl (.cons rfl .nil)))))))), List.Sublist.refl _, (show Pm _ ((pu, natO lu (max na nm') 32) :: (lu, words zs) :: (pA, natO lA nm' 32) :: (lA, words ys0) :: (pv, natO lv (max na nm') 32) :: (lv, words vs) :: (pB, natO lB na 32) :: (lB, words ys1) :: (pC, natO lC nm' 32) :: (lC, words Cs) :: (pD, natO lD na 32) :: (lD, words Ds) :: M) from (by repeat first | exact Pm.done | (apply Pm.step; repeat first | exact Rem.here | apply Rem.there))).perm⟩
          all_goals try (have := hG.ua; have := hG.vm; have := hG.v0; have := hG.u0; simp only []; omega)
          · exact hG.cd.halfU (by omega) (by omega)
          · intro h
            have h3 := (hG.md h).halfU ho (by omega)
            rw [show Bm.hv (A % 2 = 1 ∨ B % 2 = 1) A m = _ from if_neg hp, show Bm.hv (A % 2 = 1 ∨ B % 2 = 1) B a = _ from if_neg hp] at h3
            exact h3
        · rw [hx2]
          have hp : A % 2 = 1 ∨ B % 2 = 1 := .inr hx2
          refine WL.yes rfl rfl (WL.q (LX.bin rfl rfl rfl) rfl (WL.q (LX.pickF rfl rfl) rfl (WL.nil (thenK_normal (WC.yes rfl (WC.seq (WC.region (WL.q (LX.move rfl) rfl (WL.q (LX.move rfl) rfl (WL.q (LX.move rfl) rfl ?_))))))))))
          refine WL.callR (CS.pm (by repeat first | exact Pm.done | (apply Pm.step; repeat first | exact Rem.here | apply Rem.there)) (nadd (M := (pu, natO lu (max na nm') 32) :: (lu, words zs) :: (pv, natO lv (max na nm') 32) :: (lv, words vs) :: (pB, natO lB na 32) :: (lB, words Bs) :: (pC, natO lC nm' 32) :: (lC, words Cs) :: (pD, natO lD na 32) :: (lD, words Ds) :: M) hAs hM (by repeat first | assumption | exact List.mem_cons_self | refine List.mem_cons_of_mem _ ?_) (by repeat first | assumption | exact List.mem_cons_self | refine List.mem_cons_of_mem _ ?_))) rfl (fun _ => by kernel_rfl) rfl ?_
          rintro _ _ ⟨ws0, k0, Z0, hk0, rfl, hw0, hZ0, rfl⟩
          
          refine WL.callR (rshift1 hk0 hw0) rfl (fun _ => by kernel_rfl) rfl ?_
          rintro _ _ ⟨ys0, rfl, hy0, rfl⟩
          rw [hZ0] at hy0
          refine WL.nil (thenK_normal (WC.region (WL.q (LX.move rfl) rfl (WL.q (LX.move rfl) rfl (WL.q (LX.move rfl) rfl ?_)))))
          refine WL.callR (CS.pm (by repeat first | exact Pm.done | (apply Pm.step; repeat first | exact Rem.here | apply Rem.there)) (nadd (M := (pu, natO lu (max na nm') 32) :: (lu, words zs) :: (pA, natO lA nm' 32) :: (lA, words ys0) :: (pv, natO lv (max na nm') 32) :: (lv, words vs) :: (pC, natO lC nm' 32) :: (lC, words Cs) :: (pD, natO lD na 32) :: (lD, words Ds) :: M) hBs hA (by repeat first | assumption | exact List.mem_cons_self | refine List.mem_cons_of_mem _ ?_) (by repeat first | assumption | exact List.mem_cons_self | refine List.mem_cons_of_mem _ ?_))) rfl (fun _ => by kernel_rfl) rfl ?_
          rintro _ _ ⟨ws1, k1, Z1, hk1, rfl, hw1, hZ1, rfl⟩
          
          refine WL.callR (rshift1 hk1 hw1) rfl (fun _ => by kernel_rfl) rfl ?_
          rintro _ _ ⟨ys1, rfl, hy1, rfl⟩
          rw [hZ1] at hy1
          refine WL.nil ?_
          refine ⟨⟨zs, ys0, vs, ys1, Cs, Ds, (u' / 2), ((A + m) / 2), v', ((B + a) / 2), C, D⟩, _, ⟨hz, hy0, hv, hy1, hCs, hDs⟩, ⟨?_, ?_, ?_, ?_, ?_, ?_, ?_⟩, ?_, (.cons rfl (.cons rfl (.cons rfl (.cons rfl (.cons rfl (.cons rfl (.cons rfl (.cons rfl .nil)))))))), List.Sublist.refl _, (show Pm _ ((pu, natO lu (max na nm') 32) :: (lu, words zs) :: (pA, natO lA nm' 32) :: (lA, words ys0) :: (pv, natO lv (max na nm') 32) :: (lv, words vs) :: (pB, natO lB na 32) :: (lB, words ys1) :: (pC, natO lC nm' 32) :: (lC, words Cs) :: (pD, natO lD na 32) :: (lD, words Ds) :: M) from (by repeat first | exact Pm.done | (apply Pm.step; repeat first | exact Rem.here | apply Rem.there))).perm⟩
          all_goals try (have := hG.ua; have := hG.vm; have := hG.v0; have := hG.u0; simp only []; omega)
          · exact hG.cd.halfU (by omega) (by omega)
          · intro h
            have h3 := (hG.md h).halfU ho (by omega)
            rw [show Bm.hv (A % 2 = 1 ∨ B % 2 = 1) A m = _ from if_pos hp, show Bm.hv (A % 2 = 1 ∨ B % 2 = 1) B a = _ from if_pos hp] at h3
            exact h3
      · rw [hx1]
        have hp : A % 2 = 1 ∨ B % 2 = 1 := .inl hx1
        refine WL.q (LX.bin rfl rfl rfl) rfl (WL.q (LX.move rfl) rfl (WL.no rfl rfl (by decide) rfl (WL.no rfl rfl (by decide) rfl (WL.no rfl rfl (by decide) rfl (WL.q (LX.pickT rfl rfl) rfl (WL.nil (thenK_normal (WC.yes rfl (WC.seq (WC.region (WL.q (LX.move rfl) rfl (WL.q (LX.move rfl) rfl (WL.q (LX.move rfl) rfl ?_)))))))))))))
        refine WL.callR (CS.pm (by repeat first | exact Pm.done | (apply Pm.step; repeat first | exact Rem.here | apply Rem.there)) (nadd (M := (pu, natO lu (max na nm') 32) :: (lu, words zs) :: (pv, natO lv (max na nm') 32) :: (lv, words vs) :: (pB, natO lB na 32) :: (lB, words Bs) :: (pC, natO lC nm' 32) :: (lC, words Cs) :: (pD, natO lD na 32) :: (lD, words Ds) :: M) hAs hM (by repeat first | assumption | exact List.mem_cons_self | refine List.mem_cons_of_mem _ ?_) (by repeat first | assumption | exact List.mem_cons_self | refine List.mem_cons_of_mem _ ?_))) rfl (fun _ => by kernel_rfl) rfl ?_
        rintro _ _ ⟨ws0, k0, Z0, hk0, rfl, hw0, hZ0, rfl⟩
        
        refine WL.callR (rshift1 hk0 hw0) rfl (fun _ => by kernel_rfl) rfl ?_
        rintro _ _ ⟨ys0, rfl, hy0, rfl⟩
        rw [hZ0] at hy0
        refine WL.nil (thenK_normal (WC.region (WL.q (LX.move rfl) rfl (WL.q (LX.move rfl) rfl (WL.q (LX.move rfl) rfl ?_)))))
        refine WL.callR (CS.pm (by repeat first | exact Pm.done | (apply Pm.step; repeat first | exact Rem.here | apply Rem.there)) (nadd (M := (pu, natO lu (max na nm') 32) :: (lu, words zs) :: (pA, natO lA nm' 32) :: (lA, words ys0) :: (pv, natO lv (max na nm') 32) :: (lv, words vs) :: (pC, natO lC nm' 32) :: (lC, words Cs) :: (pD, natO lD na 32) :: (lD, words Ds) :: M) hBs hA (by repeat first | assumption | exact List.mem_cons_self | refine List.mem_cons_of_mem _ ?_) (by repeat first | assumption | exact List.mem_cons_self | refine List.mem_cons_of_mem _ ?_))) rfl (fun _ => by kernel_rfl) rfl ?_
        rintro _ _ ⟨ws1, k1, Z1, hk1, rfl, hw1, hZ1, rfl⟩
        
        refine WL.callR (rshift1 hk1 hw1) rfl (fun _ => by kernel_rfl) rfl ?_
        rintro _ _ ⟨ys1, rfl, hy1, rfl⟩
        rw [hZ1] at hy1
        refine WL.nil ?_
        refine ⟨⟨zs, ys0, vs, ys1, Cs, Ds, (u' / 2), ((A + m) / 2), v', ((B + a) / 2), C, D⟩, _, ⟨hz, hy0, hv, hy1, hCs, hDs⟩, ⟨?_, ?_, ?_, ?_, ?_, ?_, ?_⟩, ?_, (.cons rfl (.cons rfl (.cons rfl (.cons rfl (.cons rfl (.cons rfl (.cons rfl (.cons rfl .nil)))))))), List.Sublist.refl _, (show Pm _ ((pu, natO lu (max na nm') 32) :: (lu, words zs) :: (pA, natO lA nm' 32) :: (lA, words ys0) :: (pv, natO lv (max na nm') 32) :: (lv, words vs) :: (pB, natO lB na 32) :: (lB, words ys1) :: (pC, natO lC nm' 32) :: (lC, words Cs) :: (pD, natO lD na 32) :: (lD, words Ds) :: M) from (by repeat first | exact Pm.done | (apply Pm.step; repeat first | exact Rem.here | apply Rem.there))).perm⟩
        all_goals try (have := hG.ua; have := hG.vm; have := hG.v0; have := hG.u0; simp only []; omega)
        · exact hG.cd.halfU (by omega) (by omega)
        · intro h
          have h3 := (hG.md h).halfU ho (by omega)
          rw [show Bm.hv (A % 2 = 1 ∨ B % 2 = 1) A m = _ from if_pos hp, show Bm.hv (A % 2 = 1 ∨ B % 2 = 1) B a = _ from if_pos hp] at h3
          exact h3
    · rw [h2]
      refine WL.q (LX.bin rfl rfl rfl) rfl (WL.nil (thenK_normal (WC.no rfl (WC.seq (WC.region (WL.q (LX.move rfl) rfl (WL.callR (CS.pm (by repeat first | exact Pm.done | (apply Pm.step; repeat first | exact Rem.here | apply Rem.there)) (rshift1 (M := (pu, natO lu (max na nm') 32) :: (lu, words us) :: (pA, natO lA nm' 32) :: (lA, words As) :: (pB, natO lB na 32) :: (lB, words Bs) :: (pC, natO lC nm' 32) :: (lC, words Cs) :: (pD, natO lD na 32) :: (lD, words Ds) :: M) bt_zero hv)) rfl (fun _ => by kernel_rfl) rfl ?_)))))))
      rintro _ _ ⟨zs, rfl, hz, rfl⟩
      rw [Int.mul_zero, Int.add_zero] at hz
      refine WL.nil (thenK_normal (WC.seq (WC.region (WL.q (LX.move rfl) rfl ?_))))
      refine WL.call (isOddN hCs (by repeat first | assumption | exact List.mem_cons_self | refine List.mem_cons_of_mem _ ?_) (by repeat first | assumption | exact List.mem_cons_self | refine List.mem_cons_of_mem _ ?_)) rfl (fun _ => by kernel_rfl) rfl ?_
      rcases Int.emod_two_eq C with hx1 | hx1
      · rw [hx1]
        refine WL.q (LX.bin rfl rfl rfl) rfl (WL.q (LX.move rfl) rfl (WL.yes rfl rfl (WL.q (LX.move rfl) rfl (WL.yes rfl rfl ?_))))
        refine WL.callR (isOddN hDs (by repeat first | assumption | exact List.mem_cons_self | refine List.mem_cons_of_mem _ ?_) (by repeat first | assumption | exact List.mem_cons_self | refine List.mem_cons_of_mem _ ?_)) rfl (fun _ => by kernel_rfl) rfl ?_
        rintro _ M1 ⟨rfl, hM1⟩
        subst hM1
        rcases Int.emod_two_eq D with hx2 | hx2
        · rw [hx2]
          have hp : ¬ (C % 2 = 1 ∨ D % 2 = 1) := by omega
          refine WL.yes rfl rfl (WL.q (LX.bin rfl rfl rfl) rfl (WL.q (LX.pickF rfl rfl) rfl (WL.nil (thenK_normal (WC.no rfl (WC.seq (WC.region (WL.q (LX.move rfl) rfl (WL.callR (CS.pm (by repeat first | exact Pm.done | (apply Pm.step; repeat first | exact Rem.here | apply Rem.there)) (rshift1 (M := (pu, natO lu (max na nm') 32) :: (lu, words us) :: (pA, natO lA nm' 32) :: (lA, words As) :: (pv, natO lv (max na nm') 32) :: (lv, words zs) :: (pB, natO lB na 32) :: (lB, words Bs) :: (pD, natO lD na 32) :: (lD, words Ds) :: M) bt_zero hCs)) rfl (fun _ => by kernel_rfl) rfl ?_)))))))))
          rintro _ _ ⟨ys0, rfl, hy0, rfl⟩
          rw [Int.mul_zero, Int.add_zero] at hy0
          refine WL.nil (thenK_normal (WC.region (WL.q (LX.move rfl) rfl (WL.callR (CS.pm (by repeat first | exact Pm.done | (apply Pm.step; repeat first | exact Rem.here | apply Rem.there)) (rshift1 (M := (pu, natO lu (max na nm') 32) :: (lu, words us) :: (pA, natO lA nm' 32) :: (lA, words As) :: (pv, natO lv (max na nm') 32) :: (lv, words zs) :: (pB, natO lB na 32) :: (lB, words Bs) :: (pC, natO lC nm' 32) :: (lC, words ys0) :: M) bt_zero hDs)) rfl (fun _ => by kernel_rfl) rfl ?_))))
          rintro _ _ ⟨ys1, rfl, hy1, rfl⟩
          rw [Int.mul_zero, Int.add_zero] at hy1
          refine WL.nil ?_
          refine ⟨⟨us, As, zs, Bs, ys0, ys1, u', A, (v' / 2), B, (C / 2), (D / 2)⟩, _, ⟨hu, hAs, hz, hBs, hy0, hy1⟩, ⟨?_, ?_, ?_, ?_, ?_, ?_, ?_⟩, ?_, (.cons rfl (.cons rfl (.cons rfl (.cons rfl (.cons rfl (.cons rfl (.cons rfl (.cons rfl .nil)))))))), List.Sublist.refl _, (show Pm _ ((pu, natO lu (max na nm') 32) :: (lu, words us) :: (pA, natO lA nm' 32) :: (lA, words As) :: (pv, natO lv (max na nm') 32) :: (lv, words zs) :: (pB, natO lB na 32) :: (lB, words Bs) :: (pC, natO lC nm' 32) :: (lC, words ys0) :: (pD, natO lD na 32) :: (lD, words ys1) :: M) from (by repeat first | exact Pm.done | (apply Pm.step; repeat first | exact Rem.here | apply Rem.there))).perm⟩
          all_goals try (have := hG.ua; have := hG.vm; have := hG.v0; have := hG.u0; simp only []; omega)
          · exact (hG.cd.symm.halfU (by omega) (by omega)).symm
          · intro h
            have h3 := (hG.md h).halfV ho (by omega) hG.v0
            rw [show Bm.hv (C % 2 = 1 ∨ D % 2 = 1) C m = _ from if_neg hp, show Bm.hv (C % 2 = 1 ∨ D % 2 = 1) D a = _ from if_neg hp] at h3
            exact h3
        · rw [hx2]
          have hp : C % 2 = 1 ∨ D % 2 = 1 := .inr hx2
          refine WL.yes rfl rfl (WL.q (LX.bin rfl rfl rfl) rfl (WL.q (LX.pickF rfl rfl) rfl (WL.nil (thenK_normal (WC.yes rfl (WC.seq (WC.region (WL.q (LX.move rfl) rfl (WL.q (LX.move rfl) rfl (WL.q (LX.move rfl) rfl ?_))))))))))
          refine WL.callR (CS.pm (by repeat first | exact Pm.done | (apply Pm.step; repeat first | exact Rem.here | apply Rem.there)) (nadd (M := (pu, natO lu (max na nm') 32) :: (lu, words us) :: (pA, natO lA nm' 32) :: (lA, words As) :: (pv, natO lv (max na nm') 32) :: (lv, words zs) :: (pB, natO lB na 32) :: (lB, words Bs) :: (pD, natO lD na 32) :: (lD, words Ds) :: M) hCs hM (by repeat first | assumption | exact List.mem_cons_self | refine List.mem_cons_of_mem _ ?_) (by repeat first | assumption | exact List.mem_cons_self | refine List.mem_cons_of_mem _ ?_))) rfl (fun _ => by kernel_rfl) rfl ?_
          rintro _ _ ⟨ws0, k0, Z0, hk0, rfl, hw0, hZ0, rfl⟩
          
          refine WL.callR (rshift1 hk0 hw0) rfl (fun _ => by kernel_rfl) rfl ?_
          rintro _ _ ⟨ys0, rfl, hy0, rfl⟩
          rw [hZ0] at hy0
          refine WL.nil (thenK_normal (WC.region (WL.q (LX.move rfl) rfl (WL.q (LX.move rfl) rfl (WL.q (LX.move rfl) rfl ?_)))))
          refine WL.callR (CS.pm (by repeat first | exact Pm.done | (apply Pm.step; repeat first | exact Rem.here | apply Rem.there)) (nadd (M := (pu, natO lu (max na nm') 32) :: (lu, words us) :: (pA, natO lA nm' 32) :: (lA, words As) :: (pv, natO lv (max na nm') 32) :: (lv, words zs) :: (pB, natO lB na 32) :: (lB, words Bs) :: (pC, natO lC nm' 32) :: (lC, words ys0) :: M) hDs hA (by repeat first | assumption | exact List.mem_cons_self | refine List.mem_cons_of_mem _ ?_) (by repeat first | assumption | exact List.mem_cons_self | refine List.mem_cons_of_mem _ ?_))) rfl (fun _ => by kernel_rfl) rfl ?_
          rintro _ _ ⟨ws1, k1, Z1, hk1, rfl, hw1, hZ1, rfl⟩
          
          refine WL.callR (rshift1 hk1 hw1) rfl (fun _ => by kernel_rfl) rfl ?_
          rintro _ _ ⟨ys1, rfl, hy1, rfl⟩
          rw [hZ1] at hy1
          refine WL.nil ?_
          refine ⟨⟨us, As, zs, Bs, ys0, ys1, u', A, (v' / 2), B, ((C + m) / 2), ((D + a) / 2)⟩, _, ⟨hu, hAs, hz, hBs, hy0, hy1⟩, ⟨?_, ?_, ?_, ?_, ?_, ?_, ?_⟩, ?_, (.cons rfl (.cons rfl (.cons rfl (.cons rfl (.cons rfl (.cons rfl (.cons rfl (.cons rfl .nil)))))))), List.Sublist.refl _, (show Pm _ ((pu, natO lu (max na nm') 32) :: (lu, words us) :: (pA, natO lA nm' 32) :: (lA, words As) :: (pv, natO lv (max na nm') 32) :: (lv, words zs) :: (pB, natO lB na 32) :: (lB, words Bs) :: (pC, natO lC nm' 32) :: (lC, words ys0) :: (pD, natO lD na 32) :: (lD, words ys1) :: M) from (by repeat first | exact Pm.done | (apply Pm.step; repeat first | exact Rem.here | apply Rem.there))).perm⟩
          all_goals try (have := hG.ua; have := hG.vm; have := hG.v0; have := hG.u0; simp only []; omega)
          · exact (hG.cd.symm.halfU (by omega) (by omega)).symm
          · intro h
            have h3 := (hG.md h).halfV ho (by omega) hG.v0
            rw [show Bm.hv (C % 2 = 1 ∨ D % 2 = 1) C m = _ from if_pos hp, show Bm.hv (C % 2 = 1 ∨ D % 2 = 1) D a = _ from if_pos hp] at h3
            exact h3
      · rw [hx1]
        have hp : C % 2 = 1 ∨ D % 2 = 1 := .inl hx1
        refine WL.q (LX.bin rfl rfl rfl) rfl (WL.q (LX.move rfl) rfl (WL.no rfl rfl (by decide) rfl (WL.no rfl rfl (by decide) rfl (WL.no rfl rfl (by decide) rfl (WL.q (LX.pickT rfl rfl) rfl (WL.nil (thenK_normal (WC.yes rfl (WC.seq (WC.region (WL.q (LX.move rfl) rfl (WL.q (LX.move rfl) rfl (WL.q (LX.move rfl) rfl ?_)))))))))))))
        refine WL.callR (CS.pm (by repeat first | exact Pm.done | (apply Pm.step; repeat first | exact Rem.here | apply Rem.there)) (nadd (M := (pu, natO lu (max na nm') 32) :: (lu, words us) :: (pA, natO lA nm' 32) :: (lA, words As) :: (pv, natO lv (max na nm') 32) :: (lv, words zs) :: (pB, natO lB na 32) :: (lB, words Bs) :: (pD, natO lD na 32) :: (lD, words Ds) :: M) hCs hM (by repeat first | assumption | exact List.mem_cons_self | refine List.mem_cons_of_mem _ ?_) (by repeat first | assumption | exact List.mem_cons_self | refine List.mem_cons_of_mem _ ?_))) rfl (fun _ => by kernel_rfl) rfl ?_
        rintro _ _ ⟨ws0, k0, Z0, hk0, rfl, hw0, hZ0, rfl⟩
        
        refine WL.callR (rshift1 hk0 hw0) rfl (fun _ => by kernel_rfl) rfl ?_
        rintro _ _ ⟨ys0, rfl, hy0, rfl⟩
        rw [hZ0] at hy0
        refine WL.nil (thenK_normal (WC.region (WL.q (LX.move rfl) rfl (WL.q (LX.move rfl) rfl (WL.q (LX.move rfl) rfl ?_)))))
        refine WL.callR (CS.pm (by repeat first | exact Pm.done | (apply Pm.step; repeat first | exact Rem.here | apply Rem.there)) (nadd (M := (pu, natO lu (max na nm') 32) :: (lu, words us) :: (pA, natO lA nm' 32) :: (lA, words As) :: (pv, natO lv (max na nm') 32) :: (lv, words zs) :: (pB, natO lB na 32) :: (lB, words Bs) :: (pC, natO lC nm' 32) :: (lC, words ys0) :: M) hDs hA (by repeat first | assumption | exact List.mem_cons_self | refine List.mem_cons_of_mem _ ?_) (by repeat first | assumption | exact List.mem_cons_self | refine List.mem_cons_of_mem _ ?_))) rfl (fun _ => by kernel_rfl) rfl ?_
        rintro _ _ ⟨ws1, k1, Z1, hk1, rfl, hw1, hZ1, rfl⟩
        
        refine WL.callR (rshift1 hk1 hw1) rfl (fun _ => by kernel_rfl) rfl ?_
        rintro _ _ ⟨ys1, rfl, hy1, rfl⟩
        rw [hZ1] at hy1
        refine WL.nil ?_
        refine ⟨⟨us, As, zs, Bs, ys0, ys1, u', A, (v' / 2), B, ((C + m) / 2), ((D + a) / 2)⟩, _, ⟨hu, hAs, hz, hBs, hy0, hy1⟩, ⟨?_, ?_, ?_, ?_, ?_, ?_, ?_⟩, ?_, (.cons rfl (.cons rfl (.cons rfl (.cons rfl (.cons rfl (.cons rfl (.cons rfl (.cons rfl .nil)))))))), List.Sublist.refl _, (show Pm _ ((pu, natO lu (max na nm') 32) :: (lu, words us) :: (pA, natO lA nm' 32) :: (lA, words As) :: (pv, natO lv (max na nm') 32) :: (lv, words zs) :: (pB, natO lB na 32) :: (lB, words Bs) :: (pC, natO lC nm' 32) :: (lC, words ys0) :: (pD, natO lD na 32) :: (lD, words ys1) :: M) from (by repeat first | exact Pm.done | (apply Pm.step; repeat first | exact Rem.here | apply Rem.there))).perm⟩
        all_goals try (have := hG.ua; have := hG.vm; have := hG.v0; have := hG.u0; simp only []; omega)
        · exact (hG.cd.symm.halfU (by omega) (by omega)).symm
        · intro h
          have h3 := (hG.md h).halfV ho (by omega) hG.v0
          rw [show Bm.hv (C % 2 = 1 ∨ D % 2 = 1) C m = _ from if_pos hp, show Bm.hv (C % 2 = 1 ∨ D % 2 = 1) D a = _ from if_pos hp] at h3
          exact h3
  rintro E' M' ⟨⟨us, As, vs, Bs, Cs, Ds, u2, A, v2, B, C, D⟩, M2, ⟨hu, hAs, hv, hBs, hCs, hDs⟩, hG, hmes2, hE, hsub, hprm⟩
  refine WC.pm ⟨hprm⟩ (WC.cutM hsub (WC.cutE _ hE ?_))
  dsimp only at hu hAs hv hBs hCs hDs hG hmes2 ⊢
  refine WC.seq (WC.region (WL.q (LX.move rfl) rfl ?_))
  refine WL.call (isZeroN hv (by repeat first | assumption | exact List.mem_cons_self | refine List.mem_cons_of_mem _ ?_) (by repeat first | assumption | exact List.mem_cons_self | refine List.mem_cons_of_mem _ ?_)) rfl (fun _ => by kernel_rfl) rfl ?_
  by_cases hz : v2 = 0
  · rw [b1_is hz]
    refine WL.q (LX.bin rfl rfl rfl) rfl (WL.nil (thenK_normal (WC.yes rfl (WC.seq (WC.region (WL.q (LX.move rfl) rfl (WL.q (LX.move rfl) rfl (WL.q (LX.assign rfl) rfl (WL.q (LX.assign rfl) rfl (WL.q (LX.assign rfl) rfl (WL.nil (thenK_normal (WC.ret ?_)))))))))))))
    refine blockK_ret (loopS_ret (blockK_ret ?_))
    refine KR.three (.inl rfl) rfl rfl rfl rfl ⟨pu, lu, us, pA, lA, As, u2, A, [(pv, natO lv (max na nm') 32), (lv, words vs), (pB, natO lB na 32), (lB, words Bs), (pC, natO lC nm' 32), (lC, words Cs), (pD, natO lD na 32), (lD, words Ds)], rfl, rfl, hu, hAs, hG.u0, hG.ua, hz ▸ hG.cd, fun h => ⟨B, (hG.md h).out⟩⟩
  · rw [b1_not hz]
    refine WL.q (LX.bin rfl rfl rfl) rfl (WL.nil (thenK_normal (WC.no rfl (WC.skip (blockK_normal ?_)))))
    refine loopS_next ⟨us, As, vs, Bs, Cs, Ds, u2, A, v2, B, C, D⟩ ⟨⟨hu, hAs, hv, hBs, hCs, hDs⟩, hG, by have := hG.v0; simp only []; omega⟩ (by have := hG.v0; have := hG.u0; simp only []; omega) (.cons rfl (.cons rfl (.cons rfl (.cons rfl (.cons rfl (.cons rfl (.cons rfl (.cons rfl .nil)))))))) rfl
end
end Go.Proofs.YtdnngppofbmpeaaGreatDoor.Bm
