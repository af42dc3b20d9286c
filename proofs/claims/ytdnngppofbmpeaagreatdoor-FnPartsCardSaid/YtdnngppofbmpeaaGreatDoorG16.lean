/- Proved here: what InverseVarTime and GCDVarTime do; what SetBytes and SetOverflowingBytes do, where the bytes fit; what Bytes does; what slices.Clone of words, and SetBits of such a copy, do; what a number of the reference is in memory, and what trimmed and even do. Conditions: none but those that each theorem states. -/
import Derived.Test.YtdnngppofbmpeaaGreatDoorG15
namespace Go.Proofs.YtdnngppofbmpeaaGreatDoor.Bm
open Go Go.RowKit

section
variable {w0 : World} {M : Mem}
/-- GCDVarTime, where there is no answer: out is as it was -/
theorem nGCDno {p pa la na ca pb lb nb cb : Nat} {a b : Int} {xa xb : List Int} (hA : NV na ca a xa) (hB : NV nb cb b xb) (h0 : a = 0 ∨ b = 0 ∨ a % 2 = 0 ∧ b % 2 = 0) (hpa : (pa, natO la na ca) ∈ M) (hla : (la, words xa) ∈ M) (hpb : (pb, natO lb nb cb) ∈ M) (hlb : (lb, words xb) ∈ M) :
    CS w0 46 [ptr p, ptr pa, ptr pb] M (fun u M' => (∃ b, u = .tuple #[.pointer none, .iface 137 (ptr b)]) ∧ M' = M) := by
  have he : CS w0 99 [ptr pa, ptr pb] M (fun u M' => (∃ b, u = .tuple #[.pointer none, .pointer none, .iface 137 (ptr b)]) ∧ M' = M) := by
    by_cases hz : a = 0 ∨ b = 0
    · exact extGCDzero hA hB hz hpa hla hpb hlb
    · exact extGCDeven hA hB (by omega) (by omega) (by omega) hpa hla hpb hlb
  refine CS.of Tryz.func46 Tryz.ntmps46 rfl rfl (WC.seq (WC.region (WL.q (LX.assign rfl) rfl (WL.q (LX.assign rfl) rfl (WL.nil (thenK_normal (WC.seq (WC.region (WL.q (LX.move rfl) rfl (WL.q (LX.move rfl) rfl (WL.callR he rfl (fun _ => by kernel_rfl) rfl ?_)))))))))))
  rintro _ _ ⟨⟨b, rfl⟩, rfl⟩
  refine WL.q (LX.move rfl) rfl (WL.q (LX.extract rfl rfl) rfl (WL.q (LX.extract rfl rfl) rfl (WL.q (LX.extract rfl rfl) rfl (WL.q (LX.assign rfl) rfl (WL.q (LX.assign rfl) rfl (WL.q (LX.assign rfl) rfl (WL.nil (thenK_normal (WC.seq (WC.seq (WC.region (WL.q (LX.move rfl) rfl (WL.q (LX.errNeT rfl) rfl ?_)))))))))))))
  refine WL.nil (thenK_normal (WC.yes rfl (WC.seq (WC.region (WL.q (LX.move rfl) rfl (WL.q (LX.assign rfl) rfl (WL.q (LX.assign rfl) rfl (WL.nil (thenK_normal (WC.ret (thenK_ret ?_)))))))))))
  exact KR.two (.inl rfl) rfl rfl rfl ⟨⟨b, rfl⟩, rfl⟩

/-- GCDVarTime -/
theorem nGCD {p l n c pa la na ca pb lb nb cb : Nat} {a b : Int} {xs xa xb : List Int} (hl : xs.length = c) (hn : n ≤ c) (hc : c ≤ 1000) (hd : Dg W64 xs) (hcs : max na nb ≤ c) (hA : NV na ca a xa) (hB : NV nb cb b xb) (ha0 : 0 < a) (hb0 : 0 < b) (ho : a % 2 = 1 ∨ b % 2 = 1) (hna : na ≤ 31) (hnb : nb ≤ 31) (hpa : (pa, natO la na ca) ∈ M) (hla : (la, words xa) ∈ M) (hpb : (pb, natO lb nb cb) ∈ M) (hlb : (lb, words xb) ∈ M) :
    CS w0 46 [ptr p, ptr pa, ptr pb] ((p, natO l n c) :: (l, words xs) :: M) (fun u M' => ∃ zs g, u = .tuple #[ptr p, .nilIface] ∧ NV (max na nb) c g zs ∧ 0 < g ∧ Cd a b g 0 ∧ M' = (p, natO l (max na nb) c) :: (l, words zs) :: M) := by
  refine CS.post (R := fun u M' => ∃ zs g N, u = .tuple #[ptr p, .nilIface] ∧ NV (max na nb) c g zs ∧ 0 < g ∧ Cd a b g 0 ∧ M' = (p, natO l (max na nb) c) :: (l, words zs) :: (N ++ M)) ?_
    (fun v M' ⟨zs, g, N, h1, h2, h3, h4, h5⟩ => ⟨(p, natO l (max na nb) c) :: (l, words zs) :: M, h5 ▸ .cons_cons _ (.cons_cons _ (List.sublist_append_right _ _)), zs, g, h1, h2, h3, h4, rfl⟩)
  have hm : ∀ {z}, z ∈ M → z ∈ (p, natO l n c) :: (l, words xs) :: M := fun h => List.mem_cons_of_mem _ (List.mem_cons_of_mem _ h)
  refine CS.of Tryz.func46 Tryz.ntmps46 rfl rfl (WC.seq (WC.region (WL.q (LX.assign rfl) rfl (WL.q (LX.assign rfl) rfl (WL.nil (thenK_normal (WC.seq (WC.region (WL.q (LX.move rfl) rfl (WL.q (LX.move rfl) rfl (WL.callR (extGCD hA hB ha0 hb0 ho hna hnb (hm hpa) (hm hla) (hm hpb) (hm hlb)) rfl (fun _ => by kernel_rfl) rfl ?_)))))))))))
  rintro _ _ ⟨pu, lu, us, pA, lA, As, g, A, N, rfl, rfl, hu, hAs, hg, hga, hcd, hlt⟩
  refine WL.q (LX.move rfl) rfl (WL.q (LX.extract rfl rfl) rfl (WL.q (LX.extract rfl rfl) rfl (WL.q (LX.extract rfl rfl) rfl (WL.q (LX.assign rfl) rfl (WL.q (LX.assign rfl) rfl (WL.q (LX.assign rfl) rfl (WL.nil (thenK_normal (WC.seq (WC.seq (WC.region (WL.q (LX.move rfl) rfl (WL.q (LX.errNe rfl) rfl ?_)))))))))))))
  refine WL.nil (thenK_normal (WC.no rfl (WC.skip (thenK_normal (WC.seq (WC.region (WL.q (LX.move rfl) rfl (WL.q (LX.move rfl) rfl ?_))))))))
  have hperm : Pm ((pu, natO lu (max na nb) 32) :: (lu, words us) :: (pA, natO lA nb 32) :: (lA, words As) :: (N ++ (p, natO l n c) :: (l, words xs) :: M)) ((p, natO l n c) :: (l, words xs) :: ((pu, natO lu (max na nb) 32) :: (lu, words us) :: (pA, natO lA nb 32) :: (lA, words As) :: (N ++ M))) := by
    refine ⟨?_⟩
    have := List.perm_append_comm_assoc [(p, natO l n c), (l, words xs)] ([(pu, natO lu (max na nb) 32), (lu, words us), (pA, natO lA nb 32), (lA, words As)] ++ N) M
    simpa using this
  refine WL.callR (CS.pm hperm (nset hl hn hcs hc hd hu (by repeat first | assumption | exact List.mem_cons_self | refine List.mem_cons_of_mem _ ?_) (by repeat first | assumption | exact List.mem_cons_self | refine List.mem_cons_of_mem _ ?_))) rfl (fun _ => by kernel_rfl) rfl ?_
  rintro _ _ ⟨zs, rfl, hz, rfl⟩
  refine WL.q (LX.assign rfl) rfl (WL.q (LX.assign rfl) rfl (WL.nil (thenK_normal (WC.ret ?_))))
  exact KR.two (.inl rfl) rfl rfl rfl ⟨zs, g, [_, _, _, _] ++ N, rfl, hz, hg, hcd, rfl⟩

/-- InverseVarTime, where there is none: out is as it was -/
theorem nInvNo {p pa la na ca q pm lm nm' : Nat} {odd : Bool} {m0 a m : Int} {rv : Value} {xa xm : List Int} (hA : NV na ca a xa) (hM : MdR M q pm lm nm' 32 odd m0 rv xm m) (hm1 : 1 < m) (ham : a < m) (hna : na ≤ 31) (hnm : nm' ≤ 31) (hpa : (pa, natO la na ca) ∈ M) (hla : (la, words xa) ∈ M)
    (hno : ∀ x B : Int, x * a - B * m ≠ 1) :
    CS w0 45 [ptr p, ptr pa, ptr q] M (fun u M' => u = .tuple #[ptr p, .bool false] ∧ M' = M) := by
  have ha0 := hA.nonneg
  obtain ⟨hq, hp, hl, hv⟩ := id hM
  by_cases hbad : a = 0 ∨ a % 2 = 0 ∧ m % 2 = 0
  · have he : CS w0 99 [ptr pa, ptr pm] M (fun u M' => (∃ b, u = .tuple #[.pointer none, .pointer none, .iface 137 (ptr b)]) ∧ M' = M) := by
      by_cases hz : a = 0
      · exact extGCDzero hA hv (.inl hz) hpa hla hp hl
      · exact extGCDeven hA hv hz (by omega) (by omega) hpa hla hp hl
    refine CS.of Tryz.func45 Tryz.ntmps45 rfl rfl (WC.seq (WC.region (WL.q (LX.assign rfl) rfl (WL.q (LX.assign rfl) rfl (WL.nil (thenK_normal (WC.seq (WC.region (WL.q (LX.move rfl) rfl (WL.q (LX.move rfl) rfl (WL.q (LX.nilCheck rfl) rfl (WL.q (LX.field0 rfl rfl) rfl ?_))))))))))))
    refine WL.q (LX.load rfl rfl (by repeat first | assumption | exact List.mem_cons_self | refine List.mem_cons_of_mem _ ?_) rfl) rfl ?_
    refine WL.callR he rfl (fun _ => by kernel_rfl) rfl ?_
    rintro _ _ ⟨⟨b, rfl⟩, rfl⟩
    refine WL.q (LX.move rfl) rfl (WL.q (LX.extract rfl rfl) rfl (WL.q (LX.extract rfl rfl) rfl (WL.q (LX.extract rfl rfl) rfl (WL.q (LX.assign rfl) rfl (WL.q (LX.assign rfl) rfl (WL.q (LX.assign rfl) rfl (WL.nil (thenK_normal (WC.seq (WC.seq (WC.region (WL.q (LX.move rfl) rfl (WL.q (LX.errNeT rfl) rfl ?_)))))))))))))
    refine WL.nil (thenK_normal (WC.yes rfl (WC.seq (WC.region (WL.q (LX.move rfl) rfl (WL.q (LX.assign rfl) rfl (WL.q (LX.assign rfl) rfl (WL.nil (thenK_normal (WC.ret (thenK_ret ?_)))))))))))
    exact KR.two (.inl rfl) rfl rfl rfl ⟨rfl, rfl⟩
  · refine CS.post (R := fun u M' => u = .tuple #[ptr p, .bool false] ∧ M.Sublist M') ?_ (fun v M' ⟨h1, h2⟩ => ⟨M, h2, h1, rfl⟩)
    refine CS.of Tryz.func45 Tryz.ntmps45 rfl rfl (WC.seq (WC.region (WL.q (LX.assign rfl) rfl (WL.q (LX.assign rfl) rfl (WL.nil (thenK_normal (WC.seq (WC.region (WL.q (LX.move rfl) rfl (WL.q (LX.move rfl) rfl (WL.q (LX.nilCheck rfl) rfl (WL.q (LX.field0 rfl rfl) rfl ?_))))))))))))
    refine WL.q (LX.load rfl rfl (by repeat first | assumption | exact List.mem_cons_self | refine List.mem_cons_of_mem _ ?_) rfl) rfl ?_
    refine WL.callR (extGCD hA hv (by omega) (by omega) (by omega) hna hnm hpa hla hp hl) rfl (fun _ => by kernel_rfl) rfl ?_
    rintro _ _ ⟨pu, lu, us, pA, lA, As, g, A, N, rfl, rfl, hu, hAs, hg, hga, hcd, hlt⟩
    refine WL.q (LX.move rfl) rfl (WL.q (LX.extract rfl rfl) rfl (WL.q (LX.extract rfl rfl) rfl (WL.q (LX.extract rfl rfl) rfl (WL.q (LX.assign rfl) rfl (WL.q (LX.assign rfl) rfl (WL.q (LX.assign rfl) rfl (WL.nil (thenK_normal (WC.seq (WC.seq (WC.region (WL.q (LX.move rfl) rfl (WL.q (LX.errNe rfl) rfl ?_)))))))))))))
    refine WL.nil (thenK_normal (WC.no rfl (WC.skip (thenK_normal (WC.seq (WC.seq (WC.region (WL.q (LX.move rfl) rfl ?_))))))))
    refine WL.call (isOneN hu (by repeat first | assumption | exact List.mem_cons_self | refine List.mem_cons_of_mem _ ?_) (by repeat first | assumption | exact List.mem_cons_self | refine List.mem_cons_of_mem _ ?_)) rfl (fun _ => by kernel_rfl) rfl ?_
    obtain ⟨B, hB, _, _⟩ := hlt ham
    rw [b1_not (show ¬ g = 1 from fun h => hno A B (by omega))]
    refine WL.q (LX.bin rfl rfl rfl) rfl (WL.nil (thenK_normal (WC.yes rfl (WC.seq (WC.region (WL.q (LX.move rfl) rfl (WL.q (LX.assign rfl) rfl (WL.q (LX.assign rfl) rfl (WL.nil (thenK_normal (WC.ret (thenK_ret ?_))))))))))))
    exact KR.two (.inl rfl) rfl rfl rfl ⟨rfl, .cons _ (.cons _ (.cons _ (.cons _ (List.sublist_append_right _ _))))⟩

/-- InverseVarTime -/
theorem nInv {p l n c pa la na ca q pm lm nm' : Nat} {odd : Bool} {m0 a m : Int} {rv : Value} {xs xa xm : List Int} (hl' : xs.length = c) (hn : n ≤ c) (hc : c ≤ 1000) (hd : Dg W64 xs) (hcs : nm' ≤ c) (hA : NV na ca a xa) (hM : MdR M q pm lm nm' 32 odd m0 rv xm m) (hm1 : 1 < m) (ham : a < m) (hna : na ≤ 31) (hnm : nm' ≤ 31) (hpa : (pa, natO la na ca) ∈ M) (hla : (la, words xa) ∈ M)
    (hyes : ∃ x B : Int, x * a - B * m = 1) :
    CS w0 45 [ptr p, ptr pa, ptr q] ((p, natO l n c) :: (l, words xs) :: M) (fun u M' => ∃ zs A, u = .tuple #[ptr p, .bool true] ∧ NV nm' c A zs ∧ A < m ∧ (∃ B, A * a - B * m = 1) ∧ M' = (p, natO l nm' c) :: (l, words zs) :: M) := by
  refine CS.post (R := fun u M' => ∃ zs A N, u = .tuple #[ptr p, .bool true] ∧ NV nm' c A zs ∧ A < m ∧ (∃ B, A * a - B * m = 1) ∧ M' = (p, natO l nm' c) :: (l, words zs) :: (N ++ M)) ?_
    (fun v M' ⟨zs, g, N, h1, h2, h3, h4, h5⟩ => ⟨(p, natO l nm' c) :: (l, words zs) :: M, h5 ▸ .cons_cons _ (.cons_cons _ (List.sublist_append_right _ _)), zs, g, h1, h2, h3, h4, rfl⟩)
  have ha0 := hA.nonneg
  have hm : ∀ {z}, z ∈ M → z ∈ (p, natO l n c) :: (l, words xs) :: M := fun h => List.mem_cons_of_mem _ (List.mem_cons_of_mem _ h)
  obtain ⟨hq, hp, hl, hv⟩ := id hM
  obtain ⟨x, B, hxB⟩ := hyes
  have hodd : a % 2 = 1 ∨ m % 2 = 1 := by
    rcases Int.emod_two_eq a with h1 | h1 <;> rcases Int.emod_two_eq m with h2 | h2
    · exfalso
      have e1 := Int.mul_emod x a 2
      have e2 := Int.mul_emod B m 2
      rw [h1] at e1; rw [h2] at e2
      simp at e1 e2
      omega
    all_goals omega
  have ha1 : 0 < a := by
    rcases Int.lt_or_eq_of_le ha0 with h | h
    · exact h
    · exfalso
      rw [← h, Int.mul_zero] at hxB
      have : m ∣ 1 := ⟨-B, by rw [Int.mul_neg, Int.mul_comm]; omega⟩
      have := Int.le_of_dvd (by omega) this
      omega
  refine CS.of Tryz.func45 Tryz.ntmps45 rfl rfl (WC.seq (WC.region (WL.q (LX.assign rfl) rfl (WL.q (LX.assign rfl) rfl (WL.nil (thenK_normal (WC.seq (WC.region (WL.q (LX.move rfl) rfl (WL.q (LX.move rfl) rfl (WL.q (LX.nilCheck rfl) rfl (WL.q (LX.field0 rfl rfl) rfl ?_))))))))))))
  refine WL.q (LX.load rfl rfl (by repeat first | assumption | exact List.mem_cons_self | refine List.mem_cons_of_mem _ ?_) rfl) rfl ?_
  refine WL.callR (extGCD hA hv ha1 (by omega) hodd hna hnm (hm hpa) (hm hla) (hm hp) (hm hl)) rfl (fun _ => by kernel_rfl) rfl ?_
  rintro _ _ ⟨pu, lu, us, pA, lA, As, g, A, N, rfl, rfl, hu, hAs, hg, hga, hcd, hlt⟩
  obtain ⟨B', hB', hA0, hAm⟩ := hlt ham
  have hg1 : g = 1 := by
    have h1 := (hcd g).1 ⟨Int.dvd_refl _, Int.dvd_zero _⟩
    have h2 : g ∣ 1 := by
      rw [← hxB]
      exact Int.dvd_sub (Int.dvd_mul_of_dvd_right h1.1) (Int.dvd_mul_of_dvd_right h1.2)
    have := Int.le_of_dvd (by omega) h2
    omega
  refine WL.q (LX.move rfl) rfl (WL.q (LX.extract rfl rfl) rfl (WL.q (LX.extract rfl rfl) rfl (WL.q (LX.extract rfl rfl) rfl (WL.q (LX.assign rfl) rfl (WL.q (LX.assign rfl) rfl (WL.q (LX.assign rfl) rfl (WL.nil (thenK_normal (WC.seq (WC.seq (WC.region (WL.q (LX.move rfl) rfl (WL.q (LX.errNe rfl) rfl ?_)))))))))))))
  refine WL.nil (thenK_normal (WC.no rfl (WC.skip (thenK_normal (WC.seq (WC.seq (WC.region (WL.q (LX.move rfl) rfl ?_))))))))
  refine WL.call (isOneN hu (by repeat first | assumption | exact List.mem_cons_self | refine List.mem_cons_of_mem _ ?_) (by repeat first | assumption | exact List.mem_cons_self | refine List.mem_cons_of_mem _ ?_)) rfl (fun _ => by kernel_rfl) rfl ?_
  rw [b1_is hg1]
  refine WL.q (LX.bin rfl rfl rfl) rfl (WL.nil (thenK_normal (WC.no rfl (WC.skip (thenK_normal (WC.seq (WC.region (WL.q (LX.move rfl) rfl (WL.q (LX.move rfl) rfl ?_)))))))))
  have hperm : Pm ((pu, natO lu (max na nm') 32) :: (lu, words us) :: (pA, natO lA nm' 32) :: (lA, words As) :: (N ++ (p, natO l n c) :: (l, words xs) :: M)) ((p, natO l n c) :: (l, words xs) :: ((pu, natO lu (max na nm') 32) :: (lu, words us) :: (pA, natO lA nm' 32) :: (lA, words As) :: (N ++ M))) := by
    refine ⟨?_⟩
    have := List.perm_append_comm_assoc [(p, natO l n c), (l, words xs)] ([(pu, natO lu (max na nm') 32), (lu, words us), (pA, natO lA nm' 32), (lA, words As)] ++ N) M
    simpa using this
  refine WL.callR (CS.pm hperm (nset hl' hn hcs hc hd hAs (by repeat first | assumption | exact List.mem_cons_self | refine List.mem_cons_of_mem _ ?_) (by repeat first | assumption | exact List.mem_cons_self | refine List.mem_cons_of_mem _ ?_))) rfl (fun _ => by kernel_rfl) rfl ?_
  rintro _ _ ⟨zs, rfl, hz, rfl⟩
  refine WL.q (LX.assign rfl) rfl (WL.q (LX.assign rfl) rfl (WL.nil (thenK_normal (WC.ret ?_))))
  exact KR.two (.inl rfl) rfl rfl rfl ⟨zs, A, [_, _, _, _] ++ N, rfl, hz, hAm, ⟨B', by omega⟩, rfl⟩
end
end Go.Proofs.YtdnngppofbmpeaaGreatDoor.Bm
namespace Go.Proofs.YtdnngppofbmpeaaGreatDoor.Bm
open Go Go.RowKit

theorem top_bl {n c k : Nat} {X : Int} {xs : List Int} (h : NV n c X xs) (h0 : 0 < n) (hk : IsBl (gt xs (n - 1)) k) (ht : gt xs (n - 1) ≠ 0) : IsBl X (64 * (n - 1) + k) := by
  have h1 := h.len; have h2 := h.le
  have e := dv_take_gt W64 (xs := xs) (i := n - 1) (by omega)
  rw [show n - 1 + 1 = n by omega, h.val, W64_two] at e
  rw [e]
  refine hk.high (dv_nonneg W64_pos (h.dg.take _)) ?_ (by have := (dg_gt h.dg (n - 1)).1; omega)
  have := dv_lt W64_pos (h.dg.take (n - 1))
  rwa [List.length_take, Nat.min_eq_left (by omega), W64_two] at this
theorem top_zero {n c : Nat} {X : Int} {xs : List Int} (h : NV n c X xs) (h0 : 0 < n) (ht : gt xs (n - 1) = 0) : X < 2 ^ (64 * (n - 1)) := by
  have h1 := h.len; have h2 := h.le
  have e := dv_take_gt W64 (xs := xs) (i := n - 1) (by omega)
  rw [show n - 1 + 1 = n by omega, h.val, ht, Int.mul_zero, Int.add_zero] at e
  have := dv_lt W64_pos (h.dg.take (n - 1))
  rw [List.length_take, Nat.min_eq_left (by omega), W64_two] at this
  omega

section
variable {w0 : World} {M : Mem}
theorem setBytesN {p l n c cap : Nat} {A : Option Addr} {xs bs : List Int} (hb : Bsl M A bs cap) (hbd : Dg 256 bs) (hx : NV n c 0 xs) (hL : bs.length ≤ 8 * n) :
    CS w0 77 [ptr p, .slice A bs.length cap] ((p, natO l n c) :: (l, words xs) :: M)
      (fun u M' => u = .nilIface ∧ ∃ ys, NV n c (dv 256 bs.reverse) ys ∧ M' = (p, natO l n c) :: (l, words ys) :: M) := by
  have h1 := hx.len; have h2 := hx.le; have h3 := hx.small
  subst h1
  refine CS.post (setBytes hb hbd h2 h3 (fun i hi => hx.gt0 hi) hL hx.dg) ?_
  rintro v M' ⟨e, ys, hl, hd, hv, hM⟩
  exact ⟨M', List.Sublist.refl _, e, ys, ⟨hl, h2, h3, hd, hv⟩, hM⟩

/-- SetBytes -/
theorem nSetBytes {p l a n c cap q : Nat} {A : Option Addr} {xs bs : List Int} {V : Int} (hl : xs.length = c) (ha : a ≤ c) (hn : n ≤ c) (hc : c ≤ 1000) (hd : Dg W64 xs) (hb : Bsl M A bs cap) (hbd : Dg 256 bs) (hL : bs.length ≤ 8 * n) (hM : ModX M q n V) :
    CS w0 33 [ptr p, .slice A bs.length cap, ptr q] ((p, natO l a c) :: (l, words xs) :: M)
      (fun u M' => (if V ≤ dv 256 bs.reverse then ∃ b, u = .tuple #[.pointer none, .iface 137 (ptr b)] else u = .tuple #[ptr p, .nilIface]) ∧ ∃ ys, NV n c (dv 256 bs.reverse) ys ∧ M' = (p, natO l n c) :: (l, words ys) :: M) := by
  obtain ⟨pm, lm, odd, m0, rv, ms, hMr⟩ := hM.r
  obtain ⟨hq, hp, hlm, hv⟩ := id hMr
  refine CS.of Tryz.func33 Tryz.ntmps33 rfl rfl (WC.seq (WC.region (WL.q (LX.assign rfl) rfl (WL.q (LX.assign rfl) rfl (WL.nil (thenK_normal (WC.seq (WC.region (WL.q (LX.move rfl) rfl (WL.q (LX.move rfl) rfl (WL.callR (nresetFor hl ha hn hc hd hMr) rfl (fun _ => by kernel_rfl) rfl ?_)))))))))))
  rintro _ _ ⟨zs, rfl, hz, rfl⟩
  refine WL.nil (thenK_normal (WC.seq (WC.seq (WC.region (WL.q (LX.move rfl) rfl (WL.q (LX.move rfl) rfl (WL.callR (setBytesN hb hbd hz hL) rfl (fun _ => by kernel_rfl) rfl ?_)))))))
  rintro _ _ ⟨rfl, ys, hy, rfl⟩
  refine WL.q (LX.assign rfl) rfl (WL.nil (thenK_normal (WC.seq (WC.region (WL.q (LX.move rfl) rfl (WL.q (LX.errNe rfl) rfl (WL.nil (thenK_normal (WC.no rfl (WC.skip (thenK_normal (WC.seq (WC.seq ?_)))))))))))))
  refine WC.region (WL.q (LX.move rfl) rfl (WL.q (LX.move rfl) rfl (WL.q (LX.nilCheck rfl) rfl (WL.q (LX.field0 rfl rfl) rfl ?_))))
  refine WL.q (LX.load rfl rfl (by repeat first | assumption | exact List.mem_cons_self | refine List.mem_cons_of_mem _ ?_) rfl) rfl ?_
  refine WL.call (cmpGeq hy hv (by repeat first | assumption | exact List.mem_cons_self | refine List.mem_cons_of_mem _ ?_) (by repeat first | assumption | exact List.mem_cons_self | refine List.mem_cons_of_mem _ ?_) (by repeat first | assumption | exact List.mem_cons_self | refine List.mem_cons_of_mem _ ?_) (by repeat first | assumption | exact List.mem_cons_self | refine List.mem_cons_of_mem _ ?_)) rfl (fun _ => by kernel_rfl) rfl ?_
  by_cases hge : V ≤ dv 256 bs.reverse
  · rw [b1_is hge]
    refine WL.q (LX.bin rfl rfl rfl) rfl (WL.nil (thenK_normal (WC.yes rfl (WC.seq (WC.region (WL.callR errNew rfl (fun _ => by kernel_rfl) rfl ?_))))))
    rintro _ _ ⟨⟨b, rfl⟩, rfl⟩
    refine WL.q (LX.assign rfl) rfl (WL.q (LX.assign rfl) rfl (WL.nil (thenK_normal (WC.ret (thenK_ret ?_)))))
    exact KR.two (.inl rfl) rfl rfl rfl ⟨by rw [if_pos hge]; exact ⟨b, rfl⟩, ys, hy, rfl⟩
  · rw [b1_not hge]
    refine WL.q (LX.bin rfl rfl rfl) rfl (WL.nil (thenK_normal (WC.no rfl (WC.skip (thenK_normal (WC.seq (WC.region (WL.q (LX.move rfl) rfl (WL.q (LX.assign rfl) rfl (WL.q (LX.assign rfl) rfl (WL.nil (thenK_normal (WC.ret ?_)))))))))))))
    exact KR.two (.inl rfl) rfl rfl rfl ⟨by rw [if_neg hge], ys, hy, rfl⟩

/-- SetOverflowingBytes -/
theorem nSetOver {p l a n c cap q kx km : Nat} {A : Option Addr} {xs bs : List Int} {V : Int} (hl : xs.length = c) (ha : a ≤ c) (hn : n ≤ c) (hc : c ≤ 1000) (hd : Dg W64 xs) (hb : Bsl M A bs cap) (hbd : Dg 256 bs) (hL : bs.length ≤ 8 * n) (hM : ModX M q n V) (hkx : IsBl (dv 256 bs.reverse) kx) (hkm : IsBl V km) :
    CS w0 35 [ptr p, .slice A bs.length cap, ptr q] ((p, natO l a c) :: (l, words xs) :: M)
      (fun u M' => ((km < kx ∧ ∃ b Z, u = .tuple #[.pointer none, .iface 137 (ptr b)] ∧ ∃ ys, NV n c Z ys ∧ M' = (p, natO l n c) :: (l, words ys) :: M) ∨
        (¬ km < kx ∧ u = .tuple #[ptr p, .nilIface] ∧ ∃ ys Z, NV n c Z ys ∧ Z < V ∧ Cg V Z (dv 256 bs.reverse) ∧ M' = (p, natO l n c) :: (l, words ys) :: M))) := by
  obtain ⟨pm, lm, odd, m0, rv, ms, hMr⟩ := hM.r
  obtain ⟨hq, hp, hlm, hv⟩ := id hMr
  have hn0 := hM.n0
  have hn8 := hM.n8
  have hvl := hv.len
  refine CS.of Tryz.func35 Tryz.ntmps35 rfl rfl (WC.seq (WC.region (WL.q (LX.assign rfl) rfl (WL.q (LX.assign rfl) rfl (WL.nil (thenK_normal (WC.seq (WC.region (WL.q (LX.move rfl) rfl (WL.q (LX.move rfl) rfl (WL.callR (nresetFor hl ha hn hc hd hMr) rfl (fun _ => by kernel_rfl) rfl ?_)))))))))))
  rintro _ _ ⟨zs, rfl, hz, rfl⟩
  refine WL.nil (thenK_normal (WC.seq (WC.seq (WC.region (WL.q (LX.move rfl) rfl (WL.q (LX.move rfl) rfl (WL.callR (setBytesN hb hbd hz hL) rfl (fun _ => by kernel_rfl) rfl ?_)))))))
  rintro _ _ ⟨rfl, ys, hy, rfl⟩
  have hyl := hy.len
  refine WL.q (LX.assign rfl) rfl (WL.nil (thenK_normal (WC.seq (WC.region (WL.q (LX.move rfl) rfl (WL.q (LX.errNe rfl) rfl (WL.nil (thenK_normal (WC.no rfl ?_)))))))))
  have hmm : ∀ z ∈ [(p, natO l n c), (l, words ys), (q, modO pm odd m0 rv), (pm, natO lm n 32), (lm, words ms)], z ∈ (p, natO l n c) :: (l, words ys) :: M := by
    intro z hz
    simp only [List.mem_cons, List.not_mem_nil, or_false] at hz
    rcases hz with rfl | rfl | rfl | rfl | rfl
    · exact List.mem_cons_self
    · exact List.mem_cons_of_mem _ List.mem_cons_self
    · exact List.mem_cons_of_mem _ (List.mem_cons_of_mem _ hq)
    · exact List.mem_cons_of_mem _ (List.mem_cons_of_mem _ hp)
    · exact List.mem_cons_of_mem _ (List.mem_cons_of_mem _ hlm)
  refine WC.skip (thenK_normal (WC.seq (WC.seq (WC.draw [(0, 0), (0, 1), (0, 2), (0, 4), (0, 5), (0, 6), (0, 13), (0, 14), (0, 15), (0, 20), (0, 21), (0, 22), (1, 3), (1, 7), (0, 8), (0, 9), (0, 10), (1, 11), (1, 16), (0, 17), (0, 18), (1, 19), (1, 23), (0, 24), (0, 25), (1, 26), (0, 27), (0, 28), (0, 29), (1, 30), (2, 12), (2, 31), (0, 32)] [(p, natO l n c), (l, words ys), (q, modO pm odd m0 rv), (pm, natO lm n 32), (lm, words ms)] rfl (by kernel_rfl) rfl (by kernel_rfl) (DW.p rfl rfl (fun _ => LX.move rfl) rfl (DW.p rfl rfl (fun _ => LX.nilCheck rfl) rfl (DW.p rfl rfl (fun _ => LX.field0 rfl rfl) rfl (DW.p rfl rfl (fun _ => LX.move rfl) rfl (DW.p rfl rfl (fun _ => LX.nilCheck rfl) rfl (DW.p rfl rfl (fun _ => LX.field0 rfl rfl) rfl (DW.p rfl rfl (fun _ => LX.move rfl) rfl (DW.p rfl rfl (fun _ => LX.nilCheck rfl) rfl (DW.p rfl rfl (fun _ => LX.field0 rfl rfl) rfl ?_)))))))))))))
  refine DW.p rfl rfl (fun _ => LX.move rfl) rfl (DW.p rfl rfl (fun _ => LX.nilCheck rfl) rfl (DW.p rfl rfl (fun _ => LX.field0 rfl rfl) rfl ?_))
  refine DW.r rfl rfl (LX.load rfl rfl (by repeat first | assumption | exact List.mem_cons_self | refine List.mem_cons_of_mem _ ?_) rfl) hmm rfl ?_
  refine DW.r rfl rfl (LX.load rfl rfl (by repeat first | assumption | exact List.mem_cons_self | refine List.mem_cons_of_mem _ ?_) rfl) hmm rfl ?_
  refine DW.p rfl rfl (fun _ => LX.len rfl rfl rfl) rfl (DW.p rfl rfl (fun _ => LX.eq (LX.subI rfl rfl (by omega)) (show _ = Value.int .i64 ((n - 1 : Nat) : Int) by congr 1; omega)) rfl (DW.p rfl rfl (fun _ => LX.idx1 rfl rfl rfl _ rfl (by omega)) rfl ?_))
  refine DW.r rfl rfl (LX.loadRow rfl rfl (by repeat first | assumption | exact List.mem_cons_self | refine List.mem_cons_of_mem _ ?_) (by omega)) hmm rfl ?_
  refine DW.r rfl rfl (LX.load rfl rfl (by repeat first | assumption | exact List.mem_cons_self | refine List.mem_cons_of_mem _ ?_) rfl) hmm rfl ?_
  refine DW.p rfl rfl (fun _ => LX.nilCheck rfl) rfl (DW.p rfl rfl (fun _ => LX.field0 rfl rfl) rfl ?_)
  refine DW.r rfl rfl (LX.load rfl rfl (by repeat first | assumption | exact List.mem_cons_self | refine List.mem_cons_of_mem _ ?_) rfl) hmm rfl ?_
  refine DW.r rfl rfl (LX.load rfl rfl (by repeat first | assumption | exact List.mem_cons_self | refine List.mem_cons_of_mem _ ?_) rfl) hmm rfl ?_
  refine DW.p rfl rfl (fun _ => LX.nilCheck rfl) rfl (DW.p rfl rfl (fun _ => LX.field0 rfl rfl) rfl ?_)
  refine DW.r rfl rfl (LX.load rfl rfl (by repeat first | assumption | exact List.mem_cons_self | refine List.mem_cons_of_mem _ ?_) rfl) hmm rfl ?_
  refine DW.p rfl rfl (fun _ => LX.len rfl rfl rfl) rfl (DW.p rfl rfl (fun _ => LX.eq (LX.subI rfl rfl (by omega)) (show _ = Value.int .i64 ((n - 1 : Nat) : Int) by congr 1; omega)) rfl (DW.p rfl rfl (fun _ => LX.idx1 rfl rfl rfl _ rfl (by omega)) rfl ?_))
  refine DW.r rfl rfl (LX.loadRow rfl rfl (by repeat first | assumption | exact List.mem_cons_self | refine List.mem_cons_of_mem _ ?_) (by omega)) hmm rfl ?_
  refine DW.f rfl rfl (EX.call rfl (fun _ => by kernel_rfl) (nbitLen (dg_gt hy.dg (n - 1)))) rfl ?_
  rintro _ M1 ⟨⟨k1, rfl, hk1, hb1⟩, h1⟩
  subst h1
  refine ⟨hmm, ?_⟩
  
  refine DW.f rfl rfl (EX.call rfl (fun _ => by kernel_rfl) (nbitLen (dg_gt hv.dg (n - 1)))) rfl ?_
  rintro _ M1 ⟨⟨k2, rfl, hk2, hb2⟩, h1⟩
  subst h1
  refine ⟨hmm, ?_⟩
  refine DW.p rfl rfl (fun _ => LX.bin rfl rfl rfl) rfl (DW.nil (thenK_normal ?_))
  have hmt : gt ms (n - 1) ≠ 0 := by
    intro h
    have h1 := top_zero hv hn0 h
    have h2 := hM.norm
    rw [W64_two] at h2
    omega
  have ekm := hkm.uniq (top_bl hv hn0 hb2 hmt)
  have hk20 : 0 < k2 := by
    rcases Nat.eq_zero_or_pos k2 with h | h
    · subst h; exact absurd hb2.of0 hmt
    · exact h
  have hiff : k2 < k1 ↔ km < kx := by
    by_cases ht : gt ys (n - 1) = 0
    · have h1 := top_zero hy hn0 ht
      rw [ht] at hb1
      have h2 := hb1.uniq IsBl.zero
      have h3 : kx ≤ 64 * (n - 1) := by
        rcases hkx.ge with h | h
        · omega
        · rcases Nat.lt_or_ge (64 * (n - 1)) kx with h4 | h4
          · have := pow2_le (show 64 * (n - 1) ≤ kx - 1 by omega)
            omega
          · exact h4
      omega
    · have ekx := hkx.uniq (top_bl hy hn0 hb1 ht)
      omega
  refine WC.test rfl (fun hlt => ?_) (fun hge => ?_)
  · refine WC.seq (WC.region (WL.callR errNew rfl (fun _ => by kernel_rfl) rfl ?_))
    rintro _ M1 ⟨⟨b, rfl⟩, h1⟩
    subst h1
    refine WL.q (LX.assign rfl) rfl (WL.q (LX.assign rfl) rfl (WL.nil (thenK_normal (WC.ret (thenK_ret ?_)))))
    exact KR.two (.inl rfl) rfl rfl rfl (.inl ⟨hiff.1 (by omega), b, _, rfl, ys, hy, rfl⟩)
  · refine WC.skip (thenK_normal (WC.seq (WC.region (WL.q (LX.move rfl) rfl (WL.q (LX.move rfl) rfl ?_)))))
    have hnk : ¬ km < kx := fun h => by have := hiff.2 h; omega
    have hXV : dv 256 bs.reverse < 2 * V := by
      have h1 := hkx.lt
      have h2 := pow2_le (show kx ≤ km by omega)
      rcases hkm.ge with h3 | h3
      · omega
      · have h4 := pow2_succ (km - 1)
        rw [show km - 1 + 1 = km by omega] at h4
        omega
    refine WL.callR (maybeSub bt_zero hy (by omega) hMr (by omega)) rfl (fun _ => by kernel_rfl) rfl ?_
    rintro _ _ ⟨vs, rfl, hvs, rfl⟩
    refine WL.nil (thenK_normal (WC.seq (WC.region (WL.q (LX.move rfl) rfl (WL.q (LX.assign rfl) rfl (WL.q (LX.assign rfl) rfl (WL.nil (thenK_normal (WC.ret ?_)))))))))
    rw [Int.mul_zero, Int.add_zero] at hvs
    refine KR.two (.inl rfl) rfl rfl rfl (.inr ⟨hnk, rfl, vs, _, hvs, ?_, ?_, rfl⟩)
    · split <;> omega
    · split
      · exact Cg.refl
      · exact ⟨-1, by omega⟩
end
end Go.Proofs.YtdnngppofbmpeaaGreatDoor.Bm
namespace Go.Proofs.YtdnngppofbmpeaaGreatDoor.Bm
open Go Go.RowKit

/-- t bytes are written, from the end -/
structure By (size t : Nat) (X : Int) (zs : List Int) : Prop where
  len : zs.length = size
  le : t ≤ size
  dg : Dg 256 zs
  val : dv 256 (zs.reverse.take t) = X % 256 ^ t

theorem rev_set {zs : List Int} {t : Nat} {v : Int} (h : t < zs.length) : (zs.set (zs.length - 1 - t) v).reverse = zs.reverse.set t v := by
  apply List.ext_getElem
  · simp
  · intro i h1 h2
    have hi : i < zs.length := by simpa using h1
    rw [List.getElem_reverse, List.getElem_set, List.getElem_set]
    simp only [List.length_set]
    split <;> split <;> first | rfl | omega | (rw [List.getElem_reverse])

theorem p256 (t : Nat) : (0 : Int) < 256 ^ t := Int.pow_pos (by omega)
theorem mod_pow_succ (X : Int) (t : Nat) : X % 256 ^ (t + 1) = X % 256 ^ t + 256 ^ t * (X / 256 ^ t % 256) := by
  have hp := p256 t
  have h1 := Int.mul_ediv_add_emod X (256 ^ t)
  have h2 := Int.mul_ediv_add_emod (X / 256 ^ t) 256
  have h3 : X = (X % 256 ^ t + 256 ^ t * (X / 256 ^ t % 256)) + 256 ^ (t + 1) * (X / 256 ^ t / 256) := by
    rw [Int.pow_succ]
    generalize X / 256 ^ t = q at *
    generalize X % 256 ^ t = r at *
    generalize q / 256 = q2 at *
    generalize q % 256 = r2 at *
    subst h2
    grind
  have h4 := Int.emod_nonneg X (show (256 : Int) ^ t ≠ 0 by omega)
  have h5 := Int.emod_lt_of_pos X hp
  have h6 : 0 ≤ X / 256 ^ t % 256 ∧ X / 256 ^ t % 256 < 256 := by omega
  have h7 : 256 ^ t * (X / 256 ^ t % 256 + 1) ≤ 256 ^ t * 256 := Int.mul_le_mul_of_nonneg_left (by omega) (by omega)
  rw [Int.mul_add, Int.mul_one] at h7
  have h8 : 0 ≤ 256 ^ t * (X / 256 ^ t % 256) := Int.mul_nonneg (by omega) h6.1
  conv => lhs; rw [h3]
  rw [Int.add_mul_emod_self_left, Int.emod_eq_of_lt (by omega) (by rw [Int.pow_succ]; omega)]

theorem dg_rep0' (n : Nat) : Dg 256 (List.replicate n 0) := Dg.replicate (by omega) n
theorem u8_mod (x : Int) : IntKind.u8.wrap x = x % 256 := by simp [IntKind.wrap, IntKind.bits, IntKind.signed]
theorem rest_mod {x r : Int} {d : Nat} (h : 0 < d) : x % 256 = (x + 256 ^ d * r) % 256 := by
  obtain ⟨e, rfl⟩ : ∃ e, d = e + 1 := ⟨d - 1, by omega⟩
  have : (256 : Int) ^ (e + 1) * r = 256 * (256 ^ e * r) := by rw [Int.pow_succ]; grind
  rw [this, Int.add_mul_emod_self_left]

theorem By.next {size t : Nat} {X : Int} {zs : List Int} (h : By size t X zs) (ht : t < size) : By size (t + 1) X (zs.set (size - 1 - t) (X / 256 ^ t % 256)) := by
  have hl := h.len
  refine ⟨by simpa using hl, ht, h.dg.set (by omega) (by omega) _, ?_⟩
  have e := rev_set (zs := zs) (t := t) (v := X / 256 ^ t % 256) (by omega)
  rw [hl] at e
  rw [e, dv_take_set (by simp; omega), h.val, mod_pow_succ]

theorem W256 (k : Nat) : W64 ^ k = 256 ^ (8 * k) := by rw [W64_two, pow256]; congr 1; omega

/-- what is left of X at byte j of word k -/
theorem limb_at {n c k j : Nat} {X : Int} {xs : List Int} (h : NV n c X xs) (hk : k < n) (hj : j ≤ 8) : ∃ r, 0 ≤ r ∧ X / 256 ^ (8 * k + j) = gt xs k / 256 ^ j + 256 ^ (8 - j) * r := by
  have hl := h.len; have hle := h.le
  refine ⟨dv W64 ((xs.take n).drop (k + 1)), dv_nonneg W64_pos ((h.dg.take n).drop _), ?_⟩
  have e1 := dv_split W64 (xs.take n) k (by simp; omega)
  rw [h.val, drop_take_cons (by omega) hk] at e1
  have h1 := dv_nonneg W64_pos ((h.dg.take n).take k)
  have h2 := dv_lt W64_pos ((h.dg.take n).take k)
  rw [show ((xs.take n).take k).length = k by simp; omega] at h2
  generalize dv W64 ((xs.take n).take k) = lo at *
  generalize dv W64 ((xs.take n).drop (k + 1)) = r at *
  have hp := p256 j
  rw [Int.pow_add, ← W256, ← Int.ediv_ediv_of_nonneg (Int.le_of_lt (pow_pos W64_pos k)), e1, Int.add_mul_ediv_left _ _ (by have := pow_pos W64_pos k; omega), Int.ediv_eq_zero_of_lt h1 h2, Int.zero_add]
  have e2 : W64 = 256 ^ j * 256 ^ (8 - j) := by
    rw [← Int.pow_add, show j + (8 - j) = 8 by omega]; unfold W64; decide
  rw [e2, Int.mul_assoc, Int.add_mul_ediv_left _ _ (by omega)]

section
variable {w0 : World} {M : Mem}
/-- Bytes -/
theorem nBytes {p l n c q : Nat} {X V : Int} {xs : List Int} (hx : NV n c X xs) (hX : X < V) (hp : (p, natO l n c) ∈ M) (hl : (l, words xs) ∈ M) (hM : ModX M q n V) :
    CS w0 57 [ptr p, ptr q] M (fun u M' => ∃ b size zs kb, u = .slice (some ⟨b, 0, none⟩) size size ∧ IsBl V kb ∧ kb ≤ 64 * n ∧ size = (kb + 7) / 8 ∧ zs.length = size ∧ Dg 256 zs ∧ dv 256 zs.reverse = X ∧ M' = (b, bytes zs) :: M) := by
  obtain ⟨pm, lm, odd, m0, rv, ms, hMr⟩ := hM.r
  have hxl := hx.len; have hxle := hx.le; have hxs := hx.small
  have hn0 := hM.n0; have hn8 := hM.n8
  have hX0 := hx.nonneg
  refine CS.of Tryz.func57 Tryz.ntmps57 rfl rfl (WC.seq (WC.region (WL.q (LX.assign rfl) rfl (WL.nil (thenK_normal (WC.seq (WC.region (WL.q (LX.move rfl) rfl (WL.callR (modSize hMr) rfl (fun _ => by kernel_rfl) rfl ?_)))))))))
  rintro _ M1 ⟨⟨kb, rfl, hkb, hb⟩, hM1⟩
  subst hM1
  have hkl : 64 * (n - 1) < kb := by
    rcases Nat.lt_or_ge (64 * (n - 1)) kb with h | h
    · exact h
    · have h1 := hb.lt
      have h2 := pow2_le h
      have h3 := hM.norm
      rw [W64_two] at h3
      omega
  obtain ⟨size, hsz⟩ : ∃ size, size = (kb + 7) / 8 := ⟨_, rfl⟩
  rw [← hsz]
  have hXs : X < 256 ^ size := by
    have h1 := hb.lt
    have h2 := pow2_le (show kb ≤ 8 * size by omega)
    rw [pow256]; omega
  refine WL.q (LX.assign rfl) rfl (WL.nil (thenK_normal (WC.seq (WC.region (WL.q (LX.move rfl) rfl (WL.step rfl (EX.make (k := .u8) (e := 5) rfl rfl rfl rfl size size rfl rfl (Nat.le_refl _) (by omega) (by omega)) ?_))))))
  rintro _ _ ⟨b, rfl, rfl⟩
  refine WL.q (LX.assign rfl) rfl (WL.nil (thenK_normal (WC.seq (WC.seq (WC.region (WL.q (LX.move rfl) rfl (WL.q (LX.nilCheck rfl) rfl (WL.q (LX.field0 rfl rfl) rfl ?_))))))))
  refine WL.q (LX.load rfl rfl (by repeat first | assumption | exact List.mem_cons_self | refine List.mem_cons_of_mem _ ?_) rfl) rfl ?_
  refine WL.q (LX.len rfl rfl rfl) rfl (WL.q (LX.move rfl) rfl (WL.nil (thenK_normal (WC.block ?_))))
  refine WC.loopS (fun s : Nat × Int × List Int => [(5, .int .i64 s.2.1), (6, .slice (some ⟨b, 0, none⟩) size size), (17, .slice (some ⟨l, 0, none⟩) n c), (18, .int .i64 n), (19, .int .i64 s.1)]) (fun s => (b, bytes s.2.2) :: M1)
    (fun s => s.1 ≤ n ∧ By size (min (8 * s.1) size) X s.2.2 ∧ (s.1 < n → s.2.1 = (size : Int) - 8 * s.1)) (fun s => n - s.1) (0, size, List.replicate size 0)
    ⟨Nat.zero_le _, ⟨by simp, by simp only []; omega, dg_rep0' size, by simp only []; rw [show min (8 * 0) size = 0 by omega]; simp [Int.emod_one]⟩, fun _ => by simp⟩ (.cons rfl (.cons rfl (.cons rfl (.cons rfl (.cons rfl .nil))))) rfl ?_
  rintro ⟨k, i, zs⟩ ⟨hk, hby, hi⟩
  dsimp only at hk hby hi ⊢
  refine WC.seq (WC.region (WL.q (LX.bin rfl rfl rfl) rfl (WL.nil (thenK_normal (WC.seq ?_)))))
  refine WC.test rfl (fun hlt => ?_) (fun hge => ?_)
  · obtain rfl := hi (by omega)
    have hx1 := wd_def (dg_gt hx.dg k)
    refine WC.skip (thenK_normal (WC.seq (WC.block (WC.seq (WC.region (WL.q (LX.idx1 rfl rfl rfl _ rfl (by omega)) rfl ?_))))))
    refine WL.q (LX.loadRow rfl rfl (by repeat first | assumption | exact List.mem_cons_self | refine List.mem_cons_of_mem _ ?_) (by omega)) rfl ?_
    refine WL.q (LX.assign rfl) rfl (WL.nil (thenK_normal (WC.seq (WC.region (WL.q (LX.assign rfl) rfl (WL.nil (thenK_normal (WC.block ?_))))))))
    rw [show min (8 * k) size = 8 * k by omega] at hby
    refine WC.loopS (fun s : Nat × List Int => [(5, .int .i64 ((size : Int) - 8 * k - s.1)), (6, .slice (some ⟨b, 0, none⟩) size size), (8, .int .u64 (gt xs k / 256 ^ s.1)), (9, .int .i64 s.1), (17, .slice (some ⟨l, 0, none⟩) n c), (18, .int .i64 n), (19, .int .i64 k)]) (fun s => (b, bytes s.2) :: M1)
      (fun s => s.1 ≤ 8 ∧ By size (8 * k + s.1) X s.2) (fun s => 8 - s.1) (0, zs)
      ⟨Nat.zero_le _, hby⟩ ?_ rfl ?_
    · simp only [Int.pow_zero, Int.ediv_one, Int.natCast_zero, Int.sub_zero]
      exact (.cons rfl (.cons rfl (.cons rfl (.cons rfl (.cons rfl (.cons rfl (.cons rfl .nil)))))))
    rintro ⟨j, zs⟩ ⟨hj, hby⟩
    dsimp only at hj hby ⊢
    have hzl := hby.len
    have hzle := hby.le
    have hlim0 : 0 ≤ gt xs k / 256 ^ j := Int.ediv_nonneg hx1.1 (Int.le_of_lt (p256 j))
    have hlim1 : gt xs k / 256 ^ j ≤ gt xs k := Int.ediv_le_self _ hx1.1
    obtain ⟨r, hr0, hr⟩ := limb_at hx (k := k) (j := j) (by omega) hj
    have hd : gt xs k / 256 ^ j / 2 ^ (min (8 : Int).toNat IntKind.u64.bits) = gt xs k / 256 ^ (j + 1) := by
      rw [show (2 : Int) ^ (min (8 : Int).toNat IntKind.u64.bits) = 256 by decide, Int.ediv_ediv_of_nonneg (Int.le_of_lt (p256 j)), ← Int.pow_succ]
    refine WC.seq (WC.seq (WC.region (WL.q (LX.move rfl) rfl (WL.q (LX.bin rfl rfl rfl) rfl (WL.nil (thenK_normal ?_))))))
    refine WC.test rfl (fun hlt2 => ?_) (fun hge2 => ?_)
    · refine WC.skip (thenK_normal (WC.seq (WC.block (WC.seq (WC.region (WL.q (LX.move rfl) rfl (WL.q (LX.eq (LX.subI rfl rfl (by omega)) (show _ = Value.int .i64 ((size : Int) - 8 * k - ((j + 1 : Nat) : Int)) by congr 1; omega)) rfl (WL.q (LX.assign rfl) rfl (WL.nil (thenK_normal (WC.seq (WC.seq (WC.region ?_)))))))))))))
      refine WL.q (LX.move rfl) rfl (WL.q (LX.bin rfl rfl rfl) rfl (WL.nil (thenK_normal ?_)))
      refine WC.test rfl (fun hneg => ?_) (fun hpos => ?_)
      · have hl0 : gt xs k / 256 ^ j = 0 := by
          rw [show 8 * k + j = size by omega, Int.ediv_eq_zero_of_lt hX0 hXs] at hr
          have := Int.mul_nonneg (Int.le_of_lt (p256 (8 - j))) hr0
          omega
        refine WC.seq (WC.seq (WC.region (WL.q (LX.move rfl) rfl (WL.q (LX.bin rfl rfl rfl) rfl (WL.nil (thenK_normal ?_))))))
        refine WC.test rfl (fun _ => ?_) (fun h => absurd hl0 h)
        refine WC.exit (thenK_exit (thenK_exit (blockK_other rfl (thenK_exit (loopS_exit (blockK_same (blockK_normal (thenK_normal (WC.region (WL.q (LX.addI rfl rfl (by omega)) rfl (WL.q (LX.move rfl) rfl (WL.nil ?_))))))))))))
        refine loopS_next (k + 1, _, zs) ⟨by simp only []; omega, ?_, fun h => ?_⟩ (by simp only []; omega) (.cons rfl (.cons rfl (.cons rfl (.cons rfl (.cons rfl .nil))))) rfl
        · simp only []
          rw [show min (8 * (k + 1)) size = 8 * k + j by omega]
          exact hby
        · simp only [] at h ⊢
          omega
      · skip
        refine WC.skip (thenK_normal (WC.seq (WC.region (WL.q (LX.move rfl) rfl (WL.q (LX.move rfl) rfl (WL.q (LX.move rfl) rfl (WL.q (LX.eq (LX.conv rfl rfl rfl) (show _ = Value.int .u8 (X / 256 ^ (8 * k + j) % 256) by rw [u8_mod, hr, ← rest_mod (by omega)])) rfl (WL.q (LX.idx1 rfl rfl rfl (size - 1 - (8 * k + j)) (by omega) (by omega)) rfl (WL.put (EX.storeRow rfl rfl rfl List.mem_cons_self (by omega) Upd.here) (WL.nil (thenK_normal (WC.region (WL.q (LX.move rfl) rfl ?_)))))))))))))
        refine WL.q (LX.eq (LX.shr rfl rfl (by omega) (by omega)) (by rw [hd])) rfl ?_
        refine WL.q (LX.assign rfl) rfl (WL.nil (blockK_normal (thenK_normal (WC.region (WL.q (LX.move rfl) rfl (WL.q (LX.addI rfl rfl (by omega)) rfl (WL.q (LX.assign rfl) rfl (WL.nil ?_))))))))
        exact loopS_next (j + 1, _) ⟨by simp only []; omega, hby.next (by omega)⟩ (by simp only []; omega) (.cons rfl (.cons rfl (.cons rfl (.cons rfl (.cons rfl (.cons rfl (.cons rfl .nil))))))) rfl
    · refine WC.exit (thenK_exit (loopS_exit (blockK_same (blockK_normal (thenK_normal (WC.region (WL.q (LX.addI rfl rfl (by omega)) rfl (WL.q (LX.move rfl) rfl (WL.nil ?_)))))))))
      obtain rfl : j = 8 := by omega
      refine loopS_next (k + 1, _, zs) ⟨by simp only []; omega, ?_, fun h => ?_⟩ (by simp only []; omega) (.cons rfl (.cons rfl (.cons rfl (.cons rfl (.cons rfl .nil))))) rfl
      · simp only []
        rw [show min (8 * (k + 1)) size = 8 * k + 8 by omega]
        exact hby
      · simp only [] at h ⊢
        omega
  · refine WC.exit (thenK_exit (loopS_exit (blockK_same (thenK_normal (WC.seq (WC.region (WL.q (LX.move rfl) rfl (WL.q (LX.assign rfl) rfl (WL.nil (thenK_normal (WC.ret ?_)))))))))))
    obtain rfl : k = n := by omega
    have hval := hby.val
    rw [show min (8 * k) size = size by omega, List.take_of_length_le (by simp; have := hby.len; omega), Int.emod_eq_of_lt hX0 hXs] at hval
    exact KR.one (.inl rfl) rfl rfl ⟨b, size, zs, kb, rfl, hb, hkb, hsz, hby.len, hby.dg, hval, rfl⟩
end
end Go.Proofs.YtdnngppofbmpeaaGreatDoor.Bm
namespace Go.Proofs.YtdnngppofbmpeaaGreatDoor.Bm
open Go Go.RowKit

def isW (v : Value) : Prop := ∃ q, v = .int .u64 q ∧ wd q
theorem ints_inj {k : IntKind} : ∀ {a c : List Int}, a.map (Value.int k) = c.map (Value.int k) → a = c
  | [], c, h => by cases c <;> simp_all
  | x :: a, [], h => by simp at h
  | x :: a, y :: c, h => by
    simp only [List.map_cons, List.cons.injEq, Value.int.injEq, true_and] at h
    rw [h.1, ints_inj h.2]

section
variable {w0 : World} {M : Mem}
/-- slices.Clone of a number's words -/
theorem cloneU {l n c : Nat} {X : Int} {xs : List Int} (hx : NV n c X xs) (hl : (l, words xs) ∈ M) :
    CS w0 50 [.slice (some ⟨l, 0, none⟩) n c] M (fun u M' => ∃ b full, u = .slice (some ⟨b, 0, none⟩) n full.length ∧ n ≤ full.length ∧ Dg W64 full ∧ dv W64 (full.take n) = X ∧ M' = (b, words full) :: M) := by
  have hxl := hx.len; have hxn := hx.le; have hxs := hx.small
  refine CS.of Tryz.func50 Tryz.ntmps50 rfl rfl (WC.seq (WC.region (WL.q (LX.assign rfl) rfl (WL.nil (thenK_normal (WC.seq (WC.seq (WC.region (WL.q (LX.move rfl) rfl (WL.q (LX.isNil rfl rfl) rfl (WL.nil (thenK_normal ?_))))))))))))
  refine WC.cond rfl (fun h => by simp at h) (fun _ => ?_)
  refine WC.skip (thenK_normal (WC.seq (WC.region (WL.step rfl (EX.bslice (e := 53) (cs := []) rfl (fun _ => by kernel_rfl)) ?_))))
  rintro _ _ ⟨b, rfl, rfl⟩
  refine WL.q (LX.move rfl) rfl ?_
  have hown : Own isW 53 (.slice (some ⟨b, 0, none⟩) 0 0) [] M ((b, .cells (#[] : Array Value) 53 (0, 0)) :: M) := .inr ⟨b, [], rfl, Nat.le_refl _, rfl, rfl, by simp⟩
  by_cases hn0 : n = 0
  · subst hn0
    refine WL.q (LX.append0 rfl (Nat.le_refl _) rfl rfl rfl rfl) rfl (WL.q (LX.assign rfl) rfl (WL.nil (thenK_normal (WC.ret ?_))))
    exact KR.one (.inl rfl) rfl rfl ⟨b, [], rfl, Nat.zero_le _, Dg.nil _, by rw [← hx.val]; rfl, rfl⟩
  have hsl : sliceL (xs.map (Value.int .u64)) 0 n = (xs.take n).map (Value.int .u64) := by simp [sliceL, List.map_take]
  refine WL.appendOwn (EX.append (ds := (xs.take n).map (Value.int .u64)) (d := xs.map (Value.int .u64)) rfl hown rfl rfl rfl rfl rfl ⟨0, rfl, wd_zero⟩ ?_ (fun w hw => (hw.has _ (List.mem_cons_of_mem _ hl)).2) (by simp; omega) hsl ?_ (by simp; omega)) rfl ?_
  · intro u hu; obtain ⟨q, hq, rfl⟩ := List.mem_map.1 hu; exact ⟨q, rfl, (hx.dg.take n) q hq⟩
  · intro u hu; obtain ⟨q, hq, rfl⟩ := List.mem_map.1 hu; rfl
  rintro v M' hv
  rcases hv with ⟨rfl, h, rfl⟩ | ⟨b', cc, rfl, hlc, htk, rfl, hG⟩
  · exfalso
    have := congrArg List.length h
    simp only [List.nil_append, List.length_map, List.length_take, List.length_nil] at this
    omega
  · obtain ⟨full, rfl⟩ := ints_of (k := .u64) (fun u hu => let ⟨q, h, _⟩ := hG u hu; ⟨q, h⟩)
    have hlen : (([] : List Value) ++ (xs.take n).map (Value.int .u64)).length = n := by simp; omega
    rw [hlen] at hlc htk ⊢
    simp only [List.nil_append, List.length_map] at hlc htk ⊢
    rw [← List.map_take] at htk
    have htk' := ints_inj htk
    refine WL.q (LX.assign rfl) rfl (WL.nil (thenK_normal (WC.ret ?_)))
    refine KR.one (.inl rfl) rfl rfl ⟨b', full, rfl, hlc, fun x hx' => ?_, by rw [htk', hx.val], rfl⟩
    obtain ⟨q, h1, h2⟩ := hG (.int .u64 x) (List.mem_map.2 ⟨x, hx', rfl⟩)
    cases h1
    exact h2

/-- SetBits, out of a copy of words -/
theorem nsetBitsC {p l a n c ly cy : Nat} {Y : Int} {xs ys : List Int} (hxl : xs.length = c) (ha : a ≤ c) (hn : n ≤ c) (hc : c ≤ 1000) (hd : Dg W64 xs) (hyn : n ≤ ys.length) (hyd : Dg W64 ys) (hyv : dv W64 (ys.take n) = Y) (hly : (ly, words ys) ∈ M) :
    CS w0 49 [ptr p, .slice (some ⟨ly, 0, none⟩) n cy] ((p, natO l a c) :: (l, words xs) :: M)
      (fun u M' => ∃ zs, u = ptr p ∧ NV n c Y zs ∧ M' = (p, natO l n c) :: (l, words zs) :: M) := by
  refine CS.of Tryz.func49 Tryz.ntmps49 rfl rfl (WC.seq (WC.region (WL.q (LX.assign rfl) rfl (WL.nil (thenK_normal (WC.seq (WC.region (WL.q (LX.move rfl) rfl (WL.q (LX.move rfl) rfl (WL.q (LX.len rfl rfl rfl) rfl (WL.callR (nreset' hxl hn ha hc hd) rfl (fun _ => by kernel_rfl) rfl ?_)))))))))))
  rintro _ _ ⟨zs, rfl, hz, rfl⟩
  have hzl := hz.len
  refine WL.nil (thenK_normal (WC.seq (WC.region (WL.q (LX.move rfl) rfl (WL.q (LX.nilCheck rfl) rfl (WL.q (LX.field0 rfl rfl) rfl ?_))))))
  refine WL.q (LX.load rfl rfl (by repeat first | assumption | exact List.mem_cons_self | refine List.mem_cons_of_mem _ ?_) rfl) rfl ?_
  refine WL.q (LX.move rfl) rfl ?_
  refine WL.val (EX.copy (s := 0) (k := .u64) rfl rfl rfl rfl (by repeat first | assumption | exact List.mem_cons_self | refine List.mem_cons_of_mem _ ?_) (by repeat first | assumption | exact List.mem_cons_self | refine List.mem_cons_of_mem _ ?_) (by omega) (by omega) (Nat.min_self n).symm (by repeat first | exact Upd.here | apply Upd.there)) rfl ?_
  refine WL.nil (thenK_normal (WC.seq (WC.region (WL.q (LX.move rfl) rfl (WL.q (LX.assign rfl) rfl (WL.nil (thenK_normal (WC.ret ?_))))))))
  refine KR.one (.inl rfl) rfl rfl ⟨_, rfl, ⟨?_, hn, hc, putL_dg hz.dg hyd, by rw [take_putL (by omega) (by omega), hyv]⟩, rfl⟩
  rw [putL_len (by omega) (by omega)]; omega
end
end Go.Proofs.YtdnngppofbmpeaaGreatDoor.Bm
namespace Go.Proofs.YtdnngppofbmpeaaGreatDoor.Bm
open Go Go.RowKit

abbrev B16 : Int := 65536
theorem B16_pos : 0 < B16 := by decide
abbrev ints (xs : List Int) : Obj := row .i64 3 xs

/-- digits in memory: the slice reads as ds -/
inductive Ds (M : Mem) : Value → List Int → Prop
  | nil {A : Option Addr} {cap : Nat} : Ds M (.slice A 0 cap) []
  | mk {b o cap : Nat} {full ds : List Int} (hm : (b, ints full) ∈ M) (h0 : 0 < ds.length) (hl : o + ds.length ≤ full.length) (hs : sliceL full o ds.length = ds) (hc : ds.length ≤ cap) : Ds M (.slice (some ⟨b, o, none⟩) ds.length cap) ds
theorem Ds.mono {M N : Mem} {v : Value} {ds : List Int} (h : Ds M v ds) (hs : ∀ p ∈ M, p ∈ N) : Ds N v ds := by
  cases h with
  | nil => exact .nil
  | mk hm h0 hl h hc => exact .mk (hs _ hm) h0 hl h hc

theorem sliceL_gt {xs : List Int} {o k i : Nat} (hi : i < k) : gt (sliceL xs o k) i = gt xs (o + i) := by
  unfold sliceL gt
  rw [List.getD_eq_getElem?_getD, List.getD_eq_getElem?_getD, List.getElem?_take, if_pos hi, List.getElem?_drop]

/-- a number of the reference: its digits in base 65536, none of them at the end 0 -/
structure Num (M : Mem) (v : Value) (V : Int) (ds : List Int) : Prop where
  mem : Ds M v ds
  dg : Dg B16 ds
  val : dv B16 ds = V
  top : ds = [] ∨ gt ds (ds.length - 1) ≠ 0
theorem Num.mono {M N : Mem} {v : Value} {V : Int} {ds : List Int} (h : Num M v V ds) (hs : ∀ p ∈ M, p ∈ N) : Num N v V ds := ⟨h.mem.mono hs, h.dg, h.val, h.top⟩
theorem Num.nonneg {M : Mem} {v : Value} {V : Int} {ds : List Int} (h : Num M v V ds) : 0 ≤ V := h.val ▸ dv_nonneg B16_pos h.dg
theorem B16_two (k : Nat) : B16 ^ k = 2 ^ (16 * k) := by
  have : B16 = 2 ^ 16 := by decide
  rw [this, ← Int.pow_mul]
theorem Num.ge {M : Mem} {v : Value} {V : Int} {ds : List Int} (h : Num M v V ds) (h0 : ds ≠ []) : B16 ^ (ds.length - 1) ≤ V := by
  have hl : 0 < ds.length := List.length_pos_iff.2 h0
  rcases h.top with h1 | h1
  · exact absurd h1 h0
  · have e := dv_take_gt B16 (xs := ds) (i := ds.length - 1) (by omega)
    rw [show ds.length - 1 + 1 = ds.length by omega, List.take_length, h.val] at e
    have h2 := dv_nonneg B16_pos (h.dg.take (ds.length - 1))
    have h3 := Dg.getD B16_pos h.dg (ds.length - 1)
    have h4 : 1 ≤ gt ds (ds.length - 1) := by
      have : 0 ≤ gt ds (ds.length - 1) := h3.1
      omega
    have h5 : B16 ^ (ds.length - 1) * 1 ≤ B16 ^ (ds.length - 1) * gt ds (ds.length - 1) := Int.mul_le_mul_of_nonneg_left h4 (Int.le_of_lt (pow_pos B16_pos _))
    omega
theorem Num.lt {M : Mem} {v : Value} {V : Int} {ds : List Int} (h : Num M v V ds) : V < B16 ^ ds.length := h.val ▸ dv_lt B16_pos h.dg
theorem Num.len {M : Mem} {v : Value} {V : Int} {ds : List Int} {k : Nat} (h : Num M v V ds) (hk : V < B16 ^ k) : ds.length ≤ k := by
  rcases Nat.lt_or_ge k ds.length with h1 | h1
  · have h2 : ds ≠ [] := by intro h; subst h; simp at h1
    have h3 := h.ge h2
    rw [B16_two] at h3 hk
    have := pow2_le (show 16 * k ≤ 16 * (ds.length - 1) by omega)
    omega
  · exact h1
theorem Num.zero {M : Mem} {v : Value} {V : Int} {ds : List Int} (h : Num M v V ds) : V = 0 ↔ ds = [] := by
  constructor
  · intro h1
    by_cases h2 : ds = []
    · exact h2
    · have := h.ge h2
      have := pow_pos B16_pos (ds.length - 1)
      omega
  · intro h1; rw [← h.val, h1]; rfl
/-- digits tell the number, and the number its digits -/
theorem Num.inj {M N : Mem} {v w : Value} {V : Int} {ds es : List Int} (h : Num M v V ds) (k : Num N w V es) : ds = es := by
  have hl : ds.length = es.length := by
    have := h.len k.lt; have := k.len h.lt; omega
  exact dv_inj B16_pos h.dg k.dg hl (by rw [h.val, k.val])
end Go.Proofs.YtdnngppofbmpeaaGreatDoor.Bm
