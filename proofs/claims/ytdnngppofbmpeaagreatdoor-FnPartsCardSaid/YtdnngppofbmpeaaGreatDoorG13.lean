/- Proved here: what Exp does; the plain laws of the loop of extendedGCD. Conditions: none but those that each theorem states. -/
import Derived.Test.YtdnngppofbmpeaaGreatDoorG12
namespace Go.Proofs.YtdnngppofbmpeaaGreatDoor.Bm
open Go Go.RowKit

/-- the number of bytes, the highest first -/
def evb (bs : List Int) : Nat := bs.foldl (fun a b => a * 256 + b.toNat) 0
theorem evb_take {bs : List Int} {i : Nat} (h : i < bs.length) : evb (bs.take (i + 1)) = evb (bs.take i) * 256 + (gt bs i).toNat := by
  unfold evb
  rw [List.take_succ_eq_append_getElem h, List.foldl_append, gt_eq h]
  rfl

/-- the table of Exp: i places are done -/
structure Tb (n : Nat) (V X R : Int) (ps : List Nat) (i : Nat) (L : List Nt) : Prop where
  len : L.length = 15
  ps : L.map (·.p) = ps
  done : ∀ j (h : j < L.length), j < i → L[j].n = n ∧ ∃ Z, NV n 32 Z L[j].xs ∧ Z < V ∧ Cg V Z (X ^ (j + 1) * R)
  todo : ∀ j (h : j < L.length), i ≤ j → L[j].n = 0 ∧ L[j].xs.length = 32 ∧ Dg W64 L[j].xs
theorem Tb.set {n i : Nat} {V X R Z : Int} {ps : List Nat} {L : List Nt} {zs : List Int} (h : Tb n V X R ps i L) (hi : i < 15) (hz : NV n 32 Z zs) (hZ : Z < V) (hc : Cg V Z (X ^ (i + 1) * R)) :
    Tb n V X R ps (i + 1) (L.set i ⟨(L[i]'(by rw [h.len]; exact hi)).p, (L[i]'(by rw [h.len]; exact hi)).l, n, zs⟩) := by
  have hl := h.len
  refine ⟨by simpa using hl, ?_, fun j hj hji => ?_, fun j hj hji => ?_⟩
  · refine Eq.trans ?_ h.ps
    rw [List.map_set]
    exact List.ext_getElem (by simp) (fun k h1 h2 => by
      by_cases hk : i = k
      · subst hk; simp
      · simp [List.getElem_set_ne hk])
  · by_cases hk : i = j
    · subst hk; simp only [List.getElem_set_self]; exact ⟨trivial, Z, hz, hZ, hc⟩
    · simp only [List.getElem_set_ne hk]; exact h.done j (by simpa using hj) (by omega)
  · have hk : i ≠ j := by omega
    simp only [List.getElem_set_ne hk]; exact h.todo j (by simpa using hj) (by omega)
theorem Tb.cell {n i j : Nat} {V X R : Int} {ps : List Nat} {L : List Nt} (h : Tb n V X R ps i L) (hj : j < 15) : (ps.map ptr)[j]? = some (ptr (L[j]'(by rw [h.len]; exact hj)).p) := by
  have e : (L.map (·.p)).map ptr = ps.map ptr := by rw [h.ps]
  rw [← e, List.map_map, List.getElem?_map, List.getElem?_eq_getElem (by rw [h.len]; exact hj)]
  rfl

theorem Tb.mem {n i j : Nat} {V X R : Int} {ps : List Nat} {L : List Nt} (h : Tb n V X R ps i L) (hj : j < i) (hi : i ≤ 15) : (((L[j]'(by rw [h.len]; omega)).p, natO (L[j]'(by rw [h.len]; omega)).l n 32) ∈ nm (L.eraseIdx i)) ∧ ((L[j]'(by rw [h.len]; omega)).l, words (L[j]'(by rw [h.len]; omega)).xs) ∈ nm (L.eraseIdx i) := by
  have hl := h.len
  have hjl : j < L.length := by omega
  have h1 := (h.done j hjl hj).1
  have h2 := nm_mem (show L[j] ∈ L.eraseIdx i by rw [List.mem_eraseIdx_iff_getElem]; exact ⟨j, hjl, by omega, rfl⟩)
  rw [h1] at h2
  exact h2

theorem and15 {x : Int} (h0 : 0 ≤ x) (h1 : x < 256) : bits .and .u8 x 15 = x % 16 :=
  bits_mask .u8 8 (by decide) (fun n h0 h1 => u8_in ⟨h0, h1⟩) 4 (by decide) x h0 h1

section
variable {w0 : World} {M : Mem}
/-- Exp; out and x are apart -/
theorem nExp {p l a c px lx cx q pm lm pr lr n cap : Nat} {A : Option Addr} {bs : List Int} {m0 X V RR : Int} {us xs ms rs : List Int} (hl : us.length = c) (ha : a ≤ c) (hnc : n ≤ c) (hc : c ≤ 1000) (hd : Dg W64 us) (hx : NV n cx X xs) (hX : X < V) (hpx : (px, natO lx n cx) ∈ M) (hlx : (lx, words xs) ∈ M)
    (hM : MdX M q pm lm pr lr n m0 ms rs V RR) (hb : Bsl M A bs cap) (hbd : Dg 256 bs) (hbl : bs.length ≤ 60) :
    CS w0 42 [ptr p, ptr px, .slice A bs.length cap, ptr q] ((p, natO l a c) :: (l, words us) :: M)
      (fun u M' => ∃ zs Z, u = ptr p ∧ NV n c Z zs ∧ Z < V ∧ Cg V Z (X ^ evb bs) ∧ M' = (p, natO l n c) :: (l, words zs) :: M) := by
  refine CS.post (R := fun u M' => ∃ zs Z N, u = ptr p ∧ NV n c Z zs ∧ Z < V ∧ Cg V Z (X ^ evb bs) ∧ M' = (p, natO l n c) :: (l, words zs) :: (N ++ M)) ?_
    (fun v M' ⟨zs, Z, N, h1, h2, h3, h4, h5⟩ => ⟨(p, natO l n c) :: (l, words zs) :: M, h5 ▸ .cons_cons _ (.cons_cons _ (List.sublist_append_right _ _)), zs, Z, h1, h2, h3, h4, rfl⟩)
  have hmq := hM.o.r.hq
  have h16 := hM.o.n16
  have h0 := hM.o.n0
  have hodd := hM.o.odd
  have hV1 := hM.o.V1
  refine CS.of Tryz.func42 Tryz.ntmps42 rfl rfl (WC.seq (WC.region (WL.q (LX.assign rfl) rfl (WL.nil (thenK_normal (WC.seq (WC.seq (WC.region (WL.q (LX.move rfl) rfl (WL.q (LX.nilCheck rfl) rfl (WL.q (LX.field0 rfl rfl) rfl ?_)))))))))))
  refine WL.q (LX.load rfl rfl (by repeat first | assumption | exact List.mem_cons_self | refine List.mem_cons_of_mem _ ?_) rfl) rfl ?_
  refine WL.q (LX.not rfl) rfl (WL.nil (thenK_normal (WC.no rfl (WC.skip (thenK_normal (WC.seq (WC.region (WL.callR newNat rfl (fun _ => by kernel_rfl) rfl ?_))))))))
  rintro _ _ ⟨p1, l1, rfl, rfl⟩
  
  refine WL.callR newNat rfl (fun _ => by kernel_rfl) rfl ?_
  rintro _ _ ⟨p2, l2, rfl, rfl⟩
  
  refine WL.callR newNat rfl (fun _ => by kernel_rfl) rfl ?_
  rintro _ _ ⟨p3, l3, rfl, rfl⟩
  
  refine WL.callR newNat rfl (fun _ => by kernel_rfl) rfl ?_
  rintro _ _ ⟨p4, l4, rfl, rfl⟩
  
  refine WL.callR newNat rfl (fun _ => by kernel_rfl) rfl ?_
  rintro _ _ ⟨p5, l5, rfl, rfl⟩
  
  refine WL.callR newNat rfl (fun _ => by kernel_rfl) rfl ?_
  rintro _ _ ⟨p6, l6, rfl, rfl⟩
  
  refine WL.callR newNat rfl (fun _ => by kernel_rfl) rfl ?_
  rintro _ _ ⟨p7, l7, rfl, rfl⟩
  
  refine WL.callR newNat rfl (fun _ => by kernel_rfl) rfl ?_
  rintro _ _ ⟨p8, l8, rfl, rfl⟩
  
  refine WL.callR newNat rfl (fun _ => by kernel_rfl) rfl ?_
  rintro _ _ ⟨p9, l9, rfl, rfl⟩
  
  refine WL.callR newNat rfl (fun _ => by kernel_rfl) rfl ?_
  rintro _ _ ⟨p10, l10, rfl, rfl⟩
  
  refine WL.callR newNat rfl (fun _ => by kernel_rfl) rfl ?_
  rintro _ _ ⟨p11, l11, rfl, rfl⟩
  
  refine WL.callR newNat rfl (fun _ => by kernel_rfl) rfl ?_
  rintro _ _ ⟨p12, l12, rfl, rfl⟩
  
  refine WL.callR newNat rfl (fun _ => by kernel_rfl) rfl ?_
  rintro _ _ ⟨p13, l13, rfl, rfl⟩
  
  refine WL.callR newNat rfl (fun _ => by kernel_rfl) rfl ?_
  rintro _ _ ⟨p14, l14, rfl, rfl⟩
  
  refine WL.callR newNat rfl (fun _ => by kernel_rfl) rfl ?_
  rintro _ _ ⟨p15, l15, rfl, rfl⟩
  
  refine WL.q (LX.build (v := .agg #[ptr p1, ptr p2, ptr p3, ptr p4, ptr p5, ptr p6, ptr p7, ptr p8, ptr p9, ptr p10, ptr p11, ptr p12, ptr p13, ptr p14, ptr p15]) rfl (fun _ => by kernel_rfl)) rfl ?_
  
  refine WL.step rfl (EX.alloc (z := .agg #[.pointer none, .pointer none, .pointer none, .pointer none, .pointer none, .pointer none, .pointer none, .pointer none, .pointer none, .pointer none, .pointer none, .pointer none, .pointer none, .pointer none, .pointer none]) (fun _ => by kernel_rfl)) ?_
  rintro _ _ ⟨tb, rfl, rfl⟩
  
  refine WL.put (EX.storeA (vs := [ptr p1, ptr p2, ptr p3, ptr p4, ptr p5, ptr p6, ptr p7, ptr p8, ptr p9, ptr p10, ptr p11, ptr p12, ptr p13, ptr p14, ptr p15]) rfl rfl rfl rfl rfl (by simp [ptr, Value.oneCell']) List.mem_cons_self (by decide) (by repeat first | exact Upd.here | apply Upd.there)) (WL.nil (thenK_normal ?_))
  -- the table, as a list of numbers
  have hperm : ∃ L : List Nt, Tb n V X (W64 ^ n) [p1, p2, p3, p4, p5, p6, p7, p8, p9, p10, p11, p12, p13, p14, p15] 0 L ∧ (nm L ++ (tb, Obj.cells ([p1, p2, p3, p4, p5, p6, p7, p8, p9, p10, p11, p12, p13, p14, p15].map ptr).toArray 128 (0, 0)) :: (p, natO l a c) :: (l, words us) :: M).Perm ((tb, Obj.cells (putL [.pointer none, .pointer none, .pointer none, .pointer none, .pointer none, .pointer none, .pointer none, .pointer none, .pointer none, .pointer none, .pointer none, .pointer none, .pointer none, .pointer none, .pointer none] 0 [ptr p1, ptr p2, ptr p3, ptr p4, ptr p5, ptr p6, ptr p7, ptr p8, ptr p9, ptr p10, ptr p11, ptr p12, ptr p13, ptr p14, ptr p15]).toArray 128 (0, 0)) :: (nm [⟨p1, l1, 0, List.replicate 32 0⟩, ⟨p2, l2, 0, List.replicate 32 0⟩, ⟨p3, l3, 0, List.replicate 32 0⟩, ⟨p4, l4, 0, List.replicate 32 0⟩, ⟨p5, l5, 0, List.replicate 32 0⟩, ⟨p6, l6, 0, List.replicate 32 0⟩, ⟨p7, l7, 0, List.replicate 32 0⟩, ⟨p8, l8, 0, List.replicate 32 0⟩, ⟨p9, l9, 0, List.replicate 32 0⟩, ⟨p10, l10, 0, List.replicate 32 0⟩, ⟨p11, l11, 0, List.replicate 32 0⟩, ⟨p12, l12, 0, List.replicate 32 0⟩, ⟨p13, l13, 0, List.replicate 32 0⟩, ⟨p14, l14, 0, List.replicate 32 0⟩, ⟨p15, l15, 0, List.replicate 32 0⟩].reverse ++ (p, natO l a c) :: (l, words us) :: M)) := by
    refine ⟨[⟨p1, l1, 0, List.replicate 32 0⟩, ⟨p2, l2, 0, List.replicate 32 0⟩, ⟨p3, l3, 0, List.replicate 32 0⟩, ⟨p4, l4, 0, List.replicate 32 0⟩, ⟨p5, l5, 0, List.replicate 32 0⟩, ⟨p6, l6, 0, List.replicate 32 0⟩, ⟨p7, l7, 0, List.replicate 32 0⟩, ⟨p8, l8, 0, List.replicate 32 0⟩, ⟨p9, l9, 0, List.replicate 32 0⟩, ⟨p10, l10, 0, List.replicate 32 0⟩, ⟨p11, l11, 0, List.replicate 32 0⟩, ⟨p12, l12, 0, List.replicate 32 0⟩, ⟨p13, l13, 0, List.replicate 32 0⟩, ⟨p14, l14, 0, List.replicate 32 0⟩, ⟨p15, l15, 0, List.replicate 32 0⟩], ⟨rfl, rfl, fun j h hj => by omega, fun j h hj => ?_⟩, ?_⟩
    · have : ∀ t ∈ ([⟨p1, l1, 0, List.replicate 32 0⟩, ⟨p2, l2, 0, List.replicate 32 0⟩, ⟨p3, l3, 0, List.replicate 32 0⟩, ⟨p4, l4, 0, List.replicate 32 0⟩, ⟨p5, l5, 0, List.replicate 32 0⟩, ⟨p6, l6, 0, List.replicate 32 0⟩, ⟨p7, l7, 0, List.replicate 32 0⟩, ⟨p8, l8, 0, List.replicate 32 0⟩, ⟨p9, l9, 0, List.replicate 32 0⟩, ⟨p10, l10, 0, List.replicate 32 0⟩, ⟨p11, l11, 0, List.replicate 32 0⟩, ⟨p12, l12, 0, List.replicate 32 0⟩, ⟨p13, l13, 0, List.replicate 32 0⟩, ⟨p14, l14, 0, List.replicate 32 0⟩, ⟨p15, l15, 0, List.replicate 32 0⟩] : List Nt), t.n = 0 ∧ t.xs = List.replicate 32 0 := by simp
      obtain ⟨h1, h2⟩ := this _ (List.getElem_mem h)
      exact ⟨h1, by rw [h2]; simp, by rw [h2]; exact Dg.replicate W64_pos 32⟩
    · generalize ([⟨p1, l1, 0, List.replicate 32 0⟩, ⟨p2, l2, 0, List.replicate 32 0⟩, ⟨p3, l3, 0, List.replicate 32 0⟩, ⟨p4, l4, 0, List.replicate 32 0⟩, ⟨p5, l5, 0, List.replicate 32 0⟩, ⟨p6, l6, 0, List.replicate 32 0⟩, ⟨p7, l7, 0, List.replicate 32 0⟩, ⟨p8, l8, 0, List.replicate 32 0⟩, ⟨p9, l9, 0, List.replicate 32 0⟩, ⟨p10, l10, 0, List.replicate 32 0⟩, ⟨p11, l11, 0, List.replicate 32 0⟩, ⟨p12, l12, 0, List.replicate 32 0⟩, ⟨p13, l13, 0, List.replicate 32 0⟩, ⟨p14, l14, 0, List.replicate 32 0⟩, ⟨p15, l15, 0, List.replicate 32 0⟩] : List Nt) = L
      refine (List.perm_middle).trans ?_
      exact ((List.Perm.flatMap_right nm1 (List.reverse_perm L).symm).append_right _).cons _
  obtain ⟨L, hT, hperm⟩ := hperm
  refine WC.pm ⟨hperm⟩ ?_
  clear hperm
  generalize [p1, p2, p3, p4, p5, p6, p7, p8, p9, p10, p11, p12, p13, p14, p15] = ps at hT ⊢
  refine WC.cutE [(0, ptr p), (1, ptr px), (2, .slice A bs.length cap), (3, ptr q), (9, .pointer (some ⟨tb, 0, none⟩))] (.cons rfl (.cons rfl (.cons rfl (.cons rfl (.cons rfl .nil))))) ?_
  have hlen := hT.len
  refine WC.pm ⟨((nm_pick L 0 (by omega)).append_right _).symm⟩ (WC.seq (WC.region (WL.q (LX.eq (LX.idxA rfl rfl rfl 0 rfl (by omega)) (by rw [Nat.zero_add])) rfl ?_)))
  refine WL.q (LX.load rfl rfl (List.mem_cons_of_mem _ (List.mem_cons_of_mem _ (List.mem_append_right _ List.mem_cons_self))) (Obj.cell_list (hT.cell (j := 0) (by omega)))) rfl (WL.q (LX.move rfl) rfl ?_)
  obtain ⟨hn0, hl0, hd0⟩ := hT.todo 0 (by omega) (Nat.le_refl _)
  have hMr : ∀ {N : Mem} {z}, z ∈ M → z ∈ N ++ (tb, Obj.cells (ps.map ptr).toArray 128 (0, 0)) :: (p, natO l a c) :: (l, words us) :: M :=
    fun h => List.mem_append_right _ (List.mem_cons_of_mem _ (List.mem_cons_of_mem _ (List.mem_cons_of_mem _ h)))
  refine WL.callR (nset hl0 (by omega) (by omega) (by omega) hd0 hx (hMr hpx) (hMr hlx)) rfl (fun _ => by kernel_rfl) rfl ?_
  rintro _ _ ⟨zs, rfl, hz, rfl⟩
  refine WL.q (LX.move rfl) rfl (WL.callR (mrep hz hX (hM.mono fun _ h => hMr h)) rfl (fun _ => by kernel_rfl) rfl ?_)
  rintro _ _ ⟨ys, Y, rfl, hy, hY, hYc, rfl⟩
  refine WL.nil (thenK_normal (WC.pm ⟨(nm_put L 0 (by omega) ⟨L[0].p, L[0].l, n, ys⟩).append_right _⟩ ?_))
  replace hT := hT.set (by omega) hy hY (hYc.trans (.of_eq (by rw [Int.pow_succ, Int.pow_zero, Int.one_mul])))
  generalize L.set 0 ⟨L[0].p, L[0].l, n, ys⟩ = L' at hT ⊢
  refine WC.cutE [(0, ptr p), (2, .slice A bs.length cap), (3, ptr q), (9, .pointer (some ⟨tb, 0, none⟩))] (.cons rfl (.cons rfl (.cons rfl (.cons rfl .nil)))) (WC.seq (WC.seq (WC.region (WL.q (LX.assign rfl) rfl (WL.nil (thenK_normal (WC.block ?_)))))))
  refine WC.loopS (fun s : Nat × List Nt => [(0, ptr p), (2, .slice A bs.length cap), (3, ptr q), (9, .pointer (some ⟨tb, 0, none⟩)), (10, .int .i64 s.1)]) (fun s => nm s.2 ++ (tb, Obj.cells (ps.map ptr).toArray 128 (0, 0)) :: (p, natO l a c) :: (l, words us) :: M)
    (fun s => 1 ≤ s.1 ∧ s.1 ≤ 15 ∧ Tb n V X (W64 ^ n) ps s.1 s.2) (fun s => 15 - s.1) (1, L') ⟨Nat.le_refl _, (show 1 ≤ 15 by decide), hT⟩ (.cons rfl (.cons rfl (.cons rfl (.cons rfl (.cons rfl .nil))))) rfl ?_
  clear hT
  rintro ⟨i, L⟩ ⟨hi1, hi2, hT⟩
  dsimp only at hi1 hi2 hT ⊢
  have hlen := hT.len
  have htb : (tb, Obj.cells (ps.map ptr).toArray 128 (0, 0)) ∈ nm L ++ (tb, Obj.cells (ps.map ptr).toArray 128 (0, 0)) :: (p, natO l a c) :: (l, words us) :: M := List.mem_append_right _ List.mem_cons_self
  refine WC.seq (WC.seq (WC.region (WL.q (LX.move rfl) rfl (WL.q (LX.bin rfl rfl rfl) rfl (WL.nil (thenK_normal ?_))))))
  refine WC.test rfl (fun hlt => ?_) (fun hge => ?_)
  · refine WC.skip (thenK_normal (WC.seq (WC.block (WC.draw [(0, 0), (0, 1), (0, 3), (0, 4), (0, 5), (0, 7), (0, 9), (1, 2), (1, 6), (1, 8), (2, 10)] [(tb, Obj.cells (ps.map ptr).toArray 128 (0, 0))] rfl (by kernel_rfl) rfl (by kernel_rfl) (DW.p rfl rfl (fun _ => LX.move rfl) rfl (DW.p rfl rfl (fun _ => LX.eq (LX.idxA rfl rfl rfl i rfl (by omega)) (by rw [Nat.zero_add])) rfl ?_))))))
    refine DW.p rfl rfl (fun _ => LX.move rfl) rfl (DW.p rfl rfl (fun _ => LX.eq (LX.subI rfl rfl (by omega)) (show _ = Value.int .i64 ((i - 1 : Nat) : Int) by congr 1; omega)) rfl (DW.p rfl rfl (fun _ => LX.eq (LX.idxA rfl rfl rfl (i - 1) rfl (by omega)) (by rw [Nat.zero_add])) rfl ?_))
    refine DW.p rfl rfl (fun _ => LX.eq (LX.idxA rfl rfl rfl 0 rfl (by omega)) (by rw [Nat.zero_add])) rfl ?_
    refine DW.p rfl rfl (fun _ => LX.move rfl) rfl (DW.r rfl rfl (LX.load rfl rfl List.mem_cons_self (Obj.cell_list (hT.cell (j := i) (by omega)))) (fun z hz => by simp only [List.mem_cons, List.not_mem_nil, or_false] at hz; subst hz; exact htb) rfl (DW.r rfl rfl (LX.load rfl rfl List.mem_cons_self (Obj.cell_list (hT.cell (j := i - 1) (by omega)))) (fun z hz => by simp only [List.mem_cons, List.not_mem_nil, or_false] at hz; subst hz; exact htb) rfl (DW.r rfl rfl (LX.load rfl rfl List.mem_cons_self (Obj.cell_list (hT.cell (j := 0) (by omega)))) (fun z hz => by simp only [List.mem_cons, List.not_mem_nil, or_false] at hz; subst hz; exact htb) rfl ?_)))
    obtain ⟨hn0, hl0, hd0⟩ := hT.todo i (by omega) (Nat.le_refl _)
    obtain ⟨hna, Za, hza, hZa, hca⟩ := hT.done (i - 1) (by omega) (by omega)
    obtain ⟨hnb, Zb, hzb, hZb, hcb⟩ := hT.done 0 (by omega) (by omega)
    have hm1 := hT.mem (j := i - 1) (by omega) (by omega)
    have hm2 := hT.mem (j := 0) (by omega) (by omega)
    refine DW.t rfl rfl (EX.call rfl (fun _ => by kernel_rfl) (CS.nm (i := i) (n' := n) (Q := fun u zs => ∃ Z, u = ptr L[i].p ∧ NV n 32 Z zs ∧ Z < V ∧ Cg V (Z * W64 ^ n) (Za * Zb)) (by omega)
      (CS.post (mmulC hl0 (by omega) (by omega) (by omega) hd0 hza hzb (List.mem_cons_of_mem _ (List.mem_cons_of_mem _ (List.mem_append_left _ hm1.1))) (List.mem_cons_of_mem _ (List.mem_cons_of_mem _ (List.mem_append_left _ hm1.2))) (List.mem_cons_of_mem _ (List.mem_cons_of_mem _ (List.mem_append_left _ hm2.1))) (List.mem_cons_of_mem _ (List.mem_cons_of_mem _ (List.mem_append_left _ hm2.2))) (hM.o.mono fun _ h => hMr h) hZa)
        (fun v M' ⟨zs, Z, h1, h2, h3, h4, h5⟩ => ⟨M', List.Sublist.refl _, zs, ⟨Z, h1, h2, h3, h4⟩, h5⟩)))) rfl (by kernel_rfl) ?_
    rintro _ _ ⟨zs, ⟨Z, rfl, hz, hZ, hc⟩, rfl⟩
    refine DW.nil (blockK_normal (thenK_normal (WC.region (WL.q (LX.move rfl) rfl (WL.q (LX.addI rfl rfl (by omega)) rfl (WL.q (LX.assign rfl) rfl (WL.nil ?_)))))))
    have hcz := exp_mul hodd rfl hca hcb hc
    rw [show i - 1 + 1 + (0 + 1) = i + 1 by omega] at hcz
    exact loopS_next (i + 1, _) ⟨by simp, by simp only []; omega, hT.set (by omega) hz hZ hcz⟩ (by simp only []; omega) (.cons rfl (.cons rfl (.cons rfl (.cons rfl (.cons rfl .nil))))) rfl
  refine WC.exit (thenK_exit (loopS_exit (blockK_same (thenK_normal (WC.seq (WC.region (WL.q (LX.move rfl) rfl (WL.q (LX.move rfl) rfl ?_))))))))
  obtain rfl : i = 15 := by omega
  have hTT := hT
  have hT : ∀ j (h : j < 15), (L[j]'(by omega)).n = n ∧ ∃ Z, NV n 32 Z (L[j]'(by omega)).xs ∧ Z < V ∧ Cg V Z (X ^ (j + 1) * W64 ^ n) := fun j h => hT.done j (by omega) h
  have hcell : ∀ j (h : j < 15), (ps.map ptr)[j]? = some (ptr (L[j]'(by omega)).p) := fun j h => hTT.cell h
  have hmem : ∀ j (h : j < 15), ((L[j]'(by omega)).p, natO (L[j]'(by omega)).l n 32) ∈ nm L ∧ ((L[j]'(by omega)).l, words (L[j]'(by omega)).xs) ∈ nm L := by
    intro j h
    have h2 := nm_mem (List.getElem_mem (show j < L.length by omega))
    rw [(hT j h).1] at h2
    exact h2
  generalize hG : (nm L ++ (tb, Obj.cells (ps.map ptr).toArray 128 (0, 0)) :: M) = G
  have hGM : ∀ {z}, z ∈ M → z ∈ G := fun h => hG ▸ List.mem_append_right _ (List.mem_cons_of_mem _ h)
  have hGT : (tb, Obj.cells (ps.map ptr).toArray 128 (0, 0)) ∈ G := hG ▸ List.mem_append_right _ List.mem_cons_self
  replace hmem : ∀ j (h : j < 15), ((L[j]'(by omega)).p, natO (L[j]'(by omega)).l n 32) ∈ G ∧ ((L[j]'(by omega)).l, words (L[j]'(by omega)).xs) ∈ G := fun j h => ⟨hG ▸ List.mem_append_left _ (hmem j h).1, hG ▸ List.mem_append_left _ (hmem j h).2⟩
  have hMG : MdX G q pm lm pr lr n m0 ms rs V RR := hM.mono fun _ h => hGM h
  have hperm2 : Pm (nm L ++ (tb, Obj.cells (ps.map ptr).toArray 128 (0, 0)) :: (p, natO l a c) :: (l, words us) :: M) ((p, natO l a c) :: (l, words us) :: G) := by
    refine ⟨?_⟩
    rw [← hG]
    have := List.perm_append_comm_assoc [(p, natO l a c), (l, words us)] (nm L ++ [(tb, Obj.cells (ps.map ptr).toArray 128 (0, 0))]) M
    simpa using this
  refine WL.callR (CS.pm hperm2 (nresetFor (M := G) hl ha hnc hc hd hMG.o.r)) rfl (fun _ => by kernel_rfl) rfl ?_
  rintro _ _ ⟨zs, rfl, hz, rfl⟩
  have hzl := hz.len
  refine WL.nil (thenK_normal (WC.seq (WC.region (WL.q (LX.move rfl) rfl (WL.q (LX.nilCheck rfl) rfl (WL.q (LX.field0 rfl rfl) rfl ?_))))))
  refine WL.q (LX.load rfl rfl (by repeat first | assumption | exact List.mem_cons_self | refine List.mem_cons_of_mem _ ?_) rfl) rfl ?_
  refine WL.q (LX.idx1 rfl rfl rfl 0 rfl (by omega)) rfl ?_
  refine WL.put (EX.storeRow rfl rfl rfl (by repeat first | assumption | exact List.mem_cons_self | refine List.mem_cons_of_mem _ ?_) (by omega) (by repeat first | exact Upd.here | apply Upd.there)) ?_
  refine WL.nil (thenK_normal (WC.seq (WC.region (WL.q (LX.move rfl) rfl (WL.q (LX.move rfl) rfl (WL.callR (mrep (hz.one h0 wd_one) (by omega) hMG) rfl (fun _ => by kernel_rfl) rfl ?_))))))
  rintro _ _ ⟨os, O, rfl, ho, hO, hOc, rfl⟩
  refine WL.nil (thenK_normal (WC.seq (WC.region (WL.callR newNat rfl (fun _ => by kernel_rfl) rfl ?_))))
  rintro _ _ ⟨pt, lt, rfl, rfl⟩
  refine WL.q (LX.move rfl) rfl ?_
  have hz0 : NV 0 32 0 (List.replicate 32 0) := NV.zero (Nat.zero_le _) (by omega) (by simp) (Dg.replicate W64_pos 32) (by intro i hi; omega)
  refine WL.callR (nexpandFor hz0 (Nat.zero_le _) (by omega) (by omega) (hMG.o.r.mono fun _ h => List.mem_cons_of_mem _ (List.mem_cons_of_mem _ h))) rfl (fun _ => by kernel_rfl) rfl ?_
  rintro _ _ ⟨ts, rfl, ht, rfl⟩
  refine WL.q (LX.assign rfl) rfl (WL.nil (thenK_normal (WC.seq (WC.seq (WC.region (WL.q (LX.move rfl) rfl (WL.q (LX.len rfl rfl rfl) rfl (WL.q (LX.move rfl) rfl (WL.nil (thenK_normal (WC.block (WC.pm (N := (p, natO l n c) :: (l, words os) :: (pt, natO lt n 32) :: (lt, words ts) :: G) (by repeat first | exact Pm.done | (apply Pm.step; repeat first | exact Rem.here | apply Rem.there)) ?_))))))))))))
  refine WC.loopS (fun s : Nat × List Int × Int × List Int × Int => [(0, ptr p), (3, ptr q), (9, .pointer (some ⟨tb, 0, none⟩)), (11, ptr pt), (75, .slice A bs.length cap), (76, .int .i64 bs.length), (77, .int .i64 s.1)])
    (fun s => (p, natO l n c) :: (l, words s.2.1) :: (pt, natO lt n 32) :: (lt, words s.2.2.2.1) :: G)
    (fun s => s.1 ≤ bs.length ∧ NV n c s.2.2.1 s.2.1 ∧ s.2.2.1 < V ∧ Cg V s.2.2.1 (X ^ evb (bs.take s.1) * W64 ^ n) ∧ NV n 32 s.2.2.2.2 s.2.2.2.1) (fun s => bs.length - s.1) (0, os, O, ts, 0)
    ⟨Nat.zero_le _, ho, hO, hOc.trans (.of_eq (by simp [evb])), ht⟩ (.cons rfl (.cons rfl (.cons rfl (.cons rfl (.cons rfl (.cons rfl (.cons rfl .nil))))))) rfl ?_
  rintro ⟨i, os, O, ts, T⟩ ⟨hi, ho, hO, hOc, ht⟩
  dsimp only at hi ho hO hOc ht ⊢
  refine WC.seq (WC.region (WL.q (LX.bin rfl rfl rfl) rfl (WL.nil (thenK_normal (WC.seq ?_)))))
  refine WC.test rfl (fun hlt => ?_) (fun hge => ?_)
  · rcases hb with rfl | ⟨bb, full, rfl, hbm, hfl, hft, hfd, hcap⟩
    · simp at hlt; omega
    have hgb : gt full i = gt bs i := by rw [← hft, gt_take (by omega)]
    have hb8 := dg8_gt hbd i
    obtain ⟨b, hbe⟩ : ∃ b : Nat, gt bs i = b := ⟨(gt bs i).toNat, by omega⟩
    have hev := evb_take (bs := bs) (i := i) (by omega)
    rw [hbe, Int.toNat_natCast] at hev
    refine WC.skip (thenK_normal (WC.seq (WC.block (WC.seq (WC.region (WL.q (LX.idx1 rfl rfl rfl i rfl (by omega)) rfl (WL.q (LX.eq (LX.loadRow rfl rfl (List.mem_cons_of_mem _ (List.mem_cons_of_mem _ (List.mem_cons_of_mem _ (List.mem_cons_of_mem _ (hGM hbm))))) (by omega)) (show Value.int .u8 (gt full i) = Value.int .u8 (b : Int) by rw [hgb, hbe])) rfl (WL.q (LX.assign rfl) rfl (WL.nil (thenK_normal (WC.seq (WC.region (WL.step rfl (EX.bslice (e := 3) (cs := [.int .i64 4, .int .i64 0]) rfl (fun _ => by kernel_rfl)) ?_)))))))))))))
    rintro _ _ ⟨tj, rfl, rfl⟩
    refine WL.q (LX.len rfl rfl rfl) rfl (WL.q (LX.move rfl) rfl (WL.nil (thenK_normal (WC.block (WC.pm (N := (p, natO l n c) :: (l, words os) :: (pt, natO lt n 32) :: (lt, words ts) :: (tj, Obj.cells [.int .i64 4, .int .i64 0].toArray 3 (0, 0)) :: G) (by repeat first | exact Pm.done | (apply Pm.step; repeat first | exact Rem.here | apply Rem.there)) ?_)))))
    refine WC.loopS (fun s : Nat × List Int × Int × List Int × Int => [(0, ptr p), (3, ptr q), (9, .pointer (some ⟨tb, 0, none⟩)), (11, ptr pt), (13, .int .u8 b), (75, .slice (some ⟨bb, 0, none⟩) bs.length cap), (76, .int .i64 bs.length), (77, .int .i64 i), (81, .slice (some ⟨tj, 0, none⟩) 2 2), (82, .int .i64 2), (83, .int .i64 s.1)])
      (fun s => (p, natO l n c) :: (l, words s.2.1) :: (pt, natO lt n 32) :: (lt, words s.2.2.2.1) :: (tj, Obj.cells [.int .i64 4, .int .i64 0].toArray 3 (0, 0)) :: G)
      (fun s => s.1 ≤ 2 ∧ NV n c s.2.2.1 s.2.1 ∧ s.2.2.1 < V ∧ Cg V s.2.2.1 (X ^ (if s.1 = 0 then evb (bs.take i) else if s.1 = 1 then evb (bs.take i) * 16 + b / 16 else evb (bs.take i) * 256 + b) * W64 ^ n) ∧ NV n 32 s.2.2.2.2 s.2.2.2.1) (fun s => 2 - s.1) (0, os, O, ts, T)
      ⟨by simp, ho, hO, hOc, ht⟩ (.cons rfl (.cons rfl (.cons rfl (.cons rfl (.cons rfl (.cons rfl (.cons rfl (.cons rfl (.cons rfl (.cons rfl (.cons rfl .nil))))))))))) rfl ?_
    rintro ⟨s, os, O, ts, T⟩ ⟨hs, ho, hO, hOc, ht⟩
    dsimp only at hs ho hO hOc ht ⊢
    have hMJ : MdO ((tj, Obj.cells [.int .i64 4, .int .i64 0].toArray 3 (0, 0)) :: G) q pm lm n 32 m0 (ptr pr) ms V := hMG.o.mono fun _ h => List.mem_cons_of_mem _ h
    have hMT : ∀ {xs : List Int}, MdO ((pt, natO lt n 32) :: (lt, words xs) :: (tj, Obj.cells [.int .i64 4, .int .i64 0].toArray 3 (0, 0)) :: G) q pm lm n 32 m0 (ptr pr) ms V := hMJ.mono fun _ h => List.mem_cons_of_mem _ (List.mem_cons_of_mem _ h)
    have hMP : ∀ {xs : List Int}, MdO ((p, natO l n c) :: (l, words xs) :: (tj, Obj.cells [.int .i64 4, .int .i64 0].toArray 3 (0, 0)) :: G) q pm lm n 32 m0 (ptr pr) ms V := hMJ.mono fun _ h => List.mem_cons_of_mem _ (List.mem_cons_of_mem _ h)
    refine WC.seq (WC.region (WL.q (LX.bin rfl rfl rfl) rfl (WL.nil (thenK_normal (WC.seq ?_)))))
    refine WC.test rfl (fun hlt2 => ?_) (fun hge2 => ?_)
    · have hjv : Obj.cell (Obj.cells [.int .i64 4, .int .i64 0].toArray 3 (0, 0)) s = some (.int .i64 (if s = 0 then 4 else 0)) := by
        have : s = 0 ∨ s = 1 := by omega
        rcases this with rfl | rfl <;> rfl
      have hkk : bits .and .u8 ((b : Int) / 2 ^ (min (if s = 0 then 4 else 0 : Int).toNat IntKind.u8.bits)) 15 = ((if s = 0 then b / 16 else b % 16 : Nat) : Int) := by
        have : s = 0 ∨ s = 1 := by omega
        rcases this with rfl | rfl
        · simp only [if_true]
          rw [show (2 : Int) ^ (min (4 : Int).toNat IntKind.u8.bits) = 16 by decide, and15 (by omega) (by omega)]
          omega
        · simp only [Nat.one_ne_zero, if_false]
          rw [show (2 : Int) ^ (min (0 : Int).toNat IntKind.u8.bits) = 1 by decide, and15 (by omega) (by omega)]
          omega
      generalize hkd : (if s = 0 then b / 16 else b % 16) = kk at hkk
      have hkk16 : kk < 16 := by subst hkd; split <;> omega
      refine WC.skip (thenK_normal (WC.seq (WC.block (WC.seq (WC.region (WL.q (LX.idx1 rfl rfl rfl s rfl (by omega)) rfl ?_))))))
      refine WL.q (LX.load rfl rfl (by repeat first | assumption | exact List.mem_cons_self | refine List.mem_cons_of_mem _ ?_) hjv) rfl ?_
      refine WL.q (LX.assign rfl) rfl (WL.nil (thenK_normal (WC.seq (WC.region (WL.q (LX.move rfl) rfl (WL.q (LX.move rfl) rfl (WL.q (LX.move rfl) rfl (WL.q (LX.move rfl) rfl (WL.callR (mmulC ho.len ho.le ho.le ho.small ho.dg ho ho List.mem_cons_self (List.mem_cons_of_mem _ List.mem_cons_self) List.mem_cons_self (List.mem_cons_of_mem _ List.mem_cons_self) hMT hO) rfl (fun _ => by kernel_rfl) rfl ?_)))))))))
      rintro _ _ ⟨o1, O1, rfl, ho1, hO1, hOc1, rfl⟩
      refine WL.nil (thenK_normal (WC.seq (WC.region (WL.q (LX.move rfl) rfl (WL.q (LX.move rfl) rfl (WL.q (LX.move rfl) rfl (WL.q (LX.move rfl) rfl (WL.callR (mmulC ho1.len ho1.le ho1.le ho1.small ho1.dg ho1 ho1 List.mem_cons_self (List.mem_cons_of_mem _ List.mem_cons_self) List.mem_cons_self (List.mem_cons_of_mem _ List.mem_cons_self) hMT hO1) rfl (fun _ => by kernel_rfl) rfl ?_))))))))
      rintro _ _ ⟨o2, O2, rfl, ho2, hO2, hOc2, rfl⟩
      refine WL.nil (thenK_normal (WC.seq (WC.region (WL.q (LX.move rfl) rfl (WL.q (LX.move rfl) rfl (WL.q (LX.move rfl) rfl (WL.q (LX.move rfl) rfl (WL.callR (mmulC ho2.len ho2.le ho2.le ho2.small ho2.dg ho2 ho2 List.mem_cons_self (List.mem_cons_of_mem _ List.mem_cons_self) List.mem_cons_self (List.mem_cons_of_mem _ List.mem_cons_self) hMT hO2) rfl (fun _ => by kernel_rfl) rfl ?_))))))))
      rintro _ _ ⟨o3, O3, rfl, ho3, hO3, hOc3, rfl⟩
      refine WL.nil (thenK_normal (WC.seq (WC.region (WL.q (LX.move rfl) rfl (WL.q (LX.move rfl) rfl (WL.q (LX.move rfl) rfl (WL.q (LX.move rfl) rfl (WL.callR (mmulC ho3.len ho3.le ho3.le ho3.small ho3.dg ho3 ho3 List.mem_cons_self (List.mem_cons_of_mem _ List.mem_cons_self) List.mem_cons_self (List.mem_cons_of_mem _ List.mem_cons_self) hMT hO3) rfl (fun _ => by kernel_rfl) rfl ?_))))))))
      rintro _ _ ⟨o4, O4, rfl, ho4, hO4, hOc4, rfl⟩
      have hsq := exp_sq hodd rfl (exp_sq hodd rfl (exp_sq hodd rfl (exp_sq hodd rfl hOc hOc1) hOc2) hOc3) hOc4
      refine WL.nil (thenK_normal (WC.seq (WC.region (WL.q (LX.move rfl) rfl (WL.q (LX.move rfl) rfl (WL.q (LX.shr rfl rfl (by split <;> omega) (by omega)) rfl (WL.q (LX.eq (LX.bin rfl rfl rfl) (by rw [hkk])) rfl ?_)))))))
      refine WL.q (LX.convU rfl rfl rfl (by omega)) rfl (WL.q (LX.assign rfl) rfl (WL.nil (thenK_normal (WC.seq (WC.seq (WC.region (WL.q (LX.move rfl) rfl (WL.nil (thenK_normal (WC.block (WC.pm (N := (pt, natO lt n 32) :: (lt, words ts) :: (p, natO l n c) :: (l, words o4) :: (tj, Obj.cells [.int .i64 4, .int .i64 0].toArray 3 (0, 0)) :: G) (by repeat first | exact Pm.done | (apply Pm.step; repeat first | exact Rem.here | apply Rem.there)) ?_)))))))))))
      refine WC.loopS (fun v : Nat × List Int × Int => [(0, ptr p), (3, ptr q), (9, .pointer (some ⟨tb, 0, none⟩)), (11, ptr pt), (13, .int .u8 b), (16, .int .u64 kk), (75, .slice (some ⟨bb, 0, none⟩) bs.length cap), (76, .int .i64 bs.length), (77, .int .i64 i), (81, .slice (some ⟨tj, 0, none⟩) 2 2), (82, .int .i64 2), (83, .int .i64 s), (112, .int .i64 v.1)])
        (fun v => (pt, natO lt n 32) :: (lt, words v.2.1) :: (p, natO l n c) :: (l, words o4) :: (tj, Obj.cells [.int .i64 4, .int .i64 0].toArray 3 (0, 0)) :: G)
        (fun v => v.1 ≤ 15 ∧ NV n 32 v.2.2 v.2.1 ∧ (1 ≤ kk → kk ≤ v.1 → Cg V v.2.2 (X ^ kk * W64 ^ n))) (fun v => 15 - v.1) (0, ts, T)
        ⟨Nat.zero_le _, ht, fun h1 h2 => absurd h2 (by simp only []; omega)⟩ (.cons rfl (.cons rfl (.cons rfl (.cons rfl (.cons rfl (.cons rfl (.cons rfl (.cons rfl (.cons rfl (.cons rfl (.cons rfl (.cons rfl (.cons rfl .nil))))))))))))) rfl ?_
      rintro ⟨v, ts, T⟩ ⟨hv, ht, htc⟩
      dsimp only at hv ht htc ⊢
      have hms : ∀ z ∈ [(tb, Obj.cells (ps.map ptr).toArray 128 (0, 0))], z ∈ (pt, natO lt n 32) :: (lt, words ts) :: (p, natO l n c) :: (l, words o4) :: (tj, Obj.cells [.int .i64 4, .int .i64 0].toArray 3 (0, 0)) :: G := by
        intro z hz
        simp only [List.mem_cons, List.not_mem_nil, or_false] at hz
        subst hz
        exact List.mem_cons_of_mem _ (List.mem_cons_of_mem _ (List.mem_cons_of_mem _ (List.mem_cons_of_mem _ (List.mem_cons_of_mem _ hGT))))
      refine WC.seq (WC.region (WL.q (LX.bin rfl rfl rfl) rfl (WL.nil (thenK_normal (WC.seq ?_)))))
      refine WC.test rfl (fun hlt3 => ?_) (fun hge3 => ?_)
      · refine WC.skip (thenK_normal (WC.seq (WC.block (WC.seq (WC.region (WL.q (LX.move rfl) rfl (WL.q (LX.assign rfl) rfl (WL.nil (thenK_normal (WC.draw [(0, 0), (0, 1), (0, 2), (0, 3), (0, 4), (0, 6), (0, 7), (1, 8), (2, 5), (2, 9)] [(tb, Obj.cells (ps.map ptr).toArray 128 (0, 0))] rfl (by kernel_rfl) rfl (by kernel_rfl) (DW.p rfl rfl (fun _ => LX.move rfl) rfl (DW.p rfl rfl (fun _ => LX.move rfl) rfl (DW.p rfl rfl (fun _ => LX.move rfl) rfl ?_)))))))))))))
        refine DW.p rfl rfl (fun _ => LX.addI rfl rfl (by omega)) rfl (DW.p rfl rfl (fun _ => LX.convU rfl rfl rfl (by omega)) rfl (DW.p rfl rfl (fun _ => LX.move rfl) rfl (DW.p rfl rfl (fun _ => LX.eq (LX.idxA rfl rfl rfl v rfl (by omega)) (by rw [Nat.zero_add])) rfl ?_)))
        refine DW.r rfl rfl (LX.load rfl rfl List.mem_cons_self (Obj.cell_list (hcell v (by omega)))) hms rfl (DW.fval rfl rfl (EX.call rfl (fun _ => by kernel_rfl) (ctEq (x := kk) (y := (v : Int) + 1) (by unfold wd W64; omega) (by unfold wd W64; omega))) hms rfl ?_)
        
        obtain ⟨hvn, Z, hvz, hvZ, hvc⟩ := hT v (by omega)
        have hmv := hmem v (by omega)
        refine DW.t rfl rfl (EX.call rfl (fun _ => by kernel_rfl) (nassign (b1_bt _) ht hvz (List.mem_cons_of_mem _ (List.mem_cons_of_mem _ (List.mem_cons_of_mem _ hmv.1))) (List.mem_cons_of_mem _ (List.mem_cons_of_mem _ (List.mem_cons_of_mem _ hmv.2))))) rfl (by kernel_rfl) ?_
        rintro _ _ ⟨ys, rfl, hy, rfl⟩
        refine DW.nil (blockK_normal (thenK_normal (WC.region (WL.q (LX.addI rfl rfl (by omega)) rfl (WL.q (LX.move rfl) rfl (WL.nil ?_))))))
        refine loopS_next (v + 1, ys, if b1 ((kk : Int) = (v : Int) + 1) = 1 then Z else T) ⟨by simp only []; omega, hy, fun h1 h2 => ?_⟩ (by simp only []; omega) (.cons rfl (.cons rfl (.cons rfl (.cons rfl (.cons rfl (.cons rfl (.cons rfl (.cons rfl (.cons rfl (.cons rfl (.cons rfl (.cons rfl (.cons rfl .nil))))))))))))) rfl
        dsimp only
        by_cases hkv : (kk : Int) = (v : Int) + 1
        · rw [b1_is hkv, if_pos rfl, show kk = v + 1 by omega]
          exact hvc
        · rw [b1_not hkv, if_neg (by omega)]
          exact htc h1 (by simp only [] at h2; omega)
      refine WC.exit (thenK_exit (loopS_exit (blockK_same (thenK_normal (WC.seq (WC.region (WL.q (LX.move rfl) rfl (WL.q (LX.move rfl) rfl (WL.q (LX.move rfl) rfl (WL.q (LX.move rfl) rfl ?_))))))))))
      obtain rfl : v = 15 := by omega
      refine WL.callR (mmulC ht.len ht.le ht.le ht.small ht.dg ho4 ht (List.mem_cons_of_mem _ (List.mem_cons_of_mem _ List.mem_cons_self)) (List.mem_cons_of_mem _ (List.mem_cons_of_mem _ (List.mem_cons_of_mem _ List.mem_cons_self))) List.mem_cons_self (List.mem_cons_of_mem _ List.mem_cons_self) hMP hO4) rfl (fun _ => by kernel_rfl) rfl ?_
      rintro _ _ ⟨ys, U, rfl, hy, hU, hUc, rfl⟩
      refine WL.nil (thenK_normal (WC.region (WL.q (LX.move rfl) rfl (WL.q (LX.move rfl) rfl (WL.call (ctEq (x := kk) (y := 0) (by unfold wd W64; omega) wd_zero) rfl (fun _ => by kernel_rfl) rfl ?_)))))
      
      refine WL.call (bnot (b1_bt _)) rfl (fun _ => by kernel_rfl) rfl (WL.q (LX.move rfl) rfl ?_)
      refine WL.callR (CS.pm (by repeat first | exact Pm.done | (apply Pm.step; repeat first | exact Rem.here | apply Rem.there)) (nassign (M := (pt, natO lt n 32) :: (lt, words ys) :: (tj, Obj.cells [.int .i64 4, .int .i64 0].toArray 3 (0, 0)) :: G) (show bt (1 - b1 ((kk : Int) = 0)) by rcases b1_bt ((kk : Int) = 0) with h | h <;> rw [h] <;> simp [bt]) ho4 hy (by repeat first | assumption | exact List.mem_cons_self | refine List.mem_cons_of_mem _ ?_) (by repeat first | assumption | exact List.mem_cons_self | refine List.mem_cons_of_mem _ ?_))) rfl (fun _ => by kernel_rfl) rfl ?_
      rintro _ _ ⟨vs, rfl, hvs, rfl⟩
      refine WL.nil (blockK_normal (thenK_normal (WC.region (WL.q (LX.addI rfl rfl (by omega)) rfl (WL.q (LX.move rfl) rfl (WL.nil ?_))))))
      have hfin : (if 1 - b1 ((kk : Int) = 0) = 1 then U else O4) < V ∧ Cg V (if 1 - b1 ((kk : Int) = 0) = 1 then U else O4) (X ^ ((if s = 0 then evb (bs.take i) else if s = 1 then evb (bs.take i) * 16 + b / 16 else evb (bs.take i) * 256 + b) * 16 + kk) * W64 ^ n) := by
        by_cases hk0 : (kk : Int) = 0
        · rw [b1_is hk0, if_neg (by omega)]
          refine ⟨hO4, hsq.trans (.of_eq ?_)⟩
          congr 2; omega
        · rw [b1_not hk0, if_pos (by omega)]
          refine ⟨hU, (exp_mul hodd rfl hsq (htc (by omega) (by omega)) hUc).trans (.of_eq ?_)⟩
          congr 2; omega
      refine loopS_next (s + 1, vs, if 1 - b1 ((kk : Int) = 0) = 1 then U else O4, ys, U) ⟨by simp only []; omega, hvs, hfin.1, ?_, hy⟩ (by simp only []; omega) (.cons rfl (.cons rfl (.cons rfl (.cons rfl (.cons rfl (.cons rfl (.cons rfl (.cons rfl (.cons rfl (.cons rfl (.cons rfl .nil))))))))))) rfl
      have hexp : ((if s = 0 then evb (bs.take i) else if s = 1 then evb (bs.take i) * 16 + b / 16 else evb (bs.take i) * 256 + b) * 16 + kk) = (if s + 1 = 0 then evb (bs.take i) else if s + 1 = 1 then evb (bs.take i) * 16 + b / 16 else evb (bs.take i) * 256 + b) := by
        subst hkd
        have : s = 0 ∨ s = 1 := by omega
        rcases this with rfl | rfl <;> simp <;> omega
      exact hfin.2.trans (.of_eq (by rw [hexp]))
    refine WC.exit (thenK_exit (loopS_exit (blockK_same (blockK_normal (thenK_normal (WC.region (WL.q (LX.addI rfl rfl (by omega)) rfl (WL.q (LX.move rfl) rfl (WL.nil ?_)))))))))
    obtain rfl : s = 2 := by omega
    refine loopS_nextS (i + 1, os, O, ts, T) ⟨by simp only []; omega, ho, hO, ?_, ht⟩ (by simp only []; omega) (.cons rfl (.cons rfl (.cons rfl (.cons rfl (.cons rfl (.cons rfl (.cons rfl .nil))))))) (.cons_cons _ (.cons_cons _ (.cons_cons _ (.cons_cons _ (.cons _ (List.Sublist.refl _))))))
    simp only []
    rw [hev]
    exact hOc
  refine WC.exit (thenK_exit (loopS_exit (blockK_same (thenK_normal (WC.seq (WC.region (WL.q (LX.move rfl) rfl (WL.q (LX.move rfl) rfl ?_))))))))
  obtain rfl : i = bs.length := by omega
  refine WL.callR (mred ho hO (hMG.o.mono fun _ h => List.mem_cons_of_mem _ (List.mem_cons_of_mem _ h))) rfl (fun _ => by kernel_rfl) rfl ?_
  rintro _ _ ⟨zs, Z, rfl, hz, hZ, hZc, rfl⟩
  refine WL.q (LX.assign rfl) rfl (WL.nil (thenK_normal (WC.ret ?_)))
  refine KR.one (.inl rfl) rfl rfl ⟨zs, Z, (pt, natO lt n 32) :: (lt, words ts) :: nm L ++ [(tb, Obj.cells (ps.map ptr).toArray 128 (0, 0))], rfl, hz, hZ, ?_, by rw [← hG]; simp⟩
  rw [List.take_length] at hOc
  exact Cg.cancel (n := n) hodd (hZc.trans hOc)
end
end Go.Proofs.YtdnngppofbmpeaaGreatDoor.Bm
namespace Go.Proofs.YtdnngppofbmpeaaGreatDoor.Bm
open Go Go.RowKit

/-- what is known of the coefficients, where a < m -/
inductive GM (a m u v A B C D : Int) : Prop
  | exact (hu : u = A * a - B * m) (hv : v = D * m - C * a) (hA0 : 0 ≤ A) (hA : A < m) (hB0 : 0 ≤ B) (hB : B ≤ a) (hC0 : 0 ≤ C) (hC : C < m) (hD0 : 0 ≤ D) (hD : D ≤ a) (hk : v < a ∨ ∃ k : Nat, a = 2 ^ k * u) : GM a m u v A B C D
  | final (hu : u = A * a - B * m) (ho : u % 2 = 1) (hd : ∃ t, v = u * t) (hA0 : 0 ≤ A) (hA : A < m) (hB0 : 0 ≤ B) (hB : B ≤ a) (hC0 : 0 ≤ C) (hC : C < m) (hD0 : 0 ≤ D) (hD : D ≤ a) : GM a m u v A B C D

/-- Add, reduced -/
def ad (x y V : Int) : Int := if x + y < V then x + y else x + y - V
/-- halved, behind an addition or not -/
def hv (b : Prop) [Decidable b] (x V : Int) : Int := if b then (x + V) / 2 else x / 2

section
variable {a m u v A B C D : Int}
theorem GM.B_lt (h : GM a m u v A B C D) (hu0 : 0 < u) (ha : 0 < a) : B < a := by
  have key : u = A * a - B * m → A < m → B ≤ a → B < a := by
    intro hu hA hB
    rcases Int.lt_or_eq_of_le hB with h1 | h1
    · exact h1
    · exfalso
      subst h1
      have h2 : (m - A) * B ≥ 0 := Int.mul_nonneg (by omega) (by omega)
      have h3 : u = - ((m - A) * B) := by rw [hu]; grind
      omega
  cases h with
  | exact hu hv hA0 hA hB0 hB hC0 hC hD0 hD hk => exact key hu hA hB
  | final hu ho hd hA0 hA hB0 hB hC0 hC hD0 hD => exact key hu hA hB

/-- u - v, where v < u -/
theorem GM.subU (h : GM a m u v A B C D) (ha : 0 < a) (ham : a < m) (hu0 : 0 < u) (hua : u ≤ a) (hv0 : 0 < v) (hvu : v < u) :
    A + C < 2 * m ∧ B + D < 2 * a ∧ GM a m (u - v) v (ad A C m) (ad B D a) C D := by
  have hBa := h.B_lt hu0 ha
  cases h with
  | final hu ho hd hA0 hA hB0 hB hC0 hC hD0 hD =>
    exfalso
    obtain ⟨t, ht⟩ := hd
    have h1 : 0 < t := by
      rcases Int.lt_or_le 0 t with h | h
      · exact h
      · have : u * t ≤ 0 := Int.mul_nonpos_of_nonneg_of_nonpos (by omega) h
        omega
    have h2 : u * 1 ≤ u * t := Int.mul_le_mul_of_nonneg_left (by omega) (by omega)
    omega
  | exact hu hv hA0 hA hB0 hB hC0 hC hD0 hD hk =>
    refine ⟨by omega, by omega, ?_⟩
    have e : u - v = (A + C) * a - (B + D) * m := by rw [hu, hv]; grind
    have hiff : A + C < m ↔ B + D < a := by
      constructor
      · intro h1
        rcases Int.lt_or_le (B + D) a with h2 | h2
        · exact h2
        · exfalso
          have h3 : a * m ≤ (B + D) * m := Int.mul_le_mul_of_nonneg_right h2 (by omega)
          have h4 : (A + C) * a ≤ m * a := Int.mul_le_mul_of_nonneg_right (by omega) (by omega)
          rw [Int.mul_comm m a] at h4
          omega
      · intro h1
        rcases Int.lt_or_le (A + C) m with h2 | h2
        · exact h2
        · exfalso
          have h3 : (B + D) * m ≤ (a - 1) * m := Int.mul_le_mul_of_nonneg_right (by omega) (by omega)
          have h4 : m * a ≤ (A + C) * a := Int.mul_le_mul_of_nonneg_right h2 (by omega)
          rw [Int.sub_mul, Int.one_mul] at h3
          rw [Int.mul_comm m a] at h4
          omega
    unfold ad
    by_cases h1 : A + C < m
    · rw [if_pos h1, if_pos (hiff.1 h1)]
      exact .exact e hv (by omega) h1 (by omega) (by have := hiff.1 h1; omega) hC0 hC hD0 hD (.inl (by omega))
    · have h2 : ¬ B + D < a := fun h => h1 (hiff.2 h)
      rw [if_neg h1, if_neg h2]
      exact .exact (by rw [e]; grind) hv (by omega) (by omega) (by omega) (by omega) hC0 hC hD0 hD (.inl (by omega))

/-- v - u, where u ≤ v and u is odd -/
theorem GM.subV (h : GM a m u v A B C D) (ha : 0 < a) (ham : a < m) (hu0 : 0 < u) (huo : u % 2 = 1) (hvm : v ≤ m) (huv : u ≤ v) :
    C + A < 2 * m ∧ D + B < 2 * a ∧ GM a m u (v - u) A B (ad C A m) (ad D B a) := by
  have hBa := h.B_lt hu0 ha
  have bounds : 0 ≤ A → A < m → 0 ≤ B → 0 ≤ C → C < m → 0 ≤ D → D ≤ a → 0 ≤ ad C A m ∧ ad C A m < m ∧ 0 ≤ ad D B a ∧ ad D B a ≤ a := by
    intros; unfold ad
    refine ⟨?_, ?_, ?_, ?_⟩ <;> split <;> omega
  cases h with
  | final hu ho hd hA0 hA hB0 hB hC0 hC hD0 hD =>
    obtain ⟨b1, b2, b3, b4⟩ := bounds hA0 hA hB0 hC0 hC hD0 hD
    obtain ⟨t, ht⟩ := hd
    exact ⟨by omega, by omega, .final hu ho ⟨t - 1, by rw [ht]; grind⟩ hA0 hA hB0 hB b1 b2 b3 b4⟩
  | exact hu hv hA0 hA hB0 hB hC0 hC hD0 hD hk =>
    obtain ⟨b1, b2, b3, b4⟩ := bounds hA0 hA hB0 hC0 hC hD0 hD
    refine ⟨by omega, by omega, ?_⟩
    have e : v - u = (D + B) * m - (C + A) * a := by rw [hu, hv]; grind
    have hk' : v - u < a ∨ ∃ k : Nat, a = 2 ^ k * u := hk.imp (fun h => by omega) id
    by_cases h1 : C + A < m
    · by_cases h2 : D + B < a
      · have e1 : ad C A m = C + A := if_pos h1
        have e2 : ad D B a = D + B := if_pos h2
        rw [e1, e2]
        exact .exact hu e hA0 hA hB0 hB (by omega) h1 (by omega) (by omega) hk'
      · -- D + B = a
        have h3 : D + B = a := by
          rcases Int.lt_or_le a (D + B) with h4 | h4
          · exfalso
            have h5 : (a + 1) * m ≤ (D + B) * m := Int.mul_le_mul_of_nonneg_right (by omega) (by omega)
            have h6 : (C + A) * a ≤ (m - 1) * a := Int.mul_le_mul_of_nonneg_right (by omega) (by omega)
            rw [Int.add_mul, Int.one_mul] at h5
            rw [Int.sub_mul, Int.one_mul, Int.mul_comm m a] at h6
            omega
          · omega
        have h4 : v - u = (m - (C + A)) * a := by rw [e, h3]; grind
        have h5 : 1 * a ≤ (m - (C + A)) * a := Int.mul_le_mul_of_nonneg_right (by omega) (by omega)
        obtain ⟨k, hk⟩ : ∃ k : Nat, a = 2 ^ k * u := by
          rcases hk' with h | h
          · omega
          · exact h
        refine .final hu huo ⟨(m - (C + A)) * 2 ^ k, ?_⟩ hA0 hA hB0 hB b1 b2 b3 b4
        rw [h4]
        conv => lhs; rw [hk]
        grind
    · have h2 : ¬ D + B < a := by
        intro h2
        have h3 : (D + B) * m ≤ (a - 1) * m := Int.mul_le_mul_of_nonneg_right (by omega) (by omega)
        have h4 : m * a ≤ (C + A) * a := Int.mul_le_mul_of_nonneg_right (by omega) (by omega)
        rw [Int.sub_mul, Int.one_mul] at h3
        rw [Int.mul_comm m a] at h4
        omega
      have e1 : ad C A m = C + A - m := if_neg h1
      have e2 : ad D B a = D + B - a := if_neg h2
      rw [e1, e2]
      exact .exact hu (by rw [e]; grind) hA0 hA hB0 hB (by omega) (by omega) (by omega) (by omega) hk'
end
end Go.Proofs.YtdnngppofbmpeaaGreatDoor.Bm
