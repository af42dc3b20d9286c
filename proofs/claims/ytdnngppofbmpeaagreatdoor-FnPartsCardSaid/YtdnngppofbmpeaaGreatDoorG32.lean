/- Proved here: what step of the thin package does. Conditions: none but those that each theorem states. -/
import Derived.Test.YtdnngppofbmpeaaGreatDoorG31
namespace Go.Proofs.YtdnngppofbmpeaaGreatDoor.Bm
open Go Go.RowKit

theorem set_same {α : Type} {l : List α} {i : Nat} {x : α} (h : l[i]? = some x) : l.set i x = l := by
  obtain ⟨hi, rfl⟩ := some_lt h
  exact List.set_getElem_self hi
theorem fin_RO {L : List Nt} {P : List (Int × Int)} {A R M' : Mem} {o : Nat} {x s : Int} (hI : RegI L P) (h : RO L A R o x s M') : ∃ L', M' = A ++ (nm L' ++ R) ∧ RegI L' (P.set o (x, s)) ∧ L'.map (·.p) = L.map (·.p) := by
  obtain ⟨t', rfl, h1, t, h2, h3⟩ := h
  refine ⟨L.set o t', rfl, hI.set o h1, ?_⟩
  rw [List.map_set]
  exact set_same (by rw [List.getElem?_map, h2]; simp [h3])
theorem NtI.open_ {t : Nt} {p : Int × Int} (h : NtI t p) (y : Int) : NtI t (y, -1) := by
  obtain ⟨V, h1, h2, _⟩ := h.ex
  exact ⟨V, h1, h2, fun h => by simp at h⟩
theorem RO.open_ {L : List Nt} {A R M' : Mem} {o : Nat} {x s : Int} (h : RO L A R o x s M') (y : Int) : RO L A R o y (-1) M' := by
  obtain ⟨t', h1, h2, h3⟩ := h
  exact ⟨t', h1, h2.open_ y, h3⟩
theorem b1_bd (p : Prop) [Decidable p] : 0 ≤ b1 p ∧ b1 p ≤ 1 := by unfold b1; split <;> omega
theorem b1_odd {x : Int} : b1 (x % 2 = 1) = x % 2 := by unfold b1; split <;> omega

/-- the registers' pointers; the moduli -/
structure PtrsIn (R : Mem) (b : Nat) (L : List Nt) : Prop where
  ex : ∃ c T, (b, .cells (c : List Value).toArray T (0, 0)) ∈ R ∧ ∀ (i : Nat) (t : Nt), L[i]? = some t → c[i]? = some (ptr t.p)
structure MdsIn (R : Mem) (b : Nat) (X : List Bs) : Prop where
  ex : ∃ c T, (b, .cells (c : List Value).toArray T (0, 0)) ∈ R ∧ ∀ (i : Nat) (x : Bs), X[i]? = some x → ∃ q n, c[i]? = some (ptr q) ∧ ModX R q n (dv 256 x.bs.reverse)

section
variable {w0 : World} {L : List Nt} {R : Mem}
/-- step -/
theorem istep {brr capr bmm capm : Nat} {X : List Bs} {s : Stp} {P P' : List (Int × Int)} {t : Int} (hT : Tab w0) (hI : RegI L P) (hst : Stepd X s P P' t) (hr : PtrsIn R brr L) (hm : MdsIn R bmm X) (hPb : ∀ p ∈ P, RB p) (hXd : ∀ x ∈ X, ModP x ∧ Dg 256 x.bs) (hs : StpOk w0 s) (hsp : StpP L.length X.length s) :
    CS w0 20 [.slice (some ⟨brr, 0, none⟩) L.length capr, .slice (some ⟨bmm, 0, none⟩) X.length capm, s.val] (nm L ++ R) (fun u M' => ∃ L', u = .int .i64 t ∧ M' = nm L' ++ R ∧ RegI L' P' ∧ L'.map (·.p) = L.map (·.p)) := by
  refine CS.post (R := fun u M' => ∃ L' B, u = .int .i64 t ∧ M' = B ++ (nm L' ++ R) ∧ RegI L' P' ∧ L'.map (·.p) = L.map (·.p)) ?_ (fun v M' ⟨L', B, h1, h2, h3, h4⟩ => ⟨nm L' ++ R, h2 ▸ List.sublist_append_right _ _, L', h1, rfl, h3, h4⟩)
  obtain ⟨po, pa, pb, x, km, n', z', hpo, hpa, hpb, hx, hkm, hps, rfl⟩ := hst.ex
  obtain ⟨to, hto, hno⟩ := hI.at_ _ _ hpo
  obtain ⟨ta, hta, hna⟩ := hI.at_ _ _ hpa
  obtain ⟨tb, htb, hnb⟩ := hI.at_ _ _ hpb
  obtain ⟨cr, Tr, hrm, hrc⟩ := hr.ex
  obtain ⟨cm, Tm, hmm, hmc⟩ := hm.ex
  obtain ⟨q, n, hq, hM⟩ := hmc _ _ hx
  obtain ⟨hxp, hxd⟩ := hXd x (List.mem_of_getElem? hx)
  have hkb := hxp.bl hxd hkm
  have hd := hs.d
  obtain ⟨⟨so1, so2⟩, ⟨sa1, sa2⟩, ⟨sb1, sb2⟩, ⟨sm1, sm2⟩, sl⟩ := hsp
  have hnum := hs.num
  have hrb : ∀ i, i < L.length → True := fun _ _ => trivial
  have hao : s.a.toNat = s.o.toNat → s.o = s.a := fun h => by omega
  have hbo : s.b.toNat = s.o.toNat → s.o = s.b := fun h => by omega
  have hpbo : s.b.toNat = s.o.toNat → pb = po := fun h => by rw [h, hpo] at hpb; exact (Option.some.inj hpb).symm
  generalize hVd : dv 256 x.bs.reverse = V at hps hkm hM
  have hV1 := hM.V1
  have hn8 := hM.n8
  have hneq := hM.n_eq hkm
  refine CS.of Tryz.func20 Tryz.ntmps20 rfl rfl (WC.seq (WC.region (WL.step rfl (EX.box rfl) ?_)))
  rintro _ _ ⟨b5, rfl, rfl⟩
  refine WL.q (LX.assign rfl) rfl (WL.nil (thenK_normal (WC.seq (WC.draw [(0, 0), (0, 1), (0, 5), (0, 6), (0, 10), (0, 11), (0, 15), (0, 16), (1, 2), (0, 3), (1, 4), (0, 20), (1, 7), (0, 8), (1, 9), (0, 21), (1, 12), (0, 13), (1, 14), (0, 22), (1, 17), (0, 18), (1, 19), (0, 23)] [(b5, s.obj), (brr, .cells cr.toArray Tr (0, 0)), (bmm, .cells cm.toArray Tm (0, 0))] rfl (by kernel_rfl) rfl (by kernel_rfl) (DW.p rfl rfl (fun _ => LX.move rfl) rfl (DW.p rfl rfl (fun _ => LX.field0 rfl rfl) rfl (DW.p rfl rfl (fun _ => LX.move rfl) rfl (DW.p rfl rfl (fun _ => LX.field0 rfl rfl) rfl (DW.p rfl rfl (fun _ => LX.move rfl) rfl (DW.p rfl rfl (fun _ => LX.field0 rfl rfl) rfl (DW.p rfl rfl (fun _ => LX.move rfl) rfl (DW.p rfl rfl (fun _ => LX.field0 rfl rfl) rfl ?_))))))))))))
  refine DW.r rfl rfl (LX.load rfl rfl (by repeat first | assumption | exact List.mem_cons_self | refine List.mem_cons_of_mem _ ?_ | refine List.mem_append_right _ ?_) rfl) (fun p hp => by simp only [List.mem_cons, List.not_mem_nil, or_false] at hp; rcases hp with rfl | rfl | rfl <;> simp [hrm, hmm]) rfl ?_
  refine DW.p rfl rfl (fun _ => LX.idx1 rfl rfl rfl s.o.toNat (by omega) (by omega)) rfl ?_
  refine DW.r rfl rfl (LX.load rfl rfl (by repeat first | assumption | exact List.mem_cons_self | refine List.mem_cons_of_mem _ ?_) (Obj.cell_list (hrc _ _ hto))) (fun p hp => by simp only [List.mem_cons, List.not_mem_nil, or_false] at hp; rcases hp with rfl | rfl | rfl <;> simp [hrm, hmm]) rfl ?_
  refine DW.p rfl rfl (fun _ => LX.assign rfl) rfl ?_
  refine DW.r rfl rfl (LX.load rfl rfl (by repeat first | assumption | exact List.mem_cons_self | refine List.mem_cons_of_mem _ ?_ | refine List.mem_append_right _ ?_) rfl) (fun p hp => by simp only [List.mem_cons, List.not_mem_nil, or_false] at hp; rcases hp with rfl | rfl | rfl <;> simp [hrm, hmm]) rfl ?_
  refine DW.p rfl rfl (fun _ => LX.idx1 rfl rfl rfl s.a.toNat (by omega) (by omega)) rfl ?_
  refine DW.r rfl rfl (LX.load rfl rfl (by repeat first | assumption | exact List.mem_cons_self | refine List.mem_cons_of_mem _ ?_) (Obj.cell_list (hrc _ _ hta))) (fun p hp => by simp only [List.mem_cons, List.not_mem_nil, or_false] at hp; rcases hp with rfl | rfl | rfl <;> simp [hrm, hmm]) rfl ?_
  refine DW.p rfl rfl (fun _ => LX.assign rfl) rfl ?_
  refine DW.r rfl rfl (LX.load rfl rfl (by repeat first | assumption | exact List.mem_cons_self | refine List.mem_cons_of_mem _ ?_ | refine List.mem_append_right _ ?_) rfl) (fun p hp => by simp only [List.mem_cons, List.not_mem_nil, or_false] at hp; rcases hp with rfl | rfl | rfl <;> simp [hrm, hmm]) rfl ?_
  refine DW.p rfl rfl (fun _ => LX.idx1 rfl rfl rfl s.b.toNat (by omega) (by omega)) rfl ?_
  refine DW.r rfl rfl (LX.load rfl rfl (by repeat first | assumption | exact List.mem_cons_self | refine List.mem_cons_of_mem _ ?_) (Obj.cell_list (hrc _ _ htb))) (fun p hp => by simp only [List.mem_cons, List.not_mem_nil, or_false] at hp; rcases hp with rfl | rfl | rfl <;> simp [hrm, hmm]) rfl ?_
  refine DW.p rfl rfl (fun _ => LX.assign rfl) rfl ?_
  refine DW.r rfl rfl (LX.load rfl rfl (by repeat first | assumption | exact List.mem_cons_self | refine List.mem_cons_of_mem _ ?_ | refine List.mem_append_right _ ?_) rfl) (fun p hp => by simp only [List.mem_cons, List.not_mem_nil, or_false] at hp; rcases hp with rfl | rfl | rfl <;> simp [hrm, hmm]) rfl ?_
  refine DW.p rfl rfl (fun _ => LX.idx1 rfl rfl rfl s.m.toNat (by omega) (by omega)) rfl ?_
  refine DW.r rfl rfl (LX.load rfl rfl (by repeat first | assumption | exact List.mem_cons_self | refine List.mem_cons_of_mem _ ?_) (Obj.cell_list hq)) (fun p hp => by simp only [List.mem_cons, List.not_mem_nil, or_false] at hp; rcases hp with rfl | rfl | rfl <;> simp [hrm, hmm]) rfl ?_
  refine DW.p rfl rfl (fun _ => LX.assign rfl) rfl (DW.nil (thenK_normal (WC.seq (WC.seq (WC.region (WL.q (LX.field0 rfl rfl) rfl ?_))))))
  refine WL.q (LX.load rfl rfl (by repeat first | assumption | exact List.mem_cons_self | refine List.mem_cons_of_mem _ ?_ | refine List.mem_append_right _ ?_) rfl) rfl ?_
  refine WL.nil (thenK_normal (WC.block (WC.seq (WC.region (WL.q (LX.bin rfl rfl rfl) rfl (WL.q (LX.assign rfl) rfl (WL.nil (thenK_normal ?_))))))))
  refine WC.test rfl (fun h0 => ?_) (fun h0 => ?_)
  · refine WC.seq (WC.region (WL.q (LX.move rfl) rfl (WL.q (LX.field0 rfl rfl) rfl ?_)))
    refine WL.q (LX.load rfl rfl (by repeat first | assumption | exact List.mem_cons_self | refine List.mem_cons_of_mem _ ?_ | refine List.mem_append_right _ ?_) rfl) rfl ?_
    refine WL.callR (cloneB (src0 hd.src) hd.dg (by have := sl; omega)) rfl (fun _ => by kernel_rfl) rfl ?_
    rintro _ _ ⟨Ac, capc, N, rfl, rfl, hbsl⟩
    refine WL.q (LX.move rfl) rfl (WL.memEq (N := (N ++ [(b5, s.obj)]) ++ (nm L ++ R)) (by simp) ?_)
    have hbs : Bsl ((N ++ [(b5, s.obj)]) ++ R) Ac s.d.bs capc := hbsl.mono fun _ h => by simp [h]
    rcases PS.inv0 hps h0 with ⟨rfl, rfl, rfl, hge, hl⟩ | ⟨rfl, rfl, rfl, hlt, hl⟩
    · refine WL.callR (ik0 hto hno hM hkm hbs hd.dg hl) rfl (fun _ => by kernel_rfl) rfl ?_
      rintro u M' ⟨hu, hro⟩
      rw [if_pos hge] at hu
      obtain ⟨e, rfl⟩ := hu
      replace hro := hro.open_ 0
      refine WL.q (LX.move rfl) rfl (WL.q (LX.extract rfl rfl) rfl (WL.q (LX.extract rfl rfl) rfl (WL.q (LX.assign rfl) rfl (WL.q (LX.assign rfl) rfl (WL.nil (thenK_normal (WC.seq (WC.region (WL.q (LX.move rfl) rfl (WL.q (LX.errEqF rfl) rfl (WL.call (ione (b := false)) rfl (fun _ => by kernel_rfl) rfl (WL.q (LX.assign rfl) rfl (WL.nil ?_)))))))))))))
      refine thenK_normal (WC.ret (blockK_ret (thenK_ret ?_)))
      obtain ⟨L', rfl, hI', hmp⟩ := fin_RO hI hro
      exact KR.one (.inl rfl) rfl rfl ⟨L', _, rfl, rfl, hI', hmp⟩
    · skip
      refine WL.callR (ik0 hto hno hM hkm hbs hd.dg hl) rfl (fun _ => by kernel_rfl) rfl ?_
      rintro u M' ⟨hu, hro⟩
      rw [if_neg (by omega)] at hu
      subst hu
      refine WL.q (LX.move rfl) rfl (WL.q (LX.extract rfl rfl) rfl (WL.q (LX.extract rfl rfl) rfl (WL.q (LX.assign rfl) rfl (WL.q (LX.assign rfl) rfl (WL.nil (thenK_normal (WC.seq (WC.region (WL.q (LX.move rfl) rfl (WL.q (LX.errEq rfl) rfl (WL.call (ione (b := true)) rfl (fun _ => by kernel_rfl) rfl (WL.q (LX.assign rfl) rfl (WL.nil ?_)))))))))))))
      refine thenK_normal (WC.ret (blockK_ret (thenK_ret ?_)))
      obtain ⟨L', rfl, hI', hmp⟩ := fin_RO hI hro
      exact KR.one (.inl rfl) rfl rfl ⟨L', _, rfl, rfl, hI', hmp⟩
  refine WC.seq (WC.region (WL.q (LX.bin rfl rfl rfl) rfl (WL.q (LX.assign rfl) rfl (WL.nil (thenK_normal ?_)))))
  refine WC.test rfl (fun h1 => ?_) (fun h1 => ?_)
  · refine WC.seq (WC.region (WL.q (LX.move rfl) rfl (WL.q (LX.field0 rfl rfl) rfl ?_)))
    refine WL.q (LX.load rfl rfl (by repeat first | assumption | exact List.mem_cons_self | refine List.mem_cons_of_mem _ ?_ | refine List.mem_append_right _ ?_) rfl) rfl ?_
    refine WL.callR (cloneB (src0 hd.src) hd.dg (by have := sl; omega)) rfl (fun _ => by kernel_rfl) rfl ?_
    rintro _ _ ⟨Ac, capc, N, rfl, rfl, hbsl⟩
    refine WL.q (LX.move rfl) rfl (WL.memEq (N := (N ++ [(b5, s.obj)]) ++ (nm L ++ R)) (by simp) ?_)
    have hbs : Bsl ((N ++ [(b5, s.obj)]) ++ R) Ac s.d.bs capc := hbsl.mono fun _ h => by simp [h]
    obtain ⟨kx, hkx, hl, h1'⟩ := PS.inv1 hps h1
    rcases h1' with ⟨rfl, rfl, rfl, hge⟩ | ⟨rfl, rfl, rfl, hlt⟩
    · refine WL.callR (ik1no hto hno hM hkm hbs hd.dg hl hkx hge) rfl (fun _ => by kernel_rfl) rfl ?_
      rintro _ M' ⟨⟨e, rfl⟩, hro⟩
      refine WL.q (LX.move rfl) rfl (WL.q (LX.extract rfl rfl) rfl (WL.q (LX.extract rfl rfl) rfl (WL.q (LX.assign rfl) rfl (WL.q (LX.assign rfl) rfl (WL.nil (thenK_normal (WC.seq (WC.region (WL.q (LX.move rfl) rfl (WL.q (LX.errEqF rfl) rfl (WL.call (ione (b := false)) rfl (fun _ => by kernel_rfl) rfl (WL.q (LX.assign rfl) rfl (WL.nil ?_)))))))))))))
      refine thenK_normal (WC.ret (blockK_ret (thenK_ret ?_)))
      obtain ⟨L', rfl, hI', hmp⟩ := fin_RO hI hro
      exact KR.one (.inl rfl) rfl rfl ⟨L', _, rfl, rfl, hI', hmp⟩
    · skip
      refine WL.callR (ik1ok hto hno hM hkm hbs hd.dg hl hkx hlt) rfl (fun _ => by kernel_rfl) rfl ?_
      rintro _ M' ⟨rfl, hro⟩
      refine WL.q (LX.move rfl) rfl (WL.q (LX.extract rfl rfl) rfl (WL.q (LX.extract rfl rfl) rfl (WL.q (LX.assign rfl) rfl (WL.q (LX.assign rfl) rfl (WL.nil (thenK_normal (WC.seq (WC.region (WL.q (LX.move rfl) rfl (WL.q (LX.errEq rfl) rfl (WL.call (ione (b := true)) rfl (fun _ => by kernel_rfl) rfl (WL.q (LX.assign rfl) rfl (WL.nil ?_)))))))))))))
      refine thenK_normal (WC.ret (blockK_ret (thenK_ret ?_)))
      obtain ⟨L', rfl, hI', hmp⟩ := fin_RO hI hro
      exact KR.one (.inl rfl) rfl rfl ⟨L', _, rfl, rfl, hI', hmp⟩
  refine WC.seq (WC.region (WL.q (LX.bin rfl rfl rfl) rfl (WL.q (LX.assign rfl) rfl (WL.nil (thenK_normal ?_)))))
  refine WC.test rfl (fun h2 => ?_) (fun h2 => ?_)
  · obtain ⟨rfl, rfl, rfl, hn0⟩ := PS.inv2 hps h2
    refine WC.region (WL.q (LX.move rfl) rfl (WL.q (LX.field0 rfl rfl) rfl ?_))
    refine WL.q (LX.load rfl rfl (by repeat first | assumption | exact List.mem_cons_self | refine List.mem_cons_of_mem _ ?_ | refine List.mem_append_right _ ?_) rfl) rfl ?_
    refine WL.q (LX.convU rfl rfl rfl (by omega)) rfl (WL.callR (ik2 (A := [(b5, s.obj)]) (R := R) hto hno hn0 (by omega)) rfl (fun _ => by kernel_rfl) rfl ?_)
    rintro _ _ ⟨-, hro⟩
    refine WL.nil (blockK_normal (thenK_normal (WC.seq (WC.region (WL.q (LX.assign rfl) rfl (WL.nil (thenK_normal (WC.ret ?_))))))))
    obtain ⟨L', rfl, hI', hmp⟩ := fin_RO hI hro
    exact KR.one (.inl rfl) rfl rfl ⟨L', _, rfl, rfl, hI', hmp⟩
  refine WC.seq (WC.region (WL.q (LX.bin rfl rfl rfl) rfl (WL.q (LX.assign rfl) rfl (WL.nil (thenK_normal ?_)))))
  refine WC.test rfl (fun h3 => ?_) (fun h3 => ?_)
  · obtain ⟨rfl, rfl, rfl, hz0, hz1⟩ := PS.inv3 hps h3
    refine WC.region (WL.q (LX.move rfl) rfl (WL.q (LX.move rfl) rfl (WL.callR (ik3 (A := [(b5, s.obj)]) hto hno hM hkm hz0 hz1) rfl (fun _ => by kernel_rfl) rfl ?_)))
    rintro _ _ ⟨-, hro⟩
    refine WL.nil (blockK_normal (thenK_normal (WC.seq (WC.region (WL.q (LX.assign rfl) rfl (WL.nil (thenK_normal (WC.ret ?_))))))))
    obtain ⟨L', rfl, hI', hmp⟩ := fin_RO hI hro
    exact KR.one (.inl rfl) rfl rfl ⟨L', _, rfl, rfl, hI', hmp⟩
  refine WC.seq (WC.region (WL.q (LX.bin rfl rfl rfl) rfl (WL.q (LX.assign rfl) rfl (WL.nil (thenK_normal ?_)))))
  refine WC.test rfl (fun h4 => ?_) (fun h4 => ?_)
  · obtain ⟨rfl, rfl, rfl, hz, hne⟩ := PS.inv4 hps h4
    refine WC.region (WL.q (LX.move rfl) rfl (WL.q (LX.move rfl) rfl (WL.q (LX.move rfl) rfl (WL.callR (ik4 (A := [(b5, s.obj)]) hto hta (fun h => hne (hao h)) hno hna hM hkm hz) rfl (fun _ => by kernel_rfl) rfl ?_))))
    rintro _ _ ⟨-, hro⟩
    refine WL.nil (blockK_normal (thenK_normal (WC.seq (WC.region (WL.q (LX.assign rfl) rfl (WL.nil (thenK_normal (WC.ret ?_))))))))
    obtain ⟨L', rfl, hI', hmp⟩ := fin_RO hI hro
    exact KR.one (.inl rfl) rfl rfl ⟨L', _, rfl, rfl, hI', hmp⟩
  refine WC.seq (WC.region (WL.q (LX.bin rfl rfl rfl) rfl (WL.q (LX.assign rfl) rfl (WL.nil (thenK_normal ?_)))))
  refine WC.test rfl (fun h5 => ?_) (fun h5 => ?_)
  · obtain ⟨rfl, rfl, rfl, hf, hg⟩ := PS.inv5 hps h5
    refine WC.region (WL.q (LX.move rfl) rfl (WL.q (LX.move rfl) rfl (WL.q (LX.move rfl) rfl (WL.callR (ik5 (A := [(b5, s.obj)]) hto htb hno hnb hpbo hM hkm hf hg) rfl (fun _ => by kernel_rfl) rfl ?_))))
    rintro _ _ ⟨-, hro⟩
    refine WL.nil (blockK_normal (thenK_normal (WC.seq (WC.region (WL.q (LX.assign rfl) rfl (WL.nil (thenK_normal (WC.ret ?_))))))))
    obtain ⟨L', rfl, hI', hmp⟩ := fin_RO hI hro
    exact KR.one (.inl rfl) rfl rfl ⟨L', _, rfl, rfl, hI', hmp⟩
  refine WC.seq (WC.region (WL.q (LX.bin rfl rfl rfl) rfl (WL.q (LX.assign rfl) rfl (WL.nil (thenK_normal ?_)))))
  refine WC.test rfl (fun h6 => ?_) (fun h6 => ?_)
  · obtain ⟨rfl, rfl, rfl, hf, hg⟩ := PS.inv6 hps h6
    refine WC.region (WL.q (LX.move rfl) rfl (WL.q (LX.move rfl) rfl (WL.q (LX.move rfl) rfl (WL.callR (ik6 (A := [(b5, s.obj)]) hto htb hno hnb hpbo hM hkm hf hg) rfl (fun _ => by kernel_rfl) rfl ?_))))
    rintro _ _ ⟨-, hro⟩
    refine WL.nil (blockK_normal (thenK_normal (WC.seq (WC.region (WL.q (LX.assign rfl) rfl (WL.nil (thenK_normal (WC.ret ?_))))))))
    obtain ⟨L', rfl, hI', hmp⟩ := fin_RO hI hro
    exact KR.one (.inl rfl) rfl rfl ⟨L', _, rfl, rfl, hI', hmp⟩
  refine WC.seq (WC.region (WL.q (LX.bin rfl rfl rfl) rfl (WL.q (LX.assign rfl) rfl (WL.nil (thenK_normal ?_)))))
  refine WC.test rfl (fun h7 => ?_) (fun h7 => ?_)
  · obtain ⟨rfl, rfl, rfl, hf, hg⟩ := PS.inv7 hps h7
    refine WC.region (WL.q (LX.move rfl) rfl (WL.q (LX.move rfl) rfl (WL.q (LX.move rfl) rfl (WL.callR (ik7 (A := [(b5, s.obj)]) hto htb hno hnb hM hkm hf hg) rfl (fun _ => by kernel_rfl) rfl ?_))))
    rintro _ _ ⟨-, hro⟩
    refine WL.nil (blockK_normal (thenK_normal (WC.seq (WC.region (WL.q (LX.assign rfl) rfl (WL.nil (thenK_normal (WC.ret ?_))))))))
    obtain ⟨L', rfl, hI', hmp⟩ := fin_RO hI hro
    exact KR.one (.inl rfl) rfl rfl ⟨L', _, rfl, rfl, hI', hmp⟩
  refine WC.seq (WC.region (WL.q (LX.bin rfl rfl rfl) rfl (WL.q (LX.assign rfl) rfl (WL.nil (thenK_normal ?_)))))
  refine WC.test rfl (fun h8 => ?_) (fun h8 => ?_)
  · obtain ⟨rfl, rfl, rfl, hod, hf, hne⟩ := PS.inv8 hps h8
    refine WC.region (WL.q (LX.move rfl) rfl (WL.q (LX.move rfl) rfl (WL.q (LX.field0 rfl rfl) rfl ?_)))
    refine WL.q (LX.load rfl rfl (by repeat first | assumption | exact List.mem_cons_self | refine List.mem_cons_of_mem _ ?_ | refine List.mem_append_right _ ?_) rfl) rfl ?_
    refine WL.callR (cloneB (src0 hd.src) hd.dg (by have := sl; omega)) rfl (fun _ => by kernel_rfl) rfl ?_
    rintro _ _ ⟨Ac, capc, N, rfl, rfl, hbsl⟩
    refine WL.q (LX.move rfl) rfl (WL.memEq (N := (N ++ [(b5, s.obj)]) ++ (nm L ++ R)) (by simp) ?_)
    have hbs : Bsl ((N ++ [(b5, s.obj)]) ++ R) Ac s.d.bs capc := hbsl.mono fun _ h => by simp [h]
    refine WL.callR (ik8 hto hta (fun h => hne (hao h)) hno hna hM hkm hod hf hbs hd.dg sl) rfl (fun _ => by kernel_rfl) rfl ?_
    rintro _ _ ⟨-, hro⟩
    refine WL.nil (blockK_normal (thenK_normal (WC.seq (WC.region (WL.q (LX.assign rfl) rfl (WL.nil (thenK_normal (WC.ret ?_))))))))
    obtain ⟨L', rfl, hI', hmp⟩ := fin_RO hI hro
    exact KR.one (.inl rfl) rfl rfl ⟨L', _, rfl, rfl, hI', hmp⟩
  refine WC.seq (WC.region (WL.q (LX.bin rfl rfl rfl) rfl (WL.q (LX.assign rfl) rfl (WL.nil (thenK_normal ?_)))))
  refine WC.test rfl (fun h9 => ?_) (fun h9 => ?_)
  · obtain ⟨rfl, rfl, rfl, hod, hf, hne, hl1, hl2⟩ := PS.inv9 hps h9
    refine WC.region (WL.q (LX.move rfl) rfl (WL.q (LX.move rfl) rfl (WL.q (LX.field0 rfl rfl) rfl ?_)))
    refine WL.q (LX.load rfl rfl (by repeat first | assumption | exact List.mem_cons_self | refine List.mem_cons_of_mem _ ?_ | refine List.mem_append_right _ ?_) rfl) rfl ?_
    refine WL.q (LX.convU rfl rfl rfl (by omega)) rfl (WL.q (LX.move rfl) rfl (WL.callR (ik9 (A := [(b5, s.obj)]) hto hta (fun h => hne (hao h)) hno hna hM hkm hod hf hl1 hl2) rfl (fun _ => by kernel_rfl) rfl ?_))
    rintro _ _ ⟨-, hro⟩
    refine WL.nil (blockK_normal (thenK_normal (WC.seq (WC.region (WL.q (LX.assign rfl) rfl (WL.nil (thenK_normal (WC.ret ?_))))))))
    obtain ⟨L', rfl, hI', hmp⟩ := fin_RO hI hro
    exact KR.one (.inl rfl) rfl rfl ⟨L', _, rfl, rfl, hI', hmp⟩
  refine WC.seq (WC.region (WL.q (LX.bin rfl rfl rfl) rfl (WL.q (LX.assign rfl) rfl (WL.nil (thenK_normal ?_)))))
  refine WC.test rfl (fun h10 => ?_) (fun h10 => ?_)
  · obtain ⟨rfl, rfl, rfl, hf⟩ := PS.inv10 hps h10
    refine WC.region (WL.q (LX.move rfl) rfl (WL.q (LX.move rfl) rfl (WL.callR (ik10 (A := [(b5, s.obj)]) hto hno hM hkm hf) rfl (fun _ => by kernel_rfl) rfl ?_)))
    rintro _ _ ⟨-, hro⟩
    refine WL.nil (blockK_normal (thenK_normal (WC.seq (WC.region (WL.q (LX.assign rfl) rfl (WL.nil (thenK_normal (WC.ret ?_))))))))
    obtain ⟨L', rfl, hI', hmp⟩ := fin_RO hI hro
    exact KR.one (.inl rfl) rfl rfl ⟨L', _, rfl, rfl, hI', hmp⟩
  refine WC.seq (WC.region (WL.q (LX.bin rfl rfl rfl) rfl (WL.q (LX.assign rfl) rfl (WL.nil (thenK_normal ?_)))))
  refine WC.test rfl (fun h11 => ?_) (fun h11 => ?_)
  · obtain ⟨hz, hlt, hne, h11'⟩ := PS.inv11 hps h11
    refine WC.seq (WC.region (WL.q (LX.move rfl) rfl (WL.q (LX.move rfl) rfl (WL.q (LX.move rfl) rfl ?_))))
    rcases h11' with ⟨rfl, rfl, hx0, hx1, hxe⟩ | ⟨rfl, rfl, rfl, hxn⟩
    · refine WL.callR (ik11yes (A := [(b5, s.obj)]) hto hta (fun h => hne (hao h)) hno hna hM hkm hz hlt hx0 hx1 hxe) rfl (fun _ => by kernel_rfl) rfl ?_
      rintro _ _ ⟨rfl, hro⟩
      refine WL.q (LX.move rfl) rfl (WL.q (LX.extract rfl rfl) rfl (WL.q (LX.extract rfl rfl) rfl (WL.q (LX.assign rfl) rfl (WL.q (LX.assign rfl) rfl (WL.nil (thenK_normal (WC.seq (WC.region (WL.q (LX.move rfl) rfl (WL.call (ione (b := true)) rfl (fun _ => by kernel_rfl) rfl (WL.q (LX.assign rfl) rfl (WL.nil (thenK_normal ?_)))))))))))))
      refine WC.ret (blockK_ret (thenK_ret ?_))
      obtain ⟨L', rfl, hI', hmp⟩ := fin_RO hI hro
      exact KR.one (.inl rfl) rfl rfl ⟨L', _, rfl, rfl, hI', hmp⟩
    · skip
      refine WL.callR (ik11no (A := [(b5, s.obj)]) (to := to) hta hna hM hz hlt hxn) rfl (fun _ => by kernel_rfl) rfl ?_
      rintro _ _ ⟨rfl, hM2⟩
      subst hM2
      refine WL.q (LX.move rfl) rfl (WL.q (LX.extract rfl rfl) rfl (WL.q (LX.extract rfl rfl) rfl (WL.q (LX.assign rfl) rfl (WL.q (LX.assign rfl) rfl (WL.nil (thenK_normal (WC.seq (WC.region (WL.q (LX.move rfl) rfl (WL.call (ione (b := false)) rfl (fun _ => by kernel_rfl) rfl (WL.q (LX.assign rfl) rfl (WL.nil (thenK_normal ?_)))))))))))))
      refine WC.ret (blockK_ret (thenK_ret ?_))
      exact KR.one (.inl rfl) rfl rfl ⟨L, [_], rfl, rfl, by rw [show ((po.1, po.2) : Int × Int) = po from rfl, set_same hpo]; exact hI, rfl⟩
  refine WC.seq (WC.region (WL.q (LX.bin rfl rfl rfl) rfl (WL.q (LX.assign rfl) rfl (WL.nil (thenK_normal ?_)))))
  refine WC.test rfl (fun h12 => ?_) (fun h12 => ?_)
  · obtain ⟨hz, hz', hne, hne', h12'⟩ := PS.inv12 hps h12
    refine WC.seq (WC.region (WL.q (LX.move rfl) rfl (WL.q (LX.move rfl) rfl (WL.q (LX.move rfl) rfl ?_))))
    rcases h12' with ⟨rfl, rfl, rfl, hzz⟩ | ⟨rfl, rfl, hzz, hx0, hcd⟩
    · refine WL.callR (ik12no (A := [(b5, s.obj)]) (R := R) (to := to) hta htb hna hnb hz hz' hzz) rfl (fun _ => by kernel_rfl) rfl ?_
      rintro _ _ ⟨⟨e, rfl⟩, hM2⟩
      subst hM2
      refine WL.q (LX.move rfl) rfl (WL.q (LX.extract rfl rfl) rfl (WL.q (LX.extract rfl rfl) rfl (WL.q (LX.assign rfl) rfl (WL.q (LX.assign rfl) rfl (WL.nil (thenK_normal (WC.seq (WC.region (WL.q (LX.move rfl) rfl (WL.q (LX.errEqF rfl) rfl (WL.call (ione (b := false)) rfl (fun _ => by kernel_rfl) rfl (WL.q (LX.assign rfl) rfl (WL.nil ?_)))))))))))))
      refine thenK_normal (WC.ret (blockK_ret (thenK_ret ?_)))
      exact KR.one (.inl rfl) rfl rfl ⟨L, [_], rfl, rfl, by rw [show ((po.1, po.2) : Int × Int) = po from rfl, set_same hpo]; exact hI, rfl⟩
    · skip
      refine WL.callR (ik12yes (A := [(b5, s.obj)]) (R := R) hto hta htb (fun h => hne (hao h)) (fun h => hne' (hbo h)) hno hna hnb hz hz' hzz hx0 hcd) rfl (fun _ => by kernel_rfl) rfl ?_
      rintro _ _ ⟨rfl, hro⟩
      refine WL.q (LX.move rfl) rfl (WL.q (LX.extract rfl rfl) rfl (WL.q (LX.extract rfl rfl) rfl (WL.q (LX.assign rfl) rfl (WL.q (LX.assign rfl) rfl (WL.nil (thenK_normal (WC.seq (WC.region (WL.q (LX.move rfl) rfl (WL.q (LX.errEq rfl) rfl (WL.call (ione (b := true)) rfl (fun _ => by kernel_rfl) rfl (WL.q (LX.assign rfl) rfl (WL.nil ?_)))))))))))))
      refine thenK_normal (WC.ret (blockK_ret (thenK_ret ?_)))
      obtain ⟨L', rfl, hI', hmp⟩ := fin_RO hI hro
      exact KR.one (.inl rfl) rfl rfl ⟨L', _, rfl, rfl, hI', hmp⟩
  refine WC.seq (WC.region (WL.q (LX.bin rfl rfl rfl) rfl (WL.q (LX.assign rfl) rfl (WL.nil (thenK_normal ?_)))))
  refine WC.test rfl (fun h13 => ?_) (fun h13 => ?_)
  · obtain ⟨rfl, rfl, rfl, hz0, hn0, hn1⟩ := PS.inv13 hps h13
    refine WC.region (WL.q (LX.move rfl) rfl (WL.q (LX.field0 rfl rfl) rfl ?_))
    refine WL.q (LX.load rfl rfl (by repeat first | assumption | exact List.mem_cons_self | refine List.mem_cons_of_mem _ ?_ | refine List.mem_append_right _ ?_) rfl) rfl ?_
    refine WL.q (LX.convU rfl rfl rfl (by omega)) rfl (WL.callR (ik13 (A := [(b5, s.obj)]) (R := R) hto hno hz0 hn0 hn1) rfl (fun _ => by kernel_rfl) rfl ?_)
    rintro _ _ ⟨-, hro⟩
    refine WL.nil (blockK_normal (thenK_normal (WC.seq (WC.region (WL.q (LX.assign rfl) rfl (WL.nil (thenK_normal (WC.ret ?_))))))))
    obtain ⟨L', rfl, hI', hmp⟩ := fin_RO hI hro
    exact KR.one (.inl rfl) rfl rfl ⟨L', _, rfl, rfl, hI', hmp⟩
  refine WC.seq (WC.region (WL.q (LX.bin rfl rfl rfl) rfl (WL.q (LX.assign rfl) rfl (WL.nil (thenK_normal ?_)))))
  refine WC.test rfl (fun h14 => ?_) (fun h14 => ?_)
  · obtain ⟨rfl, rfl, rfl, hz0⟩ := PS.inv14 hps h14
    refine WC.region (WL.q (LX.move rfl) rfl (WL.callR (ik14 (A := [(b5, s.obj)]) (R := R) hto hno hz0) rfl (fun _ => by kernel_rfl) rfl ?_))
    rintro _ _ ⟨-, hro⟩
    refine WL.nil (blockK_normal (thenK_normal (WC.seq (WC.region (WL.q (LX.assign rfl) rfl (WL.nil (thenK_normal (WC.ret ?_))))))))
    obtain ⟨L', rfl, hI', hmp⟩ := fin_RO hI hro
    exact KR.one (.inl rfl) rfl rfl ⟨L', _, rfl, rfl, hI', hmp⟩
  refine WC.seq (WC.region (WL.q (LX.bin rfl rfl rfl) rfl (WL.q (LX.assign rfl) rfl (WL.nil (thenK_normal ?_)))))
  refine WC.test rfl (fun h15 => ?_) (fun h15 => ?_)
  · obtain ⟨rfl, rfl, rfl, hz0⟩ := PS.inv15 hps h15
    refine WC.region (WL.q (LX.move rfl) rfl (WL.q (LX.move rfl) rfl ?_))
    obtain ⟨Va, ha1, ha2, ha3⟩ := hna.ex
    have hoth := nm_any (A := [(b5, s.obj)]) (X := R) hta
    refine WL.call (natBits hoth.1) rfl (fun _ => by kernel_rfl) rfl ?_
    
    refine WL.callR (cloneU ha1 hoth.2) rfl (fun _ => by kernel_rfl) rfl ?_
    rintro _ _ ⟨bc, full, rfl, hc1, hc2, hc3, rfl⟩
    
    refine WL.callR (ikSet (A := [(bc, words full), (b5, s.obj)]) (R := R) hto hno ha2 hc1 hc2 hc3 List.mem_cons_self ha3) rfl (fun _ => by kernel_rfl) rfl ?_
    rintro _ _ ⟨-, hro⟩
    refine WL.nil (blockK_normal (thenK_normal (WC.seq (WC.region (WL.q (LX.assign rfl) rfl (WL.nil (thenK_normal (WC.ret ?_))))))))
    obtain ⟨L', rfl, hI', hmp⟩ := fin_RO hI hro
    exact KR.one (.inl rfl) rfl rfl ⟨L', _, rfl, rfl, hI', hmp⟩
  refine WC.seq (WC.region (WL.q (LX.bin rfl rfl rfl) rfl (WL.q (LX.assign rfl) rfl (WL.nil (thenK_normal ?_)))))
  refine WC.test rfl (fun h16 => ?_) (fun h16 => ?_)
  · obtain ⟨ka, rfl, rfl, rfl, hz0, hbl⟩ := PS.inv16 hps h16
    obtain ⟨Va, ha1, ha2, ha3⟩ := hna.ex
    obtain ⟨-, rfl⟩ := ha3 (by omega)
    have hoth := nm_any (A := [(b5, s.obj)]) (X := R) hta
    have e1 := b1_bd (pa.1 = 0)
    have e2 := b1_bd (pa.1 = 1)
    refine WC.seq (WC.region (WL.q (LX.move rfl) rfl (WL.call (isZeroN ha1 hoth.1 hoth.2) rfl (fun _ => by kernel_rfl) rfl (WL.q (LX.convI rfl rfl rfl (by omega)) rfl (WL.q (LX.move rfl) rfl (WL.call (isOneN ha1 hoth.1 hoth.2) rfl (fun _ => by kernel_rfl) rfl (WL.q (LX.convI rfl rfl rfl (by omega)) rfl (WL.q (LX.mulI rfl rfl (by omega)) rfl (WL.q (LX.addI rfl rfl (by omega)) rfl (WL.q (LX.move rfl) rfl (WL.call (isOddN ha1 hoth.1 hoth.2) rfl (fun _ => by kernel_rfl) rfl (WL.q (LX.convI rfl rfl rfl (by omega)) rfl (WL.q (LX.mulI rfl rfl (by omega)) rfl ?_)))))))))))))
    refine WL.q (LX.addI rfl rfl (by omega)) rfl (WL.q (LX.move rfl) rfl (WL.callR (nbitLenVar ha1 hoth.1 hoth.2) rfl (fun _ => by kernel_rfl) rfl ?_))
    rintro _ _ ⟨⟨kb, rfl, hkb, hbl'⟩, hM2⟩
    subst hM2
    refine WL.q (LX.mulI rfl rfl (by omega)) rfl (WL.q (LX.addI rfl rfl (by omega)) rfl (WL.q (LX.assign rfl) rfl (WL.nil (thenK_normal (WC.ret (blockK_ret (thenK_ret ?_)))))))
    obtain rfl := hbl'.uniq hbl
    exact KR.one (.inl rfl) rfl rfl ⟨L, [_], by rw [b1_odd], rfl, by rw [show ((po.1, po.2) : Int × Int) = po from rfl, set_same hpo]; exact hI, rfl⟩
  refine WC.seq (WC.region (WL.q (LX.bin rfl rfl rfl) rfl (WL.q (LX.assign rfl) rfl (WL.nil (thenK_normal ?_)))))
  refine WC.test rfl (fun h17 => ?_) (fun h17 => ?_)
  · obtain ⟨rfl, rfl, rfl, hz0, hze⟩ := PS.inv17 hps h17
    obtain ⟨Va, ha1, ha2, ha3⟩ := hna.ex
    obtain ⟨ha4, rfl⟩ := ha3 (by omega)
    obtain ⟨Vb, hb1, hb2, hb3⟩ := hnb.ex
    obtain ⟨hb4, rfl⟩ := hb3 (by omega)
    have hoth := nm_any (A := [(b5, s.obj)]) (X := R) hta
    have hoth' := nm_any (A := [(b5, s.obj)]) (X := R) htb
    have enn : tb.n = ta.n := by omega
    rw [enn] at hb1 hoth'
    have e1 := b1_bd (pa.1 = pb.1)
    refine WC.seq (WC.region (WL.q (LX.move rfl) rfl (WL.q (LX.move rfl) rfl (WL.call (nequal ha1 hb1 hoth.1 hoth.2 hoth'.1 hoth'.2) rfl (fun _ => by kernel_rfl) rfl (WL.q (LX.convI rfl rfl rfl (by omega)) rfl (WL.q (LX.assign rfl) rfl (WL.nil (thenK_normal (WC.ret (blockK_ret (thenK_ret ?_)))))))))))
    exact KR.one (.inl rfl) rfl rfl ⟨L, [_], rfl, rfl, by rw [show ((po.1, po.2) : Int × Int) = po from rfl, set_same hpo]; exact hI, rfl⟩
  refine WC.seq (WC.region (WL.q (LX.bin rfl rfl rfl) rfl (WL.q (LX.assign rfl) rfl (WL.nil (thenK_normal ?_)))))
  refine WC.test rfl (fun h18 => ?_) (fun h18 => ?_)
  · obtain ⟨rfl, rfl, rfl, hf⟩ := PS.inv18 hps h18
    obtain ⟨ha1, ha2, ha3⟩ := hna.fit hM hkm hf
    have hoth := nm_any (A := [(b5, s.obj)]) (X := R) hta
    rw [ha1] at hoth
    have e1 := b1_bd (pa.1 = V - 1)
    obtain ⟨pm, lm, odd, m0, rv, mds, hMr⟩ := (hM.mono (N := [(b5, s.obj)] ++ (nm L ++ R)) fun _ h => List.mem_append_right _ (List.mem_append_right _ h)).r
    refine WC.seq (WC.region (WL.q (LX.move rfl) rfl (WL.q (LX.move rfl) rfl (WL.call (isMinusOne hM.n0 (by omega) ha2 hoth.1 hoth.2 hMr (by omega)) rfl (fun _ => by kernel_rfl) rfl (WL.q (LX.convI rfl rfl rfl (by omega)) rfl (WL.q (LX.assign rfl) rfl (WL.nil (thenK_normal (WC.ret (blockK_ret (thenK_ret ?_)))))))))))
    exact KR.one (.inl rfl) rfl rfl ⟨L, [_], by rw [b1_congr (show pa.1 = V - 1 ↔ V - pa.1 = 1 by omega)], rfl, by rw [show ((po.1, po.2) : Int × Int) = po from rfl, set_same hpo]; exact hI, rfl⟩
  refine WC.seq (WC.region (WL.q (LX.bin rfl rfl rfl) rfl (WL.q (LX.assign rfl) rfl (WL.nil (thenK_normal ?_)))))
  refine WC.test rfl (fun h19 => ?_) (fun h19 => ?_)
  · obtain ⟨zs, rfl, rfl, rfl, hf, hzl, hzd, hzv⟩ := PS.inv19 hps h19
    obtain ⟨ha1, ha2, ha3⟩ := hna.fit hM hkm hf
    have hoth := nm_any (A := [(b5, s.obj)]) (X := R) hta
    rw [ha1] at hoth
    refine WC.seq (WC.region (WL.q (LX.assign rfl) rfl (WL.nil (thenK_normal (WC.seq (WC.seq (WC.region (WL.q (LX.move rfl) rfl (WL.q (LX.move rfl) rfl (WL.callR (nBytes ha2 hf.2 hoth.1 hoth.2 (hM.mono fun _ h => List.mem_cons_of_mem _ (List.mem_append_right _ h))) rfl (fun _ => by kernel_rfl) rfl ?_))))))))))
    rintro _ _ ⟨bz, size, ys, kb, rfl, hkb', -, hsz, hyl, hyd, hyv, rfl⟩
    obtain rfl := hkb'.uniq hkm
    have hyz : ys = zs := by
      have := dv_inj (b := 256) (by decide) (dg_rev hyd) (dg_rev hzd) (by simp; omega) (by rw [hyv, hzv])
      exact List.reverse_inj.1 this
    subst hyz
    refine WL.q (LX.len rfl rfl rfl) rfl (WL.q (LX.move rfl) rfl (WL.nil (thenK_normal (WC.block ?_))))
    refine WC.loopS (fun s : Nat × Int => [(19, .int .i64 s.2), (207, .slice (some ⟨bz, 0, none⟩) size size), (208, .int .i64 size), (209, .int .i64 s.1)]) (fun _ => (bz, bytes ys) :: ([(b5, s.obj)] ++ (nm L ++ R)))
      (fun s => s.1 ≤ size ∧ s.2 = sumL (ys.take s.1) ∧ 0 ≤ s.2 ∧ s.2 ≤ 256 * (s.1 : Int)) (fun s => size - s.1) (0, 0) ⟨Nat.zero_le _, rfl, Int.le_refl _, by simp⟩ (.cons rfl (.cons rfl (.cons rfl (.cons rfl .nil)))) rfl ?_
    rintro ⟨i, tot⟩ ⟨hi, ht, ht0, ht1⟩
    dsimp only at hi ht ht0 ht1 ⊢
    have hzb := dg8_gt hyd i
    refine WC.seq (WC.region (WL.q (LX.bin rfl rfl rfl) rfl (WL.nil (thenK_normal (WC.seq ?_)))))
    refine WC.test rfl (fun hlt => ?_) (fun hge => ?_)
    · refine WC.skip (thenK_normal (WC.seq (WC.block (WC.seq (WC.region (WL.q (LX.idx1 rfl rfl rfl _ rfl (by omega)) rfl (WL.q (LX.loadRow rfl rfl List.mem_cons_self (by omega)) rfl (WL.q (LX.assign rfl) rfl (WL.nil (thenK_normal (WC.region (WL.q (LX.move rfl) rfl (WL.q (LX.move rfl) rfl ?_)))))))))))))
      refine WL.q (LX.convI rfl rfl rfl (by omega)) rfl (WL.q (LX.addI rfl rfl (by omega)) rfl (WL.q (LX.assign rfl) rfl (WL.nil (blockK_normal (thenK_normal (WC.region (WL.q (LX.addI rfl rfl (by omega)) rfl (WL.q (LX.move rfl) rfl (WL.nil ?_)))))))))
      exact loopS_next (i + 1, tot + gt ys i) ⟨by simp only []; omega, by simp only []; rw [sumL_take (by omega), ht], by simp only []; omega, by simp only []; omega⟩ (by simp only []; omega) (.cons rfl (.cons rfl (.cons rfl (.cons rfl .nil)))) rfl
    · refine WC.exit (thenK_exit (loopS_exit (blockK_same (thenK_normal (WC.seq (WC.region (WL.q (LX.move rfl) rfl (WL.q (LX.assign rfl) rfl (WL.nil (thenK_normal (WC.ret (blockK_ret (thenK_ret ?_)))))))))))))
      obtain rfl : i = size := by omega
      rw [List.take_of_length_le (by omega)] at ht
      subst ht
      exact KR.one (.inl rfl) rfl rfl ⟨L, [_, _], rfl, rfl, by rw [show ((po.1, po.2) : Int × Int) = po from rfl, set_same hpo]; exact hI, rfl⟩
  refine WC.seq (WC.region (WL.q (LX.bin rfl rfl rfl) rfl (WL.q (LX.assign rfl) rfl (WL.nil (thenK_normal ?_)))))
  refine WC.test rfl (fun h20 => ?_) (fun h20 => ?_)
  · obtain ⟨rfl, rfl, rfl⟩ := PS.inv20 hps h20
    obtain ⟨pm, lm, odd, m0, rv, mds, hMr⟩ := (hM.mono (N := [(b5, s.obj)] ++ (nm L ++ R)) fun _ h => List.mem_append_right _ (List.mem_append_right _ h)).r
    refine WC.region (WL.q (LX.move rfl) rfl (WL.q (LX.move rfl) rfl (WL.callR (modNat hMr (by omega)) rfl (fun _ => by kernel_rfl) rfl ?_)))
    rintro _ _ ⟨pn, ln, zs, rfl, hz, rfl⟩
    
    refine WL.call (natBits List.mem_cons_self) rfl (fun _ => by kernel_rfl) rfl ?_
    
    refine WL.callR (cloneU hz (List.mem_cons_of_mem _ List.mem_cons_self)) rfl (fun _ => by kernel_rfl) rfl ?_
    rintro _ _ ⟨bc, full, rfl, hc1, hc2, hc3, rfl⟩
    
    refine WL.callR (ikSet (A := [(bc, words full), (pn, natO ln n 32), (ln, words zs), (b5, s.obj)]) (R := R) (x := n') (s := (wds km : Int)) hto hno hn8 hc1 hc2 hc3 List.mem_cons_self (fun _ => ⟨by rw [hneq], rfl⟩)) rfl (fun _ => by kernel_rfl) rfl ?_
    rintro _ _ ⟨-, hro⟩
    refine WL.nil (blockK_normal (thenK_normal (WC.seq (WC.region (WL.q (LX.assign rfl) rfl (WL.nil (thenK_normal (WC.ret ?_))))))))
    obtain ⟨L', rfl, hI', hmp⟩ := fin_RO hI hro
    exact KR.one (.inl rfl) rfl rfl ⟨L', _, rfl, rfl, hI', hmp⟩
  refine WC.seq (WC.region (WL.q (LX.bin rfl rfl rfl) rfl (WL.q (LX.assign rfl) rfl (WL.nil (thenK_normal ?_)))))
  refine WC.test rfl (fun h21 => ?_) (fun h21 => ?_)
  · obtain ⟨j, rfl, rfl, rfl, hne0, htz⟩ := PS.inv21 hps h21
    obtain ⟨Va, ha1, ha2, ha3⟩ := hna.ex
    have hz0 : 0 ≤ pa.2 := by
      have h1 := hPb _ (List.mem_of_getElem? hpa)
      rcases Int.lt_or_le pa.2 0 with h2 | h2
      · exfalso
        have h3 := h1.lt
        rw [show pa.2.toNat = 0 by omega, Int.pow_zero] at h3
        have h4 := h1.n0
        omega
      · exact h2
    obtain ⟨-, rfl⟩ := ha3 hz0
    have hoth := nm_any (A := [(b5, s.obj)]) (X := R) hta
    refine WC.seq (WC.region (WL.q (LX.move rfl) rfl (WL.callR (ntz hT ha1 hoth.1 hoth.2 hne0) rfl (fun _ => by kernel_rfl) rfl ?_)))
    rintro _ _ ⟨⟨k, rfl, hk, htz2⟩, hM2⟩
    subst hM2
    refine WL.q (LX.convI rfl rfl rfl (by omega)) rfl (WL.q (LX.assign rfl) rfl (WL.nil (thenK_normal (WC.ret (blockK_ret (thenK_ret ?_))))))
    obtain rfl := htz2.uniq htz
    exact KR.one (.inl rfl) rfl rfl ⟨L, [_], rfl, rfl, by rw [show ((po.1, po.2) : Int × Int) = po from rfl, set_same hpo]; exact hI, rfl⟩
  refine WC.skip (blockK_normal (thenK_normal (WC.seq (WC.region (WL.q (LX.assign rfl) rfl (WL.nil (thenK_normal (WC.ret ?_))))))))
  have := hps.range
  omega
end
end Go.Proofs.YtdnngppofbmpeaaGreatDoor.Bm
