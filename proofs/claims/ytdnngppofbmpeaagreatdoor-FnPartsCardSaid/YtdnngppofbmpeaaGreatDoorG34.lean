/- Proved here: what alike does with registers that are those of the answer; that laws.FnScript answers true; that laws.FnParts answers true. Conditions: none but those that each theorem states. -/
import Derived.Test.YtdnngppofbmpeaaGreatDoorG33
namespace Go.Proofs.YtdnngppofbmpeaaGreatDoor.Bm
open Go Go.RowKit

/-- the words of an answer, as the thin package gives them -/
def GotR (M : Mem) (v : Value) (P : List (Int × Int)) : Prop :=
  ∃ ws, Rds M v ws ∧ ws.length = P.length ∧ ∀ (j : Nat) (p : Int × Int), P[j]? = some p → ∃ w zs, ws[j]? = some w ∧ Rds M w ((zs : List Int).map (Value.int .u64)) ∧ (0 ≤ p.2 → zs = wordsOf p)

section
variable {w0 : World} {M : Mem}
/-- alike -/
theorem lalike {vg vw vo vt : Value} {P : List (Int × Int)} {T : List Int} (hA : AnsR M vw vo vt P T) (hG : GotR M vg P) (hPl : P.length ≤ 5) (hPb : ∀ p ∈ P, RB p) :
    CS w0 11 [vg, .agg #[vw, vo, vt]] M (fun u M' => u = .bool true ∧ M' = M) := by
  refine CS.post (R := fun u M' => u = .bool true ∧ M.Sublist M') ?_ (fun v M' ⟨h1, h2⟩ => ⟨M, h2, h1, rfl⟩)
  obtain ⟨gs, hg1, hg2, hg3⟩ := hG
  obtain ⟨ws, hw1, hw2, hw3⟩ := hA.words
  obtain ⟨Ag, capg, rfl, hAg⟩ := hg1.split
  obtain ⟨Aw, capw, rfl, hAw⟩ := hw1.split
  obtain ⟨Ao, capo, rfl, hAo⟩ := hA.opn.split
  rw [List.length_map] at hAo ⊢
  rw [hg2] at hAg ⊢
  rw [hw2] at hAw ⊢
  refine CS.of Tryz.func11 Tryz.ntmps11 rfl rfl (WC.seq (WC.region (WL.step rfl (EX.box rfl) ?_)))
  rintro _ _ ⟨b3, rfl, rfl⟩
  refine WL.q (LX.assign rfl) rfl (WL.nil (thenK_normal (WC.seq (WC.seq (WC.region (WL.q (LX.move rfl) rfl (WL.q (LX.len rfl rfl rfl) rfl (WL.q (LX.field0 rfl rfl) rfl ?_))))))))
  refine WL.q (LX.load rfl rfl (by repeat first | assumption | exact List.mem_cons_self | refine List.mem_cons_of_mem _ ?_ | refine List.mem_append_right _ ?_) rfl) rfl ?_
  refine WL.q (LX.len rfl rfl rfl) rfl (WL.q (LX.eq (LX.bin rfl rfl rfl) (show _ = Value.bool false by simp)) rfl (WL.nil (thenK_normal (WC.no rfl (WC.skip (thenK_normal (WC.seq (WC.seq (WC.region (WL.q (LX.assign rfl) rfl (WL.nil (thenK_normal (WC.block ?_)))))))))))))
  refine WC.loopS (fun i : Nat => [(0, .slice Ag P.length capg), (3, .pointer (some ⟨b3, 0, none⟩)), (5, .int .i64 i)]) (fun _ => (b3, ansO (.slice Aw P.length capw) (.slice Ao P.length capo) vt) :: M) (fun i => i ≤ P.length) (fun i => P.length - i) 0 (Nat.zero_le _) (.cons rfl (.cons rfl (.cons rfl .nil))) rfl ?_
  intro i hi
  refine WC.seq (WC.seq (WC.region (WL.q (LX.move rfl) rfl (WL.q (LX.move rfl) rfl (WL.q (LX.len rfl rfl rfl) rfl (WL.q (LX.bin rfl rfl rfl) rfl (WL.nil (thenK_normal ?_))))))))
  refine WC.test rfl (fun hlt => ?_) (fun hge => ?_)
  · obtain ⟨bg, cg, Tg, rfl, hmg, hcg⟩ := hAg (by omega)
    obtain ⟨bw, cw, Tw, rfl, hmw, hcw⟩ := hAw (by omega)
    obtain ⟨bo, co, To, rfl, hmo, hco⟩ := hAo (by omega)
    obtain ⟨p, hp, hpm⟩ := list_at (show i < P.length by omega)
    have hrb := hPb p hpm
    have hz8 := hrb.z8
    have ho' : (P.map fun p => Value.bool (decide (p.2 < 0)))[i]? = some (.bool (decide (p.2 < 0))) := by rw [List.getElem?_map, hp]; rfl
    refine WC.skip (thenK_normal (WC.seq (WC.block (WC.seq (WC.seq (WC.region (WL.q (LX.field0 rfl rfl) rfl ?_)))))))
    refine WL.q (LX.load rfl rfl (by repeat first | assumption | exact List.mem_cons_self | refine List.mem_cons_of_mem _ ?_ | refine List.mem_append_right _ ?_) rfl) rfl ?_
    refine WL.q (LX.move rfl) rfl (WL.q (LX.idx1 rfl rfl rfl i rfl (by omega)) rfl (WL.q (LX.load rfl rfl (List.mem_cons_of_mem _ hmo) (Obj.cell_list (hco _ _ ho'))) rfl (WL.nil (thenK_normal ?_))))
    refine WC.test rfl (fun hop => ?_) (fun hop => ?_)
    · refine WC.exit (thenK_exit (blockK_same (thenK_normal (WC.region (WL.q (LX.move rfl) rfl (WL.q (LX.addI rfl rfl (by omega)) rfl (WL.q (LX.assign rfl) rfl (WL.nil ?_))))))))
      exact loopS_next (i + 1) (by omega) (by omega) (.cons rfl (.cons rfl (.cons rfl .nil))) rfl
    · obtain ⟨u, zs, hu1, hu2, hu3⟩ := hg3 i p hp
      obtain ⟨u', hv1, hv2⟩ := hw3 i p hp
      obtain rfl := hu3 (by omega)
      obtain ⟨A1, cap1, rfl, hA1⟩ := hu2.split
      obtain ⟨A2, cap2, rfl, hA2⟩ := hv2.split
      rw [List.length_map] at hA1 hA2 hu1 hv1
      have hwl := wordsOf_len p
      have hms : ∀ q ∈ [(b3, ansO (.slice (some ⟨bw, 0, none⟩) P.length capw) (.slice (some ⟨bo, 0, none⟩) P.length capo) vt), (bg, Obj.cells cg.toArray Tg (0, 0)), (bw, Obj.cells cw.toArray Tw (0, 0))], q ∈ (b3, ansO (.slice (some ⟨bw, 0, none⟩) P.length capw) (.slice (some ⟨bo, 0, none⟩) P.length capo) vt) :: M := by
        intro q hq
        simp only [List.mem_cons, List.not_mem_nil, or_false] at hq
        rcases hq with rfl | rfl | rfl <;> simp [hmg, hmw]
      refine WC.skip (thenK_normal (WC.seq (WC.seq (WC.draw [(0, 0), (0, 1), (0, 2), (0, 5), (0, 7), (1, 3), (0, 4), (1, 6), (0, 8), (1, 9), (0, 10), (0, 11)] [(b3, ansO (.slice (some ⟨bw, 0, none⟩) P.length capw) (.slice (some ⟨bo, 0, none⟩) P.length capo) vt), (bg, Obj.cells cg.toArray Tg (0, 0)), (bw, Obj.cells cw.toArray Tw (0, 0))] rfl (by kernel_rfl) rfl (by kernel_rfl) (DW.p rfl rfl (fun _ => LX.move rfl) rfl (DW.p rfl rfl (fun _ => LX.move rfl) rfl (DW.p rfl rfl (fun _ => LX.idx1 rfl rfl rfl i rfl (by omega)) rfl (DW.p rfl rfl (fun _ => LX.field0 rfl rfl) rfl (DW.p rfl rfl (fun _ => LX.move rfl) rfl ?_)))))))))
      refine DW.r rfl rfl (LX.load rfl rfl (by repeat first | assumption | exact List.mem_cons_self | refine List.mem_cons_of_mem _ ?_) (Obj.cell_list (hcg _ _ hu1))) hms rfl ?_
      refine DW.p rfl rfl (fun _ => LX.len rfl rfl rfl) rfl ?_
      refine DW.r rfl rfl (LX.load rfl rfl (by repeat first | assumption | exact List.mem_cons_self | refine List.mem_cons_of_mem _ ?_ | refine List.mem_append_right _ ?_) rfl) hms rfl ?_
      refine DW.p rfl rfl (fun _ => LX.idx1 rfl rfl rfl i rfl (by omega)) rfl ?_
      refine DW.r rfl rfl (LX.load rfl rfl (by repeat first | assumption | exact List.mem_cons_self | refine List.mem_cons_of_mem _ ?_) (Obj.cell_list (hcw _ _ hv1))) hms rfl ?_
      refine DW.p rfl rfl (fun _ => LX.len rfl rfl rfl) rfl (DW.p rfl rfl (fun _ => LX.eq (LX.bin rfl rfl rfl) (show _ = Value.bool false by simp)) rfl (DW.nil (thenK_normal (WC.no rfl (WC.skip (thenK_normal (WC.seq (WC.region (WL.q (LX.assign rfl) rfl (WL.nil (thenK_normal (WC.block (WC.loopS (fun k : Nat => [(0, .slice (some ⟨bg, 0, none⟩) P.length capg), (3, .pointer (some ⟨b3, 0, none⟩)), (5, .int .i64 i), (6, .int .i64 k)]) (fun _ => (b3, ansO (.slice (some ⟨bw, 0, none⟩) P.length capw) (.slice (some ⟨bo, 0, none⟩) P.length capo) vt) :: M) (fun k => k ≤ (wordsOf p).length) (fun k => (wordsOf p).length - k) 0 (Nat.zero_le _) (.cons rfl (.cons rfl (.cons rfl (.cons rfl .nil)))) rfl ?_)))))))))))))
      intro k hk
      refine WC.seq (WC.seq (WC.region (WL.q (LX.move rfl) rfl (WL.q (LX.move rfl) rfl (WL.q (LX.move rfl) rfl (WL.q (LX.idx1 rfl rfl rfl i rfl (by omega)) rfl (WL.q (LX.load rfl rfl (List.mem_cons_of_mem _ hmg) (Obj.cell_list (hcg _ _ hu1))) rfl (WL.q (LX.len rfl rfl rfl) rfl (WL.q (LX.bin rfl rfl rfl) rfl (WL.nil (thenK_normal ?_)))))))))))
      refine WC.test rfl (fun hklt => ?_) (fun hkge => ?_)
      · obtain ⟨bx, cx, Tx, rfl, hmx, hcx⟩ := hA1 (by omega)
        obtain ⟨by', cy, Ty, rfl, hmy, hcy⟩ := hA2 (by omega)
        obtain ⟨z, hz, -⟩ := list_at (show k < (wordsOf p).length by omega)
        have hz' : ((wordsOf p).map (Value.int .u64))[k]? = some (.int .u64 z) := by rw [List.getElem?_map, hz]; rfl
        have hms2 : ∀ q ∈ [(b3, ansO (.slice (some ⟨bw, 0, none⟩) P.length capw) (.slice (some ⟨bo, 0, none⟩) P.length capo) vt), (bg, Obj.cells cg.toArray Tg (0, 0)), (bw, Obj.cells cw.toArray Tw (0, 0)), (bx, Obj.cells cx.toArray Tx (0, 0)), (by', Obj.cells cy.toArray Ty (0, 0))], q ∈ (b3, ansO (.slice (some ⟨bw, 0, none⟩) P.length capw) (.slice (some ⟨bo, 0, none⟩) P.length capo) vt) :: M := by
          intro q hq
          simp only [List.mem_cons, List.not_mem_nil, or_false] at hq
          rcases hq with rfl | rfl | rfl | rfl | rfl <;> simp [hmg, hmw, hmx, hmy]
        refine WC.skip (thenK_normal (WC.seq (WC.block (WC.seq (WC.draw [(0, 0), (0, 1), (0, 2), (0, 4), (0, 7), (0, 9), (0, 12), (1, 3), (0, 5), (1, 6), (1, 8), (0, 10), (1, 11), (0, 13), (1, 14), (0, 15)] [(b3, ansO (.slice (some ⟨bw, 0, none⟩) P.length capw) (.slice (some ⟨bo, 0, none⟩) P.length capo) vt), (bg, Obj.cells cg.toArray Tg (0, 0)), (bw, Obj.cells cw.toArray Tw (0, 0)), (bx, Obj.cells cx.toArray Tx (0, 0)), (by', Obj.cells cy.toArray Ty (0, 0))] rfl (by kernel_rfl) rfl (by kernel_rfl) (DW.p rfl rfl (fun _ => LX.move rfl) rfl (DW.p rfl rfl (fun _ => LX.move rfl) rfl (DW.p rfl rfl (fun _ => LX.idx1 rfl rfl rfl i rfl (by omega)) rfl (DW.p rfl rfl (fun _ => LX.move rfl) rfl (DW.p rfl rfl (fun _ => LX.field0 rfl rfl) rfl (DW.p rfl rfl (fun _ => LX.move rfl) rfl (DW.p rfl rfl (fun _ => LX.move rfl) rfl ?_))))))))))))
        refine DW.r rfl rfl (LX.load rfl rfl (by repeat first | assumption | exact List.mem_cons_self | refine List.mem_cons_of_mem _ ?_) (Obj.cell_list (hcg _ _ hu1))) hms2 rfl ?_
        refine DW.p rfl rfl (fun _ => LX.idx1 rfl rfl rfl k rfl (by omega)) rfl ?_
        refine DW.r rfl rfl (LX.load rfl rfl (by repeat first | assumption | exact List.mem_cons_self | refine List.mem_cons_of_mem _ ?_) (Obj.cell_list (hcx _ _ hz'))) hms2 rfl ?_
        refine DW.r rfl rfl (LX.load rfl rfl (by repeat first | assumption | exact List.mem_cons_self | refine List.mem_cons_of_mem _ ?_ | refine List.mem_append_right _ ?_) rfl) hms2 rfl ?_
        refine DW.p rfl rfl (fun _ => LX.idx1 rfl rfl rfl i rfl (by omega)) rfl ?_
        refine DW.r rfl rfl (LX.load rfl rfl (by repeat first | assumption | exact List.mem_cons_self | refine List.mem_cons_of_mem _ ?_) (Obj.cell_list (hcw _ _ hv1))) hms2 rfl ?_
        refine DW.p rfl rfl (fun _ => LX.idx1 rfl rfl rfl k rfl (by omega)) rfl ?_
        refine DW.r rfl rfl (LX.load rfl rfl (by repeat first | assumption | exact List.mem_cons_self | refine List.mem_cons_of_mem _ ?_) (Obj.cell_list (hcy _ _ hz'))) hms2 rfl ?_
        refine DW.p rfl rfl (fun _ => LX.eq (LX.bin rfl rfl rfl) (show _ = Value.bool false by simp)) rfl (DW.nil (thenK_normal (WC.no rfl (WC.skip (blockK_normal (thenK_normal (WC.region (WL.q (LX.move rfl) rfl (WL.q (LX.addI rfl rfl (by omega)) rfl (WL.q (LX.assign rfl) rfl (WL.nil ?_)))))))))))
        exact loopS_next (k + 1) (by omega) (by omega) (.cons rfl (.cons rfl (.cons rfl (.cons rfl .nil)))) rfl
      · refine WC.exit (thenK_exit (loopS_exit (blockK_same (blockK_normal (thenK_normal (WC.region (WL.q (LX.move rfl) rfl (WL.q (LX.addI rfl rfl (by omega)) rfl (WL.q (LX.assign rfl) rfl (WL.nil ?_))))))))))
        exact loopS_next (i + 1) (by omega) (by omega) (.cons rfl (.cons rfl (.cons rfl .nil))) rfl
  · refine WC.exit (thenK_exit (loopS_exit (blockK_same (thenK_normal (WC.seq (WC.region (WL.q (LX.assign rfl) rfl (WL.nil (thenK_normal (WC.ret ?_))))))))))
    exact KR.one (.inl rfl) rfl rfl ⟨rfl, List.sublist_cons_self _ _⟩
end
end Go.Proofs.YtdnngppofbmpeaaGreatDoor.Bm
namespace Go.Proofs.YtdnngppofbmpeaaGreatDoor.Bm
open Go Go.RowKit

theorem AnsR.mono {M N : Mem} {vw vo vt : Value} {P : List (Int × Int)} {T : List Int} (h : AnsR M vw vo vt P T) (hs : ∀ p ∈ M, p ∈ N) : AnsR N vw vo vt P T := by
  obtain ⟨ws, h1, h2, h3⟩ := h.words
  exact ⟨h.told.mono hs, h.opn.mono hs, ws, h1.mono hs, h2, fun i p hp => let ⟨w, h4, h5⟩ := h3 i p hp; ⟨w, h4, h5.mono hs⟩⟩
theorem GotR.mono {M N : Mem} {v : Value} {P : List (Int × Int)} (h : GotR M v P) (hs : ∀ p ∈ M, p ∈ N) : GotR N v P := by
  obtain ⟨ws, h1, h2, h3⟩ := h
  exact ⟨ws, h1.mono hs, h2, fun j p hp => let ⟨w, zs, h4, h5, h6⟩ := h3 j p hp; ⟨w, zs, h4, h5.mono hs, h6⟩⟩
theorem RightP.bnd {X : List Bs} {c : Int} {S : List Stp} (h : RightP X c S) {w0 : World} {A As : Option Addr} (hX : ModsIn w0 A X) (hS : StpsIn w0 As S) {cc : Nat} {Rf : Nat → List (Int × Int)} {tf : Nat → Int} (hr : RunF X cc S Rf tf) : (Rf S.length).length = cc ∧ ∀ p ∈ Rf S.length, RB p :=
  hr.bound (fun x hx => ⟨h.mods x hx, (hX.ok x hx).dg⟩) (fun s hs => ⟨(hS.ok s hs).d.dg, by have := (hS.ok s hs).num; omega⟩) S.length (Nat.le_refl _)

section
variable {w0 : World} {M : Mem}
/-- the law FnScript holds -/
theorem fnScript {A As : Option Addr} {capm caps : Nat} {c : Int} {X : List Bs} {S : List Stp} (hT : Tab w0) (hX : ModsIn w0 A X) (hS : StpsIn w0 As S) :
    CS w0 4 [.slice A X.length capm, .int .i64 c, .slice As S.length caps] M (fun u _ => u = .bool true) := by
  refine CS.of Tryz.func4 Tryz.ntmps4 rfl rfl (WC.seq (WC.region (WL.q (LX.assign rfl) rfl (WL.nil (thenK_normal (WC.seq (WC.seq (WC.region (WL.q (LX.move rfl) rfl (WL.callR (zzFits1 hX) rfl (fun _ => by kernel_rfl) rfl ?_))))))))))
  rintro _ M1 ⟨⟨r1, rfl⟩, hM⟩
  rw [hM]
  clear hM
  cases r1
  · skip
    refine WL.q (LX.not rfl) rfl (WL.q (LX.move rfl) rfl (WL.no rfl rfl (by decide) rfl (WL.no rfl rfl (by decide) rfl (WL.no rfl rfl (by decide) rfl (WL.q (LX.pickT rfl rfl) rfl (WL.nil (thenK_normal (WC.yes rfl (WC.seq (WC.region (WL.q (LX.assign rfl) rfl (WL.nil (thenK_normal ?_)))))))))))))
    refine WC.ret (thenK_ret ?_)
    exact KR.one (.inl rfl) rfl rfl rfl
  refine WL.q (LX.not rfl) rfl (WL.q (LX.move rfl) rfl (WL.yes rfl rfl (WL.q (LX.move rfl) rfl (WL.yes rfl rfl (WL.callR (zzFits2 hS) rfl (fun _ => by kernel_rfl) rfl ?_)))))
  rintro _ M1 ⟨⟨r2, rfl⟩, hM⟩
  rw [hM]
  clear hM
  refine WL.yes rfl rfl (WL.q (LX.not rfl) rfl (WL.q (LX.pickF rfl rfl) rfl (WL.nil (thenK_normal ?_))))
  cases r2
  · refine WC.yes rfl (WC.seq (WC.region (WL.q (LX.assign rfl) rfl (WL.nil (thenK_normal (WC.ret (thenK_ret ?_)))))))
    exact KR.one (.inl rfl) rfl rfl rfl
  refine WC.no rfl (WC.skip (thenK_normal (WC.seq (WC.seq (WC.region (WL.q (LX.move rfl) rfl (WL.q (LX.move rfl) rfl (WL.q (LX.move rfl) rfl (WL.callR (sright hX hS) rfl (fun _ => by kernel_rfl) rfl ?_)))))))))
  rintro _ _ ⟨r3, rfl, hr, N1, rfl⟩
  refine WL.q (LX.not rfl) rfl (WL.nil (thenK_normal ?_))
  cases r3
  · refine WC.yes rfl (WC.seq (WC.region (WL.q (LX.assign rfl) rfl (WL.nil (thenK_normal (WC.ret (thenK_ret ?_)))))))
    exact KR.one (.inl rfl) rfl rfl rfl
  refine WC.no rfl (WC.skip (thenK_normal (WC.seq (WC.region (WL.q (LX.move rfl) rfl (WL.q (LX.move rfl) rfl (WL.q (LX.move rfl) rfl ?_)))))))
  replace hr := hr rfl
  obtain ⟨c, rfl⟩ : ∃ n : Nat, c = n := ⟨c.toNat, by have := hr.c1; omega⟩
  refine WL.callR (sscript hX hS hr) rfl (fun _ => by kernel_rfl) rfl ?_
  rintro _ _ ⟨vw, vo, vt, ok, rfl, ⟨ow, oo, ot⟩, ⟨N2, rfl⟩, hok⟩
  refine WL.q (LX.move rfl) rfl (WL.q (LX.extract rfl rfl) rfl (WL.q (LX.extract rfl rfl) rfl (WL.step rfl (EX.alloc (z := .agg #[.slice none 0 0, .slice none 0 0, .slice none 0 0]) (fun _ => by kernel_rfl)) ?_)))
  rintro _ _ ⟨b7, rfl, rfl⟩
  refine WL.put (EX.storeW rfl rfl rfl rfl (by intro u hu; simp only [List.mem_cons, List.not_mem_nil, or_false] at hu; rcases hu with rfl | rfl | rfl <;> first | rfl | assumption) (by repeat first | assumption | exact List.mem_cons_self | refine List.mem_cons_of_mem _ ?_ | refine List.mem_append_right _ ?_) rfl (by repeat first | exact Upd.here | apply Upd.there | apply Upd.app)) ?_
  refine WL.q (LX.assign rfl) rfl (WL.nil (thenK_normal (WC.seq (WC.seq (WC.region (WL.q (LX.move rfl) rfl (WL.q (LX.not rfl) rfl (WL.nil (thenK_normal ?_)))))))))
  cases ok
  · refine WC.yes rfl (WC.seq (WC.region (WL.q (LX.assign rfl) rfl (WL.nil (thenK_normal (WC.ret (thenK_ret ?_)))))))
    exact KR.one (.inl rfl) rfl rfl rfl
  refine WC.no rfl (WC.skip (thenK_normal (WC.seq (WC.region (WL.q (LX.move rfl) rfl (WL.q (LX.move rfl) rfl (WL.q (LX.move rfl) rfl ?_)))))))
  obtain ⟨Rf, tf, hrun, hans⟩ := hok rfl
  obtain ⟨hPl, hPb⟩ := hr.bnd hX hS hrun
  refine WL.callR (iscript hT hX hS hr hrun) rfl (fun _ => by kernel_rfl) rfl ?_
  rintro _ _ ⟨gw, gt', rfl, ⟨N3, rfl⟩, htold, ws, h1, h2, h3⟩
  have hgot : GotR _ gw (Rf S.length) := ⟨ws, h1, by rw [h2, hPl], h3⟩
  have hans' := hans.mono (N := N3 ++ (b7, ansO vw vo vt) :: (N2 ++ (N1 ++ M))) fun _ h => by simp only [List.mem_append, List.mem_cons] at h ⊢; grind
  refine WL.q (LX.move rfl) rfl (WL.q (LX.extract rfl rfl) rfl (WL.q (LX.extract rfl rfl) rfl (WL.q (LX.extract rfl rfl) rfl (WL.q (LX.assign rfl) rfl (WL.q (LX.assign rfl) rfl (WL.q (LX.assign rfl) rfl (WL.nil (thenK_normal (WC.seq (WC.region (WL.q (LX.move rfl) rfl (WL.q (LX.move rfl) rfl (WL.yes rfl rfl ?_)))))))))))))
  refine WL.q (LX.move rfl) rfl (WL.yes rfl rfl (WL.q (LX.field0 rfl rfl) rfl (WL.yes rfl rfl ?_)))
  refine WL.q (LX.load rfl rfl (by repeat first | assumption | exact List.mem_cons_self | refine List.mem_cons_of_mem _ ?_ | refine List.mem_append_right _ ?_) rfl) rfl ?_
  refine WL.yes rfl rfl (WL.call (lsame htold hans'.told (by have := hr.s40; rw [List.length_map, List.length_range]; omega)) rfl (fun _ => by kernel_rfl) rfl (WL.q (LX.pickT rfl rfl) rfl (WL.q (LX.move rfl) rfl (WL.yes rfl rfl (WL.q (LX.move rfl) rfl (WL.yes rfl rfl ?_))))))
  refine WL.q (LX.loadR rfl rfl (by repeat first | assumption | exact List.mem_cons_self | refine List.mem_cons_of_mem _ ?_ | refine List.mem_append_right _ ?_) rfl) rfl ?_
  refine WL.yes rfl rfl (WL.call (lalike hans' hgot (by have := hr.c5; omega) hPb) rfl (fun _ => by kernel_rfl) rfl (WL.q (LX.pickT rfl rfl) rfl (WL.q (LX.assign rfl) rfl (WL.nil (thenK_normal (WC.ret ?_))))))
  exact KR.one (.inl rfl) rfl rfl rfl
end
end Go.Proofs.YtdnngppofbmpeaaGreatDoor.Bm
namespace Go.Proofs.YtdnngppofbmpeaaGreatDoor.Bm
open Go Go.RowKit

/-- x[:hi] of any slice -/
theorem LX.sliceHi {n : Nat} {w0 : World} {E : Env} {M : Mem} {dst : Option Nat} {ty : TypeId} {pos : String} {aft : Array Edge} {g : Option (Nat × Bool)} {t e s len cap : Nat} {x y : Operand} {A : Option Addr} {k : IntKind} {i : Int} (hx : ev E x = some (.slice A len cap)) (hy : ev E y = some (.int k i)) (ht : sl t = some (e, s)) (h : Nat) (hi : i = (h : Int)) (hhc : h ≤ cap) :
    LX n w0 ⟨dst, .slice t x none (some y) none, ty, pos, aft, g⟩ E M (.slice A h cap) := by
  refine ⟨fun a w ha _ => ?_⟩
  have e1 := ha.eval hx
  have e2 := ha.eval hy
  subst hi
  obtain ⟨h1, h2⟩ := sl_ok ht w
  have e3 : (Instr.sliceBounds true len cap none (some (.int k (h : Int))) none).run P w = .ok (0, h, cap) w := by
    unfold Instr.sliceBounds
    simp [Instr.sliceBound, asIntOf, hhc]
  have e4 : (Instr.sliceAt t (.slice A len cap) none (some (.int k (h : Int))) none).run P w = .ok (.slice A h cap) w := by
    simp only [Instr.sliceAt, Instr.slice, Sem.run_bind, h1, Result.andThen_ok, e3, h2]
    simp only [Sem.run_pure, Nat.zero_mul, Nat.sub_zero]
    cases A with
    | none => simp only [Option.map_none]; split <;> rfl
    | some a =>
      simp only [Option.map_some]
      have : a.add 0 = a := rfl
      rw [this]; split <;> rfl
  simp [execOp, e1, e2, e4]
theorem RightP.take {X : List Bs} {c : Int} {S : List Stp} (h : RightP X c S) (n : Nat) : RightP X c (S.take n) :=
  ⟨h.n1, h.n3, h.c1, h.c5, by have := h.s40; rw [List.length_take]; omega, h.mods, fun s hs => h.steps s (List.mem_of_mem_take hs)⟩
theorem Rds.take {M : Mem} {A : Option Addr} {cap : Nat} {l : List Value} (h : Rds M (.slice A l.length cap) l) {n : Nat} (hn : n ≤ l.length) : Rds M (.slice A n cap) (l.take n) := by
  obtain ⟨A', cap', h1, h2⟩ := h
  obtain ⟨rfl, rfl⟩ : A = A' ∧ cap = cap' := by simpa using h1
  have hl : (l.take n).length = n := by rw [List.length_take]; omega
  refine ⟨A, cap, by rw [hl], ?_⟩
  rcases h2 with rfl | ⟨b, c, T, h3, h4, h5, h6, h7⟩
  · exact .inl (by simp)
  · exact .inr ⟨b, c, T, h3, h4, by omega, by rw [hl, ← h6, List.take_take, Nat.min_eq_left hn], by omega⟩
theorem Rds.cap_le {M : Mem} {A : Option Addr} {cap : Nat} {l : List Value} (h : Rds M (.slice A l.length cap) l) : l.length ≤ cap ∨ l = [] := by
  obtain ⟨A', cap', h1, h2⟩ := h
  obtain ⟨rfl, rfl⟩ : A = A' ∧ cap = cap' := by simpa using h1
  rcases h2 with h2 | ⟨b, c, T, h3, h4, h5, h6, h7⟩
  · exact .inr h2
  · exact .inl h7

section
variable {w0 : World} {M : Mem}
/-- the law FnParts holds -/
theorem fnParts {A As : Option Addr} {capm caps : Nat} {c cut : Int} {X : List Bs} {S : List Stp} (hT : Tab w0) (hX : ModsIn w0 A X) (hS : StpsIn w0 As S) (hcap : S.length ≤ caps) :
    CS w0 3 [.slice A X.length capm, .int .i64 c, .slice As S.length caps, .int .i64 cut] M (fun u _ => u = .bool true) := by
  refine CS.of Tryz.func3 Tryz.ntmps3 rfl rfl (WC.seq (WC.region (WL.q (LX.assign rfl) rfl (WL.nil (thenK_normal (WC.seq (WC.seq (WC.region (WL.q (LX.move rfl) rfl (WL.callR (zzFits1 hX) rfl (fun _ => by kernel_rfl) rfl ?_))))))))))
  rintro _ M1 ⟨⟨r1, rfl⟩, hM⟩
  rw [hM]
  clear hM
  cases r1
  · skip
    refine WL.q (LX.not rfl) rfl (WL.q (LX.move rfl) rfl (WL.no rfl rfl (by decide) rfl (WL.no rfl rfl (by decide) rfl (WL.no rfl rfl (by decide) rfl (WL.q (LX.pickT rfl rfl) rfl (WL.nil (thenK_normal (WC.yes rfl (WC.seq (WC.region (WL.q (LX.assign rfl) rfl (WL.nil (thenK_normal ?_)))))))))))))
    refine WC.ret (thenK_ret ?_)
    exact KR.one (.inl rfl) rfl rfl rfl
  refine WL.q (LX.not rfl) rfl (WL.q (LX.move rfl) rfl (WL.yes rfl rfl (WL.q (LX.move rfl) rfl (WL.yes rfl rfl (WL.callR (zzFits2 hS) rfl (fun _ => by kernel_rfl) rfl ?_)))))
  rintro _ M1 ⟨⟨r2, rfl⟩, hM⟩
  rw [hM]
  clear hM
  refine WL.yes rfl rfl (WL.q (LX.not rfl) rfl (WL.q (LX.pickF rfl rfl) rfl (WL.nil (thenK_normal ?_))))
  cases r2
  · refine WC.yes rfl (WC.seq (WC.region (WL.q (LX.assign rfl) rfl (WL.nil (thenK_normal (WC.ret (thenK_ret ?_)))))))
    exact KR.one (.inl rfl) rfl rfl rfl
  refine WC.no rfl (WC.skip (thenK_normal (WC.seq (WC.seq (WC.region (WL.q (LX.move rfl) rfl (WL.q (LX.move rfl) rfl (WL.q (LX.move rfl) rfl (WL.callR (sright hX hS) rfl (fun _ => by kernel_rfl) rfl ?_)))))))))
  rintro _ _ ⟨r3, rfl, hr, N1, rfl⟩
  cases r3
  · skip
    refine WL.q (LX.not rfl) rfl (WL.q (LX.move rfl) rfl (WL.no rfl rfl (by decide) rfl (WL.no rfl rfl (by decide) rfl (WL.q (LX.pickT rfl rfl) rfl (WL.q (LX.move rfl) rfl (WL.no rfl rfl (by decide) rfl (WL.no rfl rfl (by decide) rfl (WL.no rfl rfl (by decide) rfl (WL.no rfl rfl (by decide) rfl (WL.q (LX.pickT rfl rfl) rfl (WL.nil (thenK_normal (WC.yes rfl ?_)))))))))))))
    refine WC.seq (WC.region (WL.q (LX.assign rfl) rfl (WL.nil (thenK_normal (WC.ret (thenK_ret ?_))))))
    exact KR.one (.inl rfl) rfl rfl rfl
  by_cases hc0 : cut < 0
  · skip
    refine WL.q (LX.not rfl) rfl (WL.q (LX.move rfl) rfl (WL.yes rfl rfl (WL.q (LX.move rfl) rfl (WL.yes rfl rfl (WL.q (LX.eq (LX.bin rfl rfl rfl) (tru hc0)) rfl (WL.q (LX.pickF rfl rfl) rfl (WL.q (LX.move rfl) rfl (WL.no rfl rfl (by decide) rfl (WL.no rfl rfl (by decide) rfl (WL.no rfl rfl (by decide) rfl (WL.no rfl rfl (by decide) rfl (WL.q (LX.pickT rfl rfl) rfl (WL.nil ?_)))))))))))))
    refine thenK_normal (WC.yes rfl (WC.seq (WC.region (WL.q (LX.assign rfl) rfl (WL.nil (thenK_normal (WC.ret (thenK_ret ?_))))))))
    exact KR.one (.inl rfl) rfl rfl rfl
  by_cases hc1 : (S.length : Int) < cut
  · skip
    refine WL.q (LX.not rfl) rfl (WL.q (LX.move rfl) rfl (WL.yes rfl rfl (WL.q (LX.move rfl) rfl (WL.yes rfl rfl (WL.q (LX.eq (LX.bin rfl rfl rfl) (fls hc0)) rfl (WL.q (LX.pickF rfl rfl) rfl (WL.q (LX.move rfl) rfl (WL.yes rfl rfl (WL.q (LX.move rfl) rfl (WL.yes rfl rfl (WL.q (LX.move rfl) rfl (WL.yes rfl rfl (WL.q (LX.len rfl rfl rfl) rfl ?_)))))))))))))
    refine WL.yes rfl rfl (WL.q (LX.eq (LX.bin rfl rfl rfl) (tru hc1)) rfl (WL.q (LX.pickF rfl rfl) rfl (WL.nil (thenK_normal (WC.yes rfl (WC.seq (WC.region (WL.q (LX.assign rfl) rfl (WL.nil (thenK_normal (WC.ret (thenK_ret ?_))))))))))))
    exact KR.one (.inl rfl) rfl rfl rfl
  refine WL.q (LX.not rfl) rfl (WL.q (LX.move rfl) rfl (WL.yes rfl rfl (WL.q (LX.move rfl) rfl (WL.yes rfl rfl (WL.q (LX.eq (LX.bin rfl rfl rfl) (fls hc0)) rfl (WL.q (LX.pickF rfl rfl) rfl (WL.q (LX.move rfl) rfl (WL.yes rfl rfl (WL.q (LX.move rfl) rfl (WL.yes rfl rfl (WL.q (LX.move rfl) rfl (WL.yes rfl rfl (WL.q (LX.len rfl rfl rfl) rfl ?_)))))))))))))
  refine WL.yes rfl rfl (WL.q (LX.eq (LX.bin rfl rfl rfl) (fls hc1)) rfl (WL.q (LX.pickF rfl rfl) rfl (WL.nil (thenK_normal (WC.no rfl ?_)))))
  replace hr := hr rfl
  obtain ⟨c, rfl⟩ : ∃ n : Nat, c = n := ⟨c.toNat, by have := hr.c1; omega⟩
  obtain ⟨cut, rfl⟩ : ∃ n : Nat, cut = n := ⟨cut.toNat, by omega⟩
  have hcl : (S.take cut).length = cut := by rw [List.length_take]; omega
  have hS' := hS.take cut
  have hr' := hr.take cut
  refine WC.skip (thenK_normal (WC.seq (WC.region (WL.q (LX.move rfl) rfl (WL.q (LX.move rfl) rfl (WL.q (LX.move rfl) rfl (WL.q (LX.move rfl) rfl (WL.q (LX.sliceHi rfl rfl rfl cut rfl (by omega)) rfl ?_))))))))
  have hsp := sscript (w0 := w0) (M := N1 ++ M) (capm := capm) (caps := caps) hX hS' hr'
  rw [hcl] at hsp
  refine WL.callR hsp rfl (fun _ => by kernel_rfl) rfl ?_
  rintro _ _ ⟨vw, vo, vt, ok, rfl, ⟨ow, oo, ot⟩, ⟨N2, rfl⟩, hok⟩
  refine WL.q (LX.move rfl) rfl (WL.q (LX.extract rfl rfl) rfl (WL.q (LX.extract rfl rfl) rfl (WL.step rfl (EX.alloc (z := .agg #[.slice none 0 0, .slice none 0 0, .slice none 0 0]) (fun _ => by kernel_rfl)) ?_)))
  rintro _ _ ⟨b9, rfl, rfl⟩
  refine WL.put (EX.storeW rfl rfl rfl rfl (by intro u hu; simp only [List.mem_cons, List.not_mem_nil, or_false] at hu; rcases hu with rfl | rfl | rfl <;> first | rfl | assumption) (by repeat first | assumption | exact List.mem_cons_self | refine List.mem_cons_of_mem _ ?_ | refine List.mem_append_right _ ?_) rfl (by repeat first | exact Upd.here | apply Upd.there | apply Upd.app)) ?_
  refine WL.q (LX.assign rfl) rfl (WL.nil (thenK_normal (WC.seq (WC.region (WL.q (LX.move rfl) rfl (WL.q (LX.move rfl) rfl (WL.q (LX.move rfl) rfl (WL.callR (sscript hX hS hr) rfl (fun _ => by kernel_rfl) rfl ?_))))))))
  rintro _ _ ⟨vw2, vo2, vt2, ok2, rfl, ⟨ow2, oo2, ot2⟩, ⟨N3, rfl⟩, hok2⟩
  cases ok
  · skip
    refine WL.q (LX.move rfl) rfl (WL.q (LX.extract rfl rfl) rfl (WL.q (LX.extract rfl rfl) rfl (WL.step rfl (EX.alloc (z := .agg #[.slice none 0 0, .slice none 0 0, .slice none 0 0]) (fun _ => by kernel_rfl)) ?_)))
    rintro _ _ ⟨b11, rfl, rfl⟩
    refine WL.put (EX.storeW rfl rfl rfl rfl (by intro u hu; simp only [List.mem_cons, List.not_mem_nil, or_false] at hu; rcases hu with rfl | rfl | rfl <;> first | rfl | assumption) (by repeat first | assumption | exact List.mem_cons_self | refine List.mem_cons_of_mem _ ?_ | refine List.mem_append_right _ ?_) rfl (by repeat first | exact Upd.here | apply Upd.there | apply Upd.app)) ?_
    refine WL.q (LX.assign rfl) rfl (WL.nil (thenK_normal (WC.seq (WC.seq (WC.region (WL.q (LX.move rfl) rfl (WL.q (LX.not rfl) rfl (WL.q (LX.move rfl) rfl (WL.no rfl rfl (by decide) rfl (WL.no rfl rfl (by decide) rfl (WL.q (LX.pickT rfl rfl) rfl (WL.nil (thenK_normal ?_)))))))))))))
    refine WC.yes rfl (WC.seq (WC.region (WL.q (LX.assign rfl) rfl (WL.nil (thenK_normal (WC.ret (thenK_ret ?_)))))))
    exact KR.one (.inl rfl) rfl rfl rfl
  refine WL.q (LX.move rfl) rfl (WL.q (LX.extract rfl rfl) rfl (WL.q (LX.extract rfl rfl) rfl (WL.step rfl (EX.alloc (z := .agg #[.slice none 0 0, .slice none 0 0, .slice none 0 0]) (fun _ => by kernel_rfl)) ?_)))
  rintro _ _ ⟨b11, rfl, rfl⟩
  refine WL.put (EX.storeW rfl rfl rfl rfl (by intro u hu; simp only [List.mem_cons, List.not_mem_nil, or_false] at hu; rcases hu with rfl | rfl | rfl <;> first | rfl | assumption) (by repeat first | assumption | exact List.mem_cons_self | refine List.mem_cons_of_mem _ ?_ | refine List.mem_append_right _ ?_) rfl (by repeat first | exact Upd.here | apply Upd.there | apply Upd.app)) ?_
  refine WL.q (LX.assign rfl) rfl (WL.nil (thenK_normal (WC.seq (WC.seq (WC.region (WL.q (LX.move rfl) rfl (WL.q (LX.not rfl) rfl (WL.q (LX.move rfl) rfl (WL.yes rfl rfl (WL.q (LX.move rfl) rfl (WL.yes rfl rfl (WL.q (LX.not rfl) rfl (WL.q (LX.pickF rfl rfl) rfl ?_)))))))))))))
  refine WL.nil (thenK_normal ?_)
  cases ok2
  · refine WC.yes rfl (WC.seq (WC.region (WL.q (LX.assign rfl) rfl (WL.nil (thenK_normal (WC.ret (thenK_ret ?_)))))))
    exact KR.one (.inl rfl) rfl rfl rfl
  refine WC.no rfl (WC.skip (thenK_normal (WC.seq (WC.region (WL.q (LX.move rfl) rfl (WL.q (LX.move rfl) rfl (WL.q (LX.move rfl) rfl (WL.q (LX.move rfl) rfl (WL.q (LX.sliceHi rfl rfl rfl cut rfl (by omega)) rfl ?_)))))))))
  obtain ⟨Rf, tf, hrun, hans⟩ := hok rfl
  obtain ⟨Rg, tg, hrun2, -⟩ := hok2 rfl
  obtain ⟨hPl, hPb⟩ := hr'.bnd hX hS' hrun
  rw [hcl] at hPl hPb
  have hip := iscript (w0 := w0) (M := (b11, ansO vw2 vo2 vt2) :: (N3 ++ (b9, ansO vw vo vt) :: (N2 ++ (N1 ++ M)))) (capm := capm) (caps := caps) hT hX hS' hr' hrun
  rw [hcl] at hip
  refine WL.callR hip rfl (fun _ => by kernel_rfl) rfl ?_
  rintro _ _ ⟨gw, gt', rfl, ⟨N4, rfl⟩, htold, ws, h1, h2, h3⟩
  refine WL.q (LX.move rfl) rfl (WL.q (LX.extract rfl rfl) rfl (WL.q (LX.extract rfl rfl) rfl (WL.q (LX.extract rfl rfl) rfl (WL.q (LX.assign rfl) rfl (WL.q (LX.assign rfl) rfl (WL.q (LX.assign rfl) rfl (WL.nil (thenK_normal (WC.seq (WC.region (WL.q (LX.move rfl) rfl (WL.q (LX.move rfl) rfl (WL.q (LX.move rfl) rfl ?_)))))))))))))
  refine WL.callR (iscript hT hX hS hr hrun2) rfl (fun _ => by kernel_rfl) rfl ?_
  rintro _ _ ⟨gw2, gt2, rfl, ⟨N5, rfl⟩, htold2, -⟩
  have hgot : GotR (N5 ++ (N4 ++ (b11, ansO vw2 vo2 vt2) :: (N3 ++ (b9, ansO vw vo vt) :: (N2 ++ (N1 ++ M))))) gw (Rf cut) := GotR.mono ⟨ws, h1, by rw [h2, hPl], h3⟩ fun _ h => List.mem_append_right _ h
  have hans' := hans.mono (N := N5 ++ (N4 ++ (b11, ansO vw2 vo2 vt2) :: (N3 ++ (b9, ansO vw vo vt) :: (N2 ++ (N1 ++ M))))) fun _ h => by simp only [List.mem_append, List.mem_cons] at h ⊢; grind
  have htold' := htold.mono (N := N5 ++ (N4 ++ (b11, ansO vw2 vo2 vt2) :: (N3 ++ (b9, ansO vw vo vt) :: (N2 ++ (N1 ++ M))))) fun _ h => List.mem_append_right _ h
  obtain ⟨Aw, capw, hgt2, -⟩ := htold2.split
  subst hgt2
  have hwl : (((List.range S.length).map tg).map (Value.int .i64)).length = S.length := by simp
  have hcw := htold2.cap_le
  have htk := htold2.take (n := cut) (by rw [hwl]; omega)
  rw [hwl] at hcw ⊢
  have hs40 := hr.s40
  have hcutw : cut ≤ capw := by
    rcases hcw with h | h
    · omega
    · have := congrArg List.length h
      rw [hwl] at this
      simp at this
      have : S.length = 0 := by rw [this]; rfl
      omega
  have htel : (((List.range S.length).map tg).map (Value.int .i64)).take cut = ((List.range cut).map tf).map (Value.int .i64) := by
    rw [← List.map_take, ← List.map_take, List.take_range, Nat.min_eq_left (by omega)]
    congr 1
    apply List.map_congr_left
    intro i hi
    have hi' := List.mem_range.1 hi
    exact (((hrun2.take cut).det hrun i (by rw [hcl]; omega)).2 (by rw [hcl]; exact hi'))
  rw [htel] at htk
  refine WL.q (LX.move rfl) rfl (WL.q (LX.extract rfl rfl) rfl (WL.q (LX.extract rfl rfl) rfl (WL.q (LX.extract rfl rfl) rfl (WL.q (LX.assign rfl) rfl (WL.q (LX.assign rfl) rfl (WL.q (LX.assign rfl) rfl (WL.nil (thenK_normal (WC.seq (WC.region (WL.q (LX.move rfl) rfl (WL.q (LX.move rfl) rfl (WL.yes rfl rfl ?_)))))))))))))
  refine WL.q (LX.move rfl) rfl (WL.q (LX.pickT rfl rfl) rfl (WL.q (LX.move rfl) rfl (WL.yes rfl rfl (WL.q (LX.move rfl) rfl (WL.yes rfl rfl (WL.q (LX.len rfl rfl rfl) rfl (WL.yes rfl rfl (WL.q (LX.move rfl) rfl (WL.yes rfl rfl (WL.q (LX.len rfl rfl rfl) rfl (WL.yes rfl rfl (WL.q (LX.eq (LX.bin rfl rfl rfl) (tru rfl)) rfl (WL.q (LX.pickT rfl rfl) rfl ?_)))))))))))))
  refine WL.q (LX.move rfl) rfl (WL.yes rfl rfl (WL.q (LX.move rfl) rfl (WL.yes rfl rfl (WL.q (LX.move rfl) rfl (WL.yes rfl rfl (WL.q (LX.move rfl) rfl (WL.yes rfl rfl (WL.q (LX.sliceHi rfl rfl rfl cut rfl hcutw) rfl (WL.yes rfl rfl (WL.call (lsame htold' htk (by rw [List.length_map, List.length_range]; omega)) rfl (fun _ => by kernel_rfl) rfl ?_))))))))))
  refine WL.q (LX.pickT rfl rfl) rfl (WL.q (LX.move rfl) rfl (WL.yes rfl rfl (WL.q (LX.move rfl) rfl (WL.yes rfl rfl ?_))))
  refine WL.q (LX.loadR rfl rfl (by repeat first | assumption | exact List.mem_cons_self | refine List.mem_cons_of_mem _ ?_ | refine List.mem_append_right _ ?_) rfl) rfl ?_
  refine WL.yes rfl rfl (WL.call (lalike hans' hgot (by have := hr.c5; omega) hPb) rfl (fun _ => by kernel_rfl) rfl (WL.q (LX.pickT rfl rfl) rfl (WL.q (LX.assign rfl) rfl (WL.nil (thenK_normal (WC.ret ?_))))))
  exact KR.one (.inl rfl) rfl rfl rfl
end
end Go.Proofs.YtdnngppofbmpeaaGreatDoor.Bm
