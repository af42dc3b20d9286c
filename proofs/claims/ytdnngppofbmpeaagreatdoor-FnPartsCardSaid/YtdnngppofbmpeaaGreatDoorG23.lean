/- Proved here: what reckoned of the reference does in its other kinds. Conditions: none but those that each theorem states. -/
import Derived.Test.YtdnngppofbmpeaaGreatDoorG22
namespace Go.Proofs.YtdnngppofbmpeaaGreatDoor.Bm
open Go Go.RowKit

theorem num_one {b : Nat} {K : Mem} : Num ((b, ints [1]) :: K) (.slice (some ⟨b, 0, none⟩) 1 1) 1 [1] :=
  ⟨Ds.mk (full := [1]) (ds := [1]) (o := 0) (cap := 1) List.mem_cons_self (Nat.zero_lt_one) (Nat.le_refl _) rfl (Nat.le_refl _), by intro x hx; simp at hx; subst hx; exact ⟨by decide, by decide⟩, by decide, .inr (by decide)⟩
theorem evb_dv : ∀ {bs : List Int} (_ : Dg 256 bs), (evb bs : Int) = dv 256 bs.reverse := by
  intro bs
  generalize hn : bs.length = n
  induction n generalizing bs with
  | zero =>
    intro _
    have : bs = [] := List.length_eq_zero_iff.1 hn
    subst this; rfl
  | succ n ih =>
    intro hd
    have e1 : bs = bs.take n ++ [gt bs n] := by
      rw [gt_eq (show n < bs.length by omega), ← List.take_succ_eq_append_getElem (by omega), List.take_of_length_le (by omega)]
    have e2 := evb_take (bs := bs) (i := n) (by omega)
    rw [List.take_of_length_le (by omega)] at e2
    have e3 := ih (bs := bs.take n) (by rw [List.length_take]; omega) (hd.take n)
    have h1 := dg8_gt hd n
    rw [e2, e1, List.reverse_append, List.reverse_singleton, List.singleton_append, dv_cons, ← e3]
    rw [← e1]
    omega
theorem cons_app {p : Nat × Obj} {K : Mem} : p :: K = [p] ++ K := rfl
theorem pre_up {L K M : Mem} (h : ∃ N, K = N ++ M) : ∃ N, L ++ K = N ++ M := by obtain ⟨N, rfl⟩ := h; exact ⟨L ++ N, by simp⟩

section
variable {w0 : World} {M : Mem} {o a b m num : Int} {data : Value} {bs : List Int} {vo va vb vm : Value} {on zo an za bn zb V : Int} {ds es fs ms : List Int} {km : Nat}
theorem sreck6 (h : SI M vo va vb vm on an bn V ds es fs ms km) :
    CS w0 26 [stV 6 o a b m num data, rg vo zo, rg va za, rg vb zb, vm] M (fun u M' => ∃ r ok, u = .tuple #[r, .bool ok] ∧ SRes M M' (PS num bs (o = a) (o = b) on zo an za bn zb V km 6) r 0 ok) := by
  have hm : ∀ {K : Mem}, (∀ p ∈ M, p ∈ K) → SI K vo va vb vm on an bn V ds es fs ms km := fun hk => h.mono hk
  have hV := h.V1
  have hlo := h.lo
  have hlb := h.lb
  have hlm := h.lm
  obtain ⟨Ao, capo, rfl, -⟩ := h.o.mem.form
  refine CS.of Tryz.func26 Tryz.ntmps26 rfl rfl (WC.seq (WC.region (WL.step rfl (EX.box rfl) ?_)))
  rintro _ _ ⟨b5, rfl, rfl⟩
  refine WL.step rfl (EX.box rfl) ?_
  rintro _ _ ⟨b6, rfl, rfl⟩
  refine WL.step rfl (EX.box rfl) ?_
  rintro _ _ ⟨b7, rfl, rfl⟩
  refine WL.step rfl (EX.box rfl) ?_
  rintro _ _ ⟨b8, rfl, rfl⟩
  refine WL.step rfl (EX.alloc (z := .agg #[.slice none 0 0, .int .i64 0]) (fun _ => by kernel_rfl)) ?_
  rintro _ _ ⟨b10, rfl, rfl⟩
  refine WL.q (LX.assign rfl) rfl (WL.nil (thenK_normal (WC.seq (WC.region (WL.q (LX.field0 rfl rfl) rfl ?_)))))
  refine WL.q (LX.load rfl rfl (by repeat first | assumption | exact List.mem_cons_self | refine List.mem_cons_of_mem _ ?_ | refine List.mem_append_right _ ?_) rfl) rfl ?_
  refine WL.q (LX.field0 rfl rfl) rfl ?_
  refine WL.q (LX.load rfl rfl (by repeat first | assumption | exact List.mem_cons_self | refine List.mem_cons_of_mem _ ?_ | refine List.mem_append_right _ ?_) rfl) rfl ?_
  refine WL.q (LX.bin rfl rfl rfl) rfl (WL.q (LX.assign rfl) rfl (WL.nil (thenK_normal (WC.seq (WC.seq (WC.region (WL.q (LX.field0 rfl rfl) rfl ?_)))))))
  refine WL.q (LX.load rfl rfl (by repeat first | assumption | exact List.mem_cons_self | refine List.mem_cons_of_mem _ ?_ | refine List.mem_append_right _ ?_) rfl) rfl ?_
  refine WL.nil (thenK_normal (WC.block (WC.seq (WC.region (WL.q (LX.bin rfl rfl rfl) rfl (WL.q (LX.assign rfl) rfl (WL.nil (thenK_normal (WC.no rfl (WC.seq (WC.region (WL.q (LX.bin rfl rfl rfl) rfl (WL.q (LX.assign rfl) rfl ?_)))))))))))))
  refine WL.nil (thenK_normal (WC.no rfl (WC.seq (WC.region (WL.q (LX.bin rfl rfl rfl) rfl (WL.q (LX.assign rfl) rfl (WL.nil (thenK_normal ?_))))))))
  by_cases hz : Ft zo on V km
  · skip
    refine WC.yes rfl (WC.seq (WC.seq (WC.region ?_)))
    refine WL.q (LX.loadR rfl rfl (by repeat first | assumption | exact List.mem_cons_self | refine List.mem_cons_of_mem _ ?_ | refine List.mem_append_right _ ?_) rfl) rfl ?_
    refine WL.q (LX.move rfl) rfl ?_
    refine WL.callR (sfitsT (hm fun _ hp => (by repeat first | assumption | exact List.mem_cons_self | refine List.mem_cons_of_mem _ ?_ | refine List.mem_append_right _ ?_)).o (hm fun _ hp => (by repeat first | assumption | exact List.mem_cons_self | refine List.mem_cons_of_mem _ ?_ | refine List.mem_append_right _ ?_)).m (by omega) (by omega) h.bl hz) rfl (fun _ => by kernel_rfl) rfl ?_
    rintro _ _ ⟨rfl, N1, rfl⟩
    refine WL.q (LX.not rfl) rfl (WL.q (LX.move rfl) rfl (WL.yes rfl rfl ?_))
    refine WL.q (LX.loadR rfl rfl (by repeat first | assumption | exact List.mem_cons_self | refine List.mem_cons_of_mem _ ?_ | refine List.mem_append_right _ ?_) rfl) rfl ?_
    refine WL.yes rfl rfl (WL.q (LX.move rfl) rfl (WL.yes rfl rfl ?_))
    by_cases hz2 : Ft zb bn V km
    · refine WL.callR (sfitsT (hm fun _ hp => (by repeat first | assumption | exact List.mem_cons_self | refine List.mem_cons_of_mem _ ?_ | refine List.mem_append_right _ ?_)).b (hm fun _ hp => (by repeat first | assumption | exact List.mem_cons_self | refine List.mem_cons_of_mem _ ?_ | refine List.mem_append_right _ ?_)).m (by omega) (by omega) h.bl hz2) rfl (fun _ => by kernel_rfl) rfl ?_
      rintro _ _ ⟨rfl, N2, rfl⟩
      rw [← List.append_assoc]
      refine WL.yes rfl rfl (WL.q (LX.not rfl) rfl (WL.q (LX.pickF rfl rfl) rfl (WL.nil (thenK_normal (WC.no rfl (WC.skip (thenK_normal (WC.seq (WC.draw [(0, 0), (0, 2), (0, 4), (0, 7), (0, 9), (1, 1), (1, 5), (2, 3), (2, 6), (2, 8), (2, 10), (0, 11), (2, 12), (0, 13)] [(b8, rgO vb zb), (b7, rgO va za), (b6, rgO (.slice Ao ds.length capo) zo), (b5, stO 6 o a b m num data)] rfl (by kernel_rfl) rfl (by kernel_rfl) (DW.p rfl rfl (fun _ => LX.field0 rfl rfl) rfl (DW.p rfl rfl (fun _ => LX.move rfl) rfl (DW.p rfl rfl (fun _ => LX.field0 rfl rfl) rfl (DW.p rfl rfl (fun _ => LX.move rfl) rfl ?_)))))))))))))
      refine DW.p rfl rfl (fun _ => LX.move rfl) rfl ?_
      refine DW.r rfl rfl (LX.load rfl rfl (by repeat first | assumption | exact List.mem_cons_self | refine List.mem_cons_of_mem _ ?_ | refine List.mem_append_right _ ?_) rfl) in4 rfl ?_
      refine DW.r rfl rfl (LX.load rfl rfl (by repeat first | assumption | exact List.mem_cons_self | refine List.mem_cons_of_mem _ ?_ | refine List.mem_append_right _ ?_) rfl) in4 rfl ?_
      refine DW.f rfl rfl (EX.call rfl (fun _ => by kernel_rfl) (ssum (hm fun _ hp => (by repeat first | assumption | exact List.mem_cons_self | refine List.mem_cons_of_mem _ ?_ | refine List.mem_append_right _ ?_)).o (hm fun _ hp => (by repeat first | assumption | exact List.mem_cons_self | refine List.mem_cons_of_mem _ ?_ | refine List.mem_append_right _ ?_)).m (by omega) (by omega))) rfl ?_
      rintro x _ ⟨N3, xs, rfl, hx⟩
      have hxl : xs.length ≤ ds.length + ms.length + 1 := hx.len (add_lt_pow h.o.lt h.m.lt)
      rw [← List.append_assoc] at hx ⊢
      refine ⟨in4, ?_⟩
      
      refine DW.f rfl rfl (EX.call rfl (fun _ => by kernel_rfl) (sdiff hx (hm fun _ hp => (by repeat first | assumption | exact List.mem_cons_self | refine List.mem_cons_of_mem _ ?_ | refine List.mem_append_right _ ?_)).b (by have := hz2.2; have := h.o.nonneg; omega) (by omega))) rfl ?_
      rintro y _ ⟨N4, ys, rfl, hy⟩
      have hyl : ys.length ≤ xs.length := hy.len_of hx (by have := h.b.nonneg; omega)
      rw [← List.append_assoc] at hy ⊢
      refine ⟨in4, ?_⟩
      
      refine DW.f rfl rfl (EX.call rfl (fun _ => by kernel_rfl) (smodulo hy (hm fun _ hp => (by repeat first | assumption | exact List.mem_cons_self | refine List.mem_cons_of_mem _ ?_ | refine List.mem_append_right _ ?_)).m (by omega) (by omega) (by omega))) rfl ?_
      rintro y _ ⟨N5, gs, rfl, hy⟩
      obtain ⟨Ay, capy, rfl, -⟩ := hy.mem.form
      rw [← List.append_assoc] at hy ⊢
      refine ⟨in4, ?_⟩
      
      refine DW.fval rfl rfl (EX.call rfl (fun _ => by kernel_rfl) (swordsK (hm fun _ hp => (by repeat first | assumption | exact List.mem_cons_self | refine List.mem_cons_of_mem _ ?_ | refine List.mem_append_right _ ?_)).m (by omega) h.bl)) in4 rfl ?_
      refine DW.p rfl rfl (fun _ => LX.build rfl (fun w => reg_build _ _ _ _ w)) rfl ?_
      refine DW.fput rfl rfl (EX.storeA rfl rfl rfl rfl rfl (by simp [Value.oneCell']) (by repeat first | assumption | exact List.mem_cons_self | refine List.mem_cons_of_mem _ ?_ | refine List.mem_append_right _ ?_) (by decide) (by repeat first | exact Upd.here | apply Upd.there | apply Upd.app)) in4 ?_
      refine DW.p rfl rfl (fun _ => LX.assign rfl) rfl (DW.nil (thenK_normal (WC.ret (blockK_ret (thenK_ret ?_)))))
      exact KR.cell2 (.inl rfl) rfl rfl rfl rfl (by repeat first | assumption | exact List.mem_cons_self | refine List.mem_cons_of_mem _ ?_ | refine List.mem_append_right _ ?_) rfl ⟨_, _, rfl, _, _, _, _, rfl, pre5, fun hok => ⟨_, gs, hy.skip, .k6 hz hz2⟩⟩
    · skip
      refine WL.callR (sfitsF (hm fun _ hp => (by repeat first | assumption | exact List.mem_cons_self | refine List.mem_cons_of_mem _ ?_ | refine List.mem_append_right _ ?_)).b (hm fun _ hp => (by repeat first | assumption | exact List.mem_cons_self | refine List.mem_cons_of_mem _ ?_ | refine List.mem_append_right _ ?_)).m (by omega) (by omega) h.bl hz2) rfl (fun _ => by kernel_rfl) rfl ?_
      rintro _ _ ⟨rfl, N2, rfl⟩
      refine WL.yes rfl rfl (WL.q (LX.not rfl) rfl (WL.q (LX.pickF rfl rfl) rfl (WL.nil (thenK_normal (WC.yes rfl (WC.seq (WC.region ?_)))))))
      refine WL.q (LX.loadR rfl rfl (by repeat first | assumption | exact List.mem_cons_self | refine List.mem_cons_of_mem _ ?_ | refine List.mem_append_right _ ?_) rfl) rfl ?_
      refine WL.put (EX.storeA rfl rfl rfl rfl rfl (by simp [Value.oneCell']) (by repeat first | assumption | exact List.mem_cons_self | refine List.mem_cons_of_mem _ ?_ | refine List.mem_append_right _ ?_) (by decide) (by repeat first | exact Upd.here | apply Upd.there | apply Upd.app)) ?_
      refine WL.q (LX.assign rfl) rfl (WL.nil (thenK_normal (WC.ret (thenK_ret (blockK_ret (thenK_ret ?_))))))
      exact KR.cell2 (.inl rfl) rfl rfl rfl rfl (by repeat first | assumption | exact List.mem_cons_self | refine List.mem_cons_of_mem _ ?_ | refine List.mem_append_right _ ?_) rfl ⟨_, _, rfl, _, _, _, _, rfl, pre_up pre5, fun hok => by cases hok⟩
  · skip
    refine WC.yes rfl (WC.seq (WC.seq (WC.region ?_)))
    refine WL.q (LX.loadR rfl rfl (by repeat first | assumption | exact List.mem_cons_self | refine List.mem_cons_of_mem _ ?_ | refine List.mem_append_right _ ?_) rfl) rfl ?_
    refine WL.q (LX.move rfl) rfl ?_
    refine WL.callR (sfitsF (hm fun _ hp => (by repeat first | assumption | exact List.mem_cons_self | refine List.mem_cons_of_mem _ ?_ | refine List.mem_append_right _ ?_)).o (hm fun _ hp => (by repeat first | assumption | exact List.mem_cons_self | refine List.mem_cons_of_mem _ ?_ | refine List.mem_append_right _ ?_)).m (by omega) (by omega) h.bl hz) rfl (fun _ => by kernel_rfl) rfl ?_
    rintro _ _ ⟨rfl, N1, rfl⟩
    refine WL.q (LX.not rfl) rfl (WL.q (LX.move rfl) rfl (WL.no rfl rfl (by decide) rfl (WL.no rfl rfl (by decide) rfl (WL.no rfl rfl (by decide) rfl (WL.no rfl rfl (by decide) rfl (WL.q (LX.pickT rfl rfl) rfl (WL.nil (thenK_normal (WC.yes rfl (WC.seq (WC.region ?_)))))))))))
    refine WL.q (LX.loadR rfl rfl (by repeat first | assumption | exact List.mem_cons_self | refine List.mem_cons_of_mem _ ?_ | refine List.mem_append_right _ ?_) rfl) rfl ?_
    refine WL.put (EX.storeA rfl rfl rfl rfl rfl (by simp [Value.oneCell']) (by repeat first | assumption | exact List.mem_cons_self | refine List.mem_cons_of_mem _ ?_ | refine List.mem_append_right _ ?_) (by decide) (by repeat first | exact Upd.here | apply Upd.there | apply Upd.app)) ?_
    refine WL.q (LX.assign rfl) rfl (WL.nil (thenK_normal (WC.ret (thenK_ret (blockK_ret (thenK_ret ?_))))))
    exact KR.cell2 (.inl rfl) rfl rfl rfl rfl (by repeat first | assumption | exact List.mem_cons_self | refine List.mem_cons_of_mem _ ?_ | refine List.mem_append_right _ ?_) rfl ⟨_, _, rfl, _, _, _, _, rfl, pre5, fun hok => by cases hok⟩

theorem sreck10 (h : SI M vo va vb vm on an bn V ds es fs ms km) :
    CS w0 26 [stV 10 o a b m num data, rg vo zo, rg va za, rg vb zb, vm] M (fun u M' => ∃ r ok, u = .tuple #[r, .bool ok] ∧ SRes M M' (PS num bs (o = a) (o = b) on zo an za bn zb V km 10) r 0 ok) := by
  have hm : ∀ {K : Mem}, (∀ p ∈ M, p ∈ K) → SI K vo va vb vm on an bn V ds es fs ms km := fun hk => h.mono hk
  have hV := h.V1
  have hlo := h.lo
  have hlm := h.lm
  obtain ⟨Ao, capo, rfl, -⟩ := h.o.mem.form
  refine CS.of Tryz.func26 Tryz.ntmps26 rfl rfl (WC.seq (WC.region (WL.step rfl (EX.box rfl) ?_)))
  rintro _ _ ⟨b5, rfl, rfl⟩
  refine WL.step rfl (EX.box rfl) ?_
  rintro _ _ ⟨b6, rfl, rfl⟩
  refine WL.step rfl (EX.box rfl) ?_
  rintro _ _ ⟨b7, rfl, rfl⟩
  refine WL.step rfl (EX.box rfl) ?_
  rintro _ _ ⟨b8, rfl, rfl⟩
  refine WL.step rfl (EX.alloc (z := .agg #[.slice none 0 0, .int .i64 0]) (fun _ => by kernel_rfl)) ?_
  rintro _ _ ⟨b10, rfl, rfl⟩
  refine WL.q (LX.assign rfl) rfl (WL.nil (thenK_normal (WC.seq (WC.region (WL.q (LX.field0 rfl rfl) rfl ?_)))))
  refine WL.q (LX.load rfl rfl (by repeat first | assumption | exact List.mem_cons_self | refine List.mem_cons_of_mem _ ?_ | refine List.mem_append_right _ ?_) rfl) rfl ?_
  refine WL.q (LX.field0 rfl rfl) rfl ?_
  refine WL.q (LX.load rfl rfl (by repeat first | assumption | exact List.mem_cons_self | refine List.mem_cons_of_mem _ ?_ | refine List.mem_append_right _ ?_) rfl) rfl ?_
  refine WL.q (LX.bin rfl rfl rfl) rfl (WL.q (LX.assign rfl) rfl (WL.nil (thenK_normal (WC.seq (WC.seq (WC.region (WL.q (LX.field0 rfl rfl) rfl ?_)))))))
  refine WL.q (LX.load rfl rfl (by repeat first | assumption | exact List.mem_cons_self | refine List.mem_cons_of_mem _ ?_ | refine List.mem_append_right _ ?_) rfl) rfl ?_
  refine WL.nil (thenK_normal (WC.block (WC.seq (WC.region (WL.q (LX.bin rfl rfl rfl) rfl (WL.q (LX.assign rfl) rfl (WL.nil (thenK_normal (WC.no rfl (WC.seq (WC.region (WL.q (LX.bin rfl rfl rfl) rfl (WL.q (LX.assign rfl) rfl ?_)))))))))))))
  refine WL.nil (thenK_normal (WC.no rfl (WC.seq (WC.region (WL.q (LX.bin rfl rfl rfl) rfl (WL.q (LX.assign rfl) rfl (WL.nil (thenK_normal (WC.no rfl (WC.seq (WC.region (WL.q (LX.bin rfl rfl rfl) rfl (WL.q (LX.assign rfl) rfl ?_)))))))))))))
  refine WL.nil (thenK_normal (WC.no rfl (WC.seq (WC.region (WL.q (LX.bin rfl rfl rfl) rfl (WL.q (LX.assign rfl) rfl (WL.nil (thenK_normal (WC.no rfl (WC.seq (WC.region (WL.q (LX.bin rfl rfl rfl) rfl (WL.q (LX.assign rfl) rfl ?_)))))))))))))
  refine WL.nil (thenK_normal (WC.no rfl (WC.skip (blockK_normal (thenK_normal (WC.seq (WC.seq (WC.region ?_))))))))
  refine WL.q (LX.loadR rfl rfl (by repeat first | assumption | exact List.mem_cons_self | refine List.mem_cons_of_mem _ ?_ | refine List.mem_append_right _ ?_) rfl) rfl ?_
  refine WL.q (LX.move rfl) rfl ?_
  by_cases hz : Ft zo on V km
  · refine WL.callR (sfitsT (hm fun _ hp => (by repeat first | assumption | exact List.mem_cons_self | refine List.mem_cons_of_mem _ ?_ | refine List.mem_append_right _ ?_)).o (hm fun _ hp => (by repeat first | assumption | exact List.mem_cons_self | refine List.mem_cons_of_mem _ ?_ | refine List.mem_append_right _ ?_)).m (by omega) (by omega) h.bl hz) rfl (fun _ => by kernel_rfl) rfl ?_
    rintro _ _ ⟨rfl, N1, rfl⟩
    refine WL.q (LX.not rfl) rfl (WL.nil (thenK_normal (WC.no rfl (WC.skip (thenK_normal (WC.seq (WC.region (WL.q (LX.field0 rfl rfl) rfl ?_))))))))
    refine WL.q (LX.load rfl rfl (by repeat first | assumption | exact List.mem_cons_self | refine List.mem_cons_of_mem _ ?_ | refine List.mem_append_right _ ?_) rfl) rfl ?_
    refine WL.q (LX.move rfl) rfl ?_
    refine WL.callR (ssum (hm fun _ hp => (by repeat first | assumption | exact List.mem_cons_self | refine List.mem_cons_of_mem _ ?_ | refine List.mem_append_right _ ?_)).o (hm fun _ hp => (by repeat first | assumption | exact List.mem_cons_self | refine List.mem_cons_of_mem _ ?_ | refine List.mem_append_right _ ?_)).m (by omega) (by omega)) rfl (fun _ => by kernel_rfl) rfl ?_
    rintro x _ ⟨N3, xs, rfl, hx⟩
    have hxl : xs.length ≤ ds.length + ms.length + 1 := hx.len (add_lt_pow h.o.lt h.m.lt)
    
    refine WL.step rfl (EX.bslice (e := 3) (cs := [.int .i64 1]) rfl (fun _ => by kernel_rfl)) ?_
    rintro _ _ ⟨bq, rfl, rfl⟩
    
    refine WL.callR (sdiff (hx.mono fun _ hp => (by repeat first | assumption | exact List.mem_cons_self | refine List.mem_cons_of_mem _ ?_ | refine List.mem_append_right _ ?_)) num_one (by have := h.o.nonneg; omega) (by omega)) rfl (fun _ => by kernel_rfl) rfl ?_
    rintro y _ ⟨N4, ys, rfl, hy⟩
    have hyl : ys.length ≤ xs.length := hy.len_of hx (by omega)
    refine WL.q (LX.move rfl) rfl ?_
    refine WL.callR (smodulo hy (hm fun _ hp => (by repeat first | assumption | exact List.mem_cons_self | refine List.mem_cons_of_mem _ ?_ | refine List.mem_append_right _ ?_)).m (by omega) (by omega) (by omega)) rfl (fun _ => by kernel_rfl) rfl ?_
    rintro y _ ⟨N5, gs, rfl, hy⟩
    obtain ⟨Ay, capy, rfl, -⟩ := hy.mem.form
    refine WL.q (LX.move rfl) rfl ?_
    refine WL.call (swordsK (hm fun _ hp => (by repeat first | assumption | exact List.mem_cons_self | refine List.mem_cons_of_mem _ ?_ | refine List.mem_append_right _ ?_)).m (by omega) h.bl) rfl (fun _ => by kernel_rfl) rfl ?_
    rw [cons_app (p := (bq, _)), ← List.append_assoc, ← List.append_assoc, ← List.append_assoc, ← List.append_assoc] at hy ⊢
    refine WL.q (LX.build rfl (fun w => reg_build _ _ _ _ w)) rfl ?_
    refine WL.put (EX.storeA rfl rfl rfl rfl rfl (by simp [Value.oneCell']) (by repeat first | assumption | exact List.mem_cons_self | refine List.mem_cons_of_mem _ ?_ | refine List.mem_append_right _ ?_) (by decide) (by repeat first | exact Upd.here | apply Upd.there | apply Upd.app)) ?_
    refine WL.q (LX.assign rfl) rfl (WL.nil (thenK_normal (WC.ret ?_)))
    exact KR.cell2 (.inl rfl) rfl rfl rfl rfl (by repeat first | assumption | exact List.mem_cons_self | refine List.mem_cons_of_mem _ ?_ | refine List.mem_append_right _ ?_) rfl ⟨_, _, rfl, _, _, _, _, rfl, pre5, fun hok => ⟨_, gs, hy.skip, .k10 hz⟩⟩
  · skip
    refine WL.callR (sfitsF (hm fun _ hp => (by repeat first | assumption | exact List.mem_cons_self | refine List.mem_cons_of_mem _ ?_ | refine List.mem_append_right _ ?_)).o (hm fun _ hp => (by repeat first | assumption | exact List.mem_cons_self | refine List.mem_cons_of_mem _ ?_ | refine List.mem_append_right _ ?_)).m (by omega) (by omega) h.bl hz) rfl (fun _ => by kernel_rfl) rfl ?_
    rintro _ _ ⟨rfl, N1, rfl⟩
    refine WL.q (LX.not rfl) rfl (WL.nil (thenK_normal (WC.yes rfl (WC.seq (WC.region ?_)))))
    refine WL.q (LX.loadR rfl rfl (by repeat first | assumption | exact List.mem_cons_self | refine List.mem_cons_of_mem _ ?_ | refine List.mem_append_right _ ?_) rfl) rfl ?_
    refine WL.put (EX.storeA rfl rfl rfl rfl rfl (by simp [Value.oneCell']) (by repeat first | assumption | exact List.mem_cons_self | refine List.mem_cons_of_mem _ ?_ | refine List.mem_append_right _ ?_) (by decide) (by repeat first | exact Upd.here | apply Upd.there | apply Upd.app)) ?_
    refine WL.q (LX.assign rfl) rfl (WL.nil (thenK_normal (WC.ret (thenK_ret ?_))))
    exact KR.cell2 (.inl rfl) rfl rfl rfl rfl (by repeat first | assumption | exact List.mem_cons_self | refine List.mem_cons_of_mem _ ?_ | refine List.mem_append_right _ ?_) rfl ⟨_, _, rfl, _, _, _, _, rfl, pre5, fun hok => by cases hok⟩

theorem sreck8 {A : Option Addr} {cap : Nat} (h : SI M vo va vb vm on an bn V ds es fs ms km) (hs : Src w0 M A bs) (hb : Dg 256 bs) (hL : bs.length ≤ 60) :
    CS w0 26 [stV 8 o a b m num (.slice A bs.length cap), rg vo zo, rg va za, rg vb zb, vm] M (fun u M' => ∃ r ok, u = .tuple #[r, .bool ok] ∧ SRes M M' (PS num bs (o = a) (o = b) on zo an za bn zb V km 8) r 0 ok) := by
  have hm : ∀ {K : Mem}, (∀ p ∈ M, p ∈ K) → SI K vo va vb vm on an bn V ds es fs ms km := fun hk => h.mono hk
  have hV := h.V1
  have hla := h.la
  have hlm := h.lm
  obtain ⟨Ao, capo, rfl, -⟩ := h.o.mem.form
  refine CS.of Tryz.func26 Tryz.ntmps26 rfl rfl (WC.seq (WC.region (WL.step rfl (EX.box rfl) ?_)))
  rintro _ _ ⟨b5, rfl, rfl⟩
  refine WL.step rfl (EX.box rfl) ?_
  rintro _ _ ⟨b6, rfl, rfl⟩
  refine WL.step rfl (EX.box rfl) ?_
  rintro _ _ ⟨b7, rfl, rfl⟩
  refine WL.step rfl (EX.box rfl) ?_
  rintro _ _ ⟨b8, rfl, rfl⟩
  refine WL.step rfl (EX.alloc (z := .agg #[.slice none 0 0, .int .i64 0]) (fun _ => by kernel_rfl)) ?_
  rintro _ _ ⟨b10, rfl, rfl⟩
  refine WL.q (LX.assign rfl) rfl (WL.nil (thenK_normal (WC.seq (WC.region (WL.q (LX.field0 rfl rfl) rfl ?_)))))
  refine WL.q (LX.load rfl rfl (by repeat first | assumption | exact List.mem_cons_self | refine List.mem_cons_of_mem _ ?_ | refine List.mem_append_right _ ?_) rfl) rfl ?_
  refine WL.q (LX.field0 rfl rfl) rfl ?_
  refine WL.q (LX.load rfl rfl (by repeat first | assumption | exact List.mem_cons_self | refine List.mem_cons_of_mem _ ?_ | refine List.mem_append_right _ ?_) rfl) rfl ?_
  refine WL.q (LX.bin rfl rfl rfl) rfl (WL.q (LX.assign rfl) rfl (WL.nil (thenK_normal (WC.seq (WC.seq (WC.region (WL.q (LX.field0 rfl rfl) rfl ?_)))))))
  refine WL.q (LX.load rfl rfl (by repeat first | assumption | exact List.mem_cons_self | refine List.mem_cons_of_mem _ ?_ | refine List.mem_append_right _ ?_) rfl) rfl ?_
  refine WL.nil (thenK_normal (WC.block (WC.seq (WC.region (WL.q (LX.bin rfl rfl rfl) rfl (WL.q (LX.assign rfl) rfl (WL.nil (thenK_normal (WC.no rfl (WC.seq (WC.region (WL.q (LX.bin rfl rfl rfl) rfl (WL.q (LX.assign rfl) rfl ?_)))))))))))))
  refine WL.nil (thenK_normal (WC.no rfl (WC.seq (WC.region (WL.q (LX.bin rfl rfl rfl) rfl (WL.q (LX.assign rfl) rfl (WL.nil (thenK_normal (WC.no rfl (WC.seq (WC.region (WL.q (LX.bin rfl rfl rfl) rfl (WL.q (LX.assign rfl) rfl ?_)))))))))))))
  refine WL.nil (thenK_normal (WC.no rfl (WC.seq (WC.region (WL.q (LX.bin rfl rfl rfl) rfl (WL.q (LX.assign rfl) rfl (WL.nil (thenK_normal (WC.yes rfl (WC.seq (WC.seq (WC.region (WL.q (LX.move rfl) rfl ?_)))))))))))))
  refine WL.call (seven (hm fun _ hp => (by repeat first | assumption | exact List.mem_cons_self | refine List.mem_cons_of_mem _ ?_ | refine List.mem_append_right _ ?_)).m (by omega)) rfl (fun _ => by kernel_rfl) rfl ?_
  by_cases he : V % 2 = 0
  · rw [decide_eq_true he]
    refine WL.q (LX.move rfl) rfl (WL.no rfl rfl (by decide) rfl (WL.no rfl rfl (by decide) rfl (WL.no rfl rfl (by decide) rfl (WL.no rfl rfl (by decide) rfl (WL.q (LX.pickT rfl rfl) rfl (WL.q (LX.move rfl) rfl (WL.no rfl rfl (by decide) rfl (WL.q (LX.pickT rfl rfl) rfl (WL.nil (thenK_normal (WC.yes rfl (WC.seq (WC.region ?_)))))))))))))
    refine WL.q (LX.loadR rfl rfl (by repeat first | assumption | exact List.mem_cons_self | refine List.mem_cons_of_mem _ ?_ | refine List.mem_append_right _ ?_) rfl) rfl ?_
    refine WL.put (EX.storeA rfl rfl rfl rfl rfl (by simp [Value.oneCell']) (by repeat first | assumption | exact List.mem_cons_self | refine List.mem_cons_of_mem _ ?_ | refine List.mem_append_right _ ?_) (by decide) (by repeat first | exact Upd.here | apply Upd.there | apply Upd.app)) ?_
    refine WL.q (LX.assign rfl) rfl (WL.nil (thenK_normal (WC.ret (thenK_ret (blockK_ret (thenK_ret ?_))))))
    exact KR.cell2 (.inl rfl) rfl rfl rfl rfl (by repeat first | assumption | exact List.mem_cons_self | refine List.mem_cons_of_mem _ ?_ | refine List.mem_append_right _ ?_) rfl ⟨_, _, rfl, _, _, _, _, rfl, pre5 (N := []), fun hok => by cases hok⟩
  rw [decide_eq_false he]
  refine WL.q (LX.move rfl) rfl (WL.yes rfl rfl ?_)
  refine WL.q (LX.loadR rfl rfl (by repeat first | assumption | exact List.mem_cons_self | refine List.mem_cons_of_mem _ ?_ | refine List.mem_append_right _ ?_) rfl) rfl ?_
  refine WL.yes rfl rfl (WL.q (LX.move rfl) rfl (WL.yes rfl rfl ?_))
  by_cases hz : Ft za an V km
  · refine WL.callR (sfitsT (hm fun _ hp => (by repeat first | assumption | exact List.mem_cons_self | refine List.mem_cons_of_mem _ ?_ | refine List.mem_append_right _ ?_)).a (hm fun _ hp => (by repeat first | assumption | exact List.mem_cons_self | refine List.mem_cons_of_mem _ ?_ | refine List.mem_append_right _ ?_)).m (by omega) (by omega) h.bl hz) rfl (fun _ => by kernel_rfl) rfl ?_
    rintro _ _ ⟨rfl, N1, rfl⟩
    refine WL.yes rfl rfl (WL.q (LX.not rfl) rfl (WL.q (LX.pickF rfl rfl) rfl (WL.q (LX.move rfl) rfl (WL.yes rfl rfl (WL.q (LX.move rfl) rfl (WL.q (LX.pickF rfl rfl) rfl (WL.nil (thenK_normal ?_))))))))
    by_cases hoa : o = a
    · rw [decide_eq_true hoa]
      refine WC.yes rfl (WC.seq (WC.region ?_))
      refine WL.q (LX.loadR rfl rfl (by repeat first | assumption | exact List.mem_cons_self | refine List.mem_cons_of_mem _ ?_ | refine List.mem_append_right _ ?_) rfl) rfl ?_
      refine WL.put (EX.storeA rfl rfl rfl rfl rfl (by simp [Value.oneCell']) (by repeat first | assumption | exact List.mem_cons_self | refine List.mem_cons_of_mem _ ?_ | refine List.mem_append_right _ ?_) (by decide) (by repeat first | exact Upd.here | apply Upd.there | apply Upd.app)) ?_
      refine WL.q (LX.assign rfl) rfl (WL.nil (thenK_normal (WC.ret (thenK_ret (blockK_ret (thenK_ret ?_))))))
      exact KR.cell2 (.inl rfl) rfl rfl rfl rfl (by repeat first | assumption | exact List.mem_cons_self | refine List.mem_cons_of_mem _ ?_ | refine List.mem_append_right _ ?_) rfl ⟨_, _, rfl, _, _, _, _, rfl, pre5, fun hok => by cases hok⟩
    · skip
      rw [decide_eq_false hoa]
      refine WC.no rfl (WC.skip (thenK_normal (WC.seq (WC.region (WL.q (LX.field0 rfl rfl) rfl ?_)))))
      refine WL.q (LX.load rfl rfl (by repeat first | assumption | exact List.mem_cons_self | refine List.mem_cons_of_mem _ ?_ | refine List.mem_append_right _ ?_) rfl) rfl ?_
      refine WL.q (LX.field0 rfl rfl) rfl ?_
      refine WL.q (LX.load rfl rfl (by repeat first | assumption | exact List.mem_cons_self | refine List.mem_cons_of_mem _ ?_ | refine List.mem_append_right _ ?_) rfl) rfl ?_
      refine WL.q (LX.move rfl) rfl ?_
      refine WL.callR (spower (hm fun _ hp => (by repeat first | assumption | exact List.mem_cons_self | refine List.mem_cons_of_mem _ ?_ | refine List.mem_append_right _ ?_)).a (hm fun _ hp => (by repeat first | assumption | exact List.mem_cons_self | refine List.mem_cons_of_mem _ ?_ | refine List.mem_append_right _ ?_)).m (by omega) (by omega) (by omega) (hs.mono fun _ hp => (by repeat first | assumption | exact List.mem_cons_self | refine List.mem_cons_of_mem _ ?_ | refine List.mem_append_right _ ?_)) hb hL) rfl (fun _ => by kernel_rfl) rfl ?_
      rintro y _ ⟨N5, gs, rfl, hy⟩
      obtain ⟨Ay, capy, rfl, -⟩ := hy.mem.form
      refine WL.q (LX.move rfl) rfl ?_
      refine WL.call (swordsK (hm fun _ hp => (by repeat first | assumption | exact List.mem_cons_self | refine List.mem_cons_of_mem _ ?_ | refine List.mem_append_right _ ?_)).m (by omega) h.bl) rfl (fun _ => by kernel_rfl) rfl ?_
      rw [← List.append_assoc] at hy ⊢
      refine WL.q (LX.build rfl (fun w => reg_build _ _ _ _ w)) rfl ?_
      refine WL.put (EX.storeA rfl rfl rfl rfl rfl (by simp [Value.oneCell']) (by repeat first | assumption | exact List.mem_cons_self | refine List.mem_cons_of_mem _ ?_ | refine List.mem_append_right _ ?_) (by decide) (by repeat first | exact Upd.here | apply Upd.there | apply Upd.app)) ?_
      refine WL.q (LX.assign rfl) rfl (WL.nil (thenK_normal (WC.ret (blockK_ret (thenK_ret ?_)))))
      exact KR.cell2 (.inl rfl) rfl rfl rfl rfl (by repeat first | assumption | exact List.mem_cons_self | refine List.mem_cons_of_mem _ ?_ | refine List.mem_append_right _ ?_) rfl ⟨_, _, rfl, _, _, _, _, rfl, pre5, fun hok => ⟨_, gs, hy.skip, .k8 (by omega) hz hoa⟩⟩
  · skip
    refine WL.callR (sfitsF (hm fun _ hp => (by repeat first | assumption | exact List.mem_cons_self | refine List.mem_cons_of_mem _ ?_ | refine List.mem_append_right _ ?_)).a (hm fun _ hp => (by repeat first | assumption | exact List.mem_cons_self | refine List.mem_cons_of_mem _ ?_ | refine List.mem_append_right _ ?_)).m (by omega) (by omega) h.bl hz) rfl (fun _ => by kernel_rfl) rfl ?_
    rintro _ _ ⟨rfl, N1, rfl⟩
    refine WL.yes rfl rfl (WL.q (LX.not rfl) rfl (WL.q (LX.pickF rfl rfl) rfl (WL.q (LX.move rfl) rfl (WL.no rfl rfl (by decide) rfl (WL.q (LX.pickT rfl rfl) rfl (WL.nil (thenK_normal (WC.yes rfl (WC.seq (WC.region ?_))))))))))
    refine WL.q (LX.loadR rfl rfl (by repeat first | assumption | exact List.mem_cons_self | refine List.mem_cons_of_mem _ ?_ | refine List.mem_append_right _ ?_) rfl) rfl ?_
    refine WL.put (EX.storeA rfl rfl rfl rfl rfl (by simp [Value.oneCell']) (by repeat first | assumption | exact List.mem_cons_self | refine List.mem_cons_of_mem _ ?_ | refine List.mem_append_right _ ?_) (by decide) (by repeat first | exact Upd.here | apply Upd.there | apply Upd.app)) ?_
    refine WL.q (LX.assign rfl) rfl (WL.nil (thenK_normal (WC.ret (thenK_ret (blockK_ret (thenK_ret ?_))))))
    exact KR.cell2 (.inl rfl) rfl rfl rfl rfl (by repeat first | assumption | exact List.mem_cons_self | refine List.mem_cons_of_mem _ ?_ | refine List.mem_append_right _ ?_) rfl ⟨_, _, rfl, _, _, _, _, rfl, pre5, fun hok => by cases hok⟩

theorem sreck9 (h : SI M vo va vb vm on an bn V ds es fs ms km) :
    CS w0 26 [stV 9 o a b m num data, rg vo zo, rg va za, rg vb zb, vm] M (fun u M' => ∃ r ok, u = .tuple #[r, .bool ok] ∧ SRes M M' (PS num bs (o = a) (o = b) on zo an za bn zb V km 9) r 0 ok) := by
  have hm : ∀ {K : Mem}, (∀ p ∈ M, p ∈ K) → SI K vo va vb vm on an bn V ds es fs ms km := fun hk => h.mono hk
  have hV := h.V1
  have hla := h.la
  have hlm := h.lm
  obtain ⟨Ao, capo, rfl, -⟩ := h.o.mem.form
  refine CS.of Tryz.func26 Tryz.ntmps26 rfl rfl (WC.seq (WC.region (WL.step rfl (EX.box rfl) ?_)))
  rintro _ _ ⟨b5, rfl, rfl⟩
  refine WL.step rfl (EX.box rfl) ?_
  rintro _ _ ⟨b6, rfl, rfl⟩
  refine WL.step rfl (EX.box rfl) ?_
  rintro _ _ ⟨b7, rfl, rfl⟩
  refine WL.step rfl (EX.box rfl) ?_
  rintro _ _ ⟨b8, rfl, rfl⟩
  refine WL.step rfl (EX.alloc (z := .agg #[.slice none 0 0, .int .i64 0]) (fun _ => by kernel_rfl)) ?_
  rintro _ _ ⟨b10, rfl, rfl⟩
  refine WL.q (LX.assign rfl) rfl (WL.nil (thenK_normal (WC.seq (WC.region (WL.q (LX.field0 rfl rfl) rfl ?_)))))
  refine WL.q (LX.load rfl rfl (by repeat first | assumption | exact List.mem_cons_self | refine List.mem_cons_of_mem _ ?_ | refine List.mem_append_right _ ?_) rfl) rfl ?_
  refine WL.q (LX.field0 rfl rfl) rfl ?_
  refine WL.q (LX.load rfl rfl (by repeat first | assumption | exact List.mem_cons_self | refine List.mem_cons_of_mem _ ?_ | refine List.mem_append_right _ ?_) rfl) rfl ?_
  refine WL.q (LX.bin rfl rfl rfl) rfl (WL.q (LX.assign rfl) rfl (WL.nil (thenK_normal (WC.seq (WC.seq (WC.region (WL.q (LX.field0 rfl rfl) rfl ?_)))))))
  refine WL.q (LX.load rfl rfl (by repeat first | assumption | exact List.mem_cons_self | refine List.mem_cons_of_mem _ ?_ | refine List.mem_append_right _ ?_) rfl) rfl ?_
  refine WL.nil (thenK_normal (WC.block (WC.seq (WC.region (WL.q (LX.bin rfl rfl rfl) rfl (WL.q (LX.assign rfl) rfl (WL.nil (thenK_normal (WC.no rfl (WC.seq (WC.region (WL.q (LX.bin rfl rfl rfl) rfl (WL.q (LX.assign rfl) rfl ?_)))))))))))))
  refine WL.nil (thenK_normal (WC.no rfl (WC.seq (WC.region (WL.q (LX.bin rfl rfl rfl) rfl (WL.q (LX.assign rfl) rfl (WL.nil (thenK_normal (WC.no rfl (WC.seq (WC.region (WL.q (LX.bin rfl rfl rfl) rfl (WL.q (LX.assign rfl) rfl ?_)))))))))))))
  refine WL.nil (thenK_normal (WC.no rfl (WC.seq (WC.region (WL.q (LX.bin rfl rfl rfl) rfl (WL.q (LX.assign rfl) rfl (WL.nil (thenK_normal (WC.no rfl (WC.seq (WC.region (WL.q (LX.bin rfl rfl rfl) rfl (WL.q (LX.assign rfl) rfl ?_)))))))))))))
  refine WL.nil (thenK_normal (WC.yes rfl (WC.seq (WC.seq (WC.region (WL.q (LX.move rfl) rfl ?_))))))
  refine WL.call (seven (hm fun _ hp => (by repeat first | assumption | exact List.mem_cons_self | refine List.mem_cons_of_mem _ ?_ | refine List.mem_append_right _ ?_)).m (by omega)) rfl (fun _ => by kernel_rfl) rfl ?_
  by_cases he : V % 2 = 0
  · rw [decide_eq_true he]
    refine WL.q (LX.move rfl) rfl (WL.no rfl rfl (by decide) rfl (WL.no rfl rfl (by decide) rfl (WL.no rfl rfl (by decide) rfl (WL.no rfl rfl (by decide) rfl (WL.q (LX.pickT rfl rfl) rfl (WL.q (LX.move rfl) rfl (WL.no rfl rfl (by decide) rfl (WL.q (LX.pickT rfl rfl) rfl (WL.q (LX.move rfl) rfl (WL.no rfl rfl (by decide) rfl (WL.no rfl rfl (by decide) rfl (WL.no rfl rfl (by decide) rfl (WL.q (LX.pickT rfl rfl) rfl ?_)))))))))))))
    refine WL.q (LX.move rfl) rfl (WL.no rfl rfl (by decide) rfl (WL.no rfl rfl (by decide) rfl (WL.no rfl rfl (by decide) rfl (WL.q (LX.pickT rfl rfl) rfl (WL.nil (thenK_normal (WC.yes rfl (WC.seq (WC.region ?_)))))))))
    refine WL.q (LX.loadR rfl rfl (by repeat first | assumption | exact List.mem_cons_self | refine List.mem_cons_of_mem _ ?_ | refine List.mem_append_right _ ?_) rfl) rfl ?_
    refine WL.put (EX.storeA rfl rfl rfl rfl rfl (by simp [Value.oneCell']) (by repeat first | assumption | exact List.mem_cons_self | refine List.mem_cons_of_mem _ ?_ | refine List.mem_append_right _ ?_) (by decide) (by repeat first | exact Upd.here | apply Upd.there | apply Upd.app)) ?_
    refine WL.q (LX.assign rfl) rfl (WL.nil (thenK_normal (WC.ret (thenK_ret (blockK_ret (thenK_ret ?_))))))
    exact KR.cell2 (.inl rfl) rfl rfl rfl rfl (by repeat first | assumption | exact List.mem_cons_self | refine List.mem_cons_of_mem _ ?_ | refine List.mem_append_right _ ?_) rfl ⟨_, _, rfl, _, _, _, _, rfl, pre5 (N := []), fun hok => by cases hok⟩
  rw [decide_eq_false he]
  refine WL.q (LX.move rfl) rfl (WL.yes rfl rfl ?_)
  refine WL.q (LX.loadR rfl rfl (by repeat first | assumption | exact List.mem_cons_self | refine List.mem_cons_of_mem _ ?_ | refine List.mem_append_right _ ?_) rfl) rfl ?_
  refine WL.yes rfl rfl (WL.q (LX.move rfl) rfl (WL.yes rfl rfl ?_))
  by_cases hz : Ft za an V km
  · refine WL.callR (sfitsT (hm fun _ hp => (by repeat first | assumption | exact List.mem_cons_self | refine List.mem_cons_of_mem _ ?_ | refine List.mem_append_right _ ?_)).a (hm fun _ hp => (by repeat first | assumption | exact List.mem_cons_self | refine List.mem_cons_of_mem _ ?_ | refine List.mem_append_right _ ?_)).m (by omega) (by omega) h.bl hz) rfl (fun _ => by kernel_rfl) rfl ?_
    rintro _ _ ⟨rfl, N1, rfl⟩
    by_cases hoa : o = a
    · rw [decide_eq_true hoa]
      refine WL.yes rfl rfl (WL.q (LX.not rfl) rfl (WL.q (LX.pickF rfl rfl) rfl (WL.q (LX.move rfl) rfl (WL.yes rfl rfl (WL.q (LX.move rfl) rfl (WL.q (LX.pickF rfl rfl) rfl (WL.q (LX.move rfl) rfl (WL.no rfl rfl (by decide) rfl (WL.no rfl rfl (by decide) rfl (WL.no rfl rfl (by decide) rfl (WL.q (LX.pickT rfl rfl) rfl (WL.q (LX.move rfl) rfl (WL.no rfl rfl (by decide) rfl ?_)))))))))))))
      refine WL.no rfl rfl (by decide) rfl (WL.no rfl rfl (by decide) rfl (WL.q (LX.pickT rfl rfl) rfl (WL.nil (thenK_normal (WC.yes rfl (WC.seq (WC.region ?_)))))))
      refine WL.q (LX.loadR rfl rfl (by repeat first | assumption | exact List.mem_cons_self | refine List.mem_cons_of_mem _ ?_ | refine List.mem_append_right _ ?_) rfl) rfl ?_
      refine WL.put (EX.storeA rfl rfl rfl rfl rfl (by simp [Value.oneCell']) (by repeat first | assumption | exact List.mem_cons_self | refine List.mem_cons_of_mem _ ?_ | refine List.mem_append_right _ ?_) (by decide) (by repeat first | exact Upd.here | apply Upd.there | apply Upd.app)) ?_
      refine WL.q (LX.assign rfl) rfl (WL.nil (thenK_normal (WC.ret (thenK_ret (blockK_ret (thenK_ret ?_))))))
      exact KR.cell2 (.inl rfl) rfl rfl rfl rfl (by repeat first | assumption | exact List.mem_cons_self | refine List.mem_cons_of_mem _ ?_ | refine List.mem_append_right _ ?_) rfl ⟨_, _, rfl, _, _, _, _, rfl, pre5, fun hok => by cases hok⟩
    rw [decide_eq_false hoa]
    by_cases h1 : num < 1
    · skip
      refine WL.yes rfl rfl (WL.q (LX.not rfl) rfl (WL.q (LX.pickF rfl rfl) rfl (WL.q (LX.move rfl) rfl (WL.yes rfl rfl (WL.q (LX.move rfl) rfl (WL.q (LX.pickF rfl rfl) rfl (WL.q (LX.move rfl) rfl (WL.yes rfl rfl (WL.q (LX.field0 rfl rfl) rfl (WL.yes rfl rfl ?_))))))))))
      refine WL.q (LX.load rfl rfl (by repeat first | assumption | exact List.mem_cons_self | refine List.mem_cons_of_mem _ ?_ | refine List.mem_append_right _ ?_) rfl) rfl ?_
      refine WL.yes rfl rfl (WL.q (LX.eq (LX.bin rfl rfl rfl) (tru h1)) rfl (WL.q (LX.pickF rfl rfl) rfl (WL.q (LX.move rfl) rfl (WL.no rfl rfl (by decide) rfl (WL.no rfl rfl (by decide) rfl (WL.no rfl rfl (by decide) rfl (WL.q (LX.pickT rfl rfl) rfl (WL.nil (thenK_normal (WC.yes rfl (WC.seq (WC.region ?_))))))))))))
      refine WL.q (LX.loadR rfl rfl (by repeat first | assumption | exact List.mem_cons_self | refine List.mem_cons_of_mem _ ?_ | refine List.mem_append_right _ ?_) rfl) rfl ?_
      refine WL.put (EX.storeA rfl rfl rfl rfl rfl (by simp [Value.oneCell']) (by repeat first | assumption | exact List.mem_cons_self | refine List.mem_cons_of_mem _ ?_ | refine List.mem_append_right _ ?_) (by decide) (by repeat first | exact Upd.here | apply Upd.there | apply Upd.app)) ?_
      refine WL.q (LX.assign rfl) rfl (WL.nil (thenK_normal (WC.ret (thenK_ret (blockK_ret (thenK_ret ?_))))))
      exact KR.cell2 (.inl rfl) rfl rfl rfl rfl (by repeat first | assumption | exact List.mem_cons_self | refine List.mem_cons_of_mem _ ?_ | refine List.mem_append_right _ ?_) rfl ⟨_, _, rfl, _, _, _, _, rfl, pre5, fun hok => by cases hok⟩
    by_cases h2 : 1099511627776 < num
    · skip
      refine WL.yes rfl rfl (WL.q (LX.not rfl) rfl (WL.q (LX.pickF rfl rfl) rfl (WL.q (LX.move rfl) rfl (WL.yes rfl rfl (WL.q (LX.move rfl) rfl (WL.q (LX.pickF rfl rfl) rfl (WL.q (LX.move rfl) rfl (WL.yes rfl rfl (WL.q (LX.field0 rfl rfl) rfl (WL.yes rfl rfl ?_))))))))))
      refine WL.q (LX.load rfl rfl (by repeat first | assumption | exact List.mem_cons_self | refine List.mem_cons_of_mem _ ?_ | refine List.mem_append_right _ ?_) rfl) rfl ?_
      refine WL.yes rfl rfl (WL.q (LX.eq (LX.bin rfl rfl rfl) (fls h1)) rfl (WL.q (LX.pickF rfl rfl) rfl (WL.q (LX.move rfl) rfl (WL.yes rfl rfl (WL.q (LX.field0 rfl rfl) rfl (WL.yes rfl rfl ?_))))))
      refine WL.q (LX.load rfl rfl (by repeat first | assumption | exact List.mem_cons_self | refine List.mem_cons_of_mem _ ?_ | refine List.mem_append_right _ ?_) rfl) rfl ?_
      refine WL.yes rfl rfl (WL.q (LX.eq (LX.bin rfl rfl rfl) (tru h2)) rfl (WL.q (LX.pickF rfl rfl) rfl (WL.nil (thenK_normal (WC.yes rfl (WC.seq (WC.region ?_)))))))
      refine WL.q (LX.loadR rfl rfl (by repeat first | assumption | exact List.mem_cons_self | refine List.mem_cons_of_mem _ ?_ | refine List.mem_append_right _ ?_) rfl) rfl ?_
      refine WL.put (EX.storeA rfl rfl rfl rfl rfl (by simp [Value.oneCell']) (by repeat first | assumption | exact List.mem_cons_self | refine List.mem_cons_of_mem _ ?_ | refine List.mem_append_right _ ?_) (by decide) (by repeat first | exact Upd.here | apply Upd.there | apply Upd.app)) ?_
      refine WL.q (LX.assign rfl) rfl (WL.nil (thenK_normal (WC.ret (thenK_ret (blockK_ret (thenK_ret ?_))))))
      exact KR.cell2 (.inl rfl) rfl rfl rfl rfl (by repeat first | assumption | exact List.mem_cons_self | refine List.mem_cons_of_mem _ ?_ | refine List.mem_append_right _ ?_) rfl ⟨_, _, rfl, _, _, _, _, rfl, pre5, fun hok => by cases hok⟩
    · skip
      refine WL.yes rfl rfl (WL.q (LX.not rfl) rfl (WL.q (LX.pickF rfl rfl) rfl (WL.q (LX.move rfl) rfl (WL.yes rfl rfl (WL.q (LX.move rfl) rfl (WL.q (LX.pickF rfl rfl) rfl (WL.q (LX.move rfl) rfl (WL.yes rfl rfl (WL.q (LX.field0 rfl rfl) rfl (WL.yes rfl rfl ?_))))))))))
      refine WL.q (LX.load rfl rfl (by repeat first | assumption | exact List.mem_cons_self | refine List.mem_cons_of_mem _ ?_ | refine List.mem_append_right _ ?_) rfl) rfl ?_
      refine WL.yes rfl rfl (WL.q (LX.eq (LX.bin rfl rfl rfl) (fls h1)) rfl (WL.q (LX.pickF rfl rfl) rfl (WL.q (LX.move rfl) rfl (WL.yes rfl rfl (WL.q (LX.field0 rfl rfl) rfl (WL.yes rfl rfl ?_))))))
      refine WL.q (LX.load rfl rfl (by repeat first | assumption | exact List.mem_cons_self | refine List.mem_cons_of_mem _ ?_ | refine List.mem_append_right _ ?_) rfl) rfl ?_
      refine WL.yes rfl rfl (WL.q (LX.eq (LX.bin rfl rfl rfl) (fls h2)) rfl (WL.q (LX.pickF rfl rfl) rfl (WL.nil (thenK_normal (WC.no rfl (WC.skip (thenK_normal (WC.seq (WC.draw [(0, 0), (0, 2), (0, 6), (0, 8), (1, 1), (1, 3), (2, 4), (2, 5), (2, 7), (2, 9), (0, 10), (2, 11), (0, 12)] [(b8, rgO vb zb), (b7, rgO va za), (b6, rgO (.slice Ao ds.length capo) zo), (b5, stO 9 o a b m num data)] rfl (by kernel_rfl) rfl (by kernel_rfl) (DW.p rfl rfl (fun _ => LX.field0 rfl rfl) rfl (DW.p rfl rfl (fun _ => LX.field0 rfl rfl) rfl (DW.p rfl rfl (fun _ => LX.move rfl) rfl (DW.p rfl rfl (fun _ => LX.move rfl) rfl ?_)))))))))))))
      refine DW.r rfl rfl (LX.load rfl rfl (by repeat first | assumption | exact List.mem_cons_self | refine List.mem_cons_of_mem _ ?_ | refine List.mem_append_right _ ?_) rfl) in4 rfl ?_
      refine DW.r rfl rfl (LX.load rfl rfl (by repeat first | assumption | exact List.mem_cons_self | refine List.mem_cons_of_mem _ ?_ | refine List.mem_append_right _ ?_) rfl) in4 rfl ?_
      refine DW.f rfl rfl (EX.call rfl (fun _ => by kernel_rfl) (ssmall (x := num) (by omega) (by omega))) rfl ?_
      rintro x _ ⟨N2, xs, rfl, hx⟩
      rw [← List.append_assoc] at hx ⊢
      have h48 : (2 : Int) ^ (16 * 3) = 281474976710656 := by decide
      have h47 : (2 : Int) ^ 47 = 140737488355328 := by decide
      have hxl : xs.length ≤ 3 := hx.len (by rw [B16_two]; omega)
      refine ⟨in4, ?_⟩
      
      refine DW.f rfl rfl (EX.call rfl (fun _ => by kernel_rfl) (sshort hx (by omega))) rfl ?_
      rintro _ _ ⟨bz, zs, kz, hkz, rfl, hzl, hzd, hzv, rfl⟩
      have hkz2 : kz ≤ 48 := hkz.le (y := 2 ^ 47) (k := 48) ⟨by decide, by decide, .inr (by decide)⟩ (by omega)
      rw [cons_app (p := (bz, _)), ← List.append_assoc, ← hzl]
      refine ⟨in4, ?_⟩
      
      refine DW.f rfl rfl (EX.call rfl (fun _ => by kernel_rfl) (spower (bs := zs) (hm fun _ hp => (by repeat first | assumption | exact List.mem_cons_self | refine List.mem_cons_of_mem _ ?_ | refine List.mem_append_right _ ?_)).a (hm fun _ hp => (by repeat first | assumption | exact List.mem_cons_self | refine List.mem_cons_of_mem _ ?_ | refine List.mem_append_right _ ?_)).m (by omega) (by omega) (by omega) (.inr ⟨bz, 0, zs.map (Value.int .u8), 5, (0, 0), rfl, fun w hw => by simpa [bytes, row] using (hw.has (bz, bytes zs) (by simp)).2, by simp, by simp only [sliceL, List.drop_zero]; exact List.take_of_length_le (by simp)⟩) hzd (by omega))) rfl ?_
      rintro y _ ⟨N5, gs, rfl, hy⟩
      obtain ⟨Ay, capy, rfl, -⟩ := hy.mem.form
      rw [← List.append_assoc] at hy ⊢
      refine ⟨in4, ?_⟩
      
      refine DW.fval rfl rfl (EX.call rfl (fun _ => by kernel_rfl) (swordsK (hm fun _ hp => (by repeat first | assumption | exact List.mem_cons_self | refine List.mem_cons_of_mem _ ?_ | refine List.mem_append_right _ ?_)).m (by omega) h.bl)) in4 rfl ?_
      refine DW.p rfl rfl (fun _ => LX.build rfl (fun w => reg_build _ _ _ _ w)) rfl ?_
      refine DW.fput rfl rfl (EX.storeA rfl rfl rfl rfl rfl (by simp [Value.oneCell']) (by repeat first | assumption | exact List.mem_cons_self | refine List.mem_cons_of_mem _ ?_ | refine List.mem_append_right _ ?_) (by decide) (by repeat first | exact Upd.here | apply Upd.there | apply Upd.app)) in4 ?_
      refine DW.p rfl rfl (fun _ => LX.assign rfl) rfl (DW.nil (thenK_normal (WC.ret (blockK_ret (thenK_ret ?_)))))
      have hev : evb zs = num.toNat := by have := evb_dv hzd; omega
      rw [hev] at hy
      exact KR.cell2 (.inl rfl) rfl rfl rfl rfl (by repeat first | assumption | exact List.mem_cons_self | refine List.mem_cons_of_mem _ ?_ | refine List.mem_append_right _ ?_) rfl ⟨_, _, rfl, _, _, _, _, rfl, pre5, fun hok => ⟨_, gs, hy.skip, .k9 (by omega) hz hoa (by omega) (by omega)⟩⟩
  · skip
    refine WL.callR (sfitsF (hm fun _ hp => (by repeat first | assumption | exact List.mem_cons_self | refine List.mem_cons_of_mem _ ?_ | refine List.mem_append_right _ ?_)).a (hm fun _ hp => (by repeat first | assumption | exact List.mem_cons_self | refine List.mem_cons_of_mem _ ?_ | refine List.mem_append_right _ ?_)).m (by omega) (by omega) h.bl hz) rfl (fun _ => by kernel_rfl) rfl ?_
    rintro _ _ ⟨rfl, N1, rfl⟩
    refine WL.yes rfl rfl (WL.q (LX.not rfl) rfl (WL.q (LX.pickF rfl rfl) rfl (WL.q (LX.move rfl) rfl (WL.no rfl rfl (by decide) rfl (WL.q (LX.pickT rfl rfl) rfl (WL.q (LX.move rfl) rfl (WL.no rfl rfl (by decide) rfl (WL.no rfl rfl (by decide) rfl (WL.no rfl rfl (by decide) rfl (WL.q (LX.pickT rfl rfl) rfl (WL.q (LX.move rfl) rfl (WL.no rfl rfl (by decide) rfl (WL.no rfl rfl (by decide) rfl ?_)))))))))))))
    refine WL.no rfl rfl (by decide) rfl (WL.q (LX.pickT rfl rfl) rfl (WL.nil (thenK_normal (WC.yes rfl (WC.seq (WC.region ?_))))))
    refine WL.q (LX.loadR rfl rfl (by repeat first | assumption | exact List.mem_cons_self | refine List.mem_cons_of_mem _ ?_ | refine List.mem_append_right _ ?_) rfl) rfl ?_
    refine WL.put (EX.storeA rfl rfl rfl rfl rfl (by simp [Value.oneCell']) (by repeat first | assumption | exact List.mem_cons_self | refine List.mem_cons_of_mem _ ?_ | refine List.mem_append_right _ ?_) (by decide) (by repeat first | exact Upd.here | apply Upd.there | apply Upd.app)) ?_
    refine WL.q (LX.assign rfl) rfl (WL.nil (thenK_normal (WC.ret (thenK_ret (blockK_ret (thenK_ret ?_))))))
    exact KR.cell2 (.inl rfl) rfl rfl rfl rfl (by repeat first | assumption | exact List.mem_cons_self | refine List.mem_cons_of_mem _ ?_ | refine List.mem_append_right _ ?_) rfl ⟨_, _, rfl, _, _, _, _, rfl, pre5, fun hok => by cases hok⟩
end
end Go.Proofs.YtdnngppofbmpeaaGreatDoor.Bm
