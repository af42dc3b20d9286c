/- Proved here: what found of the reference does. Conditions: none but those that each theorem states. -/
import Derived.Test.YtdnngppofbmpeaaGreatDoorG23
namespace Go.Proofs.YtdnngppofbmpeaaGreatDoor.Bm
open Go Go.RowKit

section
variable {w0 : World} {M : Mem} {o a b m num : Int} {data : Value} {bs : List Int} {vo va vb vm : Value} {on zo an za bn zb V : Int} {ds es fs ms : List Int} {km : Nat}
theorem sfound11 (h : SI M vo va vb vm on an bn V ds es fs ms km) :
    CS w0 27 [stV 11 o a b m num data, rg vo zo, rg va za, rg vb zb, vm] M (fun u M' => ∃ r t ok, u = .tuple #[r, .int .i64 t, .bool ok] ∧ SRes M M' (PS num bs (o = a) (o = b) on zo an za bn zb V km 11) r t ok) := by
  have hm : ∀ {K : Mem}, (∀ p ∈ M, p ∈ K) → SI K vo va vb vm on an bn V ds es fs ms km := fun hk => h.mono hk
  have hV := h.V1
  have hla := h.la
  have hlb := h.lb
  have hlm := h.lm
  obtain ⟨Ao, capo, rfl, -⟩ := h.o.mem.form
  obtain ⟨Aa, capa, rfl, -⟩ := h.a.mem.form
  obtain ⟨Ab, capb, rfl, -⟩ := h.b.mem.form
  refine CS.of Tryz.func27 Tryz.ntmps27 rfl rfl (WC.seq (WC.region (WL.step rfl (EX.box rfl) ?_)))
  rintro _ _ ⟨b5, rfl, rfl⟩
  refine WL.step rfl (EX.box rfl) ?_
  rintro _ _ ⟨b6, rfl, rfl⟩
  refine WL.step rfl (EX.box rfl) ?_
  rintro _ _ ⟨b7, rfl, rfl⟩
  refine WL.step rfl (EX.box rfl) ?_
  rintro _ _ ⟨b8, rfl, rfl⟩
  refine WL.step rfl (EX.alloc (z := .agg #[.slice none 0 0, .int .i64 0]) (fun _ => by kernel_rfl)) ?_
  rintro _ _ ⟨b10, rfl, rfl⟩
  refine WL.q (LX.assign rfl) rfl (WL.q (LX.assign rfl) rfl (WL.nil (thenK_normal (WC.seq (WC.seq (WC.region (WL.q (LX.field0 rfl rfl) rfl ?_)))))))
  refine WL.q (LX.load rfl rfl (by repeat first | assumption | exact List.mem_cons_self | refine List.mem_cons_of_mem _ ?_ | refine List.mem_append_right _ ?_) rfl) rfl ?_
  refine WL.q (LX.bin rfl rfl rfl) rfl (WL.nil (thenK_normal ?_))
  by_cases h1 : za < 1
  · skip
    refine WC.yes rfl (WC.seq (WC.seq (WC.region (WL.q (LX.field0 rfl rfl) rfl ?_))))
    refine WL.q (LX.load rfl rfl (by repeat first | assumption | exact List.mem_cons_self | refine List.mem_cons_of_mem _ ?_ | refine List.mem_append_right _ ?_) rfl) rfl ?_
    refine WL.q (LX.eq (LX.bin rfl rfl rfl) (tru h1)) rfl (WL.q (LX.move rfl) rfl (WL.no rfl rfl (by decide) rfl (WL.no rfl rfl (by decide) rfl (WL.no rfl rfl (by decide) rfl (WL.no rfl rfl (by decide) rfl (WL.no rfl rfl (by decide) rfl (WL.q (LX.pickT rfl rfl) rfl (WL.q (LX.move rfl) rfl (WL.no rfl rfl (by decide) rfl (WL.no rfl rfl (by decide) rfl (WL.no rfl rfl (by decide) rfl (WL.no rfl rfl (by decide) rfl (WL.no rfl rfl (by decide) rfl ?_)))))))))))))
    refine WL.q (LX.pickT rfl rfl) rfl (WL.nil (thenK_normal (WC.yes rfl (WC.seq (WC.region ?_)))))
    refine WL.q (LX.loadR rfl rfl (by repeat first | assumption | exact List.mem_cons_self | refine List.mem_cons_of_mem _ ?_ | refine List.mem_append_right _ ?_) rfl) rfl ?_
    refine WL.put (EX.storeA rfl rfl rfl rfl rfl (by simp [Value.oneCell']) (by repeat first | assumption | exact List.mem_cons_self | refine List.mem_cons_of_mem _ ?_ | refine List.mem_append_right _ ?_) (by decide) (by repeat first | exact Upd.here | apply Upd.there | apply Upd.app)) ?_
    refine WL.q (LX.assign rfl) rfl (WL.q (LX.assign rfl) rfl (WL.nil (thenK_normal (WC.ret (thenK_ret (thenK_ret ?_))))))
    exact KR.cell3 (.inl rfl) rfl rfl rfl rfl (by repeat first | assumption | exact List.mem_cons_self | refine List.mem_cons_of_mem _ ?_ | refine List.mem_append_right _ ?_) rfl rfl ⟨_, _, _, rfl, _, _, _, _, rfl, pre5 (N := []), fun hok => by cases hok⟩
  refine WC.yes rfl (WC.seq (WC.seq (WC.region (WL.q (LX.field0 rfl rfl) rfl ?_))))
  refine WL.q (LX.load rfl rfl (by repeat first | assumption | exact List.mem_cons_self | refine List.mem_cons_of_mem _ ?_ | refine List.mem_append_right _ ?_) rfl) rfl ?_
  refine WL.q (LX.eq (LX.bin rfl rfl rfl) (fls h1)) rfl (WL.q (LX.move rfl) rfl (WL.yes rfl rfl (WL.q (LX.field0 rfl rfl) rfl (WL.yes rfl rfl ?_))))
  refine WL.q (LX.load rfl rfl (by repeat first | assumption | exact List.mem_cons_self | refine List.mem_cons_of_mem _ ?_ | refine List.mem_append_right _ ?_) rfl) rfl ?_
  refine WL.yes rfl rfl (WL.q (LX.move rfl) rfl (WL.yes rfl rfl ?_))
  refine WL.call (sless (hm fun _ hp => (by repeat first | assumption | exact List.mem_cons_self | refine List.mem_cons_of_mem _ ?_ | refine List.mem_append_right _ ?_)).a (hm fun _ hp => (by repeat first | assumption | exact List.mem_cons_self | refine List.mem_cons_of_mem _ ?_ | refine List.mem_append_right _ ?_)).m (by omega) (by omega)) rfl (fun _ => by kernel_rfl) rfl ?_
  by_cases h2 : an < V
  · rw [decide_eq_true h2]
    refine WL.yes rfl rfl (WL.q (LX.not rfl) rfl (WL.q (LX.pickF rfl rfl) rfl (WL.q (LX.move rfl) rfl (WL.yes rfl rfl (WL.q (LX.field0 rfl rfl) rfl (WL.yes rfl rfl ?_))))))
    refine WL.q (LX.load rfl rfl (by repeat first | assumption | exact List.mem_cons_self | refine List.mem_cons_of_mem _ ?_ | refine List.mem_append_right _ ?_) rfl) rfl ?_
    refine WL.yes rfl rfl (WL.q (LX.field0 rfl rfl) rfl (WL.yes rfl rfl ?_))
    refine WL.q (LX.load rfl rfl (by repeat first | assumption | exact List.mem_cons_self | refine List.mem_cons_of_mem _ ?_ | refine List.mem_append_right _ ?_) rfl) rfl ?_
    refine WL.yes rfl rfl (WL.q (LX.bin rfl rfl rfl) rfl (WL.q (LX.pickF rfl rfl) rfl (WL.nil (thenK_normal ?_))))
    by_cases h3 : o = a
    · rw [decide_eq_true h3]
      refine WC.yes rfl (WC.seq (WC.region ?_))
      refine WL.q (LX.loadR rfl rfl (by repeat first | assumption | exact List.mem_cons_self | refine List.mem_cons_of_mem _ ?_ | refine List.mem_append_right _ ?_) rfl) rfl ?_
      refine WL.put (EX.storeA rfl rfl rfl rfl rfl (by simp [Value.oneCell']) (by repeat first | assumption | exact List.mem_cons_self | refine List.mem_cons_of_mem _ ?_ | refine List.mem_append_right _ ?_) (by decide) (by repeat first | exact Upd.here | apply Upd.there | apply Upd.app)) ?_
      refine WL.q (LX.assign rfl) rfl (WL.q (LX.assign rfl) rfl (WL.nil (thenK_normal (WC.ret (thenK_ret (thenK_ret ?_))))))
      exact KR.cell3 (.inl rfl) rfl rfl rfl rfl (by repeat first | assumption | exact List.mem_cons_self | refine List.mem_cons_of_mem _ ?_ | refine List.mem_append_right _ ?_) rfl rfl ⟨_, _, _, rfl, _, _, _, _, rfl, pre5 (N := []), fun hok => by cases hok⟩
    rw [decide_eq_false h3]
    refine WC.no rfl (WC.skip (thenK_normal (WC.seq (WC.region (WL.q (LX.field0 rfl rfl) rfl ?_)))))
    refine WL.q (LX.load rfl rfl (by repeat first | assumption | exact List.mem_cons_self | refine List.mem_cons_of_mem _ ?_ | refine List.mem_append_right _ ?_) rfl) rfl ?_
    refine WL.q (LX.move rfl) rfl ?_
    refine WL.callR (sinverse (hm fun _ hp => (by repeat first | assumption | exact List.mem_cons_self | refine List.mem_cons_of_mem _ ?_ | refine List.mem_append_right _ ?_)).a (hm fun _ hp => (by repeat first | assumption | exact List.mem_cons_self | refine List.mem_cons_of_mem _ ?_ | refine List.mem_append_right _ ?_)).m (by omega) (by omega) h2) rfl (fun _ => by kernel_rfl) rfl ?_
    rintro _ _ ⟨N, gs, x, X, yes, rfl, rfl, hx, hX, hy, hn⟩
    refine WL.q (LX.move rfl) rfl (WL.q (LX.extract rfl rfl) rfl (WL.q (LX.extract rfl rfl) rfl (WL.q (LX.assign rfl) rfl (WL.q (LX.assign rfl) rfl (WL.nil (thenK_normal (WC.seq (WC.seq (WC.region (WL.q (LX.move rfl) rfl (WL.q (LX.not rfl) rfl (WL.nil (thenK_normal ?_)))))))))))))
    cases yes
    · refine WC.yes rfl (WC.seq (WC.region ?_))
      refine WL.q (LX.loadR rfl rfl (by repeat first | assumption | exact List.mem_cons_self | refine List.mem_cons_of_mem _ ?_ | refine List.mem_append_right _ ?_) rfl) rfl ?_
      refine WL.put (EX.storeA rfl rfl rfl rfl rfl (by simp [Value.oneCell']) (by repeat first | assumption | exact List.mem_cons_self | refine List.mem_cons_of_mem _ ?_ | refine List.mem_append_right _ ?_) (by decide) (by repeat first | exact Upd.here | apply Upd.there | apply Upd.app)) ?_
      refine WL.q (LX.assign rfl) rfl (WL.q (LX.assign rfl) rfl (WL.nil (thenK_normal (WC.ret (thenK_ret (thenK_ret ?_))))))
      exact KR.cell3 (.inl rfl) rfl rfl rfl rfl (by repeat first | assumption | exact List.mem_cons_self | refine List.mem_cons_of_mem _ ?_ | refine List.mem_append_right _ ?_) rfl rfl ⟨_, _, _, rfl, _, _, _, _, rfl, pre5, fun hok => ⟨_, ds, (hm fun _ hp => (by repeat first | assumption | exact List.mem_cons_self | refine List.mem_cons_of_mem _ ?_ | refine List.mem_append_right _ ?_)).o, .k11no (by omega) h2 h3 (hn rfl)⟩⟩
    · skip
      refine WC.no rfl (WC.skip (thenK_normal (WC.seq (WC.region (WL.q (LX.move rfl) rfl (WL.q (LX.move rfl) rfl ?_))))))
      refine WL.call (swordsK (hm fun _ hp => (by repeat first | assumption | exact List.mem_cons_self | refine List.mem_cons_of_mem _ ?_ | refine List.mem_append_right _ ?_)).m (by omega) h.bl) rfl (fun _ => by kernel_rfl) rfl ?_
      obtain ⟨Ax, capx, rfl, -⟩ := hx.mem.form
      refine WL.q (LX.build rfl (fun w => reg_build _ _ _ _ w)) rfl ?_
      refine WL.put (EX.storeA rfl rfl rfl rfl rfl (by simp [Value.oneCell']) (by repeat first | assumption | exact List.mem_cons_self | refine List.mem_cons_of_mem _ ?_ | refine List.mem_append_right _ ?_) (by decide) (by repeat first | exact Upd.here | apply Upd.there | apply Upd.app)) ?_
      refine WL.q (LX.assign rfl) rfl (WL.q (LX.assign rfl) rfl (WL.nil (thenK_normal (WC.ret (thenK_ret ?_)))))
      exact KR.cell3 (.inl rfl) rfl rfl rfl rfl (by repeat first | assumption | exact List.mem_cons_self | refine List.mem_cons_of_mem _ ?_ | refine List.mem_append_right _ ?_) rfl rfl ⟨_, _, _, rfl, _, _, _, _, rfl, pre5, fun hok => ⟨X, gs, hx.skip, .k11yes (by omega) h2 h3 hx.nonneg hX (hy rfl)⟩⟩
  · rw [decide_eq_false h2]
    refine WL.yes rfl rfl (WL.q (LX.not rfl) rfl (WL.q (LX.pickF rfl rfl) rfl (WL.q (LX.move rfl) rfl (WL.no rfl rfl (by decide) rfl (WL.no rfl rfl (by decide) rfl (WL.no rfl rfl (by decide) rfl (WL.no rfl rfl (by decide) rfl (WL.no rfl rfl (by decide) rfl (WL.q (LX.pickT rfl rfl) rfl (WL.nil (thenK_normal (WC.yes rfl (WC.seq ?_)))))))))))))
    refine WC.region ?_
    refine WL.q (LX.loadR rfl rfl (by repeat first | assumption | exact List.mem_cons_self | refine List.mem_cons_of_mem _ ?_ | refine List.mem_append_right _ ?_) rfl) rfl ?_
    refine WL.put (EX.storeA rfl rfl rfl rfl rfl (by simp [Value.oneCell']) (by repeat first | assumption | exact List.mem_cons_self | refine List.mem_cons_of_mem _ ?_ | refine List.mem_append_right _ ?_) (by decide) (by repeat first | exact Upd.here | apply Upd.there | apply Upd.app)) ?_
    refine WL.q (LX.assign rfl) rfl (WL.q (LX.assign rfl) rfl (WL.nil (thenK_normal (WC.ret (thenK_ret (thenK_ret ?_))))))
    exact KR.cell3 (.inl rfl) rfl rfl rfl rfl (by repeat first | assumption | exact List.mem_cons_self | refine List.mem_cons_of_mem _ ?_ | refine List.mem_append_right _ ?_) rfl rfl ⟨_, _, _, rfl, _, _, _, _, rfl, pre5 (N := []), fun hok => by cases hok⟩

theorem sfound12 (h : SI M vo va vb vm on an bn V ds es fs ms km) :
    CS w0 27 [stV 12 o a b m num data, rg vo zo, rg va za, rg vb zb, vm] M (fun u M' => ∃ r t ok, u = .tuple #[r, .int .i64 t, .bool ok] ∧ SRes M M' (PS num bs (o = a) (o = b) on zo an za bn zb V km 12) r t ok) := by
  have hm : ∀ {K : Mem}, (∀ p ∈ M, p ∈ K) → SI K vo va vb vm on an bn V ds es fs ms km := fun hk => h.mono hk
  have hV := h.V1
  have hla := h.la
  have hlb := h.lb
  have hlm := h.lm
  obtain ⟨Ao, capo, rfl, -⟩ := h.o.mem.form
  obtain ⟨Aa, capa, rfl, -⟩ := h.a.mem.form
  obtain ⟨Ab, capb, rfl, -⟩ := h.b.mem.form
  have hal : ((es.length : Int) = 0) ↔ an = 0 := by
    rw [h.a.zero]; constructor
    · intro e; exact List.length_eq_zero_iff.1 (by omega)
    · intro e; rw [e]; rfl
  have hbl : ((fs.length : Int) = 0) ↔ bn = 0 := by
    rw [h.b.zero]; constructor
    · intro e; exact List.length_eq_zero_iff.1 (by omega)
    · intro e; rw [e]; rfl
  refine CS.of Tryz.func27 Tryz.ntmps27 rfl rfl (WC.seq (WC.region (WL.step rfl (EX.box rfl) ?_)))
  rintro _ _ ⟨b5, rfl, rfl⟩
  refine WL.step rfl (EX.box rfl) ?_
  rintro _ _ ⟨b6, rfl, rfl⟩
  refine WL.step rfl (EX.box rfl) ?_
  rintro _ _ ⟨b7, rfl, rfl⟩
  refine WL.step rfl (EX.box rfl) ?_
  rintro _ _ ⟨b8, rfl, rfl⟩
  refine WL.step rfl (EX.alloc (z := .agg #[.slice none 0 0, .int .i64 0]) (fun _ => by kernel_rfl)) ?_
  rintro _ _ ⟨b10, rfl, rfl⟩
  refine WL.q (LX.assign rfl) rfl (WL.q (LX.assign rfl) rfl (WL.nil (thenK_normal (WC.seq (WC.seq (WC.region (WL.q (LX.field0 rfl rfl) rfl ?_)))))))
  refine WL.q (LX.load rfl rfl (by repeat first | assumption | exact List.mem_cons_self | refine List.mem_cons_of_mem _ ?_ | refine List.mem_append_right _ ?_) rfl) rfl ?_
  refine WL.q (LX.bin rfl rfl rfl) rfl (WL.nil (thenK_normal ?_))
  by_cases h1 : za < 1
  · skip
    refine WC.no rfl (WC.skip (thenK_normal (WC.seq (WC.seq (WC.region (WL.q (LX.field0 rfl rfl) rfl ?_))))))
    refine WL.q (LX.load rfl rfl (by repeat first | assumption | exact List.mem_cons_self | refine List.mem_cons_of_mem _ ?_ | refine List.mem_append_right _ ?_) rfl) rfl ?_
    refine WL.q (LX.eq (LX.bin rfl rfl rfl) (tru h1)) rfl (WL.q (LX.move rfl) rfl (WL.no rfl rfl (by decide) rfl (WL.no rfl rfl (by decide) rfl (WL.no rfl rfl (by decide) rfl (WL.q (LX.pickT rfl rfl) rfl (WL.q (LX.move rfl) rfl (WL.no rfl rfl (by decide) rfl (WL.no rfl rfl (by decide) rfl (WL.no rfl rfl (by decide) rfl (WL.no rfl rfl (by decide) rfl (WL.no rfl rfl (by decide) rfl (WL.q (LX.pickT rfl rfl) rfl (WL.q (LX.move rfl) rfl ?_)))))))))))))
    refine WL.no rfl rfl (by decide) rfl (WL.no rfl rfl (by decide) rfl (WL.no rfl rfl (by decide) rfl (WL.no rfl rfl (by decide) rfl (WL.no rfl rfl (by decide) rfl (WL.q (LX.pickT rfl rfl) rfl (WL.nil (thenK_normal (WC.yes rfl (WC.seq (WC.region ?_))))))))))
    refine WL.q (LX.loadR rfl rfl (by repeat first | assumption | exact List.mem_cons_self | refine List.mem_cons_of_mem _ ?_ | refine List.mem_append_right _ ?_) rfl) rfl ?_
    refine WL.put (EX.storeA rfl rfl rfl rfl rfl (by simp [Value.oneCell']) (by repeat first | assumption | exact List.mem_cons_self | refine List.mem_cons_of_mem _ ?_ | refine List.mem_append_right _ ?_) (by decide) (by repeat first | exact Upd.here | apply Upd.there | apply Upd.app)) ?_
    refine WL.q (LX.assign rfl) rfl (WL.q (LX.assign rfl) rfl (WL.nil (thenK_normal (WC.ret (thenK_ret ?_)))))
    exact KR.cell3 (.inl rfl) rfl rfl rfl rfl (by repeat first | assumption | exact List.mem_cons_self | refine List.mem_cons_of_mem _ ?_ | refine List.mem_append_right _ ?_) rfl rfl ⟨_, _, _, rfl, _, _, _, _, rfl, pre5 (N := []), fun hok => by cases hok⟩
  by_cases h2 : zb < 1
  · skip
    refine WC.no rfl (WC.skip (thenK_normal (WC.seq (WC.seq (WC.region (WL.q (LX.field0 rfl rfl) rfl ?_))))))
    refine WL.q (LX.load rfl rfl (by repeat first | assumption | exact List.mem_cons_self | refine List.mem_cons_of_mem _ ?_ | refine List.mem_append_right _ ?_) rfl) rfl ?_
    refine WL.q (LX.eq (LX.bin rfl rfl rfl) (fls h1)) rfl (WL.q (LX.move rfl) rfl (WL.yes rfl rfl (WL.q (LX.field0 rfl rfl) rfl (WL.yes rfl rfl ?_))))
    refine WL.q (LX.load rfl rfl (by repeat first | assumption | exact List.mem_cons_self | refine List.mem_cons_of_mem _ ?_ | refine List.mem_append_right _ ?_) rfl) rfl ?_
    refine WL.yes rfl rfl (WL.q (LX.eq (LX.bin rfl rfl rfl) (tru h2)) rfl (WL.q (LX.pickF rfl rfl) rfl (WL.q (LX.move rfl) rfl (WL.no rfl rfl (by decide) rfl (WL.no rfl rfl (by decide) rfl (WL.no rfl rfl (by decide) rfl (WL.no rfl rfl (by decide) rfl (WL.no rfl rfl (by decide) rfl (WL.q (LX.pickT rfl rfl) rfl (WL.q (LX.move rfl) rfl (WL.no rfl rfl (by decide) rfl (WL.no rfl rfl (by decide) rfl (WL.no rfl rfl (by decide) rfl ?_)))))))))))))
    refine WL.no rfl rfl (by decide) rfl (WL.no rfl rfl (by decide) rfl (WL.q (LX.pickT rfl rfl) rfl (WL.nil (thenK_normal (WC.yes rfl (WC.seq (WC.region ?_)))))))
    refine WL.q (LX.loadR rfl rfl (by repeat first | assumption | exact List.mem_cons_self | refine List.mem_cons_of_mem _ ?_ | refine List.mem_append_right _ ?_) rfl) rfl ?_
    refine WL.put (EX.storeA rfl rfl rfl rfl rfl (by simp [Value.oneCell']) (by repeat first | assumption | exact List.mem_cons_self | refine List.mem_cons_of_mem _ ?_ | refine List.mem_append_right _ ?_) (by decide) (by repeat first | exact Upd.here | apply Upd.there | apply Upd.app)) ?_
    refine WL.q (LX.assign rfl) rfl (WL.q (LX.assign rfl) rfl (WL.nil (thenK_normal (WC.ret (thenK_ret ?_)))))
    exact KR.cell3 (.inl rfl) rfl rfl rfl rfl (by repeat first | assumption | exact List.mem_cons_self | refine List.mem_cons_of_mem _ ?_ | refine List.mem_append_right _ ?_) rfl rfl ⟨_, _, _, rfl, _, _, _, _, rfl, pre5 (N := []), fun hok => by cases hok⟩
  by_cases h3 : o = a
  · skip
    refine WC.no rfl (WC.skip (thenK_normal (WC.seq (WC.seq (WC.region (WL.q (LX.field0 rfl rfl) rfl ?_))))))
    refine WL.q (LX.load rfl rfl (by repeat first | assumption | exact List.mem_cons_self | refine List.mem_cons_of_mem _ ?_ | refine List.mem_append_right _ ?_) rfl) rfl ?_
    refine WL.q (LX.eq (LX.bin rfl rfl rfl) (fls h1)) rfl (WL.q (LX.move rfl) rfl (WL.yes rfl rfl (WL.q (LX.field0 rfl rfl) rfl (WL.yes rfl rfl ?_))))
    refine WL.q (LX.load rfl rfl (by repeat first | assumption | exact List.mem_cons_self | refine List.mem_cons_of_mem _ ?_ | refine List.mem_append_right _ ?_) rfl) rfl ?_
    refine WL.yes rfl rfl (WL.q (LX.eq (LX.bin rfl rfl rfl) (fls h2)) rfl (WL.q (LX.pickF rfl rfl) rfl (WL.q (LX.move rfl) rfl (WL.yes rfl rfl (WL.q (LX.field0 rfl rfl) rfl (WL.yes rfl rfl ?_))))))
    refine WL.q (LX.load rfl rfl (by repeat first | assumption | exact List.mem_cons_self | refine List.mem_cons_of_mem _ ?_ | refine List.mem_append_right _ ?_) rfl) rfl ?_
    refine WL.yes rfl rfl (WL.q (LX.field0 rfl rfl) rfl (WL.yes rfl rfl ?_))
    refine WL.q (LX.load rfl rfl (by repeat first | assumption | exact List.mem_cons_self | refine List.mem_cons_of_mem _ ?_ | refine List.mem_append_right _ ?_) rfl) rfl ?_
    refine WL.yes rfl rfl (WL.q (LX.eq (LX.bin rfl rfl rfl) (tru h3)) rfl (WL.q (LX.pickF rfl rfl) rfl (WL.q (LX.move rfl) rfl (WL.no rfl rfl (by decide) rfl (WL.no rfl rfl (by decide) rfl (WL.no rfl rfl (by decide) rfl (WL.no rfl rfl (by decide) rfl (WL.no rfl rfl (by decide) rfl (WL.q (LX.pickT rfl rfl) rfl (WL.nil (thenK_normal (WC.yes rfl (WC.seq ?_)))))))))))))
    refine WC.region ?_
    refine WL.q (LX.loadR rfl rfl (by repeat first | assumption | exact List.mem_cons_self | refine List.mem_cons_of_mem _ ?_ | refine List.mem_append_right _ ?_) rfl) rfl ?_
    refine WL.put (EX.storeA rfl rfl rfl rfl rfl (by simp [Value.oneCell']) (by repeat first | assumption | exact List.mem_cons_self | refine List.mem_cons_of_mem _ ?_ | refine List.mem_append_right _ ?_) (by decide) (by repeat first | exact Upd.here | apply Upd.there | apply Upd.app)) ?_
    refine WL.q (LX.assign rfl) rfl (WL.q (LX.assign rfl) rfl (WL.nil (thenK_normal (WC.ret (thenK_ret ?_)))))
    exact KR.cell3 (.inl rfl) rfl rfl rfl rfl (by repeat first | assumption | exact List.mem_cons_self | refine List.mem_cons_of_mem _ ?_ | refine List.mem_append_right _ ?_) rfl rfl ⟨_, _, _, rfl, _, _, _, _, rfl, pre5 (N := []), fun hok => by cases hok⟩
  by_cases h4 : o = b
  · skip
    refine WC.no rfl (WC.skip (thenK_normal (WC.seq (WC.seq (WC.region (WL.q (LX.field0 rfl rfl) rfl ?_))))))
    refine WL.q (LX.load rfl rfl (by repeat first | assumption | exact List.mem_cons_self | refine List.mem_cons_of_mem _ ?_ | refine List.mem_append_right _ ?_) rfl) rfl ?_
    refine WL.q (LX.eq (LX.bin rfl rfl rfl) (fls h1)) rfl (WL.q (LX.move rfl) rfl (WL.yes rfl rfl (WL.q (LX.field0 rfl rfl) rfl (WL.yes rfl rfl ?_))))
    refine WL.q (LX.load rfl rfl (by repeat first | assumption | exact List.mem_cons_self | refine List.mem_cons_of_mem _ ?_ | refine List.mem_append_right _ ?_) rfl) rfl ?_
    refine WL.yes rfl rfl (WL.q (LX.eq (LX.bin rfl rfl rfl) (fls h2)) rfl (WL.q (LX.pickF rfl rfl) rfl (WL.q (LX.move rfl) rfl (WL.yes rfl rfl (WL.q (LX.field0 rfl rfl) rfl (WL.yes rfl rfl ?_))))))
    refine WL.q (LX.load rfl rfl (by repeat first | assumption | exact List.mem_cons_self | refine List.mem_cons_of_mem _ ?_ | refine List.mem_append_right _ ?_) rfl) rfl ?_
    refine WL.yes rfl rfl (WL.q (LX.field0 rfl rfl) rfl (WL.yes rfl rfl ?_))
    refine WL.q (LX.load rfl rfl (by repeat first | assumption | exact List.mem_cons_self | refine List.mem_cons_of_mem _ ?_ | refine List.mem_append_right _ ?_) rfl) rfl ?_
    refine WL.yes rfl rfl (WL.q (LX.eq (LX.bin rfl rfl rfl) (fls h3)) rfl (WL.q (LX.pickF rfl rfl) rfl (WL.q (LX.move rfl) rfl (WL.yes rfl rfl (WL.q (LX.field0 rfl rfl) rfl (WL.yes rfl rfl ?_))))))
    refine WL.q (LX.load rfl rfl (by repeat first | assumption | exact List.mem_cons_self | refine List.mem_cons_of_mem _ ?_ | refine List.mem_append_right _ ?_) rfl) rfl ?_
    refine WL.yes rfl rfl (WL.q (LX.field0 rfl rfl) rfl (WL.yes rfl rfl ?_))
    refine WL.q (LX.load rfl rfl (by repeat first | assumption | exact List.mem_cons_self | refine List.mem_cons_of_mem _ ?_ | refine List.mem_append_right _ ?_) rfl) rfl ?_
    refine WL.yes rfl rfl (WL.q (LX.eq (LX.bin rfl rfl rfl) (tru h4)) rfl (WL.q (LX.pickF rfl rfl) rfl (WL.nil (thenK_normal (WC.yes rfl (WC.seq (WC.region ?_)))))))
    refine WL.q (LX.loadR rfl rfl (by repeat first | assumption | exact List.mem_cons_self | refine List.mem_cons_of_mem _ ?_ | refine List.mem_append_right _ ?_) rfl) rfl ?_
    refine WL.put (EX.storeA rfl rfl rfl rfl rfl (by simp [Value.oneCell']) (by repeat first | assumption | exact List.mem_cons_self | refine List.mem_cons_of_mem _ ?_ | refine List.mem_append_right _ ?_) (by decide) (by repeat first | exact Upd.here | apply Upd.there | apply Upd.app)) ?_
    refine WL.q (LX.assign rfl) rfl (WL.q (LX.assign rfl) rfl (WL.nil (thenK_normal (WC.ret (thenK_ret ?_)))))
    exact KR.cell3 (.inl rfl) rfl rfl rfl rfl (by repeat first | assumption | exact List.mem_cons_self | refine List.mem_cons_of_mem _ ?_ | refine List.mem_append_right _ ?_) rfl rfl ⟨_, _, _, rfl, _, _, _, _, rfl, pre5 (N := []), fun hok => by cases hok⟩
  refine WC.no rfl (WC.skip (thenK_normal (WC.seq (WC.seq (WC.region (WL.q (LX.field0 rfl rfl) rfl ?_))))))
  refine WL.q (LX.load rfl rfl (by repeat first | assumption | exact List.mem_cons_self | refine List.mem_cons_of_mem _ ?_ | refine List.mem_append_right _ ?_) rfl) rfl ?_
  refine WL.q (LX.eq (LX.bin rfl rfl rfl) (fls h1)) rfl (WL.q (LX.move rfl) rfl (WL.yes rfl rfl (WL.q (LX.field0 rfl rfl) rfl (WL.yes rfl rfl ?_))))
  refine WL.q (LX.load rfl rfl (by repeat first | assumption | exact List.mem_cons_self | refine List.mem_cons_of_mem _ ?_ | refine List.mem_append_right _ ?_) rfl) rfl ?_
  refine WL.yes rfl rfl (WL.q (LX.eq (LX.bin rfl rfl rfl) (fls h2)) rfl (WL.q (LX.pickF rfl rfl) rfl (WL.q (LX.move rfl) rfl (WL.yes rfl rfl (WL.q (LX.field0 rfl rfl) rfl (WL.yes rfl rfl ?_))))))
  refine WL.q (LX.load rfl rfl (by repeat first | assumption | exact List.mem_cons_self | refine List.mem_cons_of_mem _ ?_ | refine List.mem_append_right _ ?_) rfl) rfl ?_
  refine WL.yes rfl rfl (WL.q (LX.field0 rfl rfl) rfl (WL.yes rfl rfl ?_))
  refine WL.q (LX.load rfl rfl (by repeat first | assumption | exact List.mem_cons_self | refine List.mem_cons_of_mem _ ?_ | refine List.mem_append_right _ ?_) rfl) rfl ?_
  refine WL.yes rfl rfl (WL.q (LX.eq (LX.bin rfl rfl rfl) (fls h3)) rfl (WL.q (LX.pickF rfl rfl) rfl (WL.q (LX.move rfl) rfl (WL.yes rfl rfl (WL.q (LX.field0 rfl rfl) rfl (WL.yes rfl rfl ?_))))))
  refine WL.q (LX.load rfl rfl (by repeat first | assumption | exact List.mem_cons_self | refine List.mem_cons_of_mem _ ?_ | refine List.mem_append_right _ ?_) rfl) rfl ?_
  refine WL.yes rfl rfl (WL.q (LX.field0 rfl rfl) rfl (WL.yes rfl rfl ?_))
  refine WL.q (LX.load rfl rfl (by repeat first | assumption | exact List.mem_cons_self | refine List.mem_cons_of_mem _ ?_ | refine List.mem_append_right _ ?_) rfl) rfl ?_
  refine WL.yes rfl rfl (WL.q (LX.eq (LX.bin rfl rfl rfl) (fls h4)) rfl (WL.q (LX.pickF rfl rfl) rfl (WL.nil (thenK_normal (WC.no rfl ?_)))))
  by_cases h5 : an = 0
  · skip
    refine WC.skip (thenK_normal (WC.seq (WC.seq (WC.region (WL.q (LX.field0 rfl rfl) rfl ?_)))))
    refine WL.q (LX.load rfl rfl (by repeat first | assumption | exact List.mem_cons_self | refine List.mem_cons_of_mem _ ?_ | refine List.mem_append_right _ ?_) rfl) rfl ?_
    refine WL.q (LX.len rfl rfl rfl) rfl (WL.q (LX.eq (LX.bin rfl rfl rfl) (tru (hal.2 h5))) rfl (WL.q (LX.move rfl) rfl (WL.no rfl rfl (by decide) rfl (WL.no rfl rfl (by decide) rfl (WL.no rfl rfl (by decide) rfl (WL.no rfl rfl (by decide) rfl (WL.q (LX.pickT rfl rfl) rfl (WL.q (LX.move rfl) rfl (WL.no rfl rfl (by decide) rfl (WL.no rfl rfl (by decide) rfl (WL.no rfl rfl (by decide) rfl (WL.no rfl rfl (by decide) rfl (WL.noU rfl rfl rfl ?_)))))))))))))
    refine WL.noU rfl rfl rfl (WL.noU rfl rfl rfl (WL.no rfl rfl (by decide) rfl (WL.q (LX.pickT rfl rfl) rfl (WL.nil (thenK_normal (WC.yes rfl (WC.seq (WC.region ?_))))))))
    refine WL.q (LX.loadR rfl rfl (by repeat first | assumption | exact List.mem_cons_self | refine List.mem_cons_of_mem _ ?_ | refine List.mem_append_right _ ?_) rfl) rfl ?_
    refine WL.put (EX.storeA rfl rfl rfl rfl rfl (by simp [Value.oneCell']) (by repeat first | assumption | exact List.mem_cons_self | refine List.mem_cons_of_mem _ ?_ | refine List.mem_append_right _ ?_) (by decide) (by repeat first | exact Upd.here | apply Upd.there | apply Upd.app)) ?_
    refine WL.q (LX.assign rfl) rfl (WL.q (LX.assign rfl) rfl (WL.nil (thenK_normal (WC.ret (thenK_ret ?_)))))
    exact KR.cell3 (.inl rfl) rfl rfl rfl rfl (by repeat first | assumption | exact List.mem_cons_self | refine List.mem_cons_of_mem _ ?_ | refine List.mem_append_right _ ?_) rfl rfl ⟨_, _, _, rfl, _, _, _, _, rfl, pre5 (N := []), fun hok => ⟨_, ds, (hm fun _ hp => (by repeat first | assumption | exact List.mem_cons_self | refine List.mem_cons_of_mem _ ?_ | refine List.mem_append_right _ ?_)).o, .k12no (by omega) (by omega) h3 h4 (.inl h5)⟩⟩
  by_cases h6 : bn = 0
  · skip
    refine WC.skip (thenK_normal (WC.seq (WC.seq (WC.region (WL.q (LX.field0 rfl rfl) rfl ?_)))))
    refine WL.q (LX.load rfl rfl (by repeat first | assumption | exact List.mem_cons_self | refine List.mem_cons_of_mem _ ?_ | refine List.mem_append_right _ ?_) rfl) rfl ?_
    refine WL.q (LX.len rfl rfl rfl) rfl (WL.q (LX.eq (LX.bin rfl rfl rfl) (fls (fun e => h5 (hal.1 e)))) rfl (WL.q (LX.move rfl) rfl (WL.yes rfl rfl (WL.q (LX.field0 rfl rfl) rfl (WL.yes rfl rfl ?_)))))
    refine WL.q (LX.load rfl rfl (by repeat first | assumption | exact List.mem_cons_self | refine List.mem_cons_of_mem _ ?_ | refine List.mem_append_right _ ?_) rfl) rfl ?_
    refine WL.yes rfl rfl (WL.q (LX.len rfl rfl rfl) rfl (WL.yes rfl rfl (WL.q (LX.eq (LX.bin rfl rfl rfl) (tru (hbl.2 h6))) rfl (WL.q (LX.pickF rfl rfl) rfl (WL.q (LX.move rfl) rfl (WL.no rfl rfl (by decide) rfl (WL.no rfl rfl (by decide) rfl (WL.no rfl rfl (by decide) rfl (WL.no rfl rfl (by decide) rfl (WL.noU rfl rfl rfl (WL.noU rfl rfl rfl (WL.noU rfl rfl rfl (WL.no rfl rfl (by decide) rfl ?_)))))))))))))
    refine WL.q (LX.pickT rfl rfl) rfl (WL.nil (thenK_normal (WC.yes rfl (WC.seq (WC.region ?_)))))
    refine WL.q (LX.loadR rfl rfl (by repeat first | assumption | exact List.mem_cons_self | refine List.mem_cons_of_mem _ ?_ | refine List.mem_append_right _ ?_) rfl) rfl ?_
    refine WL.put (EX.storeA rfl rfl rfl rfl rfl (by simp [Value.oneCell']) (by repeat first | assumption | exact List.mem_cons_self | refine List.mem_cons_of_mem _ ?_ | refine List.mem_append_right _ ?_) (by decide) (by repeat first | exact Upd.here | apply Upd.there | apply Upd.app)) ?_
    refine WL.q (LX.assign rfl) rfl (WL.q (LX.assign rfl) rfl (WL.nil (thenK_normal (WC.ret (thenK_ret ?_)))))
    exact KR.cell3 (.inl rfl) rfl rfl rfl rfl (by repeat first | assumption | exact List.mem_cons_self | refine List.mem_cons_of_mem _ ?_ | refine List.mem_append_right _ ?_) rfl rfl ⟨_, _, _, rfl, _, _, _, _, rfl, pre5 (N := []), fun hok => ⟨_, ds, (hm fun _ hp => (by repeat first | assumption | exact List.mem_cons_self | refine List.mem_cons_of_mem _ ?_ | refine List.mem_append_right _ ?_)).o, .k12no (by omega) (by omega) h3 h4 (.inr (.inl h6))⟩⟩
  refine WC.skip (thenK_normal (WC.seq (WC.seq (WC.region (WL.q (LX.field0 rfl rfl) rfl ?_)))))
  refine WL.q (LX.load rfl rfl (by repeat first | assumption | exact List.mem_cons_self | refine List.mem_cons_of_mem _ ?_ | refine List.mem_append_right _ ?_) rfl) rfl ?_
  refine WL.q (LX.len rfl rfl rfl) rfl (WL.q (LX.eq (LX.bin rfl rfl rfl) (fls (fun e => h5 (hal.1 e)))) rfl (WL.q (LX.move rfl) rfl (WL.yes rfl rfl (WL.q (LX.field0 rfl rfl) rfl (WL.yes rfl rfl ?_)))))
  refine WL.q (LX.load rfl rfl (by repeat first | assumption | exact List.mem_cons_self | refine List.mem_cons_of_mem _ ?_ | refine List.mem_append_right _ ?_) rfl) rfl ?_
  refine WL.yes rfl rfl (WL.q (LX.len rfl rfl rfl) rfl (WL.yes rfl rfl (WL.q (LX.eq (LX.bin rfl rfl rfl) (fls (fun e => h6 (hbl.1 e)))) rfl (WL.q (LX.pickF rfl rfl) rfl (WL.q (LX.move rfl) rfl (WL.yes rfl rfl (WL.q (LX.field0 rfl rfl) rfl (WL.yes rfl rfl ?_))))))))
  refine WL.q (LX.load rfl rfl (by repeat first | assumption | exact List.mem_cons_self | refine List.mem_cons_of_mem _ ?_ | refine List.mem_append_right _ ?_) rfl) rfl ?_
  refine WL.yes rfl rfl ?_
  refine WL.call (seven (hm fun _ hp => (by repeat first | assumption | exact List.mem_cons_self | refine List.mem_cons_of_mem _ ?_ | refine List.mem_append_right _ ?_)).a (by omega)) rfl (fun _ => by kernel_rfl) rfl ?_
  by_cases h7 : an % 2 = 0
  · rw [decide_eq_true h7]
    refine WL.yes rfl rfl (WL.q (LX.move rfl) rfl (WL.yes rfl rfl (WL.q (LX.field0 rfl rfl) rfl (WL.yes rfl rfl ?_))))
    refine WL.q (LX.load rfl rfl (by repeat first | assumption | exact List.mem_cons_self | refine List.mem_cons_of_mem _ ?_ | refine List.mem_append_right _ ?_) rfl) rfl ?_
    refine WL.yes rfl rfl ?_
    refine WL.call (seven (hm fun _ hp => (by repeat first | assumption | exact List.mem_cons_self | refine List.mem_cons_of_mem _ ?_ | refine List.mem_append_right _ ?_)).b (by omega)) rfl (fun _ => by kernel_rfl) rfl ?_
    by_cases h8 : bn % 2 = 0
    · rw [decide_eq_true h8]
      refine WL.yes rfl rfl (WL.q (LX.pickT rfl rfl) rfl (WL.q (LX.pickF rfl rfl) rfl (WL.nil (thenK_normal (WC.yes rfl (WC.seq (WC.region ?_)))))))
      refine WL.q (LX.loadR rfl rfl (by repeat first | assumption | exact List.mem_cons_self | refine List.mem_cons_of_mem _ ?_ | refine List.mem_append_right _ ?_) rfl) rfl ?_
      refine WL.put (EX.storeA rfl rfl rfl rfl rfl (by simp [Value.oneCell']) (by repeat first | assumption | exact List.mem_cons_self | refine List.mem_cons_of_mem _ ?_ | refine List.mem_append_right _ ?_) (by decide) (by repeat first | exact Upd.here | apply Upd.there | apply Upd.app)) ?_
      refine WL.q (LX.assign rfl) rfl (WL.q (LX.assign rfl) rfl (WL.nil (thenK_normal (WC.ret (thenK_ret ?_)))))
      exact KR.cell3 (.inl rfl) rfl rfl rfl rfl (by repeat first | assumption | exact List.mem_cons_self | refine List.mem_cons_of_mem _ ?_ | refine List.mem_append_right _ ?_) rfl rfl ⟨_, _, _, rfl, _, _, _, _, rfl, pre5 (N := []), fun hok => ⟨_, ds, (hm fun _ hp => (by repeat first | assumption | exact List.mem_cons_self | refine List.mem_cons_of_mem _ ?_ | refine List.mem_append_right _ ?_)).o, .k12no (by omega) (by omega) h3 h4 (.inr (.inr ⟨h7, h8⟩))⟩⟩
    · rw [decide_eq_false h8]
      refine WL.yes rfl rfl (WL.q (LX.pickT rfl rfl) rfl (WL.q (LX.pickF rfl rfl) rfl (WL.nil (thenK_normal (WC.no rfl (WC.skip (thenK_normal (WC.seq (WC.draw [(0, 0), (0, 2), (0, 5), (0, 7), (1, 1), (1, 3), (1, 6), (1, 8), (0, 9), (2, 4), (0, 10), (2, 11), (0, 12), (0, 13)] [(b8, rgO (.slice Ab fs.length capb) zb), (b7, rgO (.slice Aa es.length capa) za), (b6, rgO (.slice Ao ds.length capo) zo), (b5, stO 12 o a b m num data)] rfl (by kernel_rfl) rfl (by kernel_rfl) (DW.p rfl rfl (fun _ => LX.field0 rfl rfl) rfl (DW.p rfl rfl (fun _ => LX.field0 rfl rfl) rfl (DW.p rfl rfl (fun _ => LX.field0 rfl rfl) rfl (DW.p rfl rfl (fun _ => LX.field0 rfl rfl) rfl ?_)))))))))))))
      refine DW.r rfl rfl (LX.load rfl rfl (by repeat first | assumption | exact List.mem_cons_self | refine List.mem_cons_of_mem _ ?_ | refine List.mem_append_right _ ?_) rfl) (in4 (L := [])) rfl ?_
      refine DW.r rfl rfl (LX.load rfl rfl (by repeat first | assumption | exact List.mem_cons_self | refine List.mem_cons_of_mem _ ?_ | refine List.mem_append_right _ ?_) rfl) (in4 (L := [])) rfl ?_
      refine DW.r rfl rfl (LX.load rfl rfl (by repeat first | assumption | exact List.mem_cons_self | refine List.mem_cons_of_mem _ ?_ | refine List.mem_append_right _ ?_) rfl) (in4 (L := [])) rfl ?_
      refine DW.r rfl rfl (LX.load rfl rfl (by repeat first | assumption | exact List.mem_cons_self | refine List.mem_cons_of_mem _ ?_ | refine List.mem_append_right _ ?_) rfl) (in4 (L := [])) rfl ?_
      refine DW.p rfl rfl (fun _ => LX.max rfl rfl) rfl ?_
      refine DW.f rfl rfl (EX.call rfl (fun _ => by kernel_rfl) (sdivisor (hm fun _ hp => (by repeat first | assumption | exact List.mem_cons_self | refine List.mem_cons_of_mem _ ?_ | refine List.mem_append_right _ ?_)).a (hm fun _ hp => (by repeat first | assumption | exact List.mem_cons_self | refine List.mem_cons_of_mem _ ?_ | refine List.mem_append_right _ ?_)).b (by omega) (by omega))) rfl ?_
      rintro x _ ⟨N, gs, g, rfl, hx, hc⟩
      obtain ⟨Ax, capx, rfl, -⟩ := hx.mem.form
      refine ⟨in4, ?_⟩
      refine DW.p rfl rfl (fun _ => LX.build rfl (fun w => reg_build _ _ _ _ w)) rfl ?_
      refine DW.fput rfl rfl (EX.storeA rfl rfl rfl rfl rfl (by simp [Value.oneCell']) (by repeat first | assumption | exact List.mem_cons_self | refine List.mem_cons_of_mem _ ?_ | refine List.mem_append_right _ ?_) (by decide) (by repeat first | exact Upd.here | apply Upd.there | apply Upd.app)) in4 ?_
      refine DW.p rfl rfl (fun _ => LX.assign rfl) rfl (DW.p rfl rfl (fun _ => LX.assign rfl) rfl (DW.nil (thenK_normal (WC.ret ?_))))
      exact KR.cell3 (.inl rfl) rfl rfl rfl rfl (by repeat first | assumption | exact List.mem_cons_self | refine List.mem_cons_of_mem _ ?_ | refine List.mem_append_right _ ?_) rfl rfl ⟨_, _, _, rfl, _, _, _, _, rfl, pre5, fun hok => ⟨g, gs, hx.skip, .k12yes (by omega) (by omega) h3 h4 (by omega) hx.nonneg hc⟩⟩
  · rw [decide_eq_false h7]
    refine WL.yes rfl rfl (WL.q (LX.move rfl) rfl (WL.no rfl rfl (by decide) rfl (WL.no rfl rfl (by decide) rfl (WL.no rfl rfl (by decide) rfl (WL.yes rfl rfl (WL.q (LX.pickF rfl rfl) rfl (WL.q (LX.pickF rfl rfl) rfl (WL.nil (thenK_normal (WC.no rfl (WC.skip (thenK_normal (WC.seq ?_)))))))))))))
    refine WC.draw [(0, 0), (0, 2), (0, 5), (0, 7), (1, 1), (1, 3), (1, 6), (1, 8), (0, 9), (2, 4), (0, 10), (2, 11), (0, 12), (0, 13)] [(b8, rgO (.slice Ab fs.length capb) zb), (b7, rgO (.slice Aa es.length capa) za), (b6, rgO (.slice Ao ds.length capo) zo), (b5, stO 12 o a b m num data)] rfl (by kernel_rfl) rfl (by kernel_rfl) (DW.p rfl rfl (fun _ => LX.field0 rfl rfl) rfl (DW.p rfl rfl (fun _ => LX.field0 rfl rfl) rfl (DW.p rfl rfl (fun _ => LX.field0 rfl rfl) rfl (DW.p rfl rfl (fun _ => LX.field0 rfl rfl) rfl ?_))))
    refine DW.r rfl rfl (LX.load rfl rfl (by repeat first | assumption | exact List.mem_cons_self | refine List.mem_cons_of_mem _ ?_ | refine List.mem_append_right _ ?_) rfl) (in4 (L := [])) rfl ?_
    refine DW.r rfl rfl (LX.load rfl rfl (by repeat first | assumption | exact List.mem_cons_self | refine List.mem_cons_of_mem _ ?_ | refine List.mem_append_right _ ?_) rfl) (in4 (L := [])) rfl ?_
    refine DW.r rfl rfl (LX.load rfl rfl (by repeat first | assumption | exact List.mem_cons_self | refine List.mem_cons_of_mem _ ?_ | refine List.mem_append_right _ ?_) rfl) (in4 (L := [])) rfl ?_
    refine DW.r rfl rfl (LX.load rfl rfl (by repeat first | assumption | exact List.mem_cons_self | refine List.mem_cons_of_mem _ ?_ | refine List.mem_append_right _ ?_) rfl) (in4 (L := [])) rfl ?_
    refine DW.p rfl rfl (fun _ => LX.max rfl rfl) rfl ?_
    refine DW.f rfl rfl (EX.call rfl (fun _ => by kernel_rfl) (sdivisor (hm fun _ hp => (by repeat first | assumption | exact List.mem_cons_self | refine List.mem_cons_of_mem _ ?_ | refine List.mem_append_right _ ?_)).a (hm fun _ hp => (by repeat first | assumption | exact List.mem_cons_self | refine List.mem_cons_of_mem _ ?_ | refine List.mem_append_right _ ?_)).b (by omega) (by omega))) rfl ?_
    rintro x _ ⟨N, gs, g, rfl, hx, hc⟩
    obtain ⟨Ax, capx, rfl, -⟩ := hx.mem.form
    refine ⟨in4, ?_⟩
    refine DW.p rfl rfl (fun _ => LX.build rfl (fun w => reg_build _ _ _ _ w)) rfl ?_
    refine DW.fput rfl rfl (EX.storeA rfl rfl rfl rfl rfl (by simp [Value.oneCell']) (by repeat first | assumption | exact List.mem_cons_self | refine List.mem_cons_of_mem _ ?_ | refine List.mem_append_right _ ?_) (by decide) (by repeat first | exact Upd.here | apply Upd.there | apply Upd.app)) in4 ?_
    refine DW.p rfl rfl (fun _ => LX.assign rfl) rfl (DW.p rfl rfl (fun _ => LX.assign rfl) rfl (DW.nil (thenK_normal (WC.ret ?_))))
    exact KR.cell3 (.inl rfl) rfl rfl rfl rfl (by repeat first | assumption | exact List.mem_cons_self | refine List.mem_cons_of_mem _ ?_ | refine List.mem_append_right _ ?_) rfl rfl ⟨_, _, _, rfl, _, _, _, _, rfl, pre5, fun hok => ⟨g, gs, hx.skip, .k12yes (by omega) (by omega) h3 h4 (by omega) hx.nonneg hc⟩⟩
end
end Go.Proofs.YtdnngppofbmpeaaGreatDoor.Bm
