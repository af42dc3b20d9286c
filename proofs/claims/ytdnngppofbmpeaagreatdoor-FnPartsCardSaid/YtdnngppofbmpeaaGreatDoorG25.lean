/- Proved here: what asked of the reference does. Conditions: none but those that each theorem states. -/
import Derived.Test.YtdnngppofbmpeaaGreatDoorG24
namespace Go.Proofs.YtdnngppofbmpeaaGreatDoor.Bm
open Go Go.RowKit

theorem pre3a {M : Mem} {a b c : Nat × Obj} : ∃ N', a :: b :: c :: M = N' ++ M := ⟨[a, b, c], rfl⟩
theorem ite_b1 {p : Prop} [Decidable p] {b : Bool} (h : b = true ↔ p) : (if b = true then (1 : Int) else 0) = b1 p := by
  unfold b1
  by_cases hp : p
  · rw [if_pos (h.2 hp), if_pos hp]
  · rw [if_neg (fun e => hp (h.1 e)), if_neg hp]

section
variable {w0 : World} {M : Mem} {o a b m num : Int} {data : Value} {bs : List Int} {vo va vb vm : Value} {on zo an za bn zb V : Int} {ds es fs ms : List Int} {km : Nat}
theorem len_zero {K : Mem} {v : Value} {n : Int} {es : List Int} (h : Num K v n es) : ((es.length : Int) = 0) ↔ n = 0 := by
  rw [h.zero]; constructor
  · intro e; exact List.length_eq_zero_iff.1 (by omega)
  · intro e; rw [e]; rfl
theorem len_one {K : Mem} {v : Value} {n : Int} {es : List Int} (h : Num K v n es) (h1 : (es.length : Int) = 1) : n = gt es 0 := by
  obtain ⟨z, rfl⟩ : ∃ z, es = [z] := List.length_eq_one_iff.1 (by omega)
  rw [← h.val]; simp [gt]
theorem one_len {K : Mem} {v : Value} {es : List Int} (h : Num K v 1 es) : (es.length : Int) = 1 := by
  have h2 := h.len (k := 1) (by decide)
  have h3 := h.pos (by decide)
  omega

theorem sasked16 (h : SI M vo va vb vm on an bn V ds es fs ms km) :
    CS w0 30 [stV 16 o a b m num data, rg va za, rg vb zb, vm] M (fun u M' => ∃ t ok, u = .tuple #[.int .i64 t, .bool ok] ∧ (∃ N, M' = N ++ M) ∧ (ok = true → PS num bs (o = a) (o = b) on zo an za bn zb V km 16 on zo t)) := by
  have hla := h.la
  have hin : ∀ {K : Mem}, (∀ p ∈ M, p ∈ K) → SI K vo va vb vm on an bn V ds es fs ms km := fun hk => h.mono hk
  have ha := h.a
  obtain ⟨Aa, capa, rfl, hA⟩ := h.a.mem.form
  have hodd : (!decide (an % 2 = 0)) = true ↔ an % 2 = 1 := by simp only [Bool.not_eq_true', decide_eq_false_iff_not]; omega
  refine CS.of Tryz.func30 Tryz.ntmps30 rfl rfl (WC.seq (WC.region (WL.step rfl (EX.box rfl) ?_)))
  rintro _ _ ⟨b4, rfl, rfl⟩
  refine WL.step rfl (EX.box rfl) ?_
  rintro _ _ ⟨b5, rfl, rfl⟩
  refine WL.step rfl (EX.box rfl) ?_
  rintro _ _ ⟨b6, rfl, rfl⟩
  refine WL.q (LX.assign rfl) rfl (WL.q (LX.assign rfl) rfl (WL.nil (thenK_normal (WC.seq (WC.seq (WC.region (WL.q (LX.field0 rfl rfl) rfl ?_)))))))
  refine WL.q (LX.load rfl rfl (by repeat first | assumption | exact List.mem_cons_self | refine List.mem_cons_of_mem _ ?_ | refine List.mem_append_right _ ?_) rfl) rfl ?_
  refine WL.nil (thenK_normal (WC.block (WC.seq (WC.region (WL.q (LX.bin rfl rfl rfl) rfl (WL.q (LX.assign rfl) rfl (WL.nil (thenK_normal ?_))))))))
  by_cases h1 : (es.length : Int) = 1
  · obtain ⟨b1', o1, full1, rfl, hm1, hl1, hs1, hc1⟩ := hA (by omega)
    have hg1 : gt full1 (o1 + 0) = an := by rw [len_one ha h1, ← sliceL_gt (k := es.length) (by omega), hs1]
    have hms : ∀ p ∈ [(b5, rgO (.slice (some ⟨b1', o1, none⟩) es.length capa) za), (b1', ints full1)], p ∈ (b6, rgO vb zb) :: (b5, rgO (.slice (some ⟨b1', o1, none⟩) es.length capa) za) :: (b4, stO 16 o a b m num data) :: M := by
      intro p hp
      simp only [List.mem_cons, List.not_mem_nil, or_false] at hp
      rcases hp with rfl | rfl
      · exact (by repeat first | assumption | exact List.mem_cons_self | refine List.mem_cons_of_mem _ ?_ | refine List.mem_append_right _ ?_)
      · exact (by repeat first | assumption | exact List.mem_cons_self | refine List.mem_cons_of_mem _ ?_ | refine List.mem_append_right _ ?_)
    refine WC.yes rfl (WC.seq (WC.draw [(0, 0), (0, 5), (0, 19), (0, 26), (0, 31), (1, 1), (0, 2), (0, 3), (1, 6), (0, 7), (0, 8), (1, 20), (1, 27), (1, 32), (0, 33), (2, 4), (0, 9), (0, 10), (1, 11), (0, 12), (1, 13), (0, 14), (0, 15), (2, 16), (0, 17), (0, 18), (2, 21), (0, 22), (2, 23), (0, 24), (0, 25), (2, 28), (0, 29), (0, 30), (0, 34), (0, 35)] [(b5, rgO (.slice (some ⟨b1', o1, none⟩) es.length capa) za), (b1', ints full1)] rfl (by kernel_rfl) rfl (by kernel_rfl) (DW.p rfl rfl (fun _ => LX.field0 rfl rfl) rfl (DW.p rfl rfl (fun _ => LX.field0 rfl rfl) rfl (DW.p rfl rfl (fun _ => LX.field0 rfl rfl) rfl (DW.p rfl rfl (fun _ => LX.field0 rfl rfl) rfl (DW.p rfl rfl (fun _ => LX.field0 rfl rfl) rfl ?_)))))))
    refine DW.r rfl rfl (LX.load rfl rfl (by repeat first | assumption | exact List.mem_cons_self | refine List.mem_cons_of_mem _ ?_ | refine List.mem_append_right _ ?_) rfl) hms rfl ?_
    refine DW.p rfl rfl (fun _ => LX.len rfl rfl rfl) rfl (DW.p rfl rfl (fun _ => LX.bin rfl rfl rfl) rfl ?_)
    refine DW.r rfl rfl (LX.load rfl rfl (by repeat first | assumption | exact List.mem_cons_self | refine List.mem_cons_of_mem _ ?_ | refine List.mem_append_right _ ?_) rfl) hms rfl ?_
    refine DW.p rfl rfl (fun _ => LX.len rfl rfl rfl) rfl (DW.p rfl rfl (fun _ => LX.eq (LX.bin rfl rfl rfl) (tru h1)) rfl ?_)
    refine DW.r rfl rfl (LX.load rfl rfl (by repeat first | assumption | exact List.mem_cons_self | refine List.mem_cons_of_mem _ ?_ | refine List.mem_append_right _ ?_) rfl) hms rfl ?_
    refine DW.r rfl rfl (LX.load rfl rfl (by repeat first | assumption | exact List.mem_cons_self | refine List.mem_cons_of_mem _ ?_ | refine List.mem_append_right _ ?_) rfl) hms rfl ?_
    refine DW.r rfl rfl (LX.load rfl rfl (by repeat first | assumption | exact List.mem_cons_self | refine List.mem_cons_of_mem _ ?_ | refine List.mem_append_right _ ?_) rfl) hms rfl ?_
    refine DW.p rfl rfl (fun _ => LX.bin rfl rfl rfl) rfl (DW.fval rfl rfl (EX.call rfl (fun _ => by kernel_rfl) sone) hms rfl (DW.p rfl rfl (fun _ => LX.move rfl) rfl (DW.p rfl rfl (fun _ => LX.field0 rfl rfl) rfl ?_)))
    refine DW.r rfl rfl (LX.load rfl rfl (by repeat first | assumption | exact List.mem_cons_self | refine List.mem_cons_of_mem _ ?_ | refine List.mem_append_right _ ?_) rfl) hms rfl ?_
    refine DW.p rfl rfl (fun _ => LX.idxo rfl rfl rfl 0 rfl (by omega)) rfl ?_
    refine DW.r rfl rfl (LX.eq (LX.loadRow rfl rfl (by repeat first | assumption | exact List.mem_cons_self | refine List.mem_cons_of_mem _ ?_) (by omega)) (by rw [hg1])) hms rfl ?_
    refine DW.p rfl rfl (fun _ => LX.bin rfl rfl rfl) rfl (DW.p rfl rfl (fun _ => LX.pickT rfl rfl) rfl (DW.fval rfl rfl (EX.call rfl (fun _ => by kernel_rfl) sone) hms rfl (DW.p rfl rfl (fun _ => LX.mulI rfl rfl (by split <;> omega)) rfl (DW.p rfl rfl (fun _ => LX.addI rfl rfl (by split <;> split <;> omega)) rfl ?_))))
    refine DW.fval rfl rfl (EX.call rfl (fun _ => by kernel_rfl) (seven (hin fun _ hp => (by repeat first | assumption | exact List.mem_cons_self | refine List.mem_cons_of_mem _ ?_ | refine List.mem_append_right _ ?_)).a (by omega))) hms rfl ?_
    refine DW.p rfl rfl (fun _ => LX.not rfl) rfl (DW.fval rfl rfl (EX.call rfl (fun _ => by kernel_rfl) sone) hms rfl (DW.p rfl rfl (fun _ => LX.mulI rfl rfl (by split <;> omega)) rfl (DW.p rfl rfl (fun _ => LX.addI rfl rfl (by split <;> split <;> split <;> omega)) rfl ?_)))
    refine DW.f rfl rfl (EX.call rfl (fun _ => by kernel_rfl) (sbits (hin fun _ hp => (by repeat first | assumption | exact List.mem_cons_self | refine List.mem_cons_of_mem _ ?_ | refine List.mem_append_right _ ?_)).a (by omega))) rfl ?_
    rintro _ _ ⟨⟨k, rfl, hk, hbl⟩, hM⟩
    subst hM
    refine ⟨hms, ?_⟩
    refine DW.p rfl rfl (fun _ => LX.mulI rfl rfl (by omega)) rfl (DW.p rfl rfl (fun _ => LX.addI rfl rfl (by split <;> split <;> split <;> omega)) rfl (DW.p rfl rfl (fun _ => LX.assign rfl) rfl (DW.p rfl rfl (fun _ => LX.assign rfl) rfl (DW.nil (thenK_normal (WC.ret (blockK_ret (thenK_ret ?_))))))))
    refine KR.two (.inl rfl) rfl rfl rfl ⟨_, _, rfl, pre3a, fun hok => ?_⟩
    rw [ite_b1 (p := an = 0) (by rw [decide_eq_true_iff]; exact len_zero ha), ite_b1 (p := an = 1) (by simp), ite_b1 hodd]
    exact .k16 (of_decide_eq_true hok) hbl
  · have h1' : ¬ an = 1 := by rintro rfl; exact h1 (one_len ha)
    have hms : ∀ p ∈ [(b5, rgO (.slice Aa es.length capa) za)], p ∈ (b6, rgO vb zb) :: (b5, rgO (.slice Aa es.length capa) za) :: (b4, stO 16 o a b m num data) :: M := by
      intro p hp
      simp only [List.mem_cons, List.not_mem_nil, or_false] at hp
      subst hp
      exact (by repeat first | assumption | exact List.mem_cons_self | refine List.mem_cons_of_mem _ ?_ | refine List.mem_append_right _ ?_)
    refine WC.yes rfl (WC.seq (WC.draw [(0, 0), (0, 5), (0, 19), (0, 26), (0, 31), (1, 1), (0, 2), (0, 3), (1, 6), (0, 7), (0, 8), (1, 20), (1, 27), (1, 32), (0, 33), (2, 4), (0, 9), (0, 10), (0, 11), (0, 12), (0, 13), (0, 14), (0, 15), (2, 16), (0, 17), (0, 18), (2, 21), (0, 22), (2, 23), (0, 24), (0, 25), (2, 28), (0, 29), (0, 30), (0, 34), (0, 35)] [(b5, rgO (.slice Aa es.length capa) za)] rfl (by kernel_rfl) rfl (by kernel_rfl) (DW.p rfl rfl (fun _ => LX.field0 rfl rfl) rfl (DW.p rfl rfl (fun _ => LX.field0 rfl rfl) rfl (DW.p rfl rfl (fun _ => LX.field0 rfl rfl) rfl (DW.p rfl rfl (fun _ => LX.field0 rfl rfl) rfl (DW.p rfl rfl (fun _ => LX.field0 rfl rfl) rfl ?_)))))))
    refine DW.r rfl rfl (LX.load rfl rfl (by repeat first | assumption | exact List.mem_cons_self | refine List.mem_cons_of_mem _ ?_ | refine List.mem_append_right _ ?_) rfl) hms rfl ?_
    refine DW.p rfl rfl (fun _ => LX.len rfl rfl rfl) rfl (DW.p rfl rfl (fun _ => LX.bin rfl rfl rfl) rfl ?_)
    refine DW.r rfl rfl (LX.load rfl rfl (by repeat first | assumption | exact List.mem_cons_self | refine List.mem_cons_of_mem _ ?_ | refine List.mem_append_right _ ?_) rfl) hms rfl ?_
    refine DW.p rfl rfl (fun _ => LX.len rfl rfl rfl) rfl (DW.p rfl rfl (fun _ => LX.eq (LX.bin rfl rfl rfl) (fls h1)) rfl ?_)
    refine DW.r rfl rfl (LX.load rfl rfl (by repeat first | assumption | exact List.mem_cons_self | refine List.mem_cons_of_mem _ ?_ | refine List.mem_append_right _ ?_) rfl) hms rfl ?_
    refine DW.r rfl rfl (LX.load rfl rfl (by repeat first | assumption | exact List.mem_cons_self | refine List.mem_cons_of_mem _ ?_ | refine List.mem_append_right _ ?_) rfl) hms rfl ?_
    refine DW.r rfl rfl (LX.load rfl rfl (by repeat first | assumption | exact List.mem_cons_self | refine List.mem_cons_of_mem _ ?_ | refine List.mem_append_right _ ?_) rfl) hms rfl ?_
    refine DW.p rfl rfl (fun _ => LX.bin rfl rfl rfl) rfl (DW.fval rfl rfl (EX.call rfl (fun _ => by kernel_rfl) sone) hms rfl (DW.p rfl rfl (fun _ => LX.move rfl) rfl (DW.skip rfl rfl rfl (DW.skip rfl rfl rfl (DW.skip rfl rfl rfl (DW.skip rfl rfl rfl (DW.skip rfl rfl rfl (DW.p rfl rfl (fun _ => LX.pickF rfl rfl) rfl (DW.fval rfl rfl (EX.call rfl (fun _ => by kernel_rfl) sone) hms rfl (DW.p rfl rfl (fun _ => LX.mulI rfl rfl (by split <;> omega)) rfl (DW.p rfl rfl (fun _ => LX.addI rfl rfl (by split <;> split <;> omega)) rfl ?_)))))))))))
    refine DW.fval rfl rfl (EX.call rfl (fun _ => by kernel_rfl) (seven (hin fun _ hp => (by repeat first | assumption | exact List.mem_cons_self | refine List.mem_cons_of_mem _ ?_ | refine List.mem_append_right _ ?_)).a (by omega))) hms rfl ?_
    refine DW.p rfl rfl (fun _ => LX.not rfl) rfl (DW.fval rfl rfl (EX.call rfl (fun _ => by kernel_rfl) sone) hms rfl (DW.p rfl rfl (fun _ => LX.mulI rfl rfl (by split <;> omega)) rfl (DW.p rfl rfl (fun _ => LX.addI rfl rfl (by split <;> split <;> split <;> omega)) rfl ?_)))
    refine DW.f rfl rfl (EX.call rfl (fun _ => by kernel_rfl) (sbits (hin fun _ hp => (by repeat first | assumption | exact List.mem_cons_self | refine List.mem_cons_of_mem _ ?_ | refine List.mem_append_right _ ?_)).a (by omega))) rfl ?_
    rintro _ _ ⟨⟨k, rfl, hk, hbl⟩, hM⟩
    subst hM
    refine ⟨hms, ?_⟩
    refine DW.p rfl rfl (fun _ => LX.mulI rfl rfl (by omega)) rfl (DW.p rfl rfl (fun _ => LX.addI rfl rfl (by split <;> split <;> split <;> omega)) rfl (DW.p rfl rfl (fun _ => LX.assign rfl) rfl (DW.p rfl rfl (fun _ => LX.assign rfl) rfl (DW.nil (thenK_normal (WC.ret (blockK_ret (thenK_ret ?_))))))))
    refine KR.two (.inl rfl) rfl rfl rfl ⟨_, _, rfl, pre3a, fun hok => ?_⟩
    rw [ite_b1 (p := an = 0) (by rw [decide_eq_true_iff]; exact len_zero ha), ite_b1 (p := an = 1) (by simp [h1']), ite_b1 hodd]
    exact .k16 (of_decide_eq_true hok) hbl

theorem sasked17 (h : SI M vo va vb vm on an bn V ds es fs ms km) :
    CS w0 30 [stV 17 o a b m num data, rg va za, rg vb zb, vm] M (fun u M' => ∃ t ok, u = .tuple #[.int .i64 t, .bool ok] ∧ (∃ N, M' = N ++ M) ∧ (ok = true → PS num bs (o = a) (o = b) on zo an za bn zb V km 17 on zo t)) := by
  have hla := h.la
  have hlb := h.lb
  have hlm := h.lm
  have hV := h.V1
  have hin : ∀ {K : Mem}, (∀ p ∈ M, p ∈ K) → SI K vo va vb vm on an bn V ds es fs ms km := fun hk => h.mono hk
  have ha := h.a
  obtain ⟨Aa, capa, rfl, hA⟩ := h.a.mem.form
  refine CS.of Tryz.func30 Tryz.ntmps30 rfl rfl (WC.seq (WC.region (WL.step rfl (EX.box rfl) ?_)))
  rintro _ _ ⟨b4, rfl, rfl⟩
  refine WL.step rfl (EX.box rfl) ?_
  rintro _ _ ⟨b5, rfl, rfl⟩
  refine WL.step rfl (EX.box rfl) ?_
  rintro _ _ ⟨b6, rfl, rfl⟩
  refine WL.q (LX.assign rfl) rfl (WL.q (LX.assign rfl) rfl (WL.nil (thenK_normal (WC.seq (WC.seq (WC.region (WL.q (LX.field0 rfl rfl) rfl ?_)))))))
  refine WL.q (LX.load rfl rfl (by repeat first | assumption | exact List.mem_cons_self | refine List.mem_cons_of_mem _ ?_ | refine List.mem_append_right _ ?_) rfl) rfl ?_
  refine WL.nil (thenK_normal (WC.block (WC.seq (WC.region (WL.q (LX.bin rfl rfl rfl) rfl (WL.q (LX.assign rfl) rfl (WL.nil (thenK_normal (WC.no rfl (WC.seq (WC.region (WL.q (LX.bin rfl rfl rfl) rfl (WL.q (LX.assign rfl) rfl ?_)))))))))))))
  refine WL.nil (thenK_normal ?_)
  by_cases hc1T : an < bn ∧ 0 < za
  · obtain ⟨h1, h2⟩ := hc1T
    refine WC.yes rfl (WC.seq (WC.draw [(0, 0), (0, 2), (0, 15), (1, 1), (1, 3), (1, 16), (0, 17), (2, 4), (0, 5), (0, 6), (0, 7), (0, 8), (0, 9), (0, 10), (0, 11), (0, 12), (0, 13), (2, 14), (0, 18), (0, 19), (0, 21), (0, 25), (1, 20), (1, 22), (0, 23), (0, 24), (0, 26)] ((b6, rgO vb zb) :: (b5, rgO (.slice Aa es.length capa) za) :: (b4, stO 17 o a b m num data) :: M) rfl (by kernel_rfl) rfl (by kernel_rfl) (DW.p rfl rfl (fun _ => LX.field0 rfl rfl) rfl (DW.p rfl rfl (fun _ => LX.field0 rfl rfl) rfl (DW.p rfl rfl (fun _ => LX.field0 rfl rfl) rfl ?_)))))
    refine DW.r rfl rfl (LX.load rfl rfl (by repeat first | assumption | exact List.mem_cons_self | refine List.mem_cons_of_mem _ ?_ | refine List.mem_append_right _ ?_) rfl) (fun _ h => h) rfl ?_
    refine DW.r rfl rfl (LX.load rfl rfl (by repeat first | assumption | exact List.mem_cons_self | refine List.mem_cons_of_mem _ ?_ | refine List.mem_append_right _ ?_) rfl) (fun _ h => h) rfl ?_
    refine DW.r rfl rfl (LX.load rfl rfl (by repeat first | assumption | exact List.mem_cons_self | refine List.mem_cons_of_mem _ ?_ | refine List.mem_append_right _ ?_) rfl) (fun _ h => h) rfl ?_
    refine DW.p rfl rfl (fun _ => LX.eq (LX.bin rfl rfl rfl) (tru h2)) rfl ?_
    refine DW.fval rfl rfl (EX.call rfl (fun _ => by kernel_rfl) (sless (hin fun _ hp => (by repeat first | assumption | exact List.mem_cons_self | refine List.mem_cons_of_mem _ ?_ | refine List.mem_append_right _ ?_)).a (hin fun _ hp => (by repeat first | assumption | exact List.mem_cons_self | refine List.mem_cons_of_mem _ ?_ | refine List.mem_append_right _ ?_)).b (by omega) (by omega))) (fun _ h => h) rfl ?_
    rw [decide_eq_true h1]
    refine DW.p rfl rfl (fun _ => LX.not rfl) rfl (DW.p rfl rfl (fun _ => LX.move rfl) rfl (DW.skip rfl rfl rfl (DW.skip rfl rfl rfl (DW.skip rfl rfl rfl (DW.skip rfl rfl rfl (DW.skip rfl rfl rfl (DW.skip rfl rfl rfl (DW.p rfl rfl (fun _ => LX.pickF rfl rfl) rfl (DW.fval rfl rfl (EX.call rfl (fun _ => by kernel_rfl) sone) (fun _ h => h) rfl (DW.p rfl rfl (fun _ => LX.move rfl) rfl (DW.p rfl rfl (fun _ => LX.field0 rfl rfl) rfl (DW.p rfl rfl (fun _ => LX.field0 rfl rfl) rfl (DW.p rfl rfl (fun _ => LX.assign rfl) rfl ?_)))))))))))))
    refine DW.r rfl rfl (LX.load rfl rfl (by repeat first | assumption | exact List.mem_cons_self | refine List.mem_cons_of_mem _ ?_ | refine List.mem_append_right _ ?_) rfl) (fun _ h => h) rfl ?_
    refine DW.r rfl rfl (LX.load rfl rfl (by repeat first | assumption | exact List.mem_cons_self | refine List.mem_cons_of_mem _ ?_ | refine List.mem_append_right _ ?_) rfl) (fun _ h => h) rfl ?_
    refine DW.p rfl rfl (fun _ => LX.bin rfl rfl rfl) rfl (DW.p rfl rfl (fun _ => LX.pickT rfl rfl) rfl (DW.p rfl rfl (fun _ => LX.assign rfl) rfl (DW.nil (thenK_normal (WC.ret (blockK_ret (thenK_ret ?_)))))))
    refine KR.two (.inl rfl) rfl rfl rfl ⟨_, _, rfl, pre3a, fun hok => ?_⟩
    rw [show (if false = true then (1 : Int) else 0) = b1 (an = bn) from by rw [b1_not (by omega)]; rfl]
    exact .k17 h2 (of_decide_eq_true hok)
  by_cases hc1F : an < bn ∧ ¬ 0 < za
  · obtain ⟨h1, h2⟩ := hc1F
    refine WC.yes rfl (WC.seq (WC.draw [(0, 0), (0, 2), (0, 15), (1, 1), (1, 3), (1, 16), (0, 17), (2, 4), (0, 5), (0, 6), (0, 7), (0, 8), (0, 9), (0, 10), (0, 11), (0, 12), (0, 13), (2, 14), (0, 18), (0, 19), (0, 20), (0, 21), (0, 22), (0, 23), (0, 24), (0, 25), (0, 26)] ((b6, rgO vb zb) :: (b5, rgO (.slice Aa es.length capa) za) :: (b4, stO 17 o a b m num data) :: M) rfl (by kernel_rfl) rfl (by kernel_rfl) (DW.p rfl rfl (fun _ => LX.field0 rfl rfl) rfl (DW.p rfl rfl (fun _ => LX.field0 rfl rfl) rfl (DW.p rfl rfl (fun _ => LX.field0 rfl rfl) rfl ?_)))))
    refine DW.r rfl rfl (LX.load rfl rfl (by repeat first | assumption | exact List.mem_cons_self | refine List.mem_cons_of_mem _ ?_ | refine List.mem_append_right _ ?_) rfl) (fun _ h => h) rfl ?_
    refine DW.r rfl rfl (LX.load rfl rfl (by repeat first | assumption | exact List.mem_cons_self | refine List.mem_cons_of_mem _ ?_ | refine List.mem_append_right _ ?_) rfl) (fun _ h => h) rfl ?_
    refine DW.r rfl rfl (LX.load rfl rfl (by repeat first | assumption | exact List.mem_cons_self | refine List.mem_cons_of_mem _ ?_ | refine List.mem_append_right _ ?_) rfl) (fun _ h => h) rfl ?_
    refine DW.p rfl rfl (fun _ => LX.eq (LX.bin rfl rfl rfl) (fls h2)) rfl ?_
    refine DW.fval rfl rfl (EX.call rfl (fun _ => by kernel_rfl) (sless (hin fun _ hp => (by repeat first | assumption | exact List.mem_cons_self | refine List.mem_cons_of_mem _ ?_ | refine List.mem_append_right _ ?_)).a (hin fun _ hp => (by repeat first | assumption | exact List.mem_cons_self | refine List.mem_cons_of_mem _ ?_ | refine List.mem_append_right _ ?_)).b (by omega) (by omega))) (fun _ h => h) rfl ?_
    rw [decide_eq_true h1]
    refine DW.p rfl rfl (fun _ => LX.not rfl) rfl (DW.p rfl rfl (fun _ => LX.move rfl) rfl (DW.skip rfl rfl rfl (DW.skip rfl rfl rfl (DW.skip rfl rfl rfl (DW.skip rfl rfl rfl (DW.skip rfl rfl rfl (DW.skip rfl rfl rfl (DW.p rfl rfl (fun _ => LX.pickF rfl rfl) rfl (DW.fval rfl rfl (EX.call rfl (fun _ => by kernel_rfl) sone) (fun _ h => h) rfl (DW.p rfl rfl (fun _ => LX.move rfl) rfl (DW.skip rfl rfl rfl (DW.skip rfl rfl rfl (DW.skip rfl rfl rfl ?_)))))))))))))
    refine DW.skip rfl rfl rfl (DW.skip rfl rfl rfl (DW.p rfl rfl (fun _ => LX.pickF rfl rfl) rfl (DW.p rfl rfl (fun _ => LX.assign rfl) rfl (DW.p rfl rfl (fun _ => LX.assign rfl) rfl (DW.nil (thenK_normal (WC.ret (blockK_ret (thenK_ret ?_)))))))))
    exact KR.two (.inl rfl) rfl rfl rfl ⟨_, _, rfl, pre3a, fun hok => by cases hok⟩
  by_cases hc2T : ¬ an < bn ∧ 0 < za
  · obtain ⟨h1, h2⟩ := hc2T
    refine WC.yes rfl (WC.seq (WC.draw [(0, 0), (0, 2), (0, 15), (1, 1), (1, 3), (1, 16), (0, 17), (2, 4), (0, 5), (0, 6), (0, 7), (0, 9), (1, 8), (1, 10), (2, 11), (0, 12), (0, 13), (2, 14), (0, 18), (0, 19), (0, 21), (0, 25), (1, 20), (1, 22), (0, 23), (0, 24), (0, 26)] ((b6, rgO vb zb) :: (b5, rgO (.slice Aa es.length capa) za) :: (b4, stO 17 o a b m num data) :: M) rfl (by kernel_rfl) rfl (by kernel_rfl) (DW.p rfl rfl (fun _ => LX.field0 rfl rfl) rfl (DW.p rfl rfl (fun _ => LX.field0 rfl rfl) rfl (DW.p rfl rfl (fun _ => LX.field0 rfl rfl) rfl ?_)))))
    refine DW.r rfl rfl (LX.load rfl rfl (by repeat first | assumption | exact List.mem_cons_self | refine List.mem_cons_of_mem _ ?_ | refine List.mem_append_right _ ?_) rfl) (fun _ h => h) rfl ?_
    refine DW.r rfl rfl (LX.load rfl rfl (by repeat first | assumption | exact List.mem_cons_self | refine List.mem_cons_of_mem _ ?_ | refine List.mem_append_right _ ?_) rfl) (fun _ h => h) rfl ?_
    refine DW.r rfl rfl (LX.load rfl rfl (by repeat first | assumption | exact List.mem_cons_self | refine List.mem_cons_of_mem _ ?_ | refine List.mem_append_right _ ?_) rfl) (fun _ h => h) rfl ?_
    refine DW.p rfl rfl (fun _ => LX.eq (LX.bin rfl rfl rfl) (tru h2)) rfl ?_
    refine DW.fval rfl rfl (EX.call rfl (fun _ => by kernel_rfl) (sless (hin fun _ hp => (by repeat first | assumption | exact List.mem_cons_self | refine List.mem_cons_of_mem _ ?_ | refine List.mem_append_right _ ?_)).a (hin fun _ hp => (by repeat first | assumption | exact List.mem_cons_self | refine List.mem_cons_of_mem _ ?_ | refine List.mem_append_right _ ?_)).b (by omega) (by omega))) (fun _ h => h) rfl ?_
    rw [decide_eq_false h1]
    refine DW.p rfl rfl (fun _ => LX.not rfl) rfl (DW.p rfl rfl (fun _ => LX.move rfl) rfl (DW.p rfl rfl (fun _ => LX.field0 rfl rfl) rfl (DW.p rfl rfl (fun _ => LX.field0 rfl rfl) rfl ?_)))
    refine DW.r rfl rfl (LX.load rfl rfl (by repeat first | assumption | exact List.mem_cons_self | refine List.mem_cons_of_mem _ ?_ | refine List.mem_append_right _ ?_) rfl) (fun _ h => h) rfl ?_
    refine DW.r rfl rfl (LX.load rfl rfl (by repeat first | assumption | exact List.mem_cons_self | refine List.mem_cons_of_mem _ ?_ | refine List.mem_append_right _ ?_) rfl) (fun _ h => h) rfl ?_
    refine DW.fval rfl rfl (EX.call rfl (fun _ => by kernel_rfl) (sless (hin fun _ hp => (by repeat first | assumption | exact List.mem_cons_self | refine List.mem_cons_of_mem _ ?_ | refine List.mem_append_right _ ?_)).b (hin fun _ hp => (by repeat first | assumption | exact List.mem_cons_self | refine List.mem_cons_of_mem _ ?_ | refine List.mem_append_right _ ?_)).a (by omega) (by omega))) (fun _ h => h) rfl ?_
    refine DW.p rfl rfl (fun _ => LX.not rfl) rfl (DW.p rfl rfl (fun _ => LX.pickT rfl rfl) rfl (DW.fval rfl rfl (EX.call rfl (fun _ => by kernel_rfl) sone) (fun _ h => h) rfl (DW.p rfl rfl (fun _ => LX.move rfl) rfl (DW.p rfl rfl (fun _ => LX.field0 rfl rfl) rfl (DW.p rfl rfl (fun _ => LX.field0 rfl rfl) rfl (DW.p rfl rfl (fun _ => LX.assign rfl) rfl ?_))))))
    refine DW.r rfl rfl (LX.load rfl rfl (by repeat first | assumption | exact List.mem_cons_self | refine List.mem_cons_of_mem _ ?_ | refine List.mem_append_right _ ?_) rfl) (fun _ h => h) rfl ?_
    refine DW.r rfl rfl (LX.load rfl rfl (by repeat first | assumption | exact List.mem_cons_self | refine List.mem_cons_of_mem _ ?_ | refine List.mem_append_right _ ?_) rfl) (fun _ h => h) rfl ?_
    refine DW.p rfl rfl (fun _ => LX.bin rfl rfl rfl) rfl (DW.p rfl rfl (fun _ => LX.pickT rfl rfl) rfl (DW.p rfl rfl (fun _ => LX.assign rfl) rfl (DW.nil (thenK_normal (WC.ret (blockK_ret (thenK_ret ?_)))))))
    refine KR.two (.inl rfl) rfl rfl rfl ⟨_, _, rfl, pre3a, fun hok => ?_⟩
    rw [ite_b1 (p := an = bn) (by simp only [Bool.not_eq_true', decide_eq_false_iff_not]; omega)]
    exact .k17 h2 (of_decide_eq_true hok)
  by_cases hc2F : ¬ an < bn ∧ ¬ 0 < za
  · obtain ⟨h1, h2⟩ := hc2F
    refine WC.yes rfl (WC.seq (WC.draw [(0, 0), (0, 2), (0, 15), (1, 1), (1, 3), (1, 16), (0, 17), (2, 4), (0, 5), (0, 6), (0, 7), (0, 9), (1, 8), (1, 10), (2, 11), (0, 12), (0, 13), (2, 14), (0, 18), (0, 19), (0, 20), (0, 21), (0, 22), (0, 23), (0, 24), (0, 25), (0, 26)] ((b6, rgO vb zb) :: (b5, rgO (.slice Aa es.length capa) za) :: (b4, stO 17 o a b m num data) :: M) rfl (by kernel_rfl) rfl (by kernel_rfl) (DW.p rfl rfl (fun _ => LX.field0 rfl rfl) rfl (DW.p rfl rfl (fun _ => LX.field0 rfl rfl) rfl (DW.p rfl rfl (fun _ => LX.field0 rfl rfl) rfl ?_)))))
    refine DW.r rfl rfl (LX.load rfl rfl (by repeat first | assumption | exact List.mem_cons_self | refine List.mem_cons_of_mem _ ?_ | refine List.mem_append_right _ ?_) rfl) (fun _ h => h) rfl ?_
    refine DW.r rfl rfl (LX.load rfl rfl (by repeat first | assumption | exact List.mem_cons_self | refine List.mem_cons_of_mem _ ?_ | refine List.mem_append_right _ ?_) rfl) (fun _ h => h) rfl ?_
    refine DW.r rfl rfl (LX.load rfl rfl (by repeat first | assumption | exact List.mem_cons_self | refine List.mem_cons_of_mem _ ?_ | refine List.mem_append_right _ ?_) rfl) (fun _ h => h) rfl ?_
    refine DW.p rfl rfl (fun _ => LX.eq (LX.bin rfl rfl rfl) (fls h2)) rfl ?_
    refine DW.fval rfl rfl (EX.call rfl (fun _ => by kernel_rfl) (sless (hin fun _ hp => (by repeat first | assumption | exact List.mem_cons_self | refine List.mem_cons_of_mem _ ?_ | refine List.mem_append_right _ ?_)).a (hin fun _ hp => (by repeat first | assumption | exact List.mem_cons_self | refine List.mem_cons_of_mem _ ?_ | refine List.mem_append_right _ ?_)).b (by omega) (by omega))) (fun _ h => h) rfl ?_
    rw [decide_eq_false h1]
    refine DW.p rfl rfl (fun _ => LX.not rfl) rfl (DW.p rfl rfl (fun _ => LX.move rfl) rfl (DW.p rfl rfl (fun _ => LX.field0 rfl rfl) rfl (DW.p rfl rfl (fun _ => LX.field0 rfl rfl) rfl ?_)))
    refine DW.r rfl rfl (LX.load rfl rfl (by repeat first | assumption | exact List.mem_cons_self | refine List.mem_cons_of_mem _ ?_ | refine List.mem_append_right _ ?_) rfl) (fun _ h => h) rfl ?_
    refine DW.r rfl rfl (LX.load rfl rfl (by repeat first | assumption | exact List.mem_cons_self | refine List.mem_cons_of_mem _ ?_ | refine List.mem_append_right _ ?_) rfl) (fun _ h => h) rfl ?_
    refine DW.fval rfl rfl (EX.call rfl (fun _ => by kernel_rfl) (sless (hin fun _ hp => (by repeat first | assumption | exact List.mem_cons_self | refine List.mem_cons_of_mem _ ?_ | refine List.mem_append_right _ ?_)).b (hin fun _ hp => (by repeat first | assumption | exact List.mem_cons_self | refine List.mem_cons_of_mem _ ?_ | refine List.mem_append_right _ ?_)).a (by omega) (by omega))) (fun _ h => h) rfl ?_
    refine DW.p rfl rfl (fun _ => LX.not rfl) rfl (DW.p rfl rfl (fun _ => LX.pickT rfl rfl) rfl (DW.fval rfl rfl (EX.call rfl (fun _ => by kernel_rfl) sone) (fun _ h => h) rfl (DW.p rfl rfl (fun _ => LX.move rfl) rfl (DW.skip rfl rfl rfl (DW.skip rfl rfl rfl (DW.skip rfl rfl rfl (DW.skip rfl rfl rfl (DW.skip rfl rfl rfl (DW.p rfl rfl (fun _ => LX.pickF rfl rfl) rfl (DW.p rfl rfl (fun _ => LX.assign rfl) rfl (DW.p rfl rfl (fun _ => LX.assign rfl) rfl (DW.nil (thenK_normal ?_)))))))))))))
    refine WC.ret (blockK_ret (thenK_ret ?_))
    exact KR.two (.inl rfl) rfl rfl rfl ⟨_, _, rfl, pre3a, fun hok => by cases hok⟩
  exfalso; omega

theorem sasked18 (h : SI M vo va vb vm on an bn V ds es fs ms km) :
    CS w0 30 [stV 18 o a b m num data, rg va za, rg vb zb, vm] M (fun u M' => ∃ t ok, u = .tuple #[.int .i64 t, .bool ok] ∧ (∃ N, M' = N ++ M) ∧ (ok = true → PS num bs (o = a) (o = b) on zo an za bn zb V km 18 on zo t)) := by
  have hla := h.la
  have hlb := h.lb
  have hlm := h.lm
  have hV := h.V1
  have hin : ∀ {K : Mem}, (∀ p ∈ M, p ∈ K) → SI K vo va vb vm on an bn V ds es fs ms km := fun hk => h.mono hk
  have ha := h.a
  obtain ⟨Aa, capa, rfl, hA⟩ := h.a.mem.form
  refine CS.of Tryz.func30 Tryz.ntmps30 rfl rfl (WC.seq (WC.region (WL.step rfl (EX.box rfl) ?_)))
  rintro _ _ ⟨b4, rfl, rfl⟩
  refine WL.step rfl (EX.box rfl) ?_
  rintro _ _ ⟨b5, rfl, rfl⟩
  refine WL.step rfl (EX.box rfl) ?_
  rintro _ _ ⟨b6, rfl, rfl⟩
  refine WL.q (LX.assign rfl) rfl (WL.q (LX.assign rfl) rfl (WL.nil (thenK_normal (WC.seq (WC.seq (WC.region (WL.q (LX.field0 rfl rfl) rfl ?_)))))))
  refine WL.q (LX.load rfl rfl (by repeat first | assumption | exact List.mem_cons_self | refine List.mem_cons_of_mem _ ?_ | refine List.mem_append_right _ ?_) rfl) rfl ?_
  refine WL.nil (thenK_normal (WC.block (WC.seq (WC.region (WL.q (LX.bin rfl rfl rfl) rfl (WL.q (LX.assign rfl) rfl (WL.nil (thenK_normal (WC.no rfl (WC.seq (WC.region (WL.q (LX.bin rfl rfl rfl) rfl (WL.q (LX.assign rfl) rfl ?_)))))))))))))
  refine WL.nil (thenK_normal (WC.no rfl (WC.seq (WC.region (WL.q (LX.bin rfl rfl rfl) rfl (WL.q (LX.assign rfl) rfl (WL.nil (thenK_normal ?_))))))))
  by_cases hz : Ft za an V km
  · refine WC.yes rfl (WC.seq (WC.seq (WC.region ?_)))
    refine WL.q (LX.loadR rfl rfl (by repeat first | assumption | exact List.mem_cons_self | refine List.mem_cons_of_mem _ ?_ | refine List.mem_append_right _ ?_) rfl) rfl ?_
    refine WL.q (LX.move rfl) rfl ?_
    refine WL.callR (sfitsT (hin fun _ hp => (by repeat first | assumption | exact List.mem_cons_self | refine List.mem_cons_of_mem _ ?_ | refine List.mem_append_right _ ?_)).a (hin fun _ hp => (by repeat first | assumption | exact List.mem_cons_self | refine List.mem_cons_of_mem _ ?_ | refine List.mem_append_right _ ?_)).m (by omega) (by omega) h.bl hz) rfl (fun _ => by kernel_rfl) rfl ?_
    rintro _ _ ⟨rfl, N1, rfl⟩
    refine WL.q (LX.not rfl) rfl (WL.nil (thenK_normal (WC.no rfl (WC.skip (thenK_normal (WC.seq (WC.region (WL.q (LX.move rfl) rfl (WL.q (LX.field0 rfl rfl) rfl ?_)))))))))
    refine WL.q (LX.load rfl rfl (by repeat first | assumption | exact List.mem_cons_self | refine List.mem_cons_of_mem _ ?_ | refine List.mem_append_right _ ?_) rfl) rfl ?_
    refine WL.callR (sdiff (hin fun _ hp => (by repeat first | assumption | exact List.mem_cons_self | refine List.mem_cons_of_mem _ ?_ | refine List.mem_append_right _ ?_)).m (hin fun _ hp => (by repeat first | assumption | exact List.mem_cons_self | refine List.mem_cons_of_mem _ ?_ | refine List.mem_append_right _ ?_)).a (by have := hz.2; omega) (by omega)) rfl (fun _ => by kernel_rfl) rfl ?_
    rintro x _ ⟨N2, xs, rfl, hx⟩
    have hx' := hx
    obtain ⟨Ax, capx, rfl, hX⟩ := hx.mem.form
    by_cases h1 : (xs.length : Int) = 1
    · obtain ⟨b1', o1, full1, rfl, hm1, hl1, hs1, hc1⟩ := hX (by omega)
      have hg1 : gt full1 (o1 + 0) = V - an := by rw [len_one hx h1, ← sliceL_gt (k := xs.length) (by omega), hs1]
      refine WL.q (LX.assign rfl) rfl (WL.nil (thenK_normal (WC.seq (WC.region (WL.q (LX.move rfl) rfl (WL.q (LX.len rfl rfl rfl) rfl (WL.q (LX.eq (LX.bin rfl rfl rfl) (tru h1)) rfl (WL.q (LX.move rfl) rfl (WL.yes rfl rfl (WL.q (LX.move rfl) rfl (WL.yes rfl rfl (WL.q (LX.idxo rfl rfl rfl 0 rfl (by omega)) rfl (WL.yes rfl rfl ?_)))))))))))))
      refine WL.q (LX.eq (LX.loadRow rfl rfl hm1 (by omega)) (by rw [hg1])) rfl ?_
      refine WL.yes rfl rfl (WL.q (LX.bin rfl rfl rfl) rfl (WL.q (LX.pickT rfl rfl) rfl (WL.call sone rfl (fun _ => by kernel_rfl) rfl (WL.q (LX.assign rfl) rfl (WL.q (LX.assign rfl) rfl (WL.nil (thenK_normal (WC.ret (blockK_ret (thenK_ret ?_))))))))))
      refine KR.two (.inl rfl) rfl rfl rfl ⟨_, _, rfl, pre_up (pre_up pre3a), fun hok => ?_⟩
      rw [ite_b1 (p := V - an = 1) (by simp)]
      exact .k18 hz
    · have h1' : ¬ V - an = 1 := by intro e; rw [e] at hx; exact h1 (one_len hx)
      refine WL.q (LX.assign rfl) rfl (WL.nil (thenK_normal (WC.seq (WC.region (WL.q (LX.move rfl) rfl (WL.q (LX.len rfl rfl rfl) rfl (WL.q (LX.eq (LX.bin rfl rfl rfl) (fls h1)) rfl (WL.q (LX.move rfl) rfl (WL.no rfl rfl (by decide) rfl (WL.no rfl rfl (by decide) rfl (WL.no rfl rfl (by decide) rfl (WL.no rfl rfl (by decide) rfl (WL.q (LX.pickF rfl rfl) rfl ?_)))))))))))))
      refine WL.call sone rfl (fun _ => by kernel_rfl) rfl (WL.q (LX.assign rfl) rfl (WL.q (LX.assign rfl) rfl (WL.nil (thenK_normal (WC.ret (blockK_ret (thenK_ret ?_)))))))
      refine KR.two (.inl rfl) rfl rfl rfl ⟨_, _, rfl, pre_up (pre_up pre3a), fun hok => ?_⟩
      rw [show (if false = true then (1 : Int) else 0) = b1 (V - an = 1) from by rw [b1_not h1']; rfl]
      exact .k18 hz
  · skip
    refine WC.yes rfl (WC.seq (WC.seq (WC.region ?_)))
    refine WL.q (LX.loadR rfl rfl (by repeat first | assumption | exact List.mem_cons_self | refine List.mem_cons_of_mem _ ?_ | refine List.mem_append_right _ ?_) rfl) rfl ?_
    refine WL.q (LX.move rfl) rfl ?_
    refine WL.callR (sfitsF (hin fun _ hp => (by repeat first | assumption | exact List.mem_cons_self | refine List.mem_cons_of_mem _ ?_ | refine List.mem_append_right _ ?_)).a (hin fun _ hp => (by repeat first | assumption | exact List.mem_cons_self | refine List.mem_cons_of_mem _ ?_ | refine List.mem_append_right _ ?_)).m (by omega) (by omega) h.bl hz) rfl (fun _ => by kernel_rfl) rfl ?_
    rintro _ _ ⟨rfl, N1, rfl⟩
    refine WL.q (LX.not rfl) rfl (WL.nil (thenK_normal (WC.yes rfl (WC.seq (WC.region (WL.q (LX.assign rfl) rfl (WL.q (LX.assign rfl) rfl (WL.nil (thenK_normal (WC.ret (thenK_ret (blockK_ret (thenK_ret ?_)))))))))))))
    exact KR.two (.inl rfl) rfl rfl rfl ⟨_, _, rfl, pre_up pre3a, fun hok => by cases hok⟩

theorem sasked19 (h : SI M vo va vb vm on an bn V ds es fs ms km) :
    CS w0 30 [stV 19 o a b m num data, rg va za, rg vb zb, vm] M (fun u M' => ∃ t ok, u = .tuple #[.int .i64 t, .bool ok] ∧ (∃ N, M' = N ++ M) ∧ (ok = true → PS num bs (o = a) (o = b) on zo an za bn zb V km 19 on zo t)) := by
  have hla := h.la
  have hlb := h.lb
  have hlm := h.lm
  have hV := h.V1
  have hin : ∀ {K : Mem}, (∀ p ∈ M, p ∈ K) → SI K vo va vb vm on an bn V ds es fs ms km := fun hk => h.mono hk
  have ha := h.a
  obtain ⟨Aa, capa, rfl, hA⟩ := h.a.mem.form
  have hkm1 := h.km1
  refine CS.of Tryz.func30 Tryz.ntmps30 rfl rfl (WC.seq (WC.region (WL.step rfl (EX.box rfl) ?_)))
  rintro _ _ ⟨b4, rfl, rfl⟩
  refine WL.step rfl (EX.box rfl) ?_
  rintro _ _ ⟨b5, rfl, rfl⟩
  refine WL.step rfl (EX.box rfl) ?_
  rintro _ _ ⟨b6, rfl, rfl⟩
  refine WL.q (LX.assign rfl) rfl (WL.q (LX.assign rfl) rfl (WL.nil (thenK_normal (WC.seq (WC.seq (WC.region (WL.q (LX.field0 rfl rfl) rfl ?_)))))))
  refine WL.q (LX.load rfl rfl (by repeat first | assumption | exact List.mem_cons_self | refine List.mem_cons_of_mem _ ?_ | refine List.mem_append_right _ ?_) rfl) rfl ?_
  refine WL.nil (thenK_normal (WC.block (WC.seq (WC.region (WL.q (LX.bin rfl rfl rfl) rfl (WL.q (LX.assign rfl) rfl (WL.nil (thenK_normal (WC.no rfl (WC.seq (WC.region (WL.q (LX.bin rfl rfl rfl) rfl (WL.q (LX.assign rfl) rfl ?_)))))))))))))
  refine WL.nil (thenK_normal (WC.no rfl (WC.seq (WC.region (WL.q (LX.bin rfl rfl rfl) rfl (WL.q (LX.assign rfl) rfl (WL.nil (thenK_normal (WC.no rfl (WC.seq (WC.region (WL.q (LX.bin rfl rfl rfl) rfl (WL.q (LX.assign rfl) rfl ?_)))))))))))))
  refine WL.nil (thenK_normal (WC.yes rfl (WC.seq (WC.region (WL.q (LX.assign rfl) rfl (WL.nil (thenK_normal (WC.seq (WC.draw [(0, 0), (0, 2), (1, 1), (2, 3), (0, 4), (0, 5), (2, 6), (0, 7)] ((b6, rgO vb zb) :: (b5, rgO (.slice Aa es.length capa) za) :: (b4, stO 19 o a b m num data) :: M) rfl (by kernel_rfl) rfl (by kernel_rfl) (DW.p rfl rfl (fun _ => LX.field0 rfl rfl) rfl (DW.p rfl rfl (fun _ => LX.move rfl) rfl ?_)))))))))))
  refine DW.r rfl rfl (LX.load rfl rfl (by repeat first | assumption | exact List.mem_cons_self | refine List.mem_cons_of_mem _ ?_ | refine List.mem_append_right _ ?_) rfl) (fun _ h => h) rfl ?_
  refine DW.fval rfl rfl (EX.call rfl (fun _ => by kernel_rfl) (sbitsK (hin fun _ hp => (by repeat first | assumption | exact List.mem_cons_self | refine List.mem_cons_of_mem _ ?_ | refine List.mem_append_right _ ?_)).m (by omega) h.bl)) (fun _ h => h) rfl ?_
  refine DW.p rfl rfl (fun _ => LX.addI rfl rfl (by omega)) rfl (DW.p rfl rfl (fun _ => LX.eq (LX.quoI rfl rfl (by omega) (by omega)) (show _ = Value.int .i64 (((km + 7) / 8 : Nat) : Int) by congr 1)) rfl ?_)
  refine DW.f rfl rfl (EX.call rfl (fun _ => by kernel_rfl) (soctets (hin fun _ hp => (by repeat first | assumption | exact List.mem_cons_self | refine List.mem_cons_of_mem _ ?_ | refine List.mem_append_right _ ?_)).a (by omega) (by omega))) rfl ?_
  rintro _ _ ⟨bq, zs, rfl, hzl, hzd, hzv, rfl⟩
  refine ⟨fun _ hp => List.mem_cons_of_mem _ hp, ?_⟩
  refine DW.p rfl rfl (fun _ => LX.assign rfl) rfl (DW.nil (thenK_normal (WC.seq (WC.seq (WC.region (WL.q (LX.assign rfl) rfl (WL.nil (thenK_normal (WC.block ?_)))))))))
  refine WC.loopS (fun s : Nat × Int => [(3, vm), (5, .pointer (some ⟨b5, 0, none⟩)), (11, .int .i64 s.2), (12, .slice (some ⟨bq, 0, none⟩) ((km + 7) / 8) ((km + 7) / 8)), (13, .int .i64 s.1)]) (fun _ => (bq, bytes zs) :: (b6, rgO vb zb) :: (b5, rgO (.slice Aa es.length capa) za) :: (b4, stO 19 o a b m num data) :: M)
    (fun s => s.1 ≤ (km + 7) / 8 ∧ s.2 = sumL (zs.take s.1) ∧ 0 ≤ s.2 ∧ s.2 ≤ 256 * (s.1 : Int)) (fun s => (km + 7) / 8 - s.1) (0, 0) ⟨Nat.zero_le _, rfl, Int.le_refl _, by simp⟩ (.cons rfl (.cons rfl (.cons rfl (.cons rfl (.cons rfl .nil))))) rfl ?_
  rintro ⟨i, tot⟩ ⟨hi, ht, ht0, ht1⟩
  dsimp only at hi ht ht0 ht1 ⊢
  have hzb := dg8_gt hzd i
  refine WC.seq (WC.seq (WC.region (WL.q (LX.move rfl) rfl (WL.q (LX.move rfl) rfl (WL.q (LX.len rfl rfl rfl) rfl (WL.q (LX.bin rfl rfl rfl) rfl (WL.nil (thenK_normal ?_))))))))
  refine WC.test rfl (fun hlt => ?_) (fun hge => ?_)
  · refine WC.skip (thenK_normal (WC.seq (WC.block (WC.region (WL.q (LX.move rfl) rfl (WL.q (LX.move rfl) rfl (WL.q (LX.move rfl) rfl (WL.q (LX.idx1 rfl rfl rfl _ rfl (by omega)) rfl (WL.q (LX.loadRow rfl rfl List.mem_cons_self (by omega)) rfl (WL.q (LX.convI rfl rfl rfl (by omega)) rfl (WL.q (LX.addI rfl rfl (by omega)) rfl (WL.q (LX.assign rfl) rfl (WL.nil ?_)))))))))))))
    refine blockK_normal (thenK_normal (WC.region (WL.q (LX.move rfl) rfl (WL.q (LX.addI rfl rfl (by omega)) rfl (WL.q (LX.assign rfl) rfl (WL.nil ?_))))))
    exact loopS_next (i + 1, tot + gt zs i) ⟨by simp only []; omega, by simp only []; rw [sumL_take (by omega), ht], by simp only []; omega, by simp only []; omega⟩ (by simp only []; omega) (.cons rfl (.cons rfl (.cons rfl (.cons rfl (.cons rfl .nil))))) rfl
  · refine WC.exit (thenK_exit (loopS_exit (blockK_same (thenK_normal (WC.seq (WC.region (WL.q (LX.move rfl) rfl ?_)))))))
    refine WL.q (LX.loadR rfl rfl (by repeat first | assumption | exact List.mem_cons_self | refine List.mem_cons_of_mem _ ?_ | refine List.mem_append_right _ ?_) rfl) rfl ?_
    refine WL.q (LX.move rfl) rfl ?_
    obtain rfl : i = (km + 7) / 8 := by omega
    refine WL.callR (sfits (hin fun _ hp => (by repeat first | assumption | exact List.mem_cons_self | refine List.mem_cons_of_mem _ ?_ | refine List.mem_append_right _ ?_)).a (hin fun _ hp => (by repeat first | assumption | exact List.mem_cons_self | refine List.mem_cons_of_mem _ ?_ | refine List.mem_append_right _ ?_)).m (by omega) (by omega) h.bl) rfl (fun _ => by kernel_rfl) rfl ?_
    rintro _ _ ⟨rfl, N1, rfl⟩
    refine WL.q (LX.assign rfl) rfl (WL.q (LX.assign rfl) rfl (WL.nil (thenK_normal (WC.ret (blockK_ret (thenK_ret ?_))))))
    refine KR.two (.inl rfl) rfl rfl rfl ⟨_, _, rfl, pre_up (pre_up (L := [(bq, bytes zs)]) pre3a), fun hok => ?_⟩
    have hf : Ft za an V km := of_decide_eq_true hok
    rw [List.take_of_length_le (by omega)] at ht
    rw [ht]
    refine .k19 hf hzl hzd ?_
    rw [hzv]
    apply Int.emod_eq_of_lt h.a.nonneg
    have h1 := h.bl.lt
    have h2 := pow2_le (show km ≤ 8 * ((km + 7) / 8) by omega)
    rw [pow256]
    have := hf.2
    omega

theorem sasked21 (h : SI M vo va vb vm on an bn V ds es fs ms km) :
    CS w0 30 [stV 21 o a b m num data, rg va za, rg vb zb, vm] M (fun u M' => ∃ t ok, u = .tuple #[.int .i64 t, .bool ok] ∧ (∃ N, M' = N ++ M) ∧ (ok = true → PS num bs (o = a) (o = b) on zo an za bn zb V km 21 on zo t)) := by
  have hla := h.la
  have hlb := h.lb
  have hlm := h.lm
  have hV := h.V1
  have hin : ∀ {K : Mem}, (∀ p ∈ M, p ∈ K) → SI K vo va vb vm on an bn V ds es fs ms km := fun hk => h.mono hk
  have ha := h.a
  obtain ⟨Aa, capa, rfl, hA⟩ := h.a.mem.form
  refine CS.of Tryz.func30 Tryz.ntmps30 rfl rfl (WC.seq (WC.region (WL.step rfl (EX.box rfl) ?_)))
  rintro _ _ ⟨b4, rfl, rfl⟩
  refine WL.step rfl (EX.box rfl) ?_
  rintro _ _ ⟨b5, rfl, rfl⟩
  refine WL.step rfl (EX.box rfl) ?_
  rintro _ _ ⟨b6, rfl, rfl⟩
  refine WL.q (LX.assign rfl) rfl (WL.q (LX.assign rfl) rfl (WL.nil (thenK_normal (WC.seq (WC.seq (WC.region (WL.q (LX.field0 rfl rfl) rfl ?_)))))))
  refine WL.q (LX.load rfl rfl (by repeat first | assumption | exact List.mem_cons_self | refine List.mem_cons_of_mem _ ?_ | refine List.mem_append_right _ ?_) rfl) rfl ?_
  refine WL.nil (thenK_normal (WC.block (WC.seq (WC.region (WL.q (LX.bin rfl rfl rfl) rfl (WL.q (LX.assign rfl) rfl (WL.nil (thenK_normal (WC.no rfl (WC.seq (WC.region (WL.q (LX.bin rfl rfl rfl) rfl (WL.q (LX.assign rfl) rfl ?_)))))))))))))
  refine WL.nil (thenK_normal (WC.no rfl (WC.seq (WC.region (WL.q (LX.bin rfl rfl rfl) rfl (WL.q (LX.assign rfl) rfl (WL.nil (thenK_normal (WC.no rfl (WC.seq (WC.region (WL.q (LX.bin rfl rfl rfl) rfl (WL.q (LX.assign rfl) rfl ?_)))))))))))))
  refine WL.nil (thenK_normal (WC.no rfl (WC.skip (blockK_normal (thenK_normal (WC.seq (WC.draw [(0, 0), (0, 3), (1, 1), (1, 4), (0, 5), (0, 6), (2, 2), (0, 7), (0, 8)] ((b6, rgO vb zb) :: (b5, rgO (.slice Aa es.length capa) za) :: (b4, stO 21 o a b m num data) :: M) rfl (by kernel_rfl) rfl (by kernel_rfl) (DW.p rfl rfl (fun _ => LX.field0 rfl rfl) rfl (DW.p rfl rfl (fun _ => LX.field0 rfl rfl) rfl ?_)))))))))
  refine DW.r rfl rfl (LX.load rfl rfl (by repeat first | assumption | exact List.mem_cons_self | refine List.mem_cons_of_mem _ ?_ | refine List.mem_append_right _ ?_) rfl) (fun _ h => h) rfl ?_
  refine DW.r rfl rfl (LX.load rfl rfl (by repeat first | assumption | exact List.mem_cons_self | refine List.mem_cons_of_mem _ ?_ | refine List.mem_append_right _ ?_) rfl) (fun _ h => h) rfl ?_
  refine DW.p rfl rfl (fun _ => LX.len rfl rfl rfl) rfl (DW.p rfl rfl (fun _ => LX.bin rfl rfl rfl) rfl ?_)
  refine DW.f rfl rfl (EX.call rfl (fun _ => by kernel_rfl) (szeros (hin fun _ hp => (by repeat first | assumption | exact List.mem_cons_self | refine List.mem_cons_of_mem _ ?_ | refine List.mem_append_right _ ?_)).a (by omega))) rfl ?_
  rintro _ _ ⟨⟨k, rfl, hk⟩, hM⟩
  subst hM
  refine ⟨fun _ h => h, ?_⟩
  refine DW.p rfl rfl (fun _ => LX.assign rfl) rfl (DW.p rfl rfl (fun _ => LX.assign rfl) rfl (DW.nil (thenK_normal (WC.ret ?_))))
  refine KR.two (.inl rfl) rfl rfl rfl ⟨_, _, rfl, pre3a, fun hok => ?_⟩
  have hne : an ≠ 0 := by
    intro e
    have h2 := (len_zero ha).2 e
    have h3 := of_decide_eq_true hok
    omega
  exact .k21 hne (hk hne)
end
end Go.Proofs.YtdnngppofbmpeaaGreatDoor.Bm
