/- Proved here: what reckoned of the reference does (its kinds one by one). Conditions: none but those that each theorem states. -/
import Derived.Test.YtdnngppofbmpeaaGreatDoorG21
namespace Go.Proofs.YtdnngppofbmpeaaGreatDoor.Bm
open Go Go.RowKit

theorem mul_lt_pow {V W : Int} {i j : Nat} (h0 : 0 ≤ V) (h1 : V < B16 ^ i) (h3 : W < B16 ^ j) : V * W < B16 ^ (i + j) := by
  have h4 := Int.mul_le_mul_of_nonneg_left (Int.le_of_lt h3) h0
  have h5 := Int.mul_lt_mul_of_pos_right h1 (dgB j)
  rw [Int.pow_add]; omega
theorem add_lt_pow {V W : Int} {i j : Nat} (h1 : V < B16 ^ i) (h3 : W < B16 ^ j) : V + W < B16 ^ (i + j + 1) := by
  have h4 := pow2_le (show 16 * i ≤ 16 * (i + j) by omega)
  have h5 := pow2_le (show 16 * j ≤ 16 * (i + j) by omega)
  rw [B16_two] at h1 h3
  have h6 := pow2_pos (16 * (i + j))
  rw [Int.pow_succ, B16_two]; unfold B16; omega

/-- what a step of the reference is handed -/
structure SI (M : Mem) (vo va vb vm : Value) (on an bn V : Int) (ds es fs ms : List Int) (km : Nat) : Prop where
  o : Num M vo on ds
  a : Num M va an es
  b : Num M vb bn fs
  m : Num M vm V ms
  lo : ds.length ≤ 60
  la : es.length ≤ 60
  lb : fs.length ≤ 60
  lm : ms.length ≤ 60
  V1 : 1 < V
  bl : IsBl V km
  km1 : km ≤ 500
theorem SI.mono {M N : Mem} {vo va vb vm : Value} {on an bn V : Int} {ds es fs ms : List Int} {km : Nat} (h : SI M vo va vb vm on an bn V ds es fs ms km) (hs : ∀ p ∈ M, p ∈ N) : SI N vo va vb vm on an bn V ds es fs ms km :=
  ⟨h.o.mono hs, h.a.mono hs, h.b.mono hs, h.m.mono hs, h.lo, h.la, h.lb, h.lm, h.V1, h.bl, h.km1⟩

abbrev rgO (v : Value) (s : Int) : Obj := Obj.cells (rg v s).cells 48 (0, 0)
abbrev stO (k o a b m num : Int) (data : Value) : Obj := Obj.cells (stV k o a b m num data).cells 41 (0, 0)
theorem pre5 {N M : Mem} {a b c d e : Nat × Obj} : ∃ N', N ++ a :: b :: c :: d :: e :: M = N' ++ M := ⟨N ++ [a, b, c, d, e], by simp⟩
theorem in4 {w x y z q : Nat × Obj} {L R : Mem} : ∀ p ∈ [w, x, y, z], p ∈ L ++ q :: w :: x :: y :: z :: R := by
  intro p hp
  simp only [List.mem_cons, List.not_mem_nil, or_false] at hp
  simp only [List.mem_append, List.mem_cons]
  grind
theorem Num.up {N L K : Mem} {v : Value} {V : Int} {ds : List Int} (h : Num (L ++ K) v V ds) : Num ((N ++ L) ++ K) v V ds := h.mono fun p hp => by rw [List.append_assoc]; exact List.mem_append_right _ hp

section
variable {w0 : World} {M : Mem} {o a b m num : Int} {data : Value} {bs : List Int} {vo va vb vm : Value} {on zo an za bn zb V : Int} {ds es fs ms : List Int} {km : Nat}
theorem sfitsT {v w : Value} {n V s : Int} {ds ms : List Int} {km : Nat} (h : Num M v n ds) (k : Num M w V ms) (hL : ds.length ≤ 1000) (hL' : ms.length ≤ 1000) (hk : IsBl V km) (hz : Ft s n V km) :
    CS w0 64 [rg v s, w] M (fun u M' => u = .bool true ∧ ∃ N, M' = N ++ M) :=
  (sfits h k hL hL' hk).mono fun _ _ ⟨h1, h2⟩ => ⟨by rw [h1, decide_eq_true (show s = (wds km : Int) ∧ n < V from hz)], h2⟩
theorem sfitsF {v w : Value} {n V s : Int} {ds ms : List Int} {km : Nat} (h : Num M v n ds) (k : Num M w V ms) (hL : ds.length ≤ 1000) (hL' : ms.length ≤ 1000) (hk : IsBl V km) (hz : ¬ Ft s n V km) :
    CS w0 64 [rg v s, w] M (fun u M' => u = .bool false ∧ ∃ N, M' = N ++ M) :=
  (sfits h k hL hL' hk).mono fun _ _ ⟨h1, h2⟩ => ⟨by rw [h1, decide_eq_false (show ¬ (s = (wds km : Int) ∧ n < V) from hz)], h2⟩
theorem sprod {v w : Value} {V W : Int} {ds es : List Int} (h : Num M v V ds) (k : Num M w W es) (hL : ds.length ≤ 300) (hL' : es.length ≤ 300) :
    CS w0 66 [v, w] M (fun u M' => ∃ N fs, M' = N ++ M ∧ Num M' u (V * W) fs) :=
  (sprodX h k hL hL').mono fun _ _ ⟨fs, ⟨b, full, _, _, _, _, h1⟩, h2⟩ => ⟨[(b, ints full)], fs, h1, h2⟩
theorem sreck4 (h : SI M vo va vb vm on an bn V ds es fs ms km) :
    CS w0 26 [stV 4 o a b m num data, rg vo zo, rg va za, rg vb zb, vm] M (fun u M' => ∃ r ok, u = .tuple #[r, .bool ok] ∧ SRes M M' (PS num bs (o = a) (o = b) on zo an za bn zb V km 4) r 0 ok) := by
  have hm : ∀ {K : Mem}, (∀ p ∈ M, p ∈ K) → SI K vo va vb vm on an bn V ds es fs ms km := fun hk => h.mono hk
  have hV := h.V1
  refine CS.of Tryz.func26 Tryz.ntmps26 rfl rfl (WC.seq (WC.region (WL.step rfl (EX.box rfl) ?_)))
  rintro _ _ ⟨b5, rfl, rfl⟩
  refine WL.step rfl (EX.box rfl) ?_
  rintro _ _ ⟨b6, rfl, rfl⟩
  refine WL.step rfl (EX.box rfl) ?_
  rintro _ _ ⟨b7, rfl, rfl⟩
  refine WL.step rfl (EX.box rfl) ?_
  rintro _ _ ⟨b8, rfl, rfl⟩
  refine WL.step rfl (EX.alloc (z := .agg #[.slice none 0 0, .int .i64 0]) (fun _ => by kernel_rfl)) ?_
  rintro _ _ ⟨b10, rfl, rfl⟩
  refine WL.q (LX.assign rfl) rfl (WL.nil (thenK_normal (WC.seq (WC.region (WL.q (LX.field0 rfl rfl) rfl ?_)))))
  refine WL.q (LX.load rfl rfl (by repeat first | assumption | exact List.mem_cons_self | refine List.mem_cons_of_mem _ ?_ | refine List.mem_append_right _ ?_) rfl) rfl ?_
  refine WL.q (LX.field0 rfl rfl) rfl ?_
  refine WL.q (LX.load rfl rfl (by repeat first | assumption | exact List.mem_cons_self | refine List.mem_cons_of_mem _ ?_ | refine List.mem_append_right _ ?_) rfl) rfl ?_
  refine WL.q (LX.bin rfl rfl rfl) rfl (WL.q (LX.assign rfl) rfl (WL.nil (thenK_normal (WC.seq (WC.seq (WC.region (WL.q (LX.field0 rfl rfl) rfl ?_)))))))
  refine WL.q (LX.load rfl rfl (by repeat first | assumption | exact List.mem_cons_self | refine List.mem_cons_of_mem _ ?_ | refine List.mem_append_right _ ?_) rfl) rfl ?_
  refine WL.nil (thenK_normal (WC.block (WC.seq (WC.region (WL.q (LX.bin rfl rfl rfl) rfl (WL.q (LX.assign rfl) rfl (WL.nil (thenK_normal ?_))))))))
  by_cases hz : 0 < za
  · skip
    refine WC.yes rfl (WC.seq (WC.draw [(0, 0), (0, 2), (0, 4), (0, 7), (1, 1), (1, 8), (0, 9), (2, 3), (2, 5), (0, 6), (0, 10), (0, 11), (0, 12), (0, 13), (2, 14), (0, 15)] [(b8, rgO vb zb), (b7, rgO va za), (b6, rgO vo zo), (b5, stO 4 o a b m num data)] rfl (by kernel_rfl) rfl (by kernel_rfl) (DW.p rfl rfl (fun _ => LX.field0 rfl rfl) rfl (DW.p rfl rfl (fun _ => LX.move rfl) rfl (DW.p rfl rfl (fun _ => LX.move rfl) rfl (DW.p rfl rfl (fun _ => LX.field0 rfl rfl) rfl ?_))))))
    refine DW.r rfl rfl (LX.load rfl rfl (by repeat first | assumption | exact List.mem_cons_self | refine List.mem_cons_of_mem _ ?_ | refine List.mem_append_right _ ?_) rfl) (in4 (L := [])) rfl ?_
    refine DW.r rfl rfl (LX.load rfl rfl (by repeat first | assumption | exact List.mem_cons_self | refine List.mem_cons_of_mem _ ?_ | refine List.mem_append_right _ ?_) rfl) (in4 (L := [])) rfl ?_
    refine DW.p rfl rfl (fun _ => LX.eq (LX.bin rfl rfl rfl) (tru hz)) rfl ?_
    refine DW.f rfl rfl (EX.call rfl (fun _ => by kernel_rfl) (smodulo (hm fun _ hp => (by repeat first | assumption | exact List.mem_cons_self | refine List.mem_cons_of_mem _ ?_ | refine List.mem_append_right _ ?_)).a (hm fun _ hp => (by repeat first | assumption | exact List.mem_cons_self | refine List.mem_cons_of_mem _ ?_ | refine List.mem_append_right _ ?_)).m (by have := h.la; omega) (by have := h.lm; omega) (by omega))) rfl ?_
    rintro y _ ⟨N2, gs, rfl, hy⟩
    obtain ⟨Ay, capy, rfl, -⟩ := hy.mem.form
    refine ⟨in4, ?_⟩
    
    refine DW.fval rfl rfl (EX.call rfl (fun _ => by kernel_rfl) (swordsK (hm fun _ hp => (by repeat first | assumption | exact List.mem_cons_self | refine List.mem_cons_of_mem _ ?_ | refine List.mem_append_right _ ?_)).m (by have := h.lm; omega) h.bl)) in4 rfl ?_
    refine DW.p rfl rfl (fun _ => LX.build rfl (fun w => reg_build _ _ _ _ w)) rfl (DW.p rfl rfl (fun _ => LX.move rfl) rfl (DW.p rfl rfl (fun _ => LX.move rfl) rfl (DW.p rfl rfl (fun _ => LX.not rfl) rfl (DW.p rfl rfl (fun _ => LX.pickT rfl rfl) rfl ?_))))
    refine DW.fput rfl rfl (EX.storeA rfl rfl rfl rfl rfl (by simp [Value.oneCell']) (by repeat first | assumption | exact List.mem_cons_self | refine List.mem_cons_of_mem _ ?_ | refine List.mem_append_right _ ?_) (by decide) (by repeat first | exact Upd.here | apply Upd.there | apply Upd.app)) in4 ?_
    refine DW.p rfl rfl (fun _ => LX.assign rfl) rfl (DW.nil (thenK_normal (WC.ret (blockK_ret (thenK_ret ?_)))))
    exact KR.cell2 (.inl rfl) rfl rfl rfl rfl (by repeat first | assumption | exact List.mem_cons_self | refine List.mem_cons_of_mem _ ?_ | refine List.mem_append_right _ ?_) rfl ⟨_, _, rfl, _, _, _, _, rfl, pre5, fun hok => ⟨_, gs, hy.skip, .k4 hz (by simpa using hok)⟩⟩
  · skip
    refine WC.yes rfl (WC.seq (WC.draw [(0, 0), (0, 2), (0, 4), (0, 7), (1, 1), (1, 8), (0, 9), (2, 3), (2, 5), (0, 6), (0, 10), (0, 11), (0, 12), (0, 13), (2, 14), (0, 15)] [(b8, rgO vb zb), (b7, rgO va za), (b6, rgO vo zo), (b5, stO 4 o a b m num data)] rfl (by kernel_rfl) rfl (by kernel_rfl) (DW.p rfl rfl (fun _ => LX.field0 rfl rfl) rfl (DW.p rfl rfl (fun _ => LX.move rfl) rfl (DW.p rfl rfl (fun _ => LX.move rfl) rfl (DW.p rfl rfl (fun _ => LX.field0 rfl rfl) rfl ?_))))))
    refine DW.r rfl rfl (LX.load rfl rfl (by repeat first | assumption | exact List.mem_cons_self | refine List.mem_cons_of_mem _ ?_ | refine List.mem_append_right _ ?_) rfl) (in4 (L := [])) rfl ?_
    refine DW.r rfl rfl (LX.load rfl rfl (by repeat first | assumption | exact List.mem_cons_self | refine List.mem_cons_of_mem _ ?_ | refine List.mem_append_right _ ?_) rfl) (in4 (L := [])) rfl ?_
    refine DW.p rfl rfl (fun _ => LX.eq (LX.bin rfl rfl rfl) (fls hz)) rfl ?_
    refine DW.f rfl rfl (EX.call rfl (fun _ => by kernel_rfl) (smodulo (hm fun _ hp => (by repeat first | assumption | exact List.mem_cons_self | refine List.mem_cons_of_mem _ ?_ | refine List.mem_append_right _ ?_)).a (hm fun _ hp => (by repeat first | assumption | exact List.mem_cons_self | refine List.mem_cons_of_mem _ ?_ | refine List.mem_append_right _ ?_)).m (by have := h.la; omega) (by have := h.lm; omega) (by omega))) rfl ?_
    rintro y _ ⟨N2, gs, rfl, hy⟩
    obtain ⟨Ay, capy, rfl, -⟩ := hy.mem.form
    refine ⟨in4, ?_⟩
    
    refine DW.fval rfl rfl (EX.call rfl (fun _ => by kernel_rfl) (swordsK (hm fun _ hp => (by repeat first | assumption | exact List.mem_cons_self | refine List.mem_cons_of_mem _ ?_ | refine List.mem_append_right _ ?_)).m (by have := h.lm; omega) h.bl)) in4 rfl ?_
    refine DW.p rfl rfl (fun _ => LX.build rfl (fun w => reg_build _ _ _ _ w)) rfl (DW.p rfl rfl (fun _ => LX.move rfl) rfl (DW.skip rfl rfl rfl (DW.skip rfl rfl rfl (DW.p rfl rfl (fun _ => LX.pickF rfl rfl) rfl ?_))))
    refine DW.fput rfl rfl (EX.storeA rfl rfl rfl rfl rfl (by simp [Value.oneCell']) (by repeat first | assumption | exact List.mem_cons_self | refine List.mem_cons_of_mem _ ?_ | refine List.mem_append_right _ ?_) (by decide) (by repeat first | exact Upd.here | apply Upd.there | apply Upd.app)) in4 ?_
    refine DW.p rfl rfl (fun _ => LX.assign rfl) rfl (DW.nil (thenK_normal (WC.ret (blockK_ret (thenK_ret ?_)))))
    exact KR.cell2 (.inl rfl) rfl rfl rfl rfl (by repeat first | assumption | exact List.mem_cons_self | refine List.mem_cons_of_mem _ ?_ | refine List.mem_append_right _ ?_) rfl ⟨_, _, rfl, _, _, _, _, rfl, pre5, fun hok => by cases hok⟩
theorem sreck5 (h : SI M vo va vb vm on an bn V ds es fs ms km) :
    CS w0 26 [stV 5 o a b m num data, rg vo zo, rg va za, rg vb zb, vm] M (fun u M' => ∃ r ok, u = .tuple #[r, .bool ok] ∧ SRes M M' (PS num bs (o = a) (o = b) on zo an za bn zb V km 5) r 0 ok) := by
  have hm : ∀ {K : Mem}, (∀ p ∈ M, p ∈ K) → SI K vo va vb vm on an bn V ds es fs ms km := fun hk => h.mono hk
  have hV := h.V1
  have hlo := h.lo
  have hlb := h.lb
  refine CS.of Tryz.func26 Tryz.ntmps26 rfl rfl (WC.seq (WC.region (WL.step rfl (EX.box rfl) ?_)))
  rintro _ _ ⟨b5, rfl, rfl⟩
  refine WL.step rfl (EX.box rfl) ?_
  rintro _ _ ⟨b6, rfl, rfl⟩
  refine WL.step rfl (EX.box rfl) ?_
  rintro _ _ ⟨b7, rfl, rfl⟩
  refine WL.step rfl (EX.box rfl) ?_
  rintro _ _ ⟨b8, rfl, rfl⟩
  refine WL.step rfl (EX.alloc (z := .agg #[.slice none 0 0, .int .i64 0]) (fun _ => by kernel_rfl)) ?_
  rintro _ _ ⟨b10, rfl, rfl⟩
  refine WL.q (LX.assign rfl) rfl (WL.nil (thenK_normal (WC.seq (WC.region (WL.q (LX.field0 rfl rfl) rfl ?_)))))
  refine WL.q (LX.load rfl rfl (by repeat first | assumption | exact List.mem_cons_self | refine List.mem_cons_of_mem _ ?_ | refine List.mem_append_right _ ?_) rfl) rfl ?_
  refine WL.q (LX.field0 rfl rfl) rfl ?_
  refine WL.q (LX.load rfl rfl (by repeat first | assumption | exact List.mem_cons_self | refine List.mem_cons_of_mem _ ?_ | refine List.mem_append_right _ ?_) rfl) rfl ?_
  refine WL.q (LX.bin rfl rfl rfl) rfl (WL.q (LX.assign rfl) rfl (WL.nil (thenK_normal (WC.seq (WC.seq (WC.region (WL.q (LX.field0 rfl rfl) rfl ?_)))))))
  refine WL.q (LX.load rfl rfl (by repeat first | assumption | exact List.mem_cons_self | refine List.mem_cons_of_mem _ ?_ | refine List.mem_append_right _ ?_) rfl) rfl ?_
  refine WL.nil (thenK_normal (WC.block (WC.seq (WC.region (WL.q (LX.bin rfl rfl rfl) rfl (WL.q (LX.assign rfl) rfl (WL.nil (thenK_normal (WC.no rfl (WC.seq (WC.region (WL.q (LX.bin rfl rfl rfl) rfl (WL.q (LX.assign rfl) rfl ?_)))))))))))))
  refine WL.nil (thenK_normal ?_)
  by_cases hz : Ft zo on V km
  · skip
    refine WC.yes rfl (WC.seq (WC.draw [(0, 0), (0, 2), (0, 5), (0, 7), (0, 11), (1, 1), (1, 3), (1, 10), (2, 4), (2, 6), (2, 8), (0, 9), (2, 12), (0, 13), (0, 15), (1, 14), (2, 16), (0, 17), (2, 18), (0, 19)] [(b8, rgO vb zb), (b7, rgO va za), (b6, rgO vo zo), (b5, stO 5 o a b m num data)] rfl (by kernel_rfl) rfl (by kernel_rfl) (DW.p rfl rfl (fun _ => LX.field0 rfl rfl) rfl (DW.p rfl rfl (fun _ => LX.field0 rfl rfl) rfl (DW.p rfl rfl (fun _ => LX.move rfl) rfl (DW.p rfl rfl (fun _ => LX.move rfl) rfl (DW.p rfl rfl (fun _ => LX.move rfl) rfl ?_)))))))
    refine DW.r rfl rfl (LX.load rfl rfl (by repeat first | assumption | exact List.mem_cons_self | refine List.mem_cons_of_mem _ ?_ | refine List.mem_append_right _ ?_) rfl) (in4 (L := [])) rfl ?_
    refine DW.r rfl rfl (LX.load rfl rfl (by repeat first | assumption | exact List.mem_cons_self | refine List.mem_cons_of_mem _ ?_ | refine List.mem_append_right _ ?_) rfl) (in4 (L := [])) rfl ?_
    refine DW.r rfl rfl (LX.loadR rfl rfl (by repeat first | assumption | exact List.mem_cons_self | refine List.mem_cons_of_mem _ ?_ | refine List.mem_append_right _ ?_) rfl) (in4 (L := [])) rfl ?_
    refine DW.f rfl rfl (EX.call rfl (fun _ => by kernel_rfl) (ssum (hm fun _ hp => (by repeat first | assumption | exact List.mem_cons_self | refine List.mem_cons_of_mem _ ?_ | refine List.mem_append_right _ ?_)).o (hm fun _ hp => (by repeat first | assumption | exact List.mem_cons_self | refine List.mem_cons_of_mem _ ?_ | refine List.mem_append_right _ ?_)).b (by omega) (by omega))) rfl ?_
    rintro x _ ⟨N2, xs, rfl, hx⟩
    have hxl : xs.length ≤ ds.length + fs.length + 1 := hx.len (add_lt_pow h.o.lt h.b.lt)
    refine ⟨in4, ?_⟩
    
    refine DW.f rfl rfl (EX.call rfl (fun _ => by kernel_rfl) (smodulo hx (hm fun _ hp => (by repeat first | assumption | exact List.mem_cons_self | refine List.mem_cons_of_mem _ ?_ | refine List.mem_append_right _ ?_)).m (by omega) (by have := h.lm; omega) (by omega))) rfl ?_
    rintro y _ ⟨N3, gs, rfl, hy⟩
    obtain ⟨Ay, capy, rfl, -⟩ := hy.mem.form
    rw [← List.append_assoc] at hy ⊢
    refine ⟨in4, ?_⟩
    
    refine DW.fval rfl rfl (EX.call rfl (fun _ => by kernel_rfl) (swordsK (hm fun _ hp => (by repeat first | assumption | exact List.mem_cons_self | refine List.mem_cons_of_mem _ ?_ | refine List.mem_append_right _ ?_)).m (by have := h.lm; omega) h.bl)) in4 rfl ?_
    refine DW.p rfl rfl (fun _ => LX.build rfl (fun w => reg_build _ _ _ _ w)) rfl ?_
    refine DW.f rfl rfl (EX.call rfl (fun _ => by kernel_rfl) (sfitsT (hm fun _ hp => (by repeat first | assumption | exact List.mem_cons_self | refine List.mem_cons_of_mem _ ?_ | refine List.mem_append_right _ ?_)).o (hm fun _ hp => (by repeat first | assumption | exact List.mem_cons_self | refine List.mem_cons_of_mem _ ?_ | refine List.mem_append_right _ ?_)).m (by have := h.lo; omega) (by have := h.lm; omega) h.bl hz)) rfl ?_
    rintro _ _ ⟨rfl, N4, rfl⟩
    have hy := hy.up (N := N4)
    rw [← List.append_assoc]
    refine ⟨in4, ?_⟩
    refine DW.p rfl rfl (fun _ => LX.move rfl) rfl (DW.p rfl rfl (fun _ => LX.move rfl) rfl ?_)
    refine DW.r rfl rfl (LX.loadR rfl rfl (by repeat first | assumption | exact List.mem_cons_self | refine List.mem_cons_of_mem _ ?_ | refine List.mem_append_right _ ?_) rfl) in4 rfl ?_
    refine DW.f rfl rfl (EX.call rfl (fun _ => by kernel_rfl) (sfits (hm fun _ hp => (by repeat first | assumption | exact List.mem_cons_self | refine List.mem_cons_of_mem _ ?_ | refine List.mem_append_right _ ?_)).b (hm fun _ hp => (by repeat first | assumption | exact List.mem_cons_self | refine List.mem_cons_of_mem _ ?_ | refine List.mem_append_right _ ?_)).m (by have := h.lb; omega) (by have := h.lm; omega) h.bl)) rfl ?_
    rintro _ _ ⟨rfl, N5, rfl⟩
    have hy := hy.up (N := N5)
    rw [← List.append_assoc]
    refine ⟨in4, ?_⟩
    refine DW.p rfl rfl (fun _ => LX.pickT rfl rfl) rfl ?_
    refine DW.fput rfl rfl (EX.storeA rfl rfl rfl rfl rfl (by simp [Value.oneCell']) (by repeat first | assumption | exact List.mem_cons_self | refine List.mem_cons_of_mem _ ?_ | refine List.mem_append_right _ ?_) (by decide) (by repeat first | exact Upd.here | apply Upd.there | apply Upd.app)) in4 ?_
    refine DW.p rfl rfl (fun _ => LX.assign rfl) rfl (DW.nil (thenK_normal (WC.ret (blockK_ret (thenK_ret ?_)))))
    exact KR.cell2 (.inl rfl) rfl rfl rfl rfl (by repeat first | assumption | exact List.mem_cons_self | refine List.mem_cons_of_mem _ ?_ | refine List.mem_append_right _ ?_) rfl ⟨_, _, rfl, _, _, _, _, rfl, pre5, fun hok => ⟨_, gs, hy.skip, .k5 hz (of_decide_eq_true hok)⟩⟩
  · skip
    refine WC.yes rfl (WC.seq (WC.draw [(0, 0), (0, 2), (0, 5), (0, 7), (0, 11), (1, 1), (1, 3), (1, 10), (2, 4), (2, 6), (2, 8), (0, 9), (2, 12), (0, 13), (0, 14), (0, 15), (0, 16), (0, 17), (2, 18), (0, 19)] [(b8, rgO vb zb), (b7, rgO va za), (b6, rgO vo zo), (b5, stO 5 o a b m num data)] rfl (by kernel_rfl) rfl (by kernel_rfl) (DW.p rfl rfl (fun _ => LX.field0 rfl rfl) rfl (DW.p rfl rfl (fun _ => LX.field0 rfl rfl) rfl (DW.p rfl rfl (fun _ => LX.move rfl) rfl (DW.p rfl rfl (fun _ => LX.move rfl) rfl (DW.p rfl rfl (fun _ => LX.move rfl) rfl ?_)))))))
    refine DW.r rfl rfl (LX.load rfl rfl (by repeat first | assumption | exact List.mem_cons_self | refine List.mem_cons_of_mem _ ?_ | refine List.mem_append_right _ ?_) rfl) (in4 (L := [])) rfl ?_
    refine DW.r rfl rfl (LX.load rfl rfl (by repeat first | assumption | exact List.mem_cons_self | refine List.mem_cons_of_mem _ ?_ | refine List.mem_append_right _ ?_) rfl) (in4 (L := [])) rfl ?_
    refine DW.r rfl rfl (LX.loadR rfl rfl (by repeat first | assumption | exact List.mem_cons_self | refine List.mem_cons_of_mem _ ?_ | refine List.mem_append_right _ ?_) rfl) (in4 (L := [])) rfl ?_
    refine DW.f rfl rfl (EX.call rfl (fun _ => by kernel_rfl) (ssum (hm fun _ hp => (by repeat first | assumption | exact List.mem_cons_self | refine List.mem_cons_of_mem _ ?_ | refine List.mem_append_right _ ?_)).o (hm fun _ hp => (by repeat first | assumption | exact List.mem_cons_self | refine List.mem_cons_of_mem _ ?_ | refine List.mem_append_right _ ?_)).b (by omega) (by omega))) rfl ?_
    rintro x _ ⟨N2, xs, rfl, hx⟩
    have hxl : xs.length ≤ ds.length + fs.length + 1 := hx.len (add_lt_pow h.o.lt h.b.lt)
    refine ⟨in4, ?_⟩
    
    refine DW.f rfl rfl (EX.call rfl (fun _ => by kernel_rfl) (smodulo hx (hm fun _ hp => (by repeat first | assumption | exact List.mem_cons_self | refine List.mem_cons_of_mem _ ?_ | refine List.mem_append_right _ ?_)).m (by omega) (by have := h.lm; omega) (by omega))) rfl ?_
    rintro y _ ⟨N3, gs, rfl, hy⟩
    obtain ⟨Ay, capy, rfl, -⟩ := hy.mem.form
    rw [← List.append_assoc] at hy ⊢
    refine ⟨in4, ?_⟩
    
    refine DW.fval rfl rfl (EX.call rfl (fun _ => by kernel_rfl) (swordsK (hm fun _ hp => (by repeat first | assumption | exact List.mem_cons_self | refine List.mem_cons_of_mem _ ?_ | refine List.mem_append_right _ ?_)).m (by have := h.lm; omega) h.bl)) in4 rfl ?_
    refine DW.p rfl rfl (fun _ => LX.build rfl (fun w => reg_build _ _ _ _ w)) rfl ?_
    refine DW.f rfl rfl (EX.call rfl (fun _ => by kernel_rfl) (sfitsF (hm fun _ hp => (by repeat first | assumption | exact List.mem_cons_self | refine List.mem_cons_of_mem _ ?_ | refine List.mem_append_right _ ?_)).o (hm fun _ hp => (by repeat first | assumption | exact List.mem_cons_self | refine List.mem_cons_of_mem _ ?_ | refine List.mem_append_right _ ?_)).m (by have := h.lo; omega) (by have := h.lm; omega) h.bl hz)) rfl ?_
    rintro _ _ ⟨rfl, N4, rfl⟩
    have hy := hy.up (N := N4)
    rw [← List.append_assoc]
    refine ⟨in4, ?_⟩
    refine DW.p rfl rfl (fun _ => LX.move rfl) rfl (DW.skip rfl rfl rfl (DW.skip rfl rfl rfl (DW.skip rfl rfl rfl (DW.p rfl rfl (fun _ => LX.pickF rfl rfl) rfl ?_))))
    refine DW.fput rfl rfl (EX.storeA rfl rfl rfl rfl rfl (by simp [Value.oneCell']) (by repeat first | assumption | exact List.mem_cons_self | refine List.mem_cons_of_mem _ ?_ | refine List.mem_append_right _ ?_) (by decide) (by repeat first | exact Upd.here | apply Upd.there | apply Upd.app)) in4 ?_
    refine DW.p rfl rfl (fun _ => LX.assign rfl) rfl (DW.nil (thenK_normal (WC.ret (blockK_ret (thenK_ret ?_)))))
    exact KR.cell2 (.inl rfl) rfl rfl rfl rfl (by repeat first | assumption | exact List.mem_cons_self | refine List.mem_cons_of_mem _ ?_ | refine List.mem_append_right _ ?_) rfl ⟨_, _, rfl, _, _, _, _, rfl, pre5, fun hok => by cases hok⟩
theorem sreck7 (h : SI M vo va vb vm on an bn V ds es fs ms km) :
    CS w0 26 [stV 7 o a b m num data, rg vo zo, rg va za, rg vb zb, vm] M (fun u M' => ∃ r ok, u = .tuple #[r, .bool ok] ∧ SRes M M' (PS num bs (o = a) (o = b) on zo an za bn zb V km 7) r 0 ok) := by
  have hm : ∀ {K : Mem}, (∀ p ∈ M, p ∈ K) → SI K vo va vb vm on an bn V ds es fs ms km := fun hk => h.mono hk
  have hV := h.V1
  have hlo := h.lo
  have hlb := h.lb
  refine CS.of Tryz.func26 Tryz.ntmps26 rfl rfl (WC.seq (WC.region (WL.step rfl (EX.box rfl) ?_)))
  rintro _ _ ⟨b5, rfl, rfl⟩
  refine WL.step rfl (EX.box rfl) ?_
  rintro _ _ ⟨b6, rfl, rfl⟩
  refine WL.step rfl (EX.box rfl) ?_
  rintro _ _ ⟨b7, rfl, rfl⟩
  refine WL.step rfl (EX.box rfl) ?_
  rintro _ _ ⟨b8, rfl, rfl⟩
  refine WL.step rfl (EX.alloc (z := .agg #[.slice none 0 0, .int .i64 0]) (fun _ => by kernel_rfl)) ?_
  rintro _ _ ⟨b10, rfl, rfl⟩
  refine WL.q (LX.assign rfl) rfl (WL.nil (thenK_normal (WC.seq (WC.region (WL.q (LX.field0 rfl rfl) rfl ?_)))))
  refine WL.q (LX.load rfl rfl (by repeat first | assumption | exact List.mem_cons_self | refine List.mem_cons_of_mem _ ?_ | refine List.mem_append_right _ ?_) rfl) rfl ?_
  refine WL.q (LX.field0 rfl rfl) rfl ?_
  refine WL.q (LX.load rfl rfl (by repeat first | assumption | exact List.mem_cons_self | refine List.mem_cons_of_mem _ ?_ | refine List.mem_append_right _ ?_) rfl) rfl ?_
  refine WL.q (LX.bin rfl rfl rfl) rfl (WL.q (LX.assign rfl) rfl (WL.nil (thenK_normal (WC.seq (WC.seq (WC.region (WL.q (LX.field0 rfl rfl) rfl ?_)))))))
  refine WL.q (LX.load rfl rfl (by repeat first | assumption | exact List.mem_cons_self | refine List.mem_cons_of_mem _ ?_ | refine List.mem_append_right _ ?_) rfl) rfl ?_
  refine WL.nil (thenK_normal (WC.block (WC.seq (WC.region (WL.q (LX.bin rfl rfl rfl) rfl (WL.q (LX.assign rfl) rfl (WL.nil (thenK_normal (WC.no rfl (WC.seq (WC.region (WL.q (LX.bin rfl rfl rfl) rfl (WL.q (LX.assign rfl) rfl ?_)))))))))))))
  refine WL.nil (thenK_normal (WC.no rfl (WC.seq (WC.region (WL.q (LX.bin rfl rfl rfl) rfl (WL.q (LX.assign rfl) rfl (WL.nil (thenK_normal (WC.no rfl (WC.seq (WC.region (WL.q (LX.bin rfl rfl rfl) rfl (WL.q (LX.assign rfl) rfl ?_)))))))))))))
  refine WL.nil (thenK_normal ?_)
  by_cases hz : Ft zo on V km
  · skip
    refine WC.yes rfl (WC.seq (WC.draw [(0, 0), (0, 2), (0, 5), (0, 7), (0, 11), (1, 1), (1, 3), (1, 10), (2, 4), (2, 6), (2, 8), (0, 9), (2, 12), (0, 13), (0, 15), (1, 14), (2, 16), (0, 17), (2, 18), (0, 19)] [(b8, rgO vb zb), (b7, rgO va za), (b6, rgO vo zo), (b5, stO 7 o a b m num data)] rfl (by kernel_rfl) rfl (by kernel_rfl) (DW.p rfl rfl (fun _ => LX.field0 rfl rfl) rfl (DW.p rfl rfl (fun _ => LX.field0 rfl rfl) rfl (DW.p rfl rfl (fun _ => LX.move rfl) rfl (DW.p rfl rfl (fun _ => LX.move rfl) rfl (DW.p rfl rfl (fun _ => LX.move rfl) rfl ?_)))))))
    refine DW.r rfl rfl (LX.load rfl rfl (by repeat first | assumption | exact List.mem_cons_self | refine List.mem_cons_of_mem _ ?_ | refine List.mem_append_right _ ?_) rfl) (in4 (L := [])) rfl ?_
    refine DW.r rfl rfl (LX.load rfl rfl (by repeat first | assumption | exact List.mem_cons_self | refine List.mem_cons_of_mem _ ?_ | refine List.mem_append_right _ ?_) rfl) (in4 (L := [])) rfl ?_
    refine DW.r rfl rfl (LX.loadR rfl rfl (by repeat first | assumption | exact List.mem_cons_self | refine List.mem_cons_of_mem _ ?_ | refine List.mem_append_right _ ?_) rfl) (in4 (L := [])) rfl ?_
    refine DW.f rfl rfl (EX.call rfl (fun _ => by kernel_rfl) (sprod (hm fun _ hp => (by repeat first | assumption | exact List.mem_cons_self | refine List.mem_cons_of_mem _ ?_ | refine List.mem_append_right _ ?_)).o (hm fun _ hp => (by repeat first | assumption | exact List.mem_cons_self | refine List.mem_cons_of_mem _ ?_ | refine List.mem_append_right _ ?_)).b (by omega) (by omega))) rfl ?_
    rintro x _ ⟨N2, xs, rfl, hx⟩
    have hxl : xs.length ≤ ds.length + fs.length := hx.len (mul_lt_pow h.o.nonneg h.o.lt h.b.lt)
    refine ⟨in4, ?_⟩
    
    refine DW.f rfl rfl (EX.call rfl (fun _ => by kernel_rfl) (smodulo hx (hm fun _ hp => (by repeat first | assumption | exact List.mem_cons_self | refine List.mem_cons_of_mem _ ?_ | refine List.mem_append_right _ ?_)).m (by omega) (by have := h.lm; omega) (by omega))) rfl ?_
    rintro y _ ⟨N3, gs, rfl, hy⟩
    obtain ⟨Ay, capy, rfl, -⟩ := hy.mem.form
    rw [← List.append_assoc] at hy ⊢
    refine ⟨in4, ?_⟩
    
    refine DW.fval rfl rfl (EX.call rfl (fun _ => by kernel_rfl) (swordsK (hm fun _ hp => (by repeat first | assumption | exact List.mem_cons_self | refine List.mem_cons_of_mem _ ?_ | refine List.mem_append_right _ ?_)).m (by have := h.lm; omega) h.bl)) in4 rfl ?_
    refine DW.p rfl rfl (fun _ => LX.build rfl (fun w => reg_build _ _ _ _ w)) rfl ?_
    refine DW.f rfl rfl (EX.call rfl (fun _ => by kernel_rfl) (sfitsT (hm fun _ hp => (by repeat first | assumption | exact List.mem_cons_self | refine List.mem_cons_of_mem _ ?_ | refine List.mem_append_right _ ?_)).o (hm fun _ hp => (by repeat first | assumption | exact List.mem_cons_self | refine List.mem_cons_of_mem _ ?_ | refine List.mem_append_right _ ?_)).m (by have := h.lo; omega) (by have := h.lm; omega) h.bl hz)) rfl ?_
    rintro _ _ ⟨rfl, N4, rfl⟩
    have hy := hy.up (N := N4)
    rw [← List.append_assoc]
    refine ⟨in4, ?_⟩
    refine DW.p rfl rfl (fun _ => LX.move rfl) rfl (DW.p rfl rfl (fun _ => LX.move rfl) rfl ?_)
    refine DW.r rfl rfl (LX.loadR rfl rfl (by repeat first | assumption | exact List.mem_cons_self | refine List.mem_cons_of_mem _ ?_ | refine List.mem_append_right _ ?_) rfl) in4 rfl ?_
    refine DW.f rfl rfl (EX.call rfl (fun _ => by kernel_rfl) (sfits (hm fun _ hp => (by repeat first | assumption | exact List.mem_cons_self | refine List.mem_cons_of_mem _ ?_ | refine List.mem_append_right _ ?_)).b (hm fun _ hp => (by repeat first | assumption | exact List.mem_cons_self | refine List.mem_cons_of_mem _ ?_ | refine List.mem_append_right _ ?_)).m (by have := h.lb; omega) (by have := h.lm; omega) h.bl)) rfl ?_
    rintro _ _ ⟨rfl, N5, rfl⟩
    have hy := hy.up (N := N5)
    rw [← List.append_assoc]
    refine ⟨in4, ?_⟩
    refine DW.p rfl rfl (fun _ => LX.pickT rfl rfl) rfl ?_
    refine DW.fput rfl rfl (EX.storeA rfl rfl rfl rfl rfl (by simp [Value.oneCell']) (by repeat first | assumption | exact List.mem_cons_self | refine List.mem_cons_of_mem _ ?_ | refine List.mem_append_right _ ?_) (by decide) (by repeat first | exact Upd.here | apply Upd.there | apply Upd.app)) in4 ?_
    refine DW.p rfl rfl (fun _ => LX.assign rfl) rfl (DW.nil (thenK_normal (WC.ret (blockK_ret (thenK_ret ?_)))))
    exact KR.cell2 (.inl rfl) rfl rfl rfl rfl (by repeat first | assumption | exact List.mem_cons_self | refine List.mem_cons_of_mem _ ?_ | refine List.mem_append_right _ ?_) rfl ⟨_, _, rfl, _, _, _, _, rfl, pre5, fun hok => ⟨_, gs, hy.skip, .k7 hz (of_decide_eq_true hok)⟩⟩
  · skip
    refine WC.yes rfl (WC.seq (WC.draw [(0, 0), (0, 2), (0, 5), (0, 7), (0, 11), (1, 1), (1, 3), (1, 10), (2, 4), (2, 6), (2, 8), (0, 9), (2, 12), (0, 13), (0, 14), (0, 15), (0, 16), (0, 17), (2, 18), (0, 19)] [(b8, rgO vb zb), (b7, rgO va za), (b6, rgO vo zo), (b5, stO 7 o a b m num data)] rfl (by kernel_rfl) rfl (by kernel_rfl) (DW.p rfl rfl (fun _ => LX.field0 rfl rfl) rfl (DW.p rfl rfl (fun _ => LX.field0 rfl rfl) rfl (DW.p rfl rfl (fun _ => LX.move rfl) rfl (DW.p rfl rfl (fun _ => LX.move rfl) rfl (DW.p rfl rfl (fun _ => LX.move rfl) rfl ?_)))))))
    refine DW.r rfl rfl (LX.load rfl rfl (by repeat first | assumption | exact List.mem_cons_self | refine List.mem_cons_of_mem _ ?_ | refine List.mem_append_right _ ?_) rfl) (in4 (L := [])) rfl ?_
    refine DW.r rfl rfl (LX.load rfl rfl (by repeat first | assumption | exact List.mem_cons_self | refine List.mem_cons_of_mem _ ?_ | refine List.mem_append_right _ ?_) rfl) (in4 (L := [])) rfl ?_
    refine DW.r rfl rfl (LX.loadR rfl rfl (by repeat first | assumption | exact List.mem_cons_self | refine List.mem_cons_of_mem _ ?_ | refine List.mem_append_right _ ?_) rfl) (in4 (L := [])) rfl ?_
    refine DW.f rfl rfl (EX.call rfl (fun _ => by kernel_rfl) (sprod (hm fun _ hp => (by repeat first | assumption | exact List.mem_cons_self | refine List.mem_cons_of_mem _ ?_ | refine List.mem_append_right _ ?_)).o (hm fun _ hp => (by repeat first | assumption | exact List.mem_cons_self | refine List.mem_cons_of_mem _ ?_ | refine List.mem_append_right _ ?_)).b (by omega) (by omega))) rfl ?_
    rintro x _ ⟨N2, xs, rfl, hx⟩
    have hxl : xs.length ≤ ds.length + fs.length := hx.len (mul_lt_pow h.o.nonneg h.o.lt h.b.lt)
    refine ⟨in4, ?_⟩
    
    refine DW.f rfl rfl (EX.call rfl (fun _ => by kernel_rfl) (smodulo hx (hm fun _ hp => (by repeat first | assumption | exact List.mem_cons_self | refine List.mem_cons_of_mem _ ?_ | refine List.mem_append_right _ ?_)).m (by omega) (by have := h.lm; omega) (by omega))) rfl ?_
    rintro y _ ⟨N3, gs, rfl, hy⟩
    obtain ⟨Ay, capy, rfl, -⟩ := hy.mem.form
    rw [← List.append_assoc] at hy ⊢
    refine ⟨in4, ?_⟩
    
    refine DW.fval rfl rfl (EX.call rfl (fun _ => by kernel_rfl) (swordsK (hm fun _ hp => (by repeat first | assumption | exact List.mem_cons_self | refine List.mem_cons_of_mem _ ?_ | refine List.mem_append_right _ ?_)).m (by have := h.lm; omega) h.bl)) in4 rfl ?_
    refine DW.p rfl rfl (fun _ => LX.build rfl (fun w => reg_build _ _ _ _ w)) rfl ?_
    refine DW.f rfl rfl (EX.call rfl (fun _ => by kernel_rfl) (sfitsF (hm fun _ hp => (by repeat first | assumption | exact List.mem_cons_self | refine List.mem_cons_of_mem _ ?_ | refine List.mem_append_right _ ?_)).o (hm fun _ hp => (by repeat first | assumption | exact List.mem_cons_self | refine List.mem_cons_of_mem _ ?_ | refine List.mem_append_right _ ?_)).m (by have := h.lo; omega) (by have := h.lm; omega) h.bl hz)) rfl ?_
    rintro _ _ ⟨rfl, N4, rfl⟩
    have hy := hy.up (N := N4)
    rw [← List.append_assoc]
    refine ⟨in4, ?_⟩
    refine DW.p rfl rfl (fun _ => LX.move rfl) rfl (DW.skip rfl rfl rfl (DW.skip rfl rfl rfl (DW.skip rfl rfl rfl (DW.p rfl rfl (fun _ => LX.pickF rfl rfl) rfl ?_))))
    refine DW.fput rfl rfl (EX.storeA rfl rfl rfl rfl rfl (by simp [Value.oneCell']) (by repeat first | assumption | exact List.mem_cons_self | refine List.mem_cons_of_mem _ ?_ | refine List.mem_append_right _ ?_) (by decide) (by repeat first | exact Upd.here | apply Upd.there | apply Upd.app)) in4 ?_
    refine DW.p rfl rfl (fun _ => LX.assign rfl) rfl (DW.nil (thenK_normal (WC.ret (blockK_ret (thenK_ret ?_)))))
    exact KR.cell2 (.inl rfl) rfl rfl rfl rfl (by repeat first | assumption | exact List.mem_cons_self | refine List.mem_cons_of_mem _ ?_ | refine List.mem_append_right _ ?_) rfl ⟨_, _, rfl, _, _, _, _, rfl, pre5, fun hok => by cases hok⟩
end
end Go.Proofs.YtdnngppofbmpeaaGreatDoor.Bm
