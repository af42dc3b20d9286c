/- Proved here: what step of the reference does. Conditions: none but those that each theorem states. -/
import Derived.Test.YtdnngppofbmpeaaGreatDoorG26
namespace Go.Proofs.YtdnngppofbmpeaaGreatDoor.Bm
open Go Go.RowKit

theorem putL_all {α : Type} (c vs : List α) (h : c.length = vs.length) : putL c 0 vs = vs := by
  unfold putL; rw [List.take_zero, List.nil_append, Nat.zero_add, ← h, List.drop_length, List.append_nil]
/-- a register is written -/
theorem EX.storeG {n : Nat} {w0 : World} {E : Env} {M M' : Mem} {dst : Option Nat} {ty : TypeId} {pos : String} {aft : Array Edge} {g : Option (Nat × Bool)} {x y : Operand} {b : Nat} {c : List Value} {v : Value} {s : Int} (hx : ev E x = some (.pointer (some ⟨b, 0, none⟩))) (hy : ev E y = some (rg v s))
    (h1 : v.oneCell' = true) (hm : (b, .cells c.toArray 48 (0, 0)) ∈ M) (hi : c.length = 2) (hu : Upd M b (rgO v s) M') :
    EX n w0 ⟨dst, .store 48 x y, ty, pos, aft, g⟩ E M (fun u M'' => u = undef ∧ M'' = M') :=
  EX.storeA (vs := [v, .int .i64 s]) hx hy rfl rfl rfl (by intro u hu; simp only [List.mem_cons, List.not_mem_nil, or_false] at hu; rcases hu with rfl | rfl <;> first | exact h1 | rfl) hm (by omega) (by rw [putL_all _ _ (by simpa using hi)]; exact hu)

/-- registers in a row -/
def regC (R : List (Value × Int)) : List Value := R.flatMap fun p => [p.1, .int .i64 p.2]
abbrev regsO (R : List (Value × Int)) : Obj := .cells (regC R).toArray 48 (0, 0)
theorem regC_len : ∀ R : List (Value × Int), (regC R).length = 2 * R.length
  | [] => rfl
  | p :: R => by have := regC_len R; simp only [regC, List.flatMap_cons, List.length_append, List.length_cons, List.length_nil] at this ⊢; omega
theorem regC_at : ∀ {R : List (Value × Int)} {j : Nat} {p : Value × Int}, R[j]? = some p → sliceL (regC R) (0 + j * 2) 2 = [p.1, .int .i64 p.2]
  | [], j, p, h => by simp at h
  | q :: R, 0, p, h => by simp at h; subst h; rfl
  | q :: R, j + 1, p, h => by
    have := regC_at (R := R) (j := j) (p := p) (by simpa using h)
    unfold sliceL at this ⊢
    rw [← this]
    have e : regC (q :: R) = q.1 :: .int .i64 q.2 :: regC R := rfl
    rw [e, show 0 + (j + 1) * 2 = (0 + j * 2) + 1 + 1 by omega, List.drop_succ_cons, List.drop_succ_cons]

theorem Num.skip3 {N R : Mem} {x y z : Nat × Obj} {b : Nat} {c : Array Value} {fr : Nat × Nat} {o' : Obj} {v : Value} {V : Int} {ds : List Int} (h : Num (N ++ x :: y :: z :: (b, .cells c 48 fr) :: R) v V ds) : Num (N ++ x :: y :: z :: (b, o') :: R) v V ds := by
  have := Num.skip (N := N ++ [x, y, z]) (R := R) (b := b) (c := c) (fr := fr) (o' := o') (v := v) (V := V) (ds := ds) (by simpa using h)
  simpa using this
theorem in2 {x y a b c : Nat × Obj} {L R : Mem} : ∀ p ∈ [x, y], p ∈ L ++ a :: b :: x :: c :: y :: R := by
  intro p hp
  simp only [List.mem_cons, List.not_mem_nil, or_false] at hp
  simp only [List.mem_append, List.mem_cons]
  grind
theorem in1 {x a : Nat × Obj} {L R : Mem} : ∀ p ∈ [x], p ∈ L ++ a :: x :: R := by
  intro p hp
  simp only [List.mem_cons, List.not_mem_nil, or_false] at hp
  simp only [List.mem_append, List.mem_cons]
  grind

section
variable {w0 : World} {M : Mem} {num : Int} {bs : List Int} {vo va vb vm : Value} {on zo an za bn zb V : Int} {ds es fs ms : List Int} {km : Nat}
theorem sreck {k o a b m : Int} {A : Option Addr} {cap : Nat} (h : SI M vo va vb vm on an bn V ds es fs ms km) (hs : Src w0 M A bs) (hb : Dg 256 bs) (hL : bs.length ≤ 60) (hk : 4 ≤ k ∧ k ≤ 10) :
    CS w0 26 [stV k o a b m num (.slice A bs.length cap), rg vo zo, rg va za, rg vb zb, vm] M (fun u M' => ∃ r ok, u = .tuple #[r, .bool ok] ∧ SRes M M' (PS num bs (o = a) (o = b) on zo an za bn zb V km k) r 0 ok) := by
  rcases (show k = 4 ∨ k = 5 ∨ k = 6 ∨ k = 7 ∨ k = 8 ∨ k = 9 ∨ k = 10 by omega) with rfl | rfl | rfl | rfl | rfl | rfl | rfl
  · exact sreck4 h
  · exact sreck5 h
  · exact sreck6 h
  · exact sreck7 h
  · exact sreck8 h hs hb hL
  · exact sreck9 h
  · exact sreck10 h
theorem sfound {k o a b m : Int} {data : Value} (h : SI M vo va vb vm on an bn V ds es fs ms km) (hk : k = 11 ∨ k = 12) :
    CS w0 27 [stV k o a b m num data, rg vo zo, rg va za, rg vb zb, vm] M (fun u M' => ∃ r t ok, u = .tuple #[r, .int .i64 t, .bool ok] ∧ SRes M M' (PS num bs (o = a) (o = b) on zo an za bn zb V km k) r t ok) := by
  rcases hk with rfl | rfl
  · exact sfound11 h
  · exact sfound12 h
theorem sasked {k o a b m : Int} {data : Value} (h : SI M vo va vb vm on an bn V ds es fs ms km) (hk : 16 ≤ k ∧ k ≤ 19 ∨ k = 21) :
    CS w0 30 [stV k o a b m num data, rg va za, rg vb zb, vm] M (fun u M' => ∃ t ok, u = .tuple #[.int .i64 t, .bool ok] ∧ (∃ N, M' = N ++ M) ∧ (ok = true → PS num bs (o = a) (o = b) on zo an za bn zb V km k on zo t)) := by
  rcases (show k = 16 ∨ k = 17 ∨ k = 18 ∨ k = 19 ∨ k = 21 by omega) with rfl | rfl | rfl | rfl | rfl
  · exact sasked16 h
  · exact sasked17 h
  · exact sasked18 h
  · exact sasked19 h
  · exact sasked21 h

theorem sstep {R : List (Value × Int)} {br capr o a b : Nat} {k m : Int} {A : Option Addr} {cap : Nat} (hbr : (br, regsO R) ∈ M) (hRo : R[o]? = some (vo, zo)) (hRa : R[a]? = some (va, za)) (hRb : R[b]? = some (vb, zb)) (h : SI M vo va vb vm on an bn V ds es fs ms km) (hs : Src w0 M A bs) (hb : Dg 256 bs) (hL : bs.length ≤ 60) (hnum : num < 9223372036854775808) :
    CS w0 14 [.slice (some ⟨br, 0, none⟩) R.length capr, stV k o a b m num (.slice A bs.length cap), vm] M (fun u M' => ∃ r t ok, u = .tuple #[r, .int .i64 t, .bool ok] ∧ SRes M M' (PS num bs ((o : Int) = a) ((o : Int) = b) on zo an za bn zb V km k) r t ok) := by
  have hm : ∀ {K : Mem}, (∀ p ∈ M, p ∈ K) → SI K vo va vb vm on an bn V ds es fs ms km := fun hk => h.mono hk
  obtain ⟨Ao, capo, rfl, -⟩ := h.o.mem.form
  obtain ⟨Aa, capa, rfl, -⟩ := h.a.mem.form
  obtain ⟨Ab, capb, rfl, -⟩ := h.b.mem.form
  obtain ⟨Am, capm, rfl, -⟩ := h.m.mem.form
  have lo : o < R.length := by rcases Nat.lt_or_ge o R.length with h1 | h1; exact h1; simp [List.getElem?_eq_none h1] at hRo
  have la : a < R.length := by rcases Nat.lt_or_ge a R.length with h1 | h1; exact h1; simp [List.getElem?_eq_none h1] at hRa
  have lb : b < R.length := by rcases Nat.lt_or_ge b R.length with h1 | h1; exact h1; simp [List.getElem?_eq_none h1] at hRb
  have hrl := regC_len R
  refine CS.of Tryz.func14 Tryz.ntmps14 rfl rfl ?_
  have hms : ∀ {b4 : Nat} {L : Mem}, ∀ p ∈ [(b4, stO k o a b m num (.slice A bs.length cap)), (br, regsO R)], p ∈ L ++ (b4, stO k o a b m num (.slice A bs.length cap)) :: M := by
    intro b4 L p hp
    simp only [List.mem_cons, List.not_mem_nil, or_false] at hp
    rcases hp with rfl | rfl
    · exact (by repeat first | assumption | exact List.mem_cons_self | refine List.mem_cons_of_mem _ ?_ | refine List.mem_append_right _ ?_)
    · exact List.mem_append_right _ (List.mem_cons_of_mem _ hbr)
  refine WC.seq (WC.region (WL.step rfl (EX.box rfl) ?_))
  rintro _ _ ⟨b4, rfl, rfl⟩
  refine WL.step rfl (EX.alloc (z := .agg #[.slice none 0 0, .int .i64 0]) (fun _ => by kernel_rfl)) ?_
  rintro _ _ ⟨b6, rfl, rfl⟩
  refine WL.q (LX.assign rfl) rfl (WL.q (LX.assign rfl) rfl (WL.nil (thenK_normal (WC.seq (WC.draw3 [(0, 0), (0, 1), (0, 5), (0, 6), (0, 10), (0, 11), (1, 2), (0, 3), (1, 4), (1, 7), (0, 8), (1, 9), (1, 12), (0, 13), (1, 14)] 15 16 17 [(2, 18), (2, 19), (2, 20)] [(b4, stO k o a b m num (.slice A bs.length cap)), (br, regsO R)] rfl (by kernel_rfl) rfl (by kernel_rfl) (D3.p rfl rfl (fun _ => LX.move rfl) rfl (D3.p rfl rfl (fun _ => LX.field0 rfl rfl) rfl (D3.p rfl rfl (fun _ => LX.move rfl) rfl (D3.p rfl rfl (fun _ => LX.field0 rfl rfl) rfl (D3.p rfl rfl (fun _ => LX.move rfl) rfl (D3.p rfl rfl (fun _ => LX.field0 rfl rfl) rfl ?_)))))))))))
  refine D3.r rfl rfl (LX.load rfl rfl (by repeat first | assumption | exact List.mem_cons_self | refine List.mem_cons_of_mem _ ?_ | refine List.mem_append_right _ ?_) rfl) (hms (L := [_])) rfl ?_
  refine D3.p rfl rfl (fun _ => LX.idx rfl rfl rfl o rfl (by omega)) rfl ?_
  refine D3.r rfl rfl (LX.eq (LX.loadA rfl rfl (fun w hw => (hw.has (br, regsO R) (by repeat first | assumption | exact List.mem_cons_self | refine List.mem_cons_of_mem _ ?_)).2) (by omega)) (show _ = rg (.slice Ao ds.length capo) zo by rw [regC_at hRo])) (hms (L := [_])) rfl ?_
  refine D3.r rfl rfl (LX.load rfl rfl (by repeat first | assumption | exact List.mem_cons_self | refine List.mem_cons_of_mem _ ?_ | refine List.mem_append_right _ ?_) rfl) (hms (L := [_])) rfl ?_
  refine D3.p rfl rfl (fun _ => LX.idx rfl rfl rfl a rfl (by omega)) rfl ?_
  refine D3.r rfl rfl (LX.eq (LX.loadA rfl rfl (fun w hw => (hw.has (br, regsO R) (by repeat first | assumption | exact List.mem_cons_self | refine List.mem_cons_of_mem _ ?_)).2) (by omega)) (show _ = rg (.slice Aa es.length capa) za by rw [regC_at hRa])) (hms (L := [_])) rfl ?_
  refine D3.r rfl rfl (LX.load rfl rfl (by repeat first | assumption | exact List.mem_cons_self | refine List.mem_cons_of_mem _ ?_ | refine List.mem_append_right _ ?_) rfl) (hms (L := [_])) rfl ?_
  refine D3.p rfl rfl (fun _ => LX.idx rfl rfl rfl b rfl (by omega)) rfl ?_
  refine D3.r rfl rfl (LX.eq (LX.loadA rfl rfl (fun w hw => (hw.has (br, regsO R) (by repeat first | assumption | exact List.mem_cons_self | refine List.mem_cons_of_mem _ ?_)).2) (by omega)) (show _ = rg (.slice Ab fs.length capb) zb by rw [regC_at hRb])) (hms (L := [_])) rfl ?_
  refine D3.fork (z := .agg #[.slice none 0 0, .int .i64 0]) rfl rfl rfl (fun _ => by kernel_rfl) rfl rfl rfl (by decide) (by decide) (by decide) (by decide) (by decide) (by decide) (hms (L := [_])) ?_
  intro b9 b10 b11
  refine DW.fput rfl rfl (EX.storeG rfl rfl rfl (by repeat first | assumption | exact List.mem_cons_self | refine List.mem_cons_of_mem _ ?_ | refine List.mem_append_right _ ?_) rfl (by repeat first | exact Upd.here | apply Upd.there | apply Upd.app)) (hms (L := [_, _, _, _])) ?_
  
  refine DW.fput rfl rfl (EX.storeG rfl rfl rfl (by repeat first | assumption | exact List.mem_cons_self | refine List.mem_cons_of_mem _ ?_ | refine List.mem_append_right _ ?_) rfl (by repeat first | exact Upd.here | apply Upd.there | apply Upd.app)) (hms (L := [_, _, _, _])) ?_
  
  refine DW.fput rfl rfl (EX.storeG rfl rfl rfl (by repeat first | assumption | exact List.mem_cons_self | refine List.mem_cons_of_mem _ ?_ | refine List.mem_append_right _ ?_) rfl (by repeat first | exact Upd.here | apply Upd.there | apply Upd.app)) (hms (L := [_, _, _, _])) ?_
  rcases (show (0 ≤ k ∧ k ≤ 3) ∨ (4 ≤ k ∧ k ≤ 10) ∨ (k = 11) ∨ (k = 12) ∨ (k = 13) ∨ (k = 14) ∨ (k = 15) ∨ (k = 20) ∨ (16 ≤ k ∧ k ≤ 19) ∨ (k = 21) ∨ (k < 0) ∨ (21 < k) by omega) with hk | hk | hk | hk | hk | hk | hk | hk | hk | hk | hk | hk
  · skip
    refine DW.nil (thenK_normal (WC.seq (WC.block (WC.seq (WC.region (WL.q (LX.field0 rfl rfl) rfl ?_))))))
    refine WL.q (LX.load rfl rfl (by repeat first | assumption | exact List.mem_cons_self | refine List.mem_cons_of_mem _ ?_ | refine List.mem_append_right _ ?_) rfl) rfl ?_
    refine WL.q (LX.eq (LX.bin rfl rfl rfl) (tru (by omega))) rfl (WL.q (LX.move rfl) rfl (WL.yes rfl rfl (WL.q (LX.field0 rfl rfl) rfl (WL.yes rfl rfl ?_))))
    refine WL.q (LX.load rfl rfl (by repeat first | assumption | exact List.mem_cons_self | refine List.mem_cons_of_mem _ ?_ | refine List.mem_append_right _ ?_) rfl) rfl ?_
    refine WL.yes rfl rfl (WL.q (LX.eq (LX.bin rfl rfl rfl) (tru (by omega))) rfl (WL.q (LX.pickT rfl rfl) rfl (WL.q (LX.assign rfl) rfl (WL.nil (thenK_normal (WC.yes rfl (WC.seq (WC.region ?_))))))))
    refine WL.q (LX.loadR rfl rfl (by repeat first | assumption | exact List.mem_cons_self | refine List.mem_cons_of_mem _ ?_ | refine List.mem_append_right _ ?_) rfl) rfl ?_
    refine WL.q (LX.loadR rfl rfl (by repeat first | assumption | exact List.mem_cons_self | refine List.mem_cons_of_mem _ ?_ | refine List.mem_append_right _ ?_) rfl) rfl ?_
    refine WL.q (LX.move rfl) rfl ?_
    refine WL.callR (slaid (an := an) (za := za) (bn := bn) (zb := zb) (eA := (o : Int) = a) (eB := (o : Int) = b) (hs.mono fun _ hp => (by repeat first | assumption | exact List.mem_cons_self | refine List.mem_cons_of_mem _ ?_ | refine List.mem_append_right _ ?_)) hb hL (hm fun _ hp => (by repeat first | assumption | exact List.mem_cons_self | refine List.mem_cons_of_mem _ ?_ | refine List.mem_append_right _ ?_)).o (hm fun _ hp => (by repeat first | assumption | exact List.mem_cons_self | refine List.mem_cons_of_mem _ ?_ | refine List.mem_append_right _ ?_)).m h.lm h.V1 h.bl h.km1 hk hnum) rfl (fun _ => by kernel_rfl) rfl ?_
    rintro _ _ ⟨r, t, ok, rfl, A', len', cap', s', rfl, ⟨N, rfl⟩, hok⟩
    refine WL.q (LX.extract rfl rfl) rfl (WL.q (LX.extract rfl rfl) rfl (WL.q (LX.extract rfl rfl) rfl ?_))
    refine WL.put (EX.storeG rfl rfl rfl (by repeat first | assumption | exact List.mem_cons_self | refine List.mem_cons_of_mem _ ?_ | refine List.mem_append_right _ ?_) rfl (by repeat first | exact Upd.here | apply Upd.there | apply Upd.app)) ?_
    refine WL.q (LX.assign rfl) rfl (WL.q (LX.assign rfl) rfl (WL.nil (thenK_normal (WC.ret (blockK_ret (thenK_ret ?_))))))
    exact KR.cell3 (.inl rfl) rfl rfl rfl rfl (by repeat first | assumption | exact List.mem_cons_self | refine List.mem_cons_of_mem _ ?_ | refine List.mem_append_right _ ?_) rfl rfl ⟨_, _, _, rfl, _, _, _, _, rfl, pre5, fun h1 => let ⟨x, gs, h2, h3⟩ := hok h1; ⟨x, gs, h2.skip3, h3⟩⟩
  · skip
    refine DW.nil (thenK_normal (WC.seq (WC.block (WC.seq (WC.region (WL.q (LX.field0 rfl rfl) rfl ?_))))))
    refine WL.q (LX.load rfl rfl (by repeat first | assumption | exact List.mem_cons_self | refine List.mem_cons_of_mem _ ?_ | refine List.mem_append_right _ ?_) rfl) rfl ?_
    refine WL.q (LX.eq (LX.bin rfl rfl rfl) (tru (by omega))) rfl (WL.q (LX.move rfl) rfl (WL.yes rfl rfl (WL.q (LX.field0 rfl rfl) rfl (WL.yes rfl rfl ?_))))
    refine WL.q (LX.load rfl rfl (by repeat first | assumption | exact List.mem_cons_self | refine List.mem_cons_of_mem _ ?_ | refine List.mem_append_right _ ?_) rfl) rfl ?_
    refine WL.yes rfl rfl (WL.q (LX.eq (LX.bin rfl rfl rfl) (fls (by omega))) rfl (WL.q (LX.pickT rfl rfl) rfl (WL.q (LX.assign rfl) rfl (WL.nil (thenK_normal (WC.no rfl (WC.seq (WC.region (WL.q (LX.field0 rfl rfl) rfl ?_)))))))))
    refine WL.q (LX.load rfl rfl (by repeat first | assumption | exact List.mem_cons_self | refine List.mem_cons_of_mem _ ?_ | refine List.mem_append_right _ ?_) rfl) rfl ?_
    refine WL.q (LX.eq (LX.bin rfl rfl rfl) (tru (by omega))) rfl (WL.q (LX.move rfl) rfl (WL.yes rfl rfl (WL.q (LX.field0 rfl rfl) rfl (WL.yes rfl rfl ?_))))
    refine WL.q (LX.load rfl rfl (by repeat first | assumption | exact List.mem_cons_self | refine List.mem_cons_of_mem _ ?_ | refine List.mem_append_right _ ?_) rfl) rfl ?_
    refine WL.yes rfl rfl (WL.q (LX.eq (LX.bin rfl rfl rfl) (tru (by omega))) rfl (WL.q (LX.pickT rfl rfl) rfl (WL.q (LX.assign rfl) rfl (WL.nil (thenK_normal (WC.yes rfl (WC.seq (WC.region ?_))))))))
    refine WL.q (LX.loadR rfl rfl (by repeat first | assumption | exact List.mem_cons_self | refine List.mem_cons_of_mem _ ?_ | refine List.mem_append_right _ ?_) rfl) rfl ?_
    refine WL.q (LX.loadR rfl rfl (by repeat first | assumption | exact List.mem_cons_self | refine List.mem_cons_of_mem _ ?_ | refine List.mem_append_right _ ?_) rfl) rfl ?_
    refine WL.q (LX.loadR rfl rfl (by repeat first | assumption | exact List.mem_cons_self | refine List.mem_cons_of_mem _ ?_ | refine List.mem_append_right _ ?_) rfl) rfl ?_
    refine WL.q (LX.loadR rfl rfl (by repeat first | assumption | exact List.mem_cons_self | refine List.mem_cons_of_mem _ ?_ | refine List.mem_append_right _ ?_) rfl) rfl ?_
    refine WL.q (LX.move rfl) rfl ?_
    refine WL.callR (sreck (hm fun _ hp => (by repeat first | assumption | exact List.mem_cons_self | refine List.mem_cons_of_mem _ ?_ | refine List.mem_append_right _ ?_)) (hs.mono fun _ hp => (by repeat first | assumption | exact List.mem_cons_self | refine List.mem_cons_of_mem _ ?_ | refine List.mem_append_right _ ?_)) hb hL hk) rfl (fun _ => by kernel_rfl) rfl ?_
    rintro _ _ ⟨r, ok, rfl, A', len', cap', s', rfl, ⟨N, rfl⟩, hok⟩
    refine WL.q (LX.move rfl) rfl (WL.q (LX.extract rfl rfl) rfl (WL.q (LX.extract rfl rfl) rfl (WL.step rfl (EX.alloc (z := .agg #[.slice none 0 0, .int .i64 0]) (fun _ => by kernel_rfl)) ?_)))
    rintro _ _ ⟨b12, rfl, rfl⟩
    refine WL.put (EX.storeG rfl rfl rfl (by repeat first | assumption | exact List.mem_cons_self | refine List.mem_cons_of_mem _ ?_ | refine List.mem_append_right _ ?_) rfl (by repeat first | exact Upd.here | apply Upd.there | apply Upd.app)) ?_
    refine WL.q (LX.assign rfl) rfl (WL.nil (thenK_normal (WC.seq (WC.region ?_))))
    refine WL.q (LX.loadR rfl rfl (by repeat first | assumption | exact List.mem_cons_self | refine List.mem_cons_of_mem _ ?_ | refine List.mem_append_right _ ?_) rfl) rfl ?_
    refine WL.q (LX.move rfl) rfl ?_
    refine WL.put (EX.storeG rfl rfl rfl (by repeat first | assumption | exact List.mem_cons_self | refine List.mem_cons_of_mem _ ?_ | refine List.mem_append_right _ ?_) rfl (by repeat first | exact Upd.here | apply Upd.there | apply Upd.app)) ?_
    refine WL.q (LX.assign rfl) rfl (WL.q (LX.assign rfl) rfl (WL.nil (thenK_normal (WC.ret (blockK_ret (thenK_ret ?_))))))
    exact KR.cell3 (.inl rfl) rfl rfl rfl rfl (by repeat first | assumption | exact List.mem_cons_self | refine List.mem_cons_of_mem _ ?_ | refine List.mem_append_right _ ?_) rfl rfl ⟨_, _, _, rfl, _, _, _, _, rfl, pre_up (L := [_]) pre5, fun h1 => let ⟨x, gs, h2, h3⟩ := hok h1; ⟨x, gs, h2.skip3.mono fun _ hp => List.mem_cons_of_mem _ hp, h3⟩⟩
  · skip
    refine DW.nil (thenK_normal (WC.seq (WC.block (WC.seq (WC.region (WL.q (LX.field0 rfl rfl) rfl ?_))))))
    refine WL.q (LX.load rfl rfl (by repeat first | assumption | exact List.mem_cons_self | refine List.mem_cons_of_mem _ ?_ | refine List.mem_append_right _ ?_) rfl) rfl ?_
    refine WL.q (LX.eq (LX.bin rfl rfl rfl) (tru (by omega))) rfl (WL.q (LX.move rfl) rfl (WL.yes rfl rfl (WL.q (LX.field0 rfl rfl) rfl (WL.yes rfl rfl ?_))))
    refine WL.q (LX.load rfl rfl (by repeat first | assumption | exact List.mem_cons_self | refine List.mem_cons_of_mem _ ?_ | refine List.mem_append_right _ ?_) rfl) rfl ?_
    refine WL.yes rfl rfl (WL.q (LX.eq (LX.bin rfl rfl rfl) (fls (by omega))) rfl (WL.q (LX.pickT rfl rfl) rfl (WL.q (LX.assign rfl) rfl (WL.nil (thenK_normal (WC.no rfl (WC.seq (WC.region (WL.q (LX.field0 rfl rfl) rfl ?_)))))))))
    refine WL.q (LX.load rfl rfl (by repeat first | assumption | exact List.mem_cons_self | refine List.mem_cons_of_mem _ ?_ | refine List.mem_append_right _ ?_) rfl) rfl ?_
    refine WL.q (LX.eq (LX.bin rfl rfl rfl) (tru (by omega))) rfl (WL.q (LX.move rfl) rfl (WL.yes rfl rfl (WL.q (LX.field0 rfl rfl) rfl (WL.yes rfl rfl ?_))))
    refine WL.q (LX.load rfl rfl (by repeat first | assumption | exact List.mem_cons_self | refine List.mem_cons_of_mem _ ?_ | refine List.mem_append_right _ ?_) rfl) rfl ?_
    refine WL.yes rfl rfl (WL.q (LX.eq (LX.bin rfl rfl rfl) (fls (by omega))) rfl (WL.q (LX.pickT rfl rfl) rfl (WL.q (LX.assign rfl) rfl (WL.nil (thenK_normal (WC.no rfl (WC.seq (WC.region (WL.q (LX.field0 rfl rfl) rfl ?_)))))))))
    refine WL.q (LX.load rfl rfl (by repeat first | assumption | exact List.mem_cons_self | refine List.mem_cons_of_mem _ ?_ | refine List.mem_append_right _ ?_) rfl) rfl ?_
    refine WL.q (LX.eq (LX.bin rfl rfl rfl) (tru (by omega))) rfl (WL.q (LX.move rfl) rfl (WL.no rfl rfl (by decide) rfl (WL.no rfl rfl (by decide) rfl (WL.no rfl rfl (by decide) rfl (WL.q (LX.pickT rfl rfl) rfl (WL.q (LX.assign rfl) rfl (WL.nil (thenK_normal (WC.yes rfl (WC.seq (WC.region ?_)))))))))))
    refine WL.q (LX.loadR rfl rfl (by repeat first | assumption | exact List.mem_cons_self | refine List.mem_cons_of_mem _ ?_ | refine List.mem_append_right _ ?_) rfl) rfl ?_
    refine WL.q (LX.loadR rfl rfl (by repeat first | assumption | exact List.mem_cons_self | refine List.mem_cons_of_mem _ ?_ | refine List.mem_append_right _ ?_) rfl) rfl ?_
    refine WL.q (LX.loadR rfl rfl (by repeat first | assumption | exact List.mem_cons_self | refine List.mem_cons_of_mem _ ?_ | refine List.mem_append_right _ ?_) rfl) rfl ?_
    refine WL.q (LX.loadR rfl rfl (by repeat first | assumption | exact List.mem_cons_self | refine List.mem_cons_of_mem _ ?_ | refine List.mem_append_right _ ?_) rfl) rfl ?_
    refine WL.q (LX.move rfl) rfl ?_
    refine WL.callR (sfound (bs := bs) (hm fun _ hp => (by repeat first | assumption | exact List.mem_cons_self | refine List.mem_cons_of_mem _ ?_ | refine List.mem_append_right _ ?_)) (by omega)) rfl (fun _ => by kernel_rfl) rfl ?_
    rintro _ _ ⟨r, t, ok, rfl, A', len', cap', s', rfl, ⟨N, rfl⟩, hok⟩
    refine WL.q (LX.extract rfl rfl) rfl (WL.q (LX.extract rfl rfl) rfl (WL.q (LX.extract rfl rfl) rfl ?_))
    refine WL.put (EX.storeG rfl rfl rfl (by repeat first | assumption | exact List.mem_cons_self | refine List.mem_cons_of_mem _ ?_ | refine List.mem_append_right _ ?_) rfl (by repeat first | exact Upd.here | apply Upd.there | apply Upd.app)) ?_
    refine WL.q (LX.assign rfl) rfl (WL.q (LX.assign rfl) rfl (WL.nil (thenK_normal (WC.ret (blockK_ret (thenK_ret ?_))))))
    exact KR.cell3 (.inl rfl) rfl rfl rfl rfl (by repeat first | assumption | exact List.mem_cons_self | refine List.mem_cons_of_mem _ ?_ | refine List.mem_append_right _ ?_) rfl rfl ⟨_, _, _, rfl, _, _, _, _, rfl, pre5, fun h1 => let ⟨x, gs, h2, h3⟩ := hok h1; ⟨x, gs, h2.skip3, h3⟩⟩
  · skip
    refine DW.nil (thenK_normal (WC.seq (WC.block (WC.seq (WC.region (WL.q (LX.field0 rfl rfl) rfl ?_))))))
    refine WL.q (LX.load rfl rfl (by repeat first | assumption | exact List.mem_cons_self | refine List.mem_cons_of_mem _ ?_ | refine List.mem_append_right _ ?_) rfl) rfl ?_
    refine WL.q (LX.eq (LX.bin rfl rfl rfl) (tru (by omega))) rfl (WL.q (LX.move rfl) rfl (WL.yes rfl rfl (WL.q (LX.field0 rfl rfl) rfl (WL.yes rfl rfl ?_))))
    refine WL.q (LX.load rfl rfl (by repeat first | assumption | exact List.mem_cons_self | refine List.mem_cons_of_mem _ ?_ | refine List.mem_append_right _ ?_) rfl) rfl ?_
    refine WL.yes rfl rfl (WL.q (LX.eq (LX.bin rfl rfl rfl) (fls (by omega))) rfl (WL.q (LX.pickT rfl rfl) rfl (WL.q (LX.assign rfl) rfl (WL.nil (thenK_normal (WC.no rfl (WC.seq (WC.region (WL.q (LX.field0 rfl rfl) rfl ?_)))))))))
    refine WL.q (LX.load rfl rfl (by repeat first | assumption | exact List.mem_cons_self | refine List.mem_cons_of_mem _ ?_ | refine List.mem_append_right _ ?_) rfl) rfl ?_
    refine WL.q (LX.eq (LX.bin rfl rfl rfl) (tru (by omega))) rfl (WL.q (LX.move rfl) rfl (WL.yes rfl rfl (WL.q (LX.field0 rfl rfl) rfl (WL.yes rfl rfl ?_))))
    refine WL.q (LX.load rfl rfl (by repeat first | assumption | exact List.mem_cons_self | refine List.mem_cons_of_mem _ ?_ | refine List.mem_append_right _ ?_) rfl) rfl ?_
    refine WL.yes rfl rfl (WL.q (LX.eq (LX.bin rfl rfl rfl) (fls (by omega))) rfl (WL.q (LX.pickT rfl rfl) rfl (WL.q (LX.assign rfl) rfl (WL.nil (thenK_normal (WC.no rfl (WC.seq (WC.region (WL.q (LX.field0 rfl rfl) rfl ?_)))))))))
    refine WL.q (LX.load rfl rfl (by repeat first | assumption | exact List.mem_cons_self | refine List.mem_cons_of_mem _ ?_ | refine List.mem_append_right _ ?_) rfl) rfl ?_
    refine WL.q (LX.eq (LX.bin rfl rfl rfl) (fls (by omega))) rfl (WL.q (LX.move rfl) rfl (WL.yes rfl rfl (WL.q (LX.field0 rfl rfl) rfl (WL.yes rfl rfl ?_))))
    refine WL.q (LX.load rfl rfl (by repeat first | assumption | exact List.mem_cons_self | refine List.mem_cons_of_mem _ ?_ | refine List.mem_append_right _ ?_) rfl) rfl ?_
    refine WL.yes rfl rfl (WL.q (LX.eq (LX.bin rfl rfl rfl) (tru (by omega))) rfl (WL.q (LX.pickF rfl rfl) rfl (WL.q (LX.assign rfl) rfl (WL.nil (thenK_normal (WC.yes rfl (WC.seq (WC.region ?_))))))))
    refine WL.q (LX.loadR rfl rfl (by repeat first | assumption | exact List.mem_cons_self | refine List.mem_cons_of_mem _ ?_ | refine List.mem_append_right _ ?_) rfl) rfl ?_
    refine WL.q (LX.loadR rfl rfl (by repeat first | assumption | exact List.mem_cons_self | refine List.mem_cons_of_mem _ ?_ | refine List.mem_append_right _ ?_) rfl) rfl ?_
    refine WL.q (LX.loadR rfl rfl (by repeat first | assumption | exact List.mem_cons_self | refine List.mem_cons_of_mem _ ?_ | refine List.mem_append_right _ ?_) rfl) rfl ?_
    refine WL.q (LX.loadR rfl rfl (by repeat first | assumption | exact List.mem_cons_self | refine List.mem_cons_of_mem _ ?_ | refine List.mem_append_right _ ?_) rfl) rfl ?_
    refine WL.q (LX.move rfl) rfl ?_
    refine WL.callR (sfound (bs := bs) (hm fun _ hp => (by repeat first | assumption | exact List.mem_cons_self | refine List.mem_cons_of_mem _ ?_ | refine List.mem_append_right _ ?_)) (by omega)) rfl (fun _ => by kernel_rfl) rfl ?_
    rintro _ _ ⟨r, t, ok, rfl, A', len', cap', s', rfl, ⟨N, rfl⟩, hok⟩
    refine WL.q (LX.extract rfl rfl) rfl (WL.q (LX.extract rfl rfl) rfl (WL.q (LX.extract rfl rfl) rfl ?_))
    refine WL.put (EX.storeG rfl rfl rfl (by repeat first | assumption | exact List.mem_cons_self | refine List.mem_cons_of_mem _ ?_ | refine List.mem_append_right _ ?_) rfl (by repeat first | exact Upd.here | apply Upd.there | apply Upd.app)) ?_
    refine WL.q (LX.assign rfl) rfl (WL.q (LX.assign rfl) rfl (WL.nil (thenK_normal (WC.ret (blockK_ret (thenK_ret ?_))))))
    exact KR.cell3 (.inl rfl) rfl rfl rfl rfl (by repeat first | assumption | exact List.mem_cons_self | refine List.mem_cons_of_mem _ ?_ | refine List.mem_append_right _ ?_) rfl rfl ⟨_, _, _, rfl, _, _, _, _, rfl, pre5, fun h1 => let ⟨x, gs, h2, h3⟩ := hok h1; ⟨x, gs, h2.skip3, h3⟩⟩
  · skip
    by_cases hz : zo ≥ 0
    · by_cases hn : num ≥ 0
      · skip
        refine DW.nil (thenK_normal (WC.seq (WC.block (WC.seq (WC.region (WL.q (LX.field0 rfl rfl) rfl ?_))))))
        refine WL.q (LX.load rfl rfl (by repeat first | assumption | exact List.mem_cons_self | refine List.mem_cons_of_mem _ ?_ | refine List.mem_append_right _ ?_) rfl) rfl ?_
        refine WL.q (LX.eq (LX.bin rfl rfl rfl) (tru (by omega))) rfl (WL.q (LX.move rfl) rfl (WL.yes rfl rfl (WL.q (LX.field0 rfl rfl) rfl (WL.yes rfl rfl ?_))))
        refine WL.q (LX.load rfl rfl (by repeat first | assumption | exact List.mem_cons_self | refine List.mem_cons_of_mem _ ?_ | refine List.mem_append_right _ ?_) rfl) rfl ?_
        refine WL.yes rfl rfl (WL.q (LX.eq (LX.bin rfl rfl rfl) (fls (by omega))) rfl (WL.q (LX.pickT rfl rfl) rfl (WL.q (LX.assign rfl) rfl (WL.nil (thenK_normal (WC.no rfl (WC.seq (WC.region (WL.q (LX.field0 rfl rfl) rfl ?_)))))))))
        refine WL.q (LX.load rfl rfl (by repeat first | assumption | exact List.mem_cons_self | refine List.mem_cons_of_mem _ ?_ | refine List.mem_append_right _ ?_) rfl) rfl ?_
        refine WL.q (LX.eq (LX.bin rfl rfl rfl) (tru (by omega))) rfl (WL.q (LX.move rfl) rfl (WL.yes rfl rfl (WL.q (LX.field0 rfl rfl) rfl (WL.yes rfl rfl ?_))))
        refine WL.q (LX.load rfl rfl (by repeat first | assumption | exact List.mem_cons_self | refine List.mem_cons_of_mem _ ?_ | refine List.mem_append_right _ ?_) rfl) rfl ?_
        refine WL.yes rfl rfl (WL.q (LX.eq (LX.bin rfl rfl rfl) (fls (by omega))) rfl (WL.q (LX.pickT rfl rfl) rfl (WL.q (LX.assign rfl) rfl (WL.nil (thenK_normal (WC.no rfl (WC.seq (WC.region (WL.q (LX.field0 rfl rfl) rfl ?_)))))))))
        refine WL.q (LX.load rfl rfl (by repeat first | assumption | exact List.mem_cons_self | refine List.mem_cons_of_mem _ ?_ | refine List.mem_append_right _ ?_) rfl) rfl ?_
        refine WL.q (LX.eq (LX.bin rfl rfl rfl) (fls (by omega))) rfl (WL.q (LX.move rfl) rfl (WL.yes rfl rfl (WL.q (LX.field0 rfl rfl) rfl (WL.yes rfl rfl ?_))))
        refine WL.q (LX.load rfl rfl (by repeat first | assumption | exact List.mem_cons_self | refine List.mem_cons_of_mem _ ?_ | refine List.mem_append_right _ ?_) rfl) rfl ?_
        refine WL.yes rfl rfl (WL.q (LX.eq (LX.bin rfl rfl rfl) (fls (by omega))) rfl (WL.q (LX.pickF rfl rfl) rfl (WL.q (LX.assign rfl) rfl (WL.nil (thenK_normal (WC.no rfl (WC.seq (WC.region (WL.q (LX.field0 rfl rfl) rfl ?_)))))))))
        refine WL.q (LX.load rfl rfl (by repeat first | assumption | exact List.mem_cons_self | refine List.mem_cons_of_mem _ ?_ | refine List.mem_append_right _ ?_) rfl) rfl ?_
        refine WL.q (LX.eq (LX.bin rfl rfl rfl) (tru (by omega))) rfl (WL.q (LX.assign rfl) rfl (WL.nil (thenK_normal (WC.yes rfl (WC.seq (WC.draw [(0, 0), (0, 2), (0, 6), (0, 9), (1, 1), (1, 3), (0, 4), (1, 7), (1, 10), (0, 11), (2, 5), (0, 8), (0, 12), (0, 13), (1, 14), (0, 15), (0, 16), (0, 17), (0, 18), (1, 19), (0, 20), (0, 21), (2, 22), (0, 23), (0, 24)] [(b9, rgO (.slice Ao ds.length capo) zo), (b4, stO k o a b m num (.slice A bs.length cap))] rfl (by kernel_rfl) rfl (by kernel_rfl) (DW.p rfl rfl (fun _ => LX.field0 rfl rfl) rfl (DW.p rfl rfl (fun _ => LX.field0 rfl rfl) rfl (DW.p rfl rfl (fun _ => LX.field0 rfl rfl) rfl (DW.p rfl rfl (fun _ => LX.field0 rfl rfl) rfl ?_))))))))))
        refine DW.r rfl rfl (LX.load rfl rfl (by repeat first | assumption | exact List.mem_cons_self | refine List.mem_cons_of_mem _ ?_ | refine List.mem_append_right _ ?_) rfl) (in2 (L := [])) rfl ?_
        refine DW.r rfl rfl (LX.load rfl rfl (by repeat first | assumption | exact List.mem_cons_self | refine List.mem_cons_of_mem _ ?_ | refine List.mem_append_right _ ?_) rfl) (in2 (L := [])) rfl ?_
        refine DW.p rfl rfl (fun _ => LX.max rfl rfl) rfl ?_
        refine DW.r rfl rfl (LX.load rfl rfl (by repeat first | assumption | exact List.mem_cons_self | refine List.mem_cons_of_mem _ ?_ | refine List.mem_append_right _ ?_) rfl) (in2 (L := [])) rfl ?_
        refine DW.r rfl rfl (LX.load rfl rfl (by repeat first | assumption | exact List.mem_cons_self | refine List.mem_cons_of_mem _ ?_ | refine List.mem_append_right _ ?_) rfl) (in2 (L := [])) rfl ?_
        refine DW.p rfl rfl (fun _ => LX.eq (LX.bin rfl rfl rfl) (tru hz)) rfl ?_
        have hsh : ∀ K, (∀ p ∈ M, p ∈ K) → CS w0 28 [.slice Ao ds.length capo, .int .i64 (if 0 < num then num else 0)] K (fun u M' => ∃ N gs, M' = N ++ K ∧ Num M' u (on / 2 ^ num.toNat) gs) := by
          intro K hK
          have := sshifted (w0 := w0) (M := K) (n := num.toNat) (hm hK).o (by have := h.lo; omega) (by omega)
          rwa [show ((num.toNat : Nat) : Int) = if 0 < num then num else 0 by split <;> omega] at this
        refine DW.f rfl rfl (EX.call rfl (fun _ => by kernel_rfl) (hsh _ fun _ hp => (by repeat first | assumption | exact List.mem_cons_self | refine List.mem_cons_of_mem _ ?_ | refine List.mem_append_right _ ?_))) rfl ?_
        rintro y _ ⟨N, gs, rfl, hy⟩
        obtain ⟨Ay, capy, rfl, -⟩ := hy.mem.form
        refine ⟨in2, ?_⟩
        refine DW.p rfl rfl (fun _ => LX.build rfl (fun w => reg_build _ _ _ _ w)) rfl (DW.p rfl rfl (fun _ => LX.move rfl) rfl (DW.p rfl rfl (fun _ => LX.field0 rfl rfl) rfl ?_))
        refine DW.r rfl rfl (LX.load rfl rfl (by repeat first | assumption | exact List.mem_cons_self | refine List.mem_cons_of_mem _ ?_ | refine List.mem_append_right _ ?_) rfl) in2 rfl ?_
        refine DW.p rfl rfl (fun _ => LX.eq (LX.bin rfl rfl rfl) (tru hn)) rfl (DW.p rfl rfl (fun _ => LX.pickT rfl rfl) rfl (DW.p rfl rfl (fun _ => LX.move rfl) rfl (DW.p rfl rfl (fun _ => LX.field0 rfl rfl) rfl ?_)))
        refine DW.r rfl rfl (LX.load rfl rfl (by repeat first | assumption | exact List.mem_cons_self | refine List.mem_cons_of_mem _ ?_ | refine List.mem_append_right _ ?_) rfl) in2 rfl ?_
        refine DW.p rfl rfl (fun _ => LX.bin rfl rfl rfl) rfl (DW.p rfl rfl (fun _ => LX.pickT rfl rfl) rfl ?_)
        refine DW.fput rfl rfl (EX.storeG rfl rfl rfl (by repeat first | assumption | exact List.mem_cons_self | refine List.mem_cons_of_mem _ ?_ | refine List.mem_append_right _ ?_) rfl (by repeat first | exact Upd.here | apply Upd.there | apply Upd.app)) in2 ?_
        refine DW.p rfl rfl (fun _ => LX.assign rfl) rfl (DW.p rfl rfl (fun _ => LX.assign rfl) rfl (DW.nil (thenK_normal (WC.ret (blockK_ret (thenK_ret ?_))))))
        exact KR.cell3 (.inl rfl) rfl rfl rfl rfl (by repeat first | assumption | exact List.mem_cons_self | refine List.mem_cons_of_mem _ ?_ | refine List.mem_append_right _ ?_) rfl rfl ⟨_, _, _, rfl, _, _, _, _, rfl, pre5, fun hok => ⟨_, gs, hy.skip3, by rw [hk]; exact .k13 hz hn (of_decide_eq_true hok)⟩⟩
      · skip
        refine DW.nil (thenK_normal (WC.seq (WC.block (WC.seq (WC.region (WL.q (LX.field0 rfl rfl) rfl ?_))))))
        refine WL.q (LX.load rfl rfl (by repeat first | assumption | exact List.mem_cons_self | refine List.mem_cons_of_mem _ ?_ | refine List.mem_append_right _ ?_) rfl) rfl ?_
        refine WL.q (LX.eq (LX.bin rfl rfl rfl) (tru (by omega))) rfl (WL.q (LX.move rfl) rfl (WL.yes rfl rfl (WL.q (LX.field0 rfl rfl) rfl (WL.yes rfl rfl ?_))))
        refine WL.q (LX.load rfl rfl (by repeat first | assumption | exact List.mem_cons_self | refine List.mem_cons_of_mem _ ?_ | refine List.mem_append_right _ ?_) rfl) rfl ?_
        refine WL.yes rfl rfl (WL.q (LX.eq (LX.bin rfl rfl rfl) (fls (by omega))) rfl (WL.q (LX.pickT rfl rfl) rfl (WL.q (LX.assign rfl) rfl (WL.nil (thenK_normal (WC.no rfl (WC.seq (WC.region (WL.q (LX.field0 rfl rfl) rfl ?_)))))))))
        refine WL.q (LX.load rfl rfl (by repeat first | assumption | exact List.mem_cons_self | refine List.mem_cons_of_mem _ ?_ | refine List.mem_append_right _ ?_) rfl) rfl ?_
        refine WL.q (LX.eq (LX.bin rfl rfl rfl) (tru (by omega))) rfl (WL.q (LX.move rfl) rfl (WL.yes rfl rfl (WL.q (LX.field0 rfl rfl) rfl (WL.yes rfl rfl ?_))))
        refine WL.q (LX.load rfl rfl (by repeat first | assumption | exact List.mem_cons_self | refine List.mem_cons_of_mem _ ?_ | refine List.mem_append_right _ ?_) rfl) rfl ?_
        refine WL.yes rfl rfl (WL.q (LX.eq (LX.bin rfl rfl rfl) (fls (by omega))) rfl (WL.q (LX.pickT rfl rfl) rfl (WL.q (LX.assign rfl) rfl (WL.nil (thenK_normal (WC.no rfl (WC.seq (WC.region (WL.q (LX.field0 rfl rfl) rfl ?_)))))))))
        refine WL.q (LX.load rfl rfl (by repeat first | assumption | exact List.mem_cons_self | refine List.mem_cons_of_mem _ ?_ | refine List.mem_append_right _ ?_) rfl) rfl ?_
        refine WL.q (LX.eq (LX.bin rfl rfl rfl) (fls (by omega))) rfl (WL.q (LX.move rfl) rfl (WL.yes rfl rfl (WL.q (LX.field0 rfl rfl) rfl (WL.yes rfl rfl ?_))))
        refine WL.q (LX.load rfl rfl (by repeat first | assumption | exact List.mem_cons_self | refine List.mem_cons_of_mem _ ?_ | refine List.mem_append_right _ ?_) rfl) rfl ?_
        refine WL.yes rfl rfl (WL.q (LX.eq (LX.bin rfl rfl rfl) (fls (by omega))) rfl (WL.q (LX.pickF rfl rfl) rfl (WL.q (LX.assign rfl) rfl (WL.nil (thenK_normal (WC.no rfl (WC.seq (WC.region (WL.q (LX.field0 rfl rfl) rfl ?_)))))))))
        refine WL.q (LX.load rfl rfl (by repeat first | assumption | exact List.mem_cons_self | refine List.mem_cons_of_mem _ ?_ | refine List.mem_append_right _ ?_) rfl) rfl ?_
        refine WL.q (LX.eq (LX.bin rfl rfl rfl) (tru (by omega))) rfl (WL.q (LX.assign rfl) rfl (WL.nil (thenK_normal (WC.yes rfl (WC.seq (WC.draw [(0, 0), (0, 2), (0, 6), (0, 9), (1, 1), (1, 3), (0, 4), (1, 7), (1, 10), (0, 11), (2, 5), (0, 8), (0, 12), (0, 13), (1, 14), (0, 15), (0, 16), (0, 17), (0, 18), (0, 19), (0, 20), (0, 21), (2, 22), (0, 23), (0, 24)] [(b9, rgO (.slice Ao ds.length capo) zo), (b4, stO k o a b m num (.slice A bs.length cap))] rfl (by kernel_rfl) rfl (by kernel_rfl) (DW.p rfl rfl (fun _ => LX.field0 rfl rfl) rfl (DW.p rfl rfl (fun _ => LX.field0 rfl rfl) rfl (DW.p rfl rfl (fun _ => LX.field0 rfl rfl) rfl (DW.p rfl rfl (fun _ => LX.field0 rfl rfl) rfl ?_))))))))))
        refine DW.r rfl rfl (LX.load rfl rfl (by repeat first | assumption | exact List.mem_cons_self | refine List.mem_cons_of_mem _ ?_ | refine List.mem_append_right _ ?_) rfl) (in2 (L := [])) rfl ?_
        refine DW.r rfl rfl (LX.load rfl rfl (by repeat first | assumption | exact List.mem_cons_self | refine List.mem_cons_of_mem _ ?_ | refine List.mem_append_right _ ?_) rfl) (in2 (L := [])) rfl ?_
        refine DW.p rfl rfl (fun _ => LX.max rfl rfl) rfl ?_
        refine DW.r rfl rfl (LX.load rfl rfl (by repeat first | assumption | exact List.mem_cons_self | refine List.mem_cons_of_mem _ ?_ | refine List.mem_append_right _ ?_) rfl) (in2 (L := [])) rfl ?_
        refine DW.r rfl rfl (LX.load rfl rfl (by repeat first | assumption | exact List.mem_cons_self | refine List.mem_cons_of_mem _ ?_ | refine List.mem_append_right _ ?_) rfl) (in2 (L := [])) rfl ?_
        refine DW.p rfl rfl (fun _ => LX.eq (LX.bin rfl rfl rfl) (tru hz)) rfl ?_
        have hsh : ∀ K, (∀ p ∈ M, p ∈ K) → CS w0 28 [.slice Ao ds.length capo, .int .i64 (if 0 < num then num else 0)] K (fun u M' => ∃ N gs, M' = N ++ K ∧ Num M' u (on / 2 ^ num.toNat) gs) := by
          intro K hK
          have := sshifted (w0 := w0) (M := K) (n := num.toNat) (hm hK).o (by have := h.lo; omega) (by omega)
          rwa [show ((num.toNat : Nat) : Int) = if 0 < num then num else 0 by split <;> omega] at this
        refine DW.f rfl rfl (EX.call rfl (fun _ => by kernel_rfl) (hsh _ fun _ hp => (by repeat first | assumption | exact List.mem_cons_self | refine List.mem_cons_of_mem _ ?_ | refine List.mem_append_right _ ?_))) rfl ?_
        rintro y _ ⟨N, gs, rfl, hy⟩
        obtain ⟨Ay, capy, rfl, -⟩ := hy.mem.form
        refine ⟨in2, ?_⟩
        refine DW.p rfl rfl (fun _ => LX.build rfl (fun w => reg_build _ _ _ _ w)) rfl (DW.p rfl rfl (fun _ => LX.move rfl) rfl (DW.p rfl rfl (fun _ => LX.field0 rfl rfl) rfl ?_))
        refine DW.r rfl rfl (LX.load rfl rfl (by repeat first | assumption | exact List.mem_cons_self | refine List.mem_cons_of_mem _ ?_ | refine List.mem_append_right _ ?_) rfl) in2 rfl ?_
        refine DW.p rfl rfl (fun _ => LX.eq (LX.bin rfl rfl rfl) (fls hn)) rfl (DW.p rfl rfl (fun _ => LX.pickT rfl rfl) rfl (DW.p rfl rfl (fun _ => LX.move rfl) rfl (DW.skip rfl rfl rfl (DW.skip rfl rfl rfl (DW.skip rfl rfl rfl (DW.p rfl rfl (fun _ => LX.pickF rfl rfl) rfl ?_))))))
        refine DW.fput rfl rfl (EX.storeG rfl rfl rfl (by repeat first | assumption | exact List.mem_cons_self | refine List.mem_cons_of_mem _ ?_ | refine List.mem_append_right _ ?_) rfl (by repeat first | exact Upd.here | apply Upd.there | apply Upd.app)) in2 ?_
        refine DW.p rfl rfl (fun _ => LX.assign rfl) rfl (DW.p rfl rfl (fun _ => LX.assign rfl) rfl (DW.nil (thenK_normal (WC.ret (blockK_ret (thenK_ret ?_))))))
        exact KR.cell3 (.inl rfl) rfl rfl rfl rfl (by repeat first | assumption | exact List.mem_cons_self | refine List.mem_cons_of_mem _ ?_ | refine List.mem_append_right _ ?_) rfl rfl ⟨_, _, _, rfl, _, _, _, _, rfl, pre5, fun hok => by cases hok⟩
    · skip
      refine DW.nil (thenK_normal (WC.seq (WC.block (WC.seq (WC.region (WL.q (LX.field0 rfl rfl) rfl ?_))))))
      refine WL.q (LX.load rfl rfl (by repeat first | assumption | exact List.mem_cons_self | refine List.mem_cons_of_mem _ ?_ | refine List.mem_append_right _ ?_) rfl) rfl ?_
      refine WL.q (LX.eq (LX.bin rfl rfl rfl) (tru (by omega))) rfl (WL.q (LX.move rfl) rfl (WL.yes rfl rfl (WL.q (LX.field0 rfl rfl) rfl (WL.yes rfl rfl ?_))))
      refine WL.q (LX.load rfl rfl (by repeat first | assumption | exact List.mem_cons_self | refine List.mem_cons_of_mem _ ?_ | refine List.mem_append_right _ ?_) rfl) rfl ?_
      refine WL.yes rfl rfl (WL.q (LX.eq (LX.bin rfl rfl rfl) (fls (by omega))) rfl (WL.q (LX.pickT rfl rfl) rfl (WL.q (LX.assign rfl) rfl (WL.nil (thenK_normal (WC.no rfl (WC.seq (WC.region (WL.q (LX.field0 rfl rfl) rfl ?_)))))))))
      refine WL.q (LX.load rfl rfl (by repeat first | assumption | exact List.mem_cons_self | refine List.mem_cons_of_mem _ ?_ | refine List.mem_append_right _ ?_) rfl) rfl ?_
      refine WL.q (LX.eq (LX.bin rfl rfl rfl) (tru (by omega))) rfl (WL.q (LX.move rfl) rfl (WL.yes rfl rfl (WL.q (LX.field0 rfl rfl) rfl (WL.yes rfl rfl ?_))))
      refine WL.q (LX.load rfl rfl (by repeat first | assumption | exact List.mem_cons_self | refine List.mem_cons_of_mem _ ?_ | refine List.mem_append_right _ ?_) rfl) rfl ?_
      refine WL.yes rfl rfl (WL.q (LX.eq (LX.bin rfl rfl rfl) (fls (by omega))) rfl (WL.q (LX.pickT rfl rfl) rfl (WL.q (LX.assign rfl) rfl (WL.nil (thenK_normal (WC.no rfl (WC.seq (WC.region (WL.q (LX.field0 rfl rfl) rfl ?_)))))))))
      refine WL.q (LX.load rfl rfl (by repeat first | assumption | exact List.mem_cons_self | refine List.mem_cons_of_mem _ ?_ | refine List.mem_append_right _ ?_) rfl) rfl ?_
      refine WL.q (LX.eq (LX.bin rfl rfl rfl) (fls (by omega))) rfl (WL.q (LX.move rfl) rfl (WL.yes rfl rfl (WL.q (LX.field0 rfl rfl) rfl (WL.yes rfl rfl ?_))))
      refine WL.q (LX.load rfl rfl (by repeat first | assumption | exact List.mem_cons_self | refine List.mem_cons_of_mem _ ?_ | refine List.mem_append_right _ ?_) rfl) rfl ?_
      refine WL.yes rfl rfl (WL.q (LX.eq (LX.bin rfl rfl rfl) (fls (by omega))) rfl (WL.q (LX.pickF rfl rfl) rfl (WL.q (LX.assign rfl) rfl (WL.nil (thenK_normal (WC.no rfl (WC.seq (WC.region (WL.q (LX.field0 rfl rfl) rfl ?_)))))))))
      refine WL.q (LX.load rfl rfl (by repeat first | assumption | exact List.mem_cons_self | refine List.mem_cons_of_mem _ ?_ | refine List.mem_append_right _ ?_) rfl) rfl ?_
      refine WL.q (LX.eq (LX.bin rfl rfl rfl) (tru (by omega))) rfl (WL.q (LX.assign rfl) rfl (WL.nil (thenK_normal (WC.yes rfl (WC.seq (WC.draw [(0, 0), (0, 2), (0, 6), (0, 9), (1, 1), (1, 3), (0, 4), (1, 7), (1, 10), (0, 11), (2, 5), (0, 8), (0, 12), (0, 13), (0, 14), (0, 15), (0, 16), (0, 17), (0, 18), (0, 19), (0, 20), (0, 21), (2, 22), (0, 23), (0, 24)] [(b9, rgO (.slice Ao ds.length capo) zo), (b4, stO k o a b m num (.slice A bs.length cap))] rfl (by kernel_rfl) rfl (by kernel_rfl) (DW.p rfl rfl (fun _ => LX.field0 rfl rfl) rfl (DW.p rfl rfl (fun _ => LX.field0 rfl rfl) rfl (DW.p rfl rfl (fun _ => LX.field0 rfl rfl) rfl (DW.p rfl rfl (fun _ => LX.field0 rfl rfl) rfl ?_))))))))))
      refine DW.r rfl rfl (LX.load rfl rfl (by repeat first | assumption | exact List.mem_cons_self | refine List.mem_cons_of_mem _ ?_ | refine List.mem_append_right _ ?_) rfl) (in2 (L := [])) rfl ?_
      refine DW.r rfl rfl (LX.load rfl rfl (by repeat first | assumption | exact List.mem_cons_self | refine List.mem_cons_of_mem _ ?_ | refine List.mem_append_right _ ?_) rfl) (in2 (L := [])) rfl ?_
      refine DW.p rfl rfl (fun _ => LX.max rfl rfl) rfl ?_
      refine DW.r rfl rfl (LX.load rfl rfl (by repeat first | assumption | exact List.mem_cons_self | refine List.mem_cons_of_mem _ ?_ | refine List.mem_append_right _ ?_) rfl) (in2 (L := [])) rfl ?_
      refine DW.r rfl rfl (LX.load rfl rfl (by repeat first | assumption | exact List.mem_cons_self | refine List.mem_cons_of_mem _ ?_ | refine List.mem_append_right _ ?_) rfl) (in2 (L := [])) rfl ?_
      refine DW.p rfl rfl (fun _ => LX.eq (LX.bin rfl rfl rfl) (fls hz)) rfl ?_
      have hsh : ∀ K, (∀ p ∈ M, p ∈ K) → CS w0 28 [.slice Ao ds.length capo, .int .i64 (if 0 < num then num else 0)] K (fun u M' => ∃ N gs, M' = N ++ K ∧ Num M' u (on / 2 ^ num.toNat) gs) := by
        intro K hK
        have := sshifted (w0 := w0) (M := K) (n := num.toNat) (hm hK).o (by have := h.lo; omega) (by omega)
        rwa [show ((num.toNat : Nat) : Int) = if 0 < num then num else 0 by split <;> omega] at this
      refine DW.f rfl rfl (EX.call rfl (fun _ => by kernel_rfl) (hsh _ fun _ hp => (by repeat first | assumption | exact List.mem_cons_self | refine List.mem_cons_of_mem _ ?_ | refine List.mem_append_right _ ?_))) rfl ?_
      rintro y _ ⟨N, gs, rfl, hy⟩
      obtain ⟨Ay, capy, rfl, -⟩ := hy.mem.form
      refine ⟨in2, ?_⟩
      refine DW.p rfl rfl (fun _ => LX.build rfl (fun w => reg_build _ _ _ _ w)) rfl (DW.p rfl rfl (fun _ => LX.move rfl) rfl (DW.skip rfl rfl rfl (DW.skip rfl rfl rfl (DW.skip rfl rfl rfl (DW.p rfl rfl (fun _ => LX.pickF rfl rfl) rfl (DW.p rfl rfl (fun _ => LX.move rfl) rfl (DW.skip rfl rfl rfl (DW.skip rfl rfl rfl (DW.skip rfl rfl rfl (DW.p rfl rfl (fun _ => LX.pickF rfl rfl) rfl ?_))))))))))
      refine DW.fput rfl rfl (EX.storeG rfl rfl rfl (by repeat first | assumption | exact List.mem_cons_self | refine List.mem_cons_of_mem _ ?_ | refine List.mem_append_right _ ?_) rfl (by repeat first | exact Upd.here | apply Upd.there | apply Upd.app)) in2 ?_
      refine DW.p rfl rfl (fun _ => LX.assign rfl) rfl (DW.p rfl rfl (fun _ => LX.assign rfl) rfl (DW.nil (thenK_normal (WC.ret (blockK_ret (thenK_ret ?_))))))
      exact KR.cell3 (.inl rfl) rfl rfl rfl rfl (by repeat first | assumption | exact List.mem_cons_self | refine List.mem_cons_of_mem _ ?_ | refine List.mem_append_right _ ?_) rfl rfl ⟨_, _, _, rfl, _, _, _, _, rfl, pre5, fun hok => by cases hok⟩
  · skip
    refine DW.nil (thenK_normal (WC.seq (WC.block (WC.seq (WC.region (WL.q (LX.field0 rfl rfl) rfl ?_))))))
    refine WL.q (LX.load rfl rfl (by repeat first | assumption | exact List.mem_cons_self | refine List.mem_cons_of_mem _ ?_ | refine List.mem_append_right _ ?_) rfl) rfl ?_
    refine WL.q (LX.eq (LX.bin rfl rfl rfl) (tru (by omega))) rfl (WL.q (LX.move rfl) rfl (WL.yes rfl rfl (WL.q (LX.field0 rfl rfl) rfl (WL.yes rfl rfl ?_))))
    refine WL.q (LX.load rfl rfl (by repeat first | assumption | exact List.mem_cons_self | refine List.mem_cons_of_mem _ ?_ | refine List.mem_append_right _ ?_) rfl) rfl ?_
    refine WL.yes rfl rfl (WL.q (LX.eq (LX.bin rfl rfl rfl) (fls (by omega))) rfl (WL.q (LX.pickT rfl rfl) rfl (WL.q (LX.assign rfl) rfl (WL.nil (thenK_normal (WC.no rfl (WC.seq (WC.region (WL.q (LX.field0 rfl rfl) rfl ?_)))))))))
    refine WL.q (LX.load rfl rfl (by repeat first | assumption | exact List.mem_cons_self | refine List.mem_cons_of_mem _ ?_ | refine List.mem_append_right _ ?_) rfl) rfl ?_
    refine WL.q (LX.eq (LX.bin rfl rfl rfl) (tru (by omega))) rfl (WL.q (LX.move rfl) rfl (WL.yes rfl rfl (WL.q (LX.field0 rfl rfl) rfl (WL.yes rfl rfl ?_))))
    refine WL.q (LX.load rfl rfl (by repeat first | assumption | exact List.mem_cons_self | refine List.mem_cons_of_mem _ ?_ | refine List.mem_append_right _ ?_) rfl) rfl ?_
    refine WL.yes rfl rfl (WL.q (LX.eq (LX.bin rfl rfl rfl) (fls (by omega))) rfl (WL.q (LX.pickT rfl rfl) rfl (WL.q (LX.assign rfl) rfl (WL.nil (thenK_normal (WC.no rfl (WC.seq (WC.region (WL.q (LX.field0 rfl rfl) rfl ?_)))))))))
    refine WL.q (LX.load rfl rfl (by repeat first | assumption | exact List.mem_cons_self | refine List.mem_cons_of_mem _ ?_ | refine List.mem_append_right _ ?_) rfl) rfl ?_
    refine WL.q (LX.eq (LX.bin rfl rfl rfl) (fls (by omega))) rfl (WL.q (LX.move rfl) rfl (WL.yes rfl rfl (WL.q (LX.field0 rfl rfl) rfl (WL.yes rfl rfl ?_))))
    refine WL.q (LX.load rfl rfl (by repeat first | assumption | exact List.mem_cons_self | refine List.mem_cons_of_mem _ ?_ | refine List.mem_append_right _ ?_) rfl) rfl ?_
    refine WL.yes rfl rfl (WL.q (LX.eq (LX.bin rfl rfl rfl) (fls (by omega))) rfl (WL.q (LX.pickF rfl rfl) rfl (WL.q (LX.assign rfl) rfl (WL.nil (thenK_normal (WC.no rfl (WC.seq (WC.region (WL.q (LX.field0 rfl rfl) rfl ?_)))))))))
    refine WL.q (LX.load rfl rfl (by repeat first | assumption | exact List.mem_cons_self | refine List.mem_cons_of_mem _ ?_ | refine List.mem_append_right _ ?_) rfl) rfl ?_
    refine WL.q (LX.eq (LX.bin rfl rfl rfl) (fls (by omega))) rfl (WL.q (LX.assign rfl) rfl (WL.nil (thenK_normal (WC.no rfl (WC.seq (WC.region (WL.q (LX.field0 rfl rfl) rfl ?_)))))))
    refine WL.q (LX.load rfl rfl (by repeat first | assumption | exact List.mem_cons_self | refine List.mem_cons_of_mem _ ?_ | refine List.mem_append_right _ ?_) rfl) rfl ?_
    refine WL.q (LX.eq (LX.bin rfl rfl rfl) (tru (by omega))) rfl (WL.q (LX.assign rfl) rfl (WL.nil (thenK_normal (WC.yes rfl (WC.seq (WC.draw [(0, 0), (0, 3), (0, 6), (1, 1), (1, 4), (1, 7), (0, 8), (2, 2), (0, 5), (2, 9), (0, 10), (0, 11)] [(b9, rgO (.slice Ao ds.length capo) zo), (b4, stO k o a b m num (.slice A bs.length cap))] rfl (by kernel_rfl) rfl (by kernel_rfl) (DW.p rfl rfl (fun _ => LX.field0 rfl rfl) rfl (DW.p rfl rfl (fun _ => LX.field0 rfl rfl) rfl (DW.p rfl rfl (fun _ => LX.field0 rfl rfl) rfl ?_)))))))))
    refine DW.r rfl rfl (LX.load rfl rfl (by repeat first | assumption | exact List.mem_cons_self | refine List.mem_cons_of_mem _ ?_ | refine List.mem_append_right _ ?_) rfl) (in2 (L := [])) rfl ?_
    refine DW.r rfl rfl (LX.load rfl rfl (by repeat first | assumption | exact List.mem_cons_self | refine List.mem_cons_of_mem _ ?_ | refine List.mem_append_right _ ?_) rfl) (in2 (L := [])) rfl ?_
    refine DW.r rfl rfl (LX.load rfl rfl (by repeat first | assumption | exact List.mem_cons_self | refine List.mem_cons_of_mem _ ?_ | refine List.mem_append_right _ ?_) rfl) (in2 (L := [])) rfl ?_
    refine DW.p rfl rfl (fun _ => LX.bin rfl rfl rfl) rfl ?_
    refine DW.f rfl rfl (EX.call rfl (fun _ => by kernel_rfl) (sshifted (n := 1) (hm fun _ hp => (by repeat first | assumption | exact List.mem_cons_self | refine List.mem_cons_of_mem _ ?_ | refine List.mem_append_right _ ?_)).o (by have := h.lo; omega) (by omega))) rfl ?_
    rintro y _ ⟨N, gs, rfl, hy⟩
    obtain ⟨Ay, capy, rfl, -⟩ := hy.mem.form
    refine ⟨in2, ?_⟩
    refine DW.p rfl rfl (fun _ => LX.build rfl (fun w => reg_build _ _ _ _ w)) rfl ?_
    refine DW.fput rfl rfl (EX.storeG rfl rfl rfl (by repeat first | assumption | exact List.mem_cons_self | refine List.mem_cons_of_mem _ ?_ | refine List.mem_append_right _ ?_) rfl (by repeat first | exact Upd.here | apply Upd.there | apply Upd.app)) in2 ?_
    refine DW.p rfl rfl (fun _ => LX.assign rfl) rfl (DW.p rfl rfl (fun _ => LX.assign rfl) rfl (DW.nil (thenK_normal (WC.ret (blockK_ret (thenK_ret ?_))))))
    exact KR.cell3 (.inl rfl) rfl rfl rfl rfl (by repeat first | assumption | exact List.mem_cons_self | refine List.mem_cons_of_mem _ ?_ | refine List.mem_append_right _ ?_) rfl rfl ⟨_, _, _, rfl, _, _, _, _, rfl, pre5, fun hok => ⟨_, gs, hy.skip3, by rw [hk]; exact .k14 (of_decide_eq_true hok)⟩⟩
  · skip
    refine DW.nil (thenK_normal (WC.seq (WC.block (WC.seq (WC.region (WL.q (LX.field0 rfl rfl) rfl ?_))))))
    refine WL.q (LX.load rfl rfl (by repeat first | assumption | exact List.mem_cons_self | refine List.mem_cons_of_mem _ ?_ | refine List.mem_append_right _ ?_) rfl) rfl ?_
    refine WL.q (LX.eq (LX.bin rfl rfl rfl) (tru (by omega))) rfl (WL.q (LX.move rfl) rfl (WL.yes rfl rfl (WL.q (LX.field0 rfl rfl) rfl (WL.yes rfl rfl ?_))))
    refine WL.q (LX.load rfl rfl (by repeat first | assumption | exact List.mem_cons_self | refine List.mem_cons_of_mem _ ?_ | refine List.mem_append_right _ ?_) rfl) rfl ?_
    refine WL.yes rfl rfl (WL.q (LX.eq (LX.bin rfl rfl rfl) (fls (by omega))) rfl (WL.q (LX.pickT rfl rfl) rfl (WL.q (LX.assign rfl) rfl (WL.nil (thenK_normal (WC.no rfl (WC.seq (WC.region (WL.q (LX.field0 rfl rfl) rfl ?_)))))))))
    refine WL.q (LX.load rfl rfl (by repeat first | assumption | exact List.mem_cons_self | refine List.mem_cons_of_mem _ ?_ | refine List.mem_append_right _ ?_) rfl) rfl ?_
    refine WL.q (LX.eq (LX.bin rfl rfl rfl) (tru (by omega))) rfl (WL.q (LX.move rfl) rfl (WL.yes rfl rfl (WL.q (LX.field0 rfl rfl) rfl (WL.yes rfl rfl ?_))))
    refine WL.q (LX.load rfl rfl (by repeat first | assumption | exact List.mem_cons_self | refine List.mem_cons_of_mem _ ?_ | refine List.mem_append_right _ ?_) rfl) rfl ?_
    refine WL.yes rfl rfl (WL.q (LX.eq (LX.bin rfl rfl rfl) (fls (by omega))) rfl (WL.q (LX.pickT rfl rfl) rfl (WL.q (LX.assign rfl) rfl (WL.nil (thenK_normal (WC.no rfl (WC.seq (WC.region (WL.q (LX.field0 rfl rfl) rfl ?_)))))))))
    refine WL.q (LX.load rfl rfl (by repeat first | assumption | exact List.mem_cons_self | refine List.mem_cons_of_mem _ ?_ | refine List.mem_append_right _ ?_) rfl) rfl ?_
    refine WL.q (LX.eq (LX.bin rfl rfl rfl) (fls (by omega))) rfl (WL.q (LX.move rfl) rfl (WL.yes rfl rfl (WL.q (LX.field0 rfl rfl) rfl (WL.yes rfl rfl ?_))))
    refine WL.q (LX.load rfl rfl (by repeat first | assumption | exact List.mem_cons_self | refine List.mem_cons_of_mem _ ?_ | refine List.mem_append_right _ ?_) rfl) rfl ?_
    refine WL.yes rfl rfl (WL.q (LX.eq (LX.bin rfl rfl rfl) (fls (by omega))) rfl (WL.q (LX.pickF rfl rfl) rfl (WL.q (LX.assign rfl) rfl (WL.nil (thenK_normal (WC.no rfl (WC.seq (WC.region (WL.q (LX.field0 rfl rfl) rfl ?_)))))))))
    refine WL.q (LX.load rfl rfl (by repeat first | assumption | exact List.mem_cons_self | refine List.mem_cons_of_mem _ ?_ | refine List.mem_append_right _ ?_) rfl) rfl ?_
    refine WL.q (LX.eq (LX.bin rfl rfl rfl) (fls (by omega))) rfl (WL.q (LX.assign rfl) rfl (WL.nil (thenK_normal (WC.no rfl (WC.seq (WC.region (WL.q (LX.field0 rfl rfl) rfl ?_)))))))
    refine WL.q (LX.load rfl rfl (by repeat first | assumption | exact List.mem_cons_self | refine List.mem_cons_of_mem _ ?_ | refine List.mem_append_right _ ?_) rfl) rfl ?_
    refine WL.q (LX.eq (LX.bin rfl rfl rfl) (fls (by omega))) rfl (WL.q (LX.assign rfl) rfl (WL.nil (thenK_normal (WC.no rfl (WC.seq (WC.region (WL.q (LX.field0 rfl rfl) rfl ?_)))))))
    refine WL.q (LX.load rfl rfl (by repeat first | assumption | exact List.mem_cons_self | refine List.mem_cons_of_mem _ ?_ | refine List.mem_append_right _ ?_) rfl) rfl ?_
    refine WL.q (LX.eq (LX.bin rfl rfl rfl) (tru (by omega))) rfl (WL.q (LX.assign rfl) rfl (WL.nil (thenK_normal (WC.yes rfl (WC.seq (WC.draw [(0, 1), (1, 0), (1, 2), (0, 3), (2, 4), (0, 5), (0, 6)] [(b10, rgO (.slice Aa es.length capa) za)] rfl (by kernel_rfl) rfl (by kernel_rfl) (DW.p rfl rfl (fun _ => LX.field0 rfl rfl) rfl ?_)))))))
    refine DW.r rfl rfl (LX.loadR rfl rfl (by repeat first | assumption | exact List.mem_cons_self | refine List.mem_cons_of_mem _ ?_ | refine List.mem_append_right _ ?_) rfl) (in1 (L := [])) rfl ?_
    refine DW.r rfl rfl (LX.load rfl rfl (by repeat first | assumption | exact List.mem_cons_self | refine List.mem_cons_of_mem _ ?_ | refine List.mem_append_right _ ?_) rfl) (in1 (L := [])) rfl ?_
    refine DW.p rfl rfl (fun _ => LX.bin rfl rfl rfl) rfl ?_
    refine DW.fput rfl rfl (EX.storeG rfl rfl rfl (by repeat first | assumption | exact List.mem_cons_self | refine List.mem_cons_of_mem _ ?_ | refine List.mem_append_right _ ?_) rfl (by repeat first | exact Upd.here | apply Upd.there | apply Upd.app)) (in1 (L := [])) ?_
    refine DW.p rfl rfl (fun _ => LX.assign rfl) rfl (DW.p rfl rfl (fun _ => LX.assign rfl) rfl (DW.nil (thenK_normal (WC.ret (blockK_ret (thenK_ret ?_))))))
    exact KR.cell3 (.inl rfl) rfl rfl rfl rfl (by repeat first | assumption | exact List.mem_cons_self | refine List.mem_cons_of_mem _ ?_ | refine List.mem_append_right _ ?_) rfl rfl ⟨_, _, _, rfl, _, _, _, _, rfl, pre5 (N := []), fun hok => ⟨_, es, (hm fun _ hp => (by repeat first | assumption | exact List.mem_cons_self | refine List.mem_cons_of_mem _ ?_ | refine List.mem_append_right _ ?_)).a, by rw [hk]; exact .k15 (of_decide_eq_true hok)⟩⟩
  · skip
    refine DW.nil (thenK_normal (WC.seq (WC.block (WC.seq (WC.region (WL.q (LX.field0 rfl rfl) rfl ?_))))))
    refine WL.q (LX.load rfl rfl (by repeat first | assumption | exact List.mem_cons_self | refine List.mem_cons_of_mem _ ?_ | refine List.mem_append_right _ ?_) rfl) rfl ?_
    refine WL.q (LX.eq (LX.bin rfl rfl rfl) (tru (by omega))) rfl (WL.q (LX.move rfl) rfl (WL.yes rfl rfl (WL.q (LX.field0 rfl rfl) rfl (WL.yes rfl rfl ?_))))
    refine WL.q (LX.load rfl rfl (by repeat first | assumption | exact List.mem_cons_self | refine List.mem_cons_of_mem _ ?_ | refine List.mem_append_right _ ?_) rfl) rfl ?_
    refine WL.yes rfl rfl (WL.q (LX.eq (LX.bin rfl rfl rfl) (fls (by omega))) rfl (WL.q (LX.pickT rfl rfl) rfl (WL.q (LX.assign rfl) rfl (WL.nil (thenK_normal (WC.no rfl (WC.seq (WC.region (WL.q (LX.field0 rfl rfl) rfl ?_)))))))))
    refine WL.q (LX.load rfl rfl (by repeat first | assumption | exact List.mem_cons_self | refine List.mem_cons_of_mem _ ?_ | refine List.mem_append_right _ ?_) rfl) rfl ?_
    refine WL.q (LX.eq (LX.bin rfl rfl rfl) (tru (by omega))) rfl (WL.q (LX.move rfl) rfl (WL.yes rfl rfl (WL.q (LX.field0 rfl rfl) rfl (WL.yes rfl rfl ?_))))
    refine WL.q (LX.load rfl rfl (by repeat first | assumption | exact List.mem_cons_self | refine List.mem_cons_of_mem _ ?_ | refine List.mem_append_right _ ?_) rfl) rfl ?_
    refine WL.yes rfl rfl (WL.q (LX.eq (LX.bin rfl rfl rfl) (fls (by omega))) rfl (WL.q (LX.pickT rfl rfl) rfl (WL.q (LX.assign rfl) rfl (WL.nil (thenK_normal (WC.no rfl (WC.seq (WC.region (WL.q (LX.field0 rfl rfl) rfl ?_)))))))))
    refine WL.q (LX.load rfl rfl (by repeat first | assumption | exact List.mem_cons_self | refine List.mem_cons_of_mem _ ?_ | refine List.mem_append_right _ ?_) rfl) rfl ?_
    refine WL.q (LX.eq (LX.bin rfl rfl rfl) (fls (by omega))) rfl (WL.q (LX.move rfl) rfl (WL.yes rfl rfl (WL.q (LX.field0 rfl rfl) rfl (WL.yes rfl rfl ?_))))
    refine WL.q (LX.load rfl rfl (by repeat first | assumption | exact List.mem_cons_self | refine List.mem_cons_of_mem _ ?_ | refine List.mem_append_right _ ?_) rfl) rfl ?_
    refine WL.yes rfl rfl (WL.q (LX.eq (LX.bin rfl rfl rfl) (fls (by omega))) rfl (WL.q (LX.pickF rfl rfl) rfl (WL.q (LX.assign rfl) rfl (WL.nil (thenK_normal (WC.no rfl (WC.seq (WC.region (WL.q (LX.field0 rfl rfl) rfl ?_)))))))))
    refine WL.q (LX.load rfl rfl (by repeat first | assumption | exact List.mem_cons_self | refine List.mem_cons_of_mem _ ?_ | refine List.mem_append_right _ ?_) rfl) rfl ?_
    refine WL.q (LX.eq (LX.bin rfl rfl rfl) (fls (by omega))) rfl (WL.q (LX.assign rfl) rfl (WL.nil (thenK_normal (WC.no rfl (WC.seq (WC.region (WL.q (LX.field0 rfl rfl) rfl ?_)))))))
    refine WL.q (LX.load rfl rfl (by repeat first | assumption | exact List.mem_cons_self | refine List.mem_cons_of_mem _ ?_ | refine List.mem_append_right _ ?_) rfl) rfl ?_
    refine WL.q (LX.eq (LX.bin rfl rfl rfl) (fls (by omega))) rfl (WL.q (LX.assign rfl) rfl (WL.nil (thenK_normal (WC.no rfl (WC.seq (WC.region (WL.q (LX.field0 rfl rfl) rfl ?_)))))))
    refine WL.q (LX.load rfl rfl (by repeat first | assumption | exact List.mem_cons_self | refine List.mem_cons_of_mem _ ?_ | refine List.mem_append_right _ ?_) rfl) rfl ?_
    refine WL.q (LX.eq (LX.bin rfl rfl rfl) (fls (by omega))) rfl (WL.q (LX.assign rfl) rfl (WL.nil (thenK_normal (WC.no rfl (WC.seq (WC.region (WL.q (LX.field0 rfl rfl) rfl ?_)))))))
    refine WL.q (LX.load rfl rfl (by repeat first | assumption | exact List.mem_cons_self | refine List.mem_cons_of_mem _ ?_ | refine List.mem_append_right _ ?_) rfl) rfl ?_
    refine WL.q (LX.eq (LX.bin rfl rfl rfl) (tru (by omega))) rfl (WL.q (LX.assign rfl) rfl (WL.nil (thenK_normal (WC.yes rfl (WC.seq (WC.region (WL.q (LX.move rfl) rfl (WL.q (LX.move rfl) rfl ?_))))))))
    refine WL.call (swordsK (hm fun _ hp => (by repeat first | assumption | exact List.mem_cons_self | refine List.mem_cons_of_mem _ ?_ | refine List.mem_append_right _ ?_)).m (by have := h.lm; omega) h.bl) rfl (fun _ => by kernel_rfl) rfl ?_
    refine WL.q (LX.build rfl (fun w => reg_build _ _ _ _ w)) rfl ?_
    refine WL.put (EX.storeG rfl rfl rfl (by repeat first | assumption | exact List.mem_cons_self | refine List.mem_cons_of_mem _ ?_ | refine List.mem_append_right _ ?_) rfl (by repeat first | exact Upd.here | apply Upd.there | apply Upd.app)) ?_
    refine WL.q (LX.assign rfl) rfl (WL.q (LX.assign rfl) rfl (WL.nil (thenK_normal (WC.ret (blockK_ret (thenK_ret ?_))))))
    exact KR.cell3 (.inl rfl) rfl rfl rfl rfl (by repeat first | assumption | exact List.mem_cons_self | refine List.mem_cons_of_mem _ ?_ | refine List.mem_append_right _ ?_) rfl rfl ⟨_, _, _, rfl, _, _, _, _, rfl, pre5 (N := []), fun hok => ⟨_, ms, (hm fun _ hp => (by repeat first | assumption | exact List.mem_cons_self | refine List.mem_cons_of_mem _ ?_ | refine List.mem_append_right _ ?_)).m, by rw [hk]; exact .k20⟩⟩
  · skip
    refine DW.nil (thenK_normal (WC.seq (WC.block (WC.seq (WC.region (WL.q (LX.field0 rfl rfl) rfl ?_))))))
    refine WL.q (LX.load rfl rfl (by repeat first | assumption | exact List.mem_cons_self | refine List.mem_cons_of_mem _ ?_ | refine List.mem_append_right _ ?_) rfl) rfl ?_
    refine WL.q (LX.eq (LX.bin rfl rfl rfl) (tru (by omega))) rfl (WL.q (LX.move rfl) rfl (WL.yes rfl rfl (WL.q (LX.field0 rfl rfl) rfl (WL.yes rfl rfl ?_))))
    refine WL.q (LX.load rfl rfl (by repeat first | assumption | exact List.mem_cons_self | refine List.mem_cons_of_mem _ ?_ | refine List.mem_append_right _ ?_) rfl) rfl ?_
    refine WL.yes rfl rfl (WL.q (LX.eq (LX.bin rfl rfl rfl) (fls (by omega))) rfl (WL.q (LX.pickT rfl rfl) rfl (WL.q (LX.assign rfl) rfl (WL.nil (thenK_normal (WC.no rfl (WC.seq (WC.region (WL.q (LX.field0 rfl rfl) rfl ?_)))))))))
    refine WL.q (LX.load rfl rfl (by repeat first | assumption | exact List.mem_cons_self | refine List.mem_cons_of_mem _ ?_ | refine List.mem_append_right _ ?_) rfl) rfl ?_
    refine WL.q (LX.eq (LX.bin rfl rfl rfl) (tru (by omega))) rfl (WL.q (LX.move rfl) rfl (WL.yes rfl rfl (WL.q (LX.field0 rfl rfl) rfl (WL.yes rfl rfl ?_))))
    refine WL.q (LX.load rfl rfl (by repeat first | assumption | exact List.mem_cons_self | refine List.mem_cons_of_mem _ ?_ | refine List.mem_append_right _ ?_) rfl) rfl ?_
    refine WL.yes rfl rfl (WL.q (LX.eq (LX.bin rfl rfl rfl) (fls (by omega))) rfl (WL.q (LX.pickT rfl rfl) rfl (WL.q (LX.assign rfl) rfl (WL.nil (thenK_normal (WC.no rfl (WC.seq (WC.region (WL.q (LX.field0 rfl rfl) rfl ?_)))))))))
    refine WL.q (LX.load rfl rfl (by repeat first | assumption | exact List.mem_cons_self | refine List.mem_cons_of_mem _ ?_ | refine List.mem_append_right _ ?_) rfl) rfl ?_
    refine WL.q (LX.eq (LX.bin rfl rfl rfl) (fls (by omega))) rfl (WL.q (LX.move rfl) rfl (WL.yes rfl rfl (WL.q (LX.field0 rfl rfl) rfl (WL.yes rfl rfl ?_))))
    refine WL.q (LX.load rfl rfl (by repeat first | assumption | exact List.mem_cons_self | refine List.mem_cons_of_mem _ ?_ | refine List.mem_append_right _ ?_) rfl) rfl ?_
    refine WL.yes rfl rfl (WL.q (LX.eq (LX.bin rfl rfl rfl) (fls (by omega))) rfl (WL.q (LX.pickF rfl rfl) rfl (WL.q (LX.assign rfl) rfl (WL.nil (thenK_normal (WC.no rfl (WC.seq (WC.region (WL.q (LX.field0 rfl rfl) rfl ?_)))))))))
    refine WL.q (LX.load rfl rfl (by repeat first | assumption | exact List.mem_cons_self | refine List.mem_cons_of_mem _ ?_ | refine List.mem_append_right _ ?_) rfl) rfl ?_
    refine WL.q (LX.eq (LX.bin rfl rfl rfl) (fls (by omega))) rfl (WL.q (LX.assign rfl) rfl (WL.nil (thenK_normal (WC.no rfl (WC.seq (WC.region (WL.q (LX.field0 rfl rfl) rfl ?_)))))))
    refine WL.q (LX.load rfl rfl (by repeat first | assumption | exact List.mem_cons_self | refine List.mem_cons_of_mem _ ?_ | refine List.mem_append_right _ ?_) rfl) rfl ?_
    refine WL.q (LX.eq (LX.bin rfl rfl rfl) (fls (by omega))) rfl (WL.q (LX.assign rfl) rfl (WL.nil (thenK_normal (WC.no rfl (WC.seq (WC.region (WL.q (LX.field0 rfl rfl) rfl ?_)))))))
    refine WL.q (LX.load rfl rfl (by repeat first | assumption | exact List.mem_cons_self | refine List.mem_cons_of_mem _ ?_ | refine List.mem_append_right _ ?_) rfl) rfl ?_
    refine WL.q (LX.eq (LX.bin rfl rfl rfl) (fls (by omega))) rfl (WL.q (LX.assign rfl) rfl (WL.nil (thenK_normal (WC.no rfl (WC.seq (WC.region (WL.q (LX.field0 rfl rfl) rfl ?_)))))))
    refine WL.q (LX.load rfl rfl (by repeat first | assumption | exact List.mem_cons_self | refine List.mem_cons_of_mem _ ?_ | refine List.mem_append_right _ ?_) rfl) rfl ?_
    refine WL.q (LX.eq (LX.bin rfl rfl rfl) (fls (by omega))) rfl (WL.q (LX.assign rfl) rfl (WL.nil (thenK_normal (WC.no rfl (WC.seq (WC.region (WL.q (LX.field0 rfl rfl) rfl ?_)))))))
    refine WL.q (LX.load rfl rfl (by repeat first | assumption | exact List.mem_cons_self | refine List.mem_cons_of_mem _ ?_ | refine List.mem_append_right _ ?_) rfl) rfl ?_
    refine WL.q (LX.eq (LX.bin rfl rfl rfl) (tru (by omega))) rfl (WL.q (LX.move rfl) rfl (WL.yes rfl rfl (WL.q (LX.field0 rfl rfl) rfl (WL.yes rfl rfl ?_))))
    refine WL.q (LX.load rfl rfl (by repeat first | assumption | exact List.mem_cons_self | refine List.mem_cons_of_mem _ ?_ | refine List.mem_append_right _ ?_) rfl) rfl ?_
    refine WL.yes rfl rfl (WL.q (LX.eq (LX.bin rfl rfl rfl) (tru (by omega))) rfl (WL.q (LX.pickT rfl rfl) rfl (WL.q (LX.move rfl) rfl (WL.no rfl rfl (by decide) rfl (WL.no rfl rfl (by decide) rfl (WL.no rfl rfl (by decide) rfl (WL.q (LX.pickT rfl rfl) rfl (WL.q (LX.assign rfl) rfl (WL.nil (thenK_normal (WC.yes rfl (WC.seq (WC.region ?_)))))))))))))
    refine WL.q (LX.loadR rfl rfl (by repeat first | assumption | exact List.mem_cons_self | refine List.mem_cons_of_mem _ ?_ | refine List.mem_append_right _ ?_) rfl) rfl ?_
    refine WL.q (LX.loadR rfl rfl (by repeat first | assumption | exact List.mem_cons_self | refine List.mem_cons_of_mem _ ?_ | refine List.mem_append_right _ ?_) rfl) rfl ?_
    refine WL.q (LX.loadR rfl rfl (by repeat first | assumption | exact List.mem_cons_self | refine List.mem_cons_of_mem _ ?_ | refine List.mem_append_right _ ?_) rfl) rfl ?_
    refine WL.q (LX.move rfl) rfl ?_
    refine WL.callR (sasked (bs := bs) (zo := zo) (hm fun _ hp => (by repeat first | assumption | exact List.mem_cons_self | refine List.mem_cons_of_mem _ ?_ | refine List.mem_append_right _ ?_)) (by omega)) rfl (fun _ => by kernel_rfl) rfl ?_
    rintro _ _ ⟨t, ok, rfl, ⟨N, rfl⟩, hok⟩
    refine WL.q (LX.move rfl) rfl (WL.q (LX.extract rfl rfl) rfl (WL.q (LX.extract rfl rfl) rfl (WL.q (LX.assign rfl) rfl (WL.q (LX.assign rfl) rfl (WL.nil (thenK_normal (WC.seq (WC.region ?_))))))))
    refine WL.q (LX.loadR rfl rfl (by repeat first | assumption | exact List.mem_cons_self | refine List.mem_cons_of_mem _ ?_ | refine List.mem_append_right _ ?_) rfl) rfl ?_
    refine WL.q (LX.move rfl) rfl (WL.q (LX.move rfl) rfl ?_)
    refine WL.put (EX.storeG rfl rfl rfl (by repeat first | assumption | exact List.mem_cons_self | refine List.mem_cons_of_mem _ ?_ | refine List.mem_append_right _ ?_) rfl (by repeat first | exact Upd.here | apply Upd.there | apply Upd.app)) ?_
    refine WL.q (LX.assign rfl) rfl (WL.q (LX.assign rfl) rfl (WL.nil (thenK_normal (WC.ret (blockK_ret (thenK_ret ?_))))))
    exact KR.cell3 (.inl rfl) rfl rfl rfl rfl (by repeat first | assumption | exact List.mem_cons_self | refine List.mem_cons_of_mem _ ?_ | refine List.mem_append_right _ ?_) rfl rfl ⟨_, _, _, rfl, _, _, _, _, rfl, pre5, fun h1 => ⟨_, ds, (hm fun _ hp => (by repeat first | assumption | exact List.mem_cons_self | refine List.mem_cons_of_mem _ ?_ | refine List.mem_append_right _ ?_)).o, hok h1⟩⟩
  · skip
    refine DW.nil (thenK_normal (WC.seq (WC.block (WC.seq (WC.region (WL.q (LX.field0 rfl rfl) rfl ?_))))))
    refine WL.q (LX.load rfl rfl (by repeat first | assumption | exact List.mem_cons_self | refine List.mem_cons_of_mem _ ?_ | refine List.mem_append_right _ ?_) rfl) rfl ?_
    refine WL.q (LX.eq (LX.bin rfl rfl rfl) (tru (by omega))) rfl (WL.q (LX.move rfl) rfl (WL.yes rfl rfl (WL.q (LX.field0 rfl rfl) rfl (WL.yes rfl rfl ?_))))
    refine WL.q (LX.load rfl rfl (by repeat first | assumption | exact List.mem_cons_self | refine List.mem_cons_of_mem _ ?_ | refine List.mem_append_right _ ?_) rfl) rfl ?_
    refine WL.yes rfl rfl (WL.q (LX.eq (LX.bin rfl rfl rfl) (fls (by omega))) rfl (WL.q (LX.pickT rfl rfl) rfl (WL.q (LX.assign rfl) rfl (WL.nil (thenK_normal (WC.no rfl (WC.seq (WC.region (WL.q (LX.field0 rfl rfl) rfl ?_)))))))))
    refine WL.q (LX.load rfl rfl (by repeat first | assumption | exact List.mem_cons_self | refine List.mem_cons_of_mem _ ?_ | refine List.mem_append_right _ ?_) rfl) rfl ?_
    refine WL.q (LX.eq (LX.bin rfl rfl rfl) (tru (by omega))) rfl (WL.q (LX.move rfl) rfl (WL.yes rfl rfl (WL.q (LX.field0 rfl rfl) rfl (WL.yes rfl rfl ?_))))
    refine WL.q (LX.load rfl rfl (by repeat first | assumption | exact List.mem_cons_self | refine List.mem_cons_of_mem _ ?_ | refine List.mem_append_right _ ?_) rfl) rfl ?_
    refine WL.yes rfl rfl (WL.q (LX.eq (LX.bin rfl rfl rfl) (fls (by omega))) rfl (WL.q (LX.pickT rfl rfl) rfl (WL.q (LX.assign rfl) rfl (WL.nil (thenK_normal (WC.no rfl (WC.seq (WC.region (WL.q (LX.field0 rfl rfl) rfl ?_)))))))))
    refine WL.q (LX.load rfl rfl (by repeat first | assumption | exact List.mem_cons_self | refine List.mem_cons_of_mem _ ?_ | refine List.mem_append_right _ ?_) rfl) rfl ?_
    refine WL.q (LX.eq (LX.bin rfl rfl rfl) (fls (by omega))) rfl (WL.q (LX.move rfl) rfl (WL.yes rfl rfl (WL.q (LX.field0 rfl rfl) rfl (WL.yes rfl rfl ?_))))
    refine WL.q (LX.load rfl rfl (by repeat first | assumption | exact List.mem_cons_self | refine List.mem_cons_of_mem _ ?_ | refine List.mem_append_right _ ?_) rfl) rfl ?_
    refine WL.yes rfl rfl (WL.q (LX.eq (LX.bin rfl rfl rfl) (fls (by omega))) rfl (WL.q (LX.pickF rfl rfl) rfl (WL.q (LX.assign rfl) rfl (WL.nil (thenK_normal (WC.no rfl (WC.seq (WC.region (WL.q (LX.field0 rfl rfl) rfl ?_)))))))))
    refine WL.q (LX.load rfl rfl (by repeat first | assumption | exact List.mem_cons_self | refine List.mem_cons_of_mem _ ?_ | refine List.mem_append_right _ ?_) rfl) rfl ?_
    refine WL.q (LX.eq (LX.bin rfl rfl rfl) (fls (by omega))) rfl (WL.q (LX.assign rfl) rfl (WL.nil (thenK_normal (WC.no rfl (WC.seq (WC.region (WL.q (LX.field0 rfl rfl) rfl ?_)))))))
    refine WL.q (LX.load rfl rfl (by repeat first | assumption | exact List.mem_cons_self | refine List.mem_cons_of_mem _ ?_ | refine List.mem_append_right _ ?_) rfl) rfl ?_
    refine WL.q (LX.eq (LX.bin rfl rfl rfl) (fls (by omega))) rfl (WL.q (LX.assign rfl) rfl (WL.nil (thenK_normal (WC.no rfl (WC.seq (WC.region (WL.q (LX.field0 rfl rfl) rfl ?_)))))))
    refine WL.q (LX.load rfl rfl (by repeat first | assumption | exact List.mem_cons_self | refine List.mem_cons_of_mem _ ?_ | refine List.mem_append_right _ ?_) rfl) rfl ?_
    refine WL.q (LX.eq (LX.bin rfl rfl rfl) (fls (by omega))) rfl (WL.q (LX.assign rfl) rfl (WL.nil (thenK_normal (WC.no rfl (WC.seq (WC.region (WL.q (LX.field0 rfl rfl) rfl ?_)))))))
    refine WL.q (LX.load rfl rfl (by repeat first | assumption | exact List.mem_cons_self | refine List.mem_cons_of_mem _ ?_ | refine List.mem_append_right _ ?_) rfl) rfl ?_
    refine WL.q (LX.eq (LX.bin rfl rfl rfl) (fls (by omega))) rfl (WL.q (LX.assign rfl) rfl (WL.nil (thenK_normal (WC.no rfl (WC.seq (WC.region (WL.q (LX.field0 rfl rfl) rfl ?_)))))))
    refine WL.q (LX.load rfl rfl (by repeat first | assumption | exact List.mem_cons_self | refine List.mem_cons_of_mem _ ?_ | refine List.mem_append_right _ ?_) rfl) rfl ?_
    refine WL.q (LX.eq (LX.bin rfl rfl rfl) (tru (by omega))) rfl (WL.q (LX.move rfl) rfl (WL.yes rfl rfl (WL.q (LX.field0 rfl rfl) rfl (WL.yes rfl rfl ?_))))
    refine WL.q (LX.load rfl rfl (by repeat first | assumption | exact List.mem_cons_self | refine List.mem_cons_of_mem _ ?_ | refine List.mem_append_right _ ?_) rfl) rfl ?_
    refine WL.yes rfl rfl (WL.q (LX.eq (LX.bin rfl rfl rfl) (fls (by omega))) rfl (WL.q (LX.pickT rfl rfl) rfl (WL.q (LX.move rfl) rfl (WL.yes rfl rfl (WL.q (LX.field0 rfl rfl) rfl (WL.yes rfl rfl ?_))))))
    refine WL.q (LX.load rfl rfl (by repeat first | assumption | exact List.mem_cons_self | refine List.mem_cons_of_mem _ ?_ | refine List.mem_append_right _ ?_) rfl) rfl ?_
    refine WL.yes rfl rfl (WL.q (LX.eq (LX.bin rfl rfl rfl) (tru (by omega))) rfl (WL.q (LX.pickF rfl rfl) rfl (WL.q (LX.assign rfl) rfl (WL.nil (thenK_normal (WC.yes rfl (WC.seq (WC.region ?_))))))))
    refine WL.q (LX.loadR rfl rfl (by repeat first | assumption | exact List.mem_cons_self | refine List.mem_cons_of_mem _ ?_ | refine List.mem_append_right _ ?_) rfl) rfl ?_
    refine WL.q (LX.loadR rfl rfl (by repeat first | assumption | exact List.mem_cons_self | refine List.mem_cons_of_mem _ ?_ | refine List.mem_append_right _ ?_) rfl) rfl ?_
    refine WL.q (LX.loadR rfl rfl (by repeat first | assumption | exact List.mem_cons_self | refine List.mem_cons_of_mem _ ?_ | refine List.mem_append_right _ ?_) rfl) rfl ?_
    refine WL.q (LX.move rfl) rfl ?_
    refine WL.callR (sasked (bs := bs) (zo := zo) (hm fun _ hp => (by repeat first | assumption | exact List.mem_cons_self | refine List.mem_cons_of_mem _ ?_ | refine List.mem_append_right _ ?_)) (by omega)) rfl (fun _ => by kernel_rfl) rfl ?_
    rintro _ _ ⟨t, ok, rfl, ⟨N, rfl⟩, hok⟩
    refine WL.q (LX.move rfl) rfl (WL.q (LX.extract rfl rfl) rfl (WL.q (LX.extract rfl rfl) rfl (WL.q (LX.assign rfl) rfl (WL.q (LX.assign rfl) rfl (WL.nil (thenK_normal (WC.seq (WC.region ?_))))))))
    refine WL.q (LX.loadR rfl rfl (by repeat first | assumption | exact List.mem_cons_self | refine List.mem_cons_of_mem _ ?_ | refine List.mem_append_right _ ?_) rfl) rfl ?_
    refine WL.q (LX.move rfl) rfl (WL.q (LX.move rfl) rfl ?_)
    refine WL.put (EX.storeG rfl rfl rfl (by repeat first | assumption | exact List.mem_cons_self | refine List.mem_cons_of_mem _ ?_ | refine List.mem_append_right _ ?_) rfl (by repeat first | exact Upd.here | apply Upd.there | apply Upd.app)) ?_
    refine WL.q (LX.assign rfl) rfl (WL.q (LX.assign rfl) rfl (WL.nil (thenK_normal (WC.ret (blockK_ret (thenK_ret ?_))))))
    exact KR.cell3 (.inl rfl) rfl rfl rfl rfl (by repeat first | assumption | exact List.mem_cons_self | refine List.mem_cons_of_mem _ ?_ | refine List.mem_append_right _ ?_) rfl rfl ⟨_, _, _, rfl, _, _, _, _, rfl, pre5, fun h1 => ⟨_, ds, (hm fun _ hp => (by repeat first | assumption | exact List.mem_cons_self | refine List.mem_cons_of_mem _ ?_ | refine List.mem_append_right _ ?_)).o, hok h1⟩⟩
  · skip
    refine DW.nil (thenK_normal (WC.seq (WC.block (WC.seq (WC.region (WL.q (LX.field0 rfl rfl) rfl ?_))))))
    refine WL.q (LX.load rfl rfl (by repeat first | assumption | exact List.mem_cons_self | refine List.mem_cons_of_mem _ ?_ | refine List.mem_append_right _ ?_) rfl) rfl ?_
    refine WL.q (LX.eq (LX.bin rfl rfl rfl) (fls (by omega))) rfl (WL.q (LX.move rfl) rfl (WL.no rfl rfl (by decide) rfl (WL.no rfl rfl (by decide) rfl (WL.no rfl rfl (by decide) rfl (WL.q (LX.pickF rfl rfl) rfl (WL.q (LX.assign rfl) rfl (WL.nil (thenK_normal (WC.no rfl (WC.seq (WC.region (WL.q (LX.field0 rfl rfl) rfl ?_))))))))))))
    refine WL.q (LX.load rfl rfl (by repeat first | assumption | exact List.mem_cons_self | refine List.mem_cons_of_mem _ ?_ | refine List.mem_append_right _ ?_) rfl) rfl ?_
    refine WL.q (LX.eq (LX.bin rfl rfl rfl) (fls (by omega))) rfl (WL.q (LX.move rfl) rfl (WL.no rfl rfl (by decide) rfl (WL.no rfl rfl (by decide) rfl (WL.no rfl rfl (by decide) rfl (WL.q (LX.pickF rfl rfl) rfl (WL.q (LX.assign rfl) rfl (WL.nil (thenK_normal (WC.no rfl (WC.seq (WC.region (WL.q (LX.field0 rfl rfl) rfl ?_))))))))))))
    refine WL.q (LX.load rfl rfl (by repeat first | assumption | exact List.mem_cons_self | refine List.mem_cons_of_mem _ ?_ | refine List.mem_append_right _ ?_) rfl) rfl ?_
    refine WL.q (LX.eq (LX.bin rfl rfl rfl) (fls (by omega))) rfl (WL.q (LX.move rfl) rfl (WL.yes rfl rfl (WL.q (LX.field0 rfl rfl) rfl (WL.yes rfl rfl ?_))))
    refine WL.q (LX.load rfl rfl (by repeat first | assumption | exact List.mem_cons_self | refine List.mem_cons_of_mem _ ?_ | refine List.mem_append_right _ ?_) rfl) rfl ?_
    refine WL.yes rfl rfl (WL.q (LX.eq (LX.bin rfl rfl rfl) (fls (by omega))) rfl (WL.q (LX.pickF rfl rfl) rfl (WL.q (LX.assign rfl) rfl (WL.nil (thenK_normal (WC.no rfl (WC.seq (WC.region (WL.q (LX.field0 rfl rfl) rfl ?_)))))))))
    refine WL.q (LX.load rfl rfl (by repeat first | assumption | exact List.mem_cons_self | refine List.mem_cons_of_mem _ ?_ | refine List.mem_append_right _ ?_) rfl) rfl ?_
    refine WL.q (LX.eq (LX.bin rfl rfl rfl) (fls (by omega))) rfl (WL.q (LX.assign rfl) rfl (WL.nil (thenK_normal (WC.no rfl (WC.seq (WC.region (WL.q (LX.field0 rfl rfl) rfl ?_)))))))
    refine WL.q (LX.load rfl rfl (by repeat first | assumption | exact List.mem_cons_self | refine List.mem_cons_of_mem _ ?_ | refine List.mem_append_right _ ?_) rfl) rfl ?_
    refine WL.q (LX.eq (LX.bin rfl rfl rfl) (fls (by omega))) rfl (WL.q (LX.assign rfl) rfl (WL.nil (thenK_normal (WC.no rfl (WC.seq (WC.region (WL.q (LX.field0 rfl rfl) rfl ?_)))))))
    refine WL.q (LX.load rfl rfl (by repeat first | assumption | exact List.mem_cons_self | refine List.mem_cons_of_mem _ ?_ | refine List.mem_append_right _ ?_) rfl) rfl ?_
    refine WL.q (LX.eq (LX.bin rfl rfl rfl) (fls (by omega))) rfl (WL.q (LX.assign rfl) rfl (WL.nil (thenK_normal (WC.no rfl (WC.seq (WC.region (WL.q (LX.field0 rfl rfl) rfl ?_)))))))
    refine WL.q (LX.load rfl rfl (by repeat first | assumption | exact List.mem_cons_self | refine List.mem_cons_of_mem _ ?_ | refine List.mem_append_right _ ?_) rfl) rfl ?_
    refine WL.q (LX.eq (LX.bin rfl rfl rfl) (fls (by omega))) rfl (WL.q (LX.assign rfl) rfl (WL.nil (thenK_normal (WC.no rfl (WC.seq (WC.region (WL.q (LX.field0 rfl rfl) rfl ?_)))))))
    refine WL.q (LX.load rfl rfl (by repeat first | assumption | exact List.mem_cons_self | refine List.mem_cons_of_mem _ ?_ | refine List.mem_append_right _ ?_) rfl) rfl ?_
    refine WL.q (LX.eq (LX.bin rfl rfl rfl) (fls (by omega))) rfl (WL.q (LX.move rfl) rfl (WL.no rfl rfl (by decide) rfl (WL.no rfl rfl (by decide) rfl (WL.no rfl rfl (by decide) rfl (WL.q (LX.pickF rfl rfl) rfl (WL.q (LX.move rfl) rfl (WL.yes rfl rfl (WL.q (LX.field0 rfl rfl) rfl (WL.yes rfl rfl ?_)))))))))
    refine WL.q (LX.load rfl rfl (by repeat first | assumption | exact List.mem_cons_self | refine List.mem_cons_of_mem _ ?_ | refine List.mem_append_right _ ?_) rfl) rfl ?_
    refine WL.yes rfl rfl (WL.q (LX.eq (LX.bin rfl rfl rfl) (fls (by omega))) rfl (WL.q (LX.pickF rfl rfl) rfl (WL.q (LX.assign rfl) rfl (WL.nil (thenK_normal (WC.no rfl (WC.skip (blockK_normal (thenK_normal (WC.seq (WC.region ?_)))))))))))
    refine WL.q (LX.loadR rfl rfl (by repeat first | assumption | exact List.mem_cons_self | refine List.mem_cons_of_mem _ ?_ | refine List.mem_append_right _ ?_) rfl) rfl ?_
    refine WL.put (EX.storeG rfl rfl rfl (by repeat first | assumption | exact List.mem_cons_self | refine List.mem_cons_of_mem _ ?_ | refine List.mem_append_right _ ?_) rfl (by repeat first | exact Upd.here | apply Upd.there | apply Upd.app)) ?_
    refine WL.q (LX.assign rfl) rfl (WL.q (LX.assign rfl) rfl (WL.nil (thenK_normal (WC.ret ?_))))
    exact KR.cell3 (.inl rfl) rfl rfl rfl rfl (by repeat first | assumption | exact List.mem_cons_self | refine List.mem_cons_of_mem _ ?_ | refine List.mem_append_right _ ?_) rfl rfl ⟨_, _, _, rfl, _, _, _, _, rfl, pre5 (N := []), fun hok => by cases hok⟩
  · skip
    refine DW.nil (thenK_normal (WC.seq (WC.block (WC.seq (WC.region (WL.q (LX.field0 rfl rfl) rfl ?_))))))
    refine WL.q (LX.load rfl rfl (by repeat first | assumption | exact List.mem_cons_self | refine List.mem_cons_of_mem _ ?_ | refine List.mem_append_right _ ?_) rfl) rfl ?_
    refine WL.q (LX.eq (LX.bin rfl rfl rfl) (tru (by omega))) rfl (WL.q (LX.move rfl) rfl (WL.yes rfl rfl (WL.q (LX.field0 rfl rfl) rfl (WL.yes rfl rfl ?_))))
    refine WL.q (LX.load rfl rfl (by repeat first | assumption | exact List.mem_cons_self | refine List.mem_cons_of_mem _ ?_ | refine List.mem_append_right _ ?_) rfl) rfl ?_
    refine WL.yes rfl rfl (WL.q (LX.eq (LX.bin rfl rfl rfl) (fls (by omega))) rfl (WL.q (LX.pickT rfl rfl) rfl (WL.q (LX.assign rfl) rfl (WL.nil (thenK_normal (WC.no rfl (WC.seq (WC.region (WL.q (LX.field0 rfl rfl) rfl ?_)))))))))
    refine WL.q (LX.load rfl rfl (by repeat first | assumption | exact List.mem_cons_self | refine List.mem_cons_of_mem _ ?_ | refine List.mem_append_right _ ?_) rfl) rfl ?_
    refine WL.q (LX.eq (LX.bin rfl rfl rfl) (tru (by omega))) rfl (WL.q (LX.move rfl) rfl (WL.yes rfl rfl (WL.q (LX.field0 rfl rfl) rfl (WL.yes rfl rfl ?_))))
    refine WL.q (LX.load rfl rfl (by repeat first | assumption | exact List.mem_cons_self | refine List.mem_cons_of_mem _ ?_ | refine List.mem_append_right _ ?_) rfl) rfl ?_
    refine WL.yes rfl rfl (WL.q (LX.eq (LX.bin rfl rfl rfl) (fls (by omega))) rfl (WL.q (LX.pickT rfl rfl) rfl (WL.q (LX.assign rfl) rfl (WL.nil (thenK_normal (WC.no rfl (WC.seq (WC.region (WL.q (LX.field0 rfl rfl) rfl ?_)))))))))
    refine WL.q (LX.load rfl rfl (by repeat first | assumption | exact List.mem_cons_self | refine List.mem_cons_of_mem _ ?_ | refine List.mem_append_right _ ?_) rfl) rfl ?_
    refine WL.q (LX.eq (LX.bin rfl rfl rfl) (fls (by omega))) rfl (WL.q (LX.move rfl) rfl (WL.yes rfl rfl (WL.q (LX.field0 rfl rfl) rfl (WL.yes rfl rfl ?_))))
    refine WL.q (LX.load rfl rfl (by repeat first | assumption | exact List.mem_cons_self | refine List.mem_cons_of_mem _ ?_ | refine List.mem_append_right _ ?_) rfl) rfl ?_
    refine WL.yes rfl rfl (WL.q (LX.eq (LX.bin rfl rfl rfl) (fls (by omega))) rfl (WL.q (LX.pickF rfl rfl) rfl (WL.q (LX.assign rfl) rfl (WL.nil (thenK_normal (WC.no rfl (WC.seq (WC.region (WL.q (LX.field0 rfl rfl) rfl ?_)))))))))
    refine WL.q (LX.load rfl rfl (by repeat first | assumption | exact List.mem_cons_self | refine List.mem_cons_of_mem _ ?_ | refine List.mem_append_right _ ?_) rfl) rfl ?_
    refine WL.q (LX.eq (LX.bin rfl rfl rfl) (fls (by omega))) rfl (WL.q (LX.assign rfl) rfl (WL.nil (thenK_normal (WC.no rfl (WC.seq (WC.region (WL.q (LX.field0 rfl rfl) rfl ?_)))))))
    refine WL.q (LX.load rfl rfl (by repeat first | assumption | exact List.mem_cons_self | refine List.mem_cons_of_mem _ ?_ | refine List.mem_append_right _ ?_) rfl) rfl ?_
    refine WL.q (LX.eq (LX.bin rfl rfl rfl) (fls (by omega))) rfl (WL.q (LX.assign rfl) rfl (WL.nil (thenK_normal (WC.no rfl (WC.seq (WC.region (WL.q (LX.field0 rfl rfl) rfl ?_)))))))
    refine WL.q (LX.load rfl rfl (by repeat first | assumption | exact List.mem_cons_self | refine List.mem_cons_of_mem _ ?_ | refine List.mem_append_right _ ?_) rfl) rfl ?_
    refine WL.q (LX.eq (LX.bin rfl rfl rfl) (fls (by omega))) rfl (WL.q (LX.assign rfl) rfl (WL.nil (thenK_normal (WC.no rfl (WC.seq (WC.region (WL.q (LX.field0 rfl rfl) rfl ?_)))))))
    refine WL.q (LX.load rfl rfl (by repeat first | assumption | exact List.mem_cons_self | refine List.mem_cons_of_mem _ ?_ | refine List.mem_append_right _ ?_) rfl) rfl ?_
    refine WL.q (LX.eq (LX.bin rfl rfl rfl) (fls (by omega))) rfl (WL.q (LX.assign rfl) rfl (WL.nil (thenK_normal (WC.no rfl (WC.seq (WC.region (WL.q (LX.field0 rfl rfl) rfl ?_)))))))
    refine WL.q (LX.load rfl rfl (by repeat first | assumption | exact List.mem_cons_self | refine List.mem_cons_of_mem _ ?_ | refine List.mem_append_right _ ?_) rfl) rfl ?_
    refine WL.q (LX.eq (LX.bin rfl rfl rfl) (tru (by omega))) rfl (WL.q (LX.move rfl) rfl (WL.yes rfl rfl (WL.q (LX.field0 rfl rfl) rfl (WL.yes rfl rfl ?_))))
    refine WL.q (LX.load rfl rfl (by repeat first | assumption | exact List.mem_cons_self | refine List.mem_cons_of_mem _ ?_ | refine List.mem_append_right _ ?_) rfl) rfl ?_
    refine WL.yes rfl rfl (WL.q (LX.eq (LX.bin rfl rfl rfl) (fls (by omega))) rfl (WL.q (LX.pickT rfl rfl) rfl (WL.q (LX.move rfl) rfl (WL.yes rfl rfl (WL.q (LX.field0 rfl rfl) rfl (WL.yes rfl rfl ?_))))))
    refine WL.q (LX.load rfl rfl (by repeat first | assumption | exact List.mem_cons_self | refine List.mem_cons_of_mem _ ?_ | refine List.mem_append_right _ ?_) rfl) rfl ?_
    refine WL.yes rfl rfl (WL.q (LX.eq (LX.bin rfl rfl rfl) (fls (by omega))) rfl (WL.q (LX.pickF rfl rfl) rfl (WL.q (LX.assign rfl) rfl (WL.nil (thenK_normal (WC.no rfl (WC.skip (blockK_normal (thenK_normal (WC.seq (WC.region ?_)))))))))))
    refine WL.q (LX.loadR rfl rfl (by repeat first | assumption | exact List.mem_cons_self | refine List.mem_cons_of_mem _ ?_ | refine List.mem_append_right _ ?_) rfl) rfl ?_
    refine WL.put (EX.storeG rfl rfl rfl (by repeat first | assumption | exact List.mem_cons_self | refine List.mem_cons_of_mem _ ?_ | refine List.mem_append_right _ ?_) rfl (by repeat first | exact Upd.here | apply Upd.there | apply Upd.app)) ?_
    refine WL.q (LX.assign rfl) rfl (WL.q (LX.assign rfl) rfl (WL.nil (thenK_normal (WC.ret ?_))))
    exact KR.cell3 (.inl rfl) rfl rfl rfl rfl (by repeat first | assumption | exact List.mem_cons_self | refine List.mem_cons_of_mem _ ?_ | refine List.mem_append_right _ ?_) rfl rfl ⟨_, _, _, rfl, _, _, _, _, rfl, pre5 (N := []), fun hok => by cases hok⟩
end
end Go.Proofs.YtdnngppofbmpeaaGreatDoor.Bm
