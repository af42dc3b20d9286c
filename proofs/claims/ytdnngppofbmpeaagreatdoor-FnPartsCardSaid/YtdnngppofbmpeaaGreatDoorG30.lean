/- Proved here: what Script of the reference does. Conditions: none but those that each theorem states. -/
import Derived.Test.YtdnngppofbmpeaaGreatDoorG29
namespace Go.Proofs.YtdnngppofbmpeaaGreatDoor.Bm
open Go Go.RowKit

/-- the registers R hold the plain ones P -/
structure RgsR (M : Mem) (R : List (Value × Int)) (P : List (Int × Int)) : Prop where
  len : R.length = P.length
  at_ : ∀ (i : Nat) (p : Int × Int), P[i]? = some p → ∃ v ds, R[i]? = some (v, p.2) ∧ Num M v p.1 ds
theorem RgsR.map {M N : Mem} {R : List (Value × Int)} {P : List (Int × Int)} (h : RgsR M R P) (hs : ∀ {v V ds}, Num M v V ds → Num N v V ds) : RgsR N R P :=
  ⟨h.len, fun i p hp => let ⟨v, ds, h1, h2⟩ := h.at_ i p hp; ⟨v, ds, h1, hs h2⟩⟩
theorem RgsR.set {M : Mem} {R : List (Value × Int)} {P : List (Int × Int)} (h : RgsR M R P) (j : Nat) {v : Value} {n s : Int} {ds : List Int} (hv : Num M v n ds) : RgsR M (R.set j (v, s)) (P.set j (n, s)) := by
  refine ⟨by simpa using h.len, fun i p hp => ?_⟩
  rw [List.getElem?_set] at hp
  split at hp
  · rename_i hji
    subst hji
    split at hp
    · rename_i hlt
      cases hp
      exact ⟨v, ds, by rw [List.getElem?_set_self (by rw [h.len]; exact hlt)], hv⟩
    · cases hp
  · rename_i hji
    obtain ⟨v', ds', h1, h2⟩ := h.at_ i p hp
    exact ⟨v', ds', by rw [List.getElem?_set_ne hji]; exact h1, h2⟩
theorem RgsR.start {M : Mem} (c : Nat) : RgsR M (List.replicate c (.slice none 0 0, 0)) (List.replicate c (0, 0)) := by
  refine ⟨by simp, fun i p hp => ?_⟩
  rw [List.getElem?_replicate] at hp
  split at hp
  · rename_i h
    cases hp
    exact ⟨.slice none 0 0, [], by rw [List.getElem?_replicate, if_pos h], Num.nil⟩
  · cases hp
theorem RB.len {M : Mem} {v : Value} {p : Int × Int} {ds : List Int} (h : RB p) (hn : Num M v p.1 ds) : ds.length ≤ 32 := by
  apply hn.len
  have h1 := h.lt
  have h2 := w64_le (show p.2.toNat ≤ 8 by have := h.z8; omega)
  have h3 : W64 ^ 8 = B16 ^ 32 := by rw [W64_two, B16_two]
  omega
theorem ModP.mlen {M : Mem} {v : Value} {x : Bs} {ms : List Int} (h : ModP x) (hd : Dg 256 x.bs) (hn : Num M v (dv 256 x.bs.reverse) ms) : ms.length ≤ 30 := by
  apply hn.len
  have h1 := dv_lt (b := 256) (by decide) (dg_rev hd)
  rw [pow256, List.length_reverse] at h1
  rw [B16_two]
  have := pow2_le (show 8 * x.bs.length ≤ 16 * 30 by have := h.1; omega)
  omega

abbrev ansO (w o t : Value) : Obj := .cells #[w, o, t] 31 (0, 0)
/-- the words of a register -/
def wordsOf (p : Int × Int) : List Int := (List.range p.2.toNat).map fun k => p.1 / W64 ^ k % W64
/-- what the reference answers: words, open registers, what the steps tell -/
structure AnsR (M : Mem) (vw vo vt : Value) (P : List (Int × Int)) (T : List Int) : Prop where
  told : Rds M vt (T.map (Value.int .i64))
  opn : Rds M vo (P.map fun p => .bool (decide (p.2 < 0)))
  words : ∃ ws, Rds M vw ws ∧ ws.length = P.length ∧ ∀ (i : Nat) (p : Int × Int), P[i]? = some p → ∃ w, ws[i]? = some w ∧ Rds M w ((wordsOf p).map (Value.int .u64))

theorem LX.fieldQ {n : Nat} {w0 : World} {E : Env} {M : Mem} {dst : Option Nat} {ty : TypeId} {pos : String} {aft : Array Edge} {g : Option (Nat × Bool)} {t : Nat} {x : Operand} {f s b o : Nat} (hx : ev E x = some (.pointer (some ⟨b, o, none⟩))) (ht : fo t f = some s) :
    LX n w0 ⟨dst, .fieldAddr t x f, ty, pos, aft, g⟩ E M (.pointer (some ⟨b, o + s, none⟩)) := LX.field hx ht

theorem slice_at {d : List Value} {o w i : Nat} {r : List Value} {u : Value} (h : sliceL d o w = r) (hu : r[i]? = some u) (hi : i < w) : d[o + i]? = some u := by
  rw [← h] at hu
  unfold sliceL at hu
  rwa [List.getElem?_take, if_pos hi, List.getElem?_drop] at hu

theorem drop3 {L M : Mem} {b9 br b6 : Nat} {c c' c'' : Array Value} {v : Value} {V : Int} {ds : List Int} (h : Num (L ++ (b9, .cells c 31 (0, 0)) :: (br, .cells c' 48 (0, 0)) :: (b6, .cells c'' 31 (0, 0)) :: M) v V ds) : Num (L ++ M) v V ds :=
  ((h.dropT (by decide)).dropT (by decide)).dropT (by decide)
theorem take_snoc {α : Type} {l : List α} {i : Nat} {x : α} (h : l[i]? = some x) : l.take (i + 1) = l.take i ++ [x] := by rw [List.take_add_one, h]; rfl

theorem told_snoc {i : Nat} {tf : Nat → Int} {t : Int} : (List.range (i + 1)).map (fun j => if j < i then tf j else t) = (List.range i).map tf ++ [t] := by
  rw [List.range_succ, List.map_append]
  congr 1
  · apply List.map_congr_left
    intro j hj
    rw [if_pos (List.mem_range.1 hj)]
  · simp

theorem WL.memEq {n : Nat} {w0 : World} {K : Exit → Env → Mem → Prop} {E : Env} {M N : Mem} {ops : Array Oper} {rest : List Oper} (e : M = N) (h : WL n w0 ops K rest E N) : WL n w0 ops K rest E M := e ▸ h
theorem EX.memEq {n : Nat} {w0 : World} {E : Env} {M N : Mem} {o : Oper} {Q : Value → Mem → Prop} (e : M = N) (h : EX n w0 o E N Q) : EX n w0 o E M Q := e ▸ h
theorem reg_cell0 {R : List (Value × Int)} {i : Nat} {v : Value} {z : Int} (h : R[i]? = some (v, z)) : (regC R)[0 + i * 2 + 0]? = some v := slice_at (regC_at h) (i := 0) rfl (by decide)
theorem reg_cell1 {R : List (Value × Int)} {i : Nat} {v : Value} {z : Int} (h : R[i]? = some (v, z)) : (regC R)[0 + i * 2 + 1]? = some (.int .i64 z) := slice_at (regC_at h) (i := 1) rfl (by decide)
/-- a byte more -/
theorem byte_more {n : Int} {a q : Nat} (h : 1 ≤ a) : n / 256 ^ a % 256 ^ q * 256 + n / 256 ^ (a - 1) % 256 = n / 256 ^ (a - 1) % 256 ^ (q + 1) := by
  have e1 : (256 : Int) ^ a = 256 ^ (a - 1) * 256 := by rw [← Int.pow_succ]; congr 1; omega
  have hp := p256 (a - 1)
  have hq := p256 q
  rw [e1, ← Int.ediv_ediv_of_nonneg (Int.le_of_lt hp), Int.pow_succ]
  generalize n / 256 ^ (a - 1) = Y
  generalize (256 : Int) ^ q = Q at *
  have h1 := Int.mul_ediv_add_emod (Y / 256) Q
  have h2 := Int.emod_nonneg (Y / 256) (show Q ≠ 0 by omega)
  have h3 := Int.emod_lt_of_pos (Y / 256) hq
  have h4 : Y = (Y / 256 % Q * 256 + Y % 256) + (Q * 256) * (Y / 256 / Q) := by
    have : Y = 256 * (Y / 256) + Y % 256 := by omega
    generalize Y / 256 / Q = u at *
    generalize Y / 256 % Q = v at *
    generalize Y % 256 = r at *
    rw [← h1] at this
    rw [this]; grind
  conv => rhs; rw [h4]
  rw [Int.add_mul_emod_self_left]
  refine (Int.emod_eq_of_lt (by omega) ?_).symm
  have : Y / 256 % Q * 256 + 256 ≤ Q * 256 := by omega
  omega
theorem wordsOf_len (p : Int × Int) : (wordsOf p).length = p.2.toNat := by simp [wordsOf]
theorem wordsOf_snoc {p : Int × Int} {k : Nat} (h : k < p.2.toNat) : (wordsOf p).take (k + 1) = (wordsOf p).take k ++ [p.1 / W64 ^ k % W64] := by
  rw [List.take_succ_eq_append_getElem (by rw [wordsOf_len]; exact h)]
  simp [wordsOf]

section
variable {w0 : World} {M : Mem}
/-- Script -/
theorem sscript {A As : Option Addr} {capm caps c : Nat} {X : List Bs} {S : List Stp} (hX : ModsIn w0 A X) (hS : StpsIn w0 As S) (hr : RightP X c S) :
    CS w0 8 [.slice A X.length capm, .int .i64 c, .slice As S.length caps] M (fun u M' => ∃ vw vo vt ok, u = .tuple #[.agg #[vw, vo, vt], .bool ok] ∧ (vw.oneCell' = true ∧ vo.oneCell' = true ∧ vt.oneCell' = true) ∧ (∃ N, M' = N ++ M) ∧
      (ok = true → ∃ Rf tf, RunF X c S Rf tf ∧ AnsR M' vw vo vt (Rf S.length) ((List.range S.length).map tf))) := by
  have hc1 := hr.c1
  have hc5 := hr.c5
  have hs40 := hr.s40
  have hXd : ∀ x ∈ X, ModP x ∧ Dg 256 x.bs := fun x hx => ⟨hr.mods x hx, (hX.ok x hx).dg⟩
  have hSd : ∀ s ∈ S, Dg 256 s.d.bs ∧ s.num < 9223372036854775808 := fun s hs => ⟨(hS.ok s hs).d.dg, by have := (hS.ok s hs).num; omega⟩
  refine CS.of Tryz.func8 Tryz.ntmps8 rfl rfl (WC.seq (WC.region (WL.step rfl (EX.alloc (z := .agg #[.slice none 0 0, .slice none 0 0, .slice none 0 0]) (fun _ => by kernel_rfl)) ?_)))
  rintro _ _ ⟨b6, rfl, rfl⟩
  refine WL.q (LX.assign rfl) rfl (WL.nil (thenK_normal (WC.seq (WC.region (WL.q (LX.move rfl) rfl (WL.step rfl (EX.makeR (c := c) rfl rfl rfl rfl (by omega) (by omega)) ?_))))))
  rintro _ _ ⟨br, rfl, rfl⟩
  refine WL.q (LX.assign rfl) rfl (WL.nil (thenK_normal (WC.seq (WC.region (WL.q (LX.build (qs := []) (v := .agg #[.slice none 0 0, .slice none 0 0, .slice none 0 0]) rfl (fun _ => by kernel_rfl)) rfl (WL.step rfl (EX.alloc (z := .agg #[.slice none 0 0, .slice none 0 0, .slice none 0 0]) (fun _ => by kernel_rfl)) ?_))))))
  rintro _ _ ⟨b9, rfl, rfl⟩
  refine WL.put (EX.storeW rfl rfl rfl rfl (by intro u hu; simp only [List.mem_cons, List.not_mem_nil, or_false] at hu; rcases hu with rfl | rfl | rfl <;> first | rfl | assumption) (by repeat first | assumption | exact List.mem_cons_self | refine List.mem_cons_of_mem _ ?_ | refine List.mem_append_right _ ?_) rfl (by repeat first | exact Upd.here | apply Upd.there | apply Upd.app)) ?_
  refine WL.nil (thenK_normal (WC.seq (WC.seq (WC.region (WL.q (LX.assign rfl) rfl (WL.nil (thenK_normal (WC.block ?_))))))))
  refine WC.loopS (fun s : Nat × List (Value × Int) × Value × Mem × Mem × (Nat → List (Int × Int)) × (Nat → Int) => [(0, .slice A X.length capm), (1, .int .i64 c), (2, .slice As S.length caps), (6, ptr b6), (8, .slice (some ⟨br, 0, none⟩) c c), (9, ptr b9), (10, .int .i64 s.1)])
    (fun s => s.2.2.2.1 ++ (s.2.2.2.2.1 ++ (b9, ansO (.slice none 0 0) (.slice none 0 0) s.2.2.1) :: (br, regsO s.2.1) :: (b6, ansO (.slice none 0 0) (.slice none 0 0) (.slice none 0 0)) :: M))
    (fun s => s.1 ≤ S.length ∧ RunF X c (S.take s.1) s.2.2.2.2.2.1 s.2.2.2.2.2.2 ∧ RgsR (s.2.2.2.1 ++ (s.2.2.2.2.1 ++ M)) s.2.1 (s.2.2.2.2.2.1 s.1) ∧ TQ s.2.2.1 ((List.range s.1).map s.2.2.2.2.2.2) s.2.2.2.1) (fun s => S.length - s.1)
    (0, _, .slice none 0 0, [], [], fun _ => List.replicate c (0, 0), fun _ => 0) ⟨Nat.zero_le _, ⟨rfl, fun i s hs => by simp at hs⟩, RgsR.start c, .inl ⟨rfl, rfl, rfl⟩⟩ (.cons rfl (.cons rfl (.cons rfl (.cons rfl (.cons rfl (.cons rfl (.cons rfl .nil))))))) rfl ?_
  rintro ⟨i, R, vt, pre, N, Rf, tf⟩ ⟨hi, hrun, hR, hT⟩
  dsimp only at hi hrun hR hT ⊢
  have htl : (S.take i).length = i := by rw [List.length_take]; omega
  have hbd := hrun.bound hXd (fun s hs => hSd s (List.mem_of_mem_take hs)) i (by omega)
  have hRl : R.length = c := by rw [hR.len, hbd.1]
  have hTo := hT.one
  refine WC.seq (WC.seq (WC.region (WL.q (LX.move rfl) rfl (WL.q (LX.move rfl) rfl (WL.q (LX.len rfl rfl rfl) rfl (WL.q (LX.bin rfl rfl rfl) rfl (WL.nil (thenK_normal ?_))))))))
  refine WC.test rfl (fun hlt => ?_) (fun hge => ?_)
  · obtain ⟨s, hs, hsm⟩ := list_at (show i < S.length by omega)
    obtain ⟨bS, oS, dS, TS, fS, hAs, hS1, hS2, hS3⟩ := hS.at_ hs
    subst hAs
    obtain ⟨so, sa, sb, sm, sl⟩ := hr.steps s hsm
    obtain ⟨x, hx, hxm⟩ := list_at (show s.m.toNat < X.length by omega)
    obtain ⟨bA, oA, dA, TA, fA, hAm, hA1, hA2⟩ := hX.at_ hx
    subst hAm
    have hxo := hX.ok x hxm
    have hxp := hr.mods x hxm
    have hso := hS.ok s hsm
    have hc' : (Int.toNat (c : Int)) = c := by omega
    rw [hc'] at so sa sb
    obtain ⟨po, hpo, hpom⟩ := list_at (show s.o.toNat < (Rf i).length by omega)
    obtain ⟨pa, hpa, hpam⟩ := list_at (show s.a.toNat < (Rf i).length by omega)
    obtain ⟨pb, hpb, hpbm⟩ := list_at (show s.b.toNat < (Rf i).length by omega)
    obtain ⟨vo, dso, hRo, hno⟩ := hR.at_ _ _ hpo
    obtain ⟨va, dsa, hRa, hna⟩ := hR.at_ _ _ hpa
    obtain ⟨vb, dsb, hRb, hnb⟩ := hR.at_ _ _ hpb
    refine WC.skip (thenK_normal (WC.seq (WC.block (WC.seq (WC.region (WL.q (LX.move rfl) rfl (WL.q (LX.move rfl) rfl (WL.q (LX.move rfl) rfl (WL.q (LX.idx rfl rfl rfl i rfl (by omega)) rfl (WL.q (LX.fieldQ rfl rfl) rfl (WL.q (LX.loadW rfl rfl hS1 (Obj.cell_list (slice_at hS3 (i := 4) rfl (by decide)))) rfl (WL.q (LX.idxo rfl rfl rfl s.m.toNat (by omega) (by omega)) rfl (WL.q (LX.loadW rfl rfl hA1 (Obj.cell_list hA2)) rfl ?_)))))))))))))
    refine WL.callR (smodulus (src0 hxo.src) hxo.dg (by have := hxp.1; omega)) rfl (fun _ => by kernel_rfl) rfl ?_
    rintro _ _ ⟨vm, N1, ms, rfl, rfl, hm⟩
    refine WL.q (LX.move rfl) rfl (WL.q (LX.extract rfl rfl) rfl (WL.q (LX.extract rfl rfl) rfl (WL.q (LX.assign rfl) rfl (WL.q (LX.assign rfl) rfl (WL.nil (thenK_normal (WC.seq (WC.region (WL.q (LX.move rfl) rfl (WL.q (LX.move rfl) rfl (WL.q (LX.move rfl) rfl (WL.q (LX.idx rfl rfl rfl i rfl (by omega)) rfl (WL.q (LX.eq (LX.loadA rfl rfl (fun w hw => heap_below hw hS1) hS2) (show _ = s.val by rw [hS3]; rfl)) rfl ?_)))))))))))))
    refine WL.q (LX.move rfl) rfl ?_
    obtain ⟨km, hkm⟩ := bl_ex (show 0 ≤ dv 256 x.bs.reverse by have := hxp.2; omega)
    have hkb := hxp.bl hxo.dg hkm
    have hmm : ∀ {v V ds}, Num (pre ++ (N ++ M)) v V ds → Num (N1 ++ (pre ++ (N ++ (b9, ansO (.slice none 0 0) (.slice none 0 0) vt) :: (br, regsO R) :: (b6, ansO (.slice none 0 0) (.slice none 0 0) (.slice none 0 0)) :: M))) v V ds := fun h => h.mono fun p hp => by
      simp only [List.mem_append, List.mem_cons] at hp ⊢; grind
    have hst := sstep (w0 := w0) (M := N1 ++ (pre ++ (N ++ (b9, ansO (.slice none 0 0) (.slice none 0 0) vt) :: (br, regsO R) :: (b6, ansO (.slice none 0 0) (.slice none 0 0) (.slice none 0 0)) :: M))) (br := br) (capr := c) (o := s.o.toNat) (a := s.a.toNat) (b := s.b.toNat) (k := s.k) (m := s.m) (num := s.num) (A := s.d.A) (cap := s.d.cap) (bs := s.d.bs) (km := km) (by simp) hRo hRa hRb
      ⟨hmm hno, hmm hna, hmm hnb, hm, by have := (hbd.2 _ hpom).len hno; omega, by have := (hbd.2 _ hpam).len hna; omega, by have := (hbd.2 _ hpbm).len hnb; omega, by have := hxp.mlen hxo.dg hm; omega, hxp.2, hkm, by omega⟩ (src0 hso.d.src) hso.d.dg sl (by have := hso.num; omega)
    rw [hRl, Int.toNat_of_nonneg so.1, Int.toNat_of_nonneg sa.1, Int.toNat_of_nonneg sb.1] at hst
    refine WL.callR hst rfl (fun _ => by kernel_rfl) rfl ?_
    rintro _ _ ⟨r, t, ok, rfl, A', len', cap', s', rfl, ⟨N2, rfl⟩, hok⟩
    rw [← List.append_assoc] at hok ⊢
    refine WL.q (LX.move rfl) rfl (WL.q (LX.extract rfl rfl) rfl (WL.q (LX.extract rfl rfl) rfl (WL.q (LX.extract rfl rfl) rfl (WL.step rfl (EX.alloc (z := .agg #[.slice none 0 0, .int .i64 0]) (fun _ => by kernel_rfl)) ?_))))
    rintro _ _ ⟨b13, rfl, rfl⟩
    refine WL.put (EX.storeG rfl rfl rfl (by repeat first | assumption | exact List.mem_cons_self | refine List.mem_cons_of_mem _ ?_ | refine List.mem_append_right _ ?_) rfl (by repeat first | exact Upd.here | apply Upd.there | apply Upd.app)) ?_
    refine WL.q (LX.assign rfl) rfl (WL.q (LX.assign rfl) rfl (WL.nil (thenK_normal (WC.seq (WC.seq (WC.region (WL.q (LX.move rfl) rfl (WL.q (LX.not rfl) rfl (WL.nil (thenK_normal ?_))))))))))
    cases ok
    · refine WC.yes rfl (WC.seq (WC.region (WL.q (LX.build (qs := []) (v := .agg #[.slice none 0 0, .slice none 0 0, .slice none 0 0]) rfl (fun _ => by kernel_rfl)) rfl ?_)))
      refine WL.put (EX.storeW rfl rfl rfl rfl (by intro u hu; simp only [List.mem_cons, List.not_mem_nil, or_false] at hu; rcases hu with rfl | rfl | rfl <;> first | rfl | assumption) (by repeat first | assumption | exact List.mem_cons_self | refine List.mem_cons_of_mem _ ?_ | refine List.mem_append_right _ ?_) rfl (by repeat first | exact Upd.here | apply Upd.there | apply Upd.app)) ?_
      refine WL.q (LX.assign rfl) rfl (WL.nil (thenK_normal (WC.ret (thenK_ret (blockK_ret (thenK_ret (loopS_ret (blockK_ret (thenK_ret ?_)))))))))
      refine KR.cell2 (.inl rfl) rfl rfl rfl rfl (by repeat first | assumption | exact List.mem_cons_self | refine List.mem_cons_of_mem _ ?_ | refine List.mem_append_right _ ?_) rfl ⟨_, _, _, false, rfl, ⟨rfl, rfl, rfl⟩, ?_, fun h => by cases h⟩
      exact pre_up (L := [_]) (pre_up (pre_up (pre_up pre3a)))
    · obtain ⟨n', gs, hv, hps⟩ := hok rfl
      refine WC.no rfl (WC.skip (thenK_normal (WC.seq (WC.draw [(0, 0), (0, 1), (0, 2), (0, 3), (0, 4), (1, 5), (1, 6), (0, 7), (2, 8)] [(b13, rgO (.slice A' len' cap') s')] rfl (by kernel_rfl) rfl (by kernel_rfl) (DW.p rfl rfl (fun _ => LX.move rfl) rfl (DW.p rfl rfl (fun _ => LX.move rfl) rfl (DW.p rfl rfl (fun _ => LX.move rfl) rfl (DW.p rfl rfl (fun _ => LX.idx rfl rfl rfl i rfl (by omega)) rfl (DW.p rfl rfl (fun _ => LX.fieldQ rfl rfl) rfl (DW.r rfl rfl (LX.loadW rfl rfl hS1 (Obj.cell_list (slice_at hS3 (i := 1) rfl (by decide)))) (fun p hp => by simp only [List.mem_singleton] at hp; subst hp; exact List.mem_cons_self) rfl ?_))))))))))
      refine DW.r rfl rfl (LX.loadR rfl rfl (by repeat first | assumption | exact List.mem_cons_self | refine List.mem_cons_of_mem _ ?_ | refine List.mem_append_right _ ?_) rfl) (fun p hp => by simp only [List.mem_singleton] at hp; subst hp; exact List.mem_cons_self) rfl ?_
      refine DW.p rfl rfl (fun _ => LX.idx rfl rfl rfl s.o.toNat (by omega) (by omega)) rfl ?_
      refine DW.fput rfl rfl (EX.storeQ (R := R) (j := s.o.toNat) rfl rfl rfl (by omega) (by repeat first | assumption | exact List.mem_cons_self | refine List.mem_cons_of_mem _ ?_ | refine List.mem_append_right _ ?_) (by repeat first | exact Upd.here | apply Upd.there | apply Upd.app)) (fun p hp => by simp only [List.mem_singleton] at hp; subst hp; exact List.mem_cons_self) ?_
      refine DW.nil (thenK_normal (WC.region (WL.q (LX.field0 rfl rfl) rfl ?_)))
      refine WL.q (LX.load rfl rfl (by repeat first | assumption | exact List.mem_cons_self | refine List.mem_cons_of_mem _ ?_ | refine List.mem_append_right _ ?_) rfl) rfl ?_
      refine WL.q (LX.move rfl) rfl (WL.step rfl (EX.bslice (e := 3) (cs := [.int .i64 t]) rfl (fun _ => by kernel_rfl)) ?_)
      rintro _ _ ⟨bq, rfl, rfl⟩
      
      refine WL.step rfl (EX.appendT (A := (bq, .cells #[.int .i64 t] 3 (0, 0)) :: (b13, rgO (.slice A' len' cap') s') :: (N2 ++ N1)) (pre := pre) (B := N ++ (b9, ansO (.slice none 0 0) (.slice none 0 0) vt) :: (br, regsO (R.set s.o.toNat (.slice A' len' cap', s'))) :: (b6, ansO (.slice none 0 0) (.slice none 0 0) (.slice none 0 0)) :: M) rfl hT rfl rfl List.mem_cons_self (by rw [List.length_map, List.length_range]; omega)) ?_
      rintro vt' _ ⟨pre', old, rfl, hT', hTr⟩
      have hTo' := hT'.one
      refine WL.q (LX.field0 rfl rfl) rfl ?_
      refine WL.put (EX.storeC rfl rfl rfl (by repeat first | assumption | exact List.mem_cons_self | refine List.mem_cons_of_mem _ ?_ | refine List.mem_append_right _ ?_) hTo' rfl (by repeat first | exact Upd.here | apply Upd.there | apply Upd.app)) ?_
      refine WL.nil (blockK_normal (thenK_normal (WC.region (WL.q (LX.move rfl) rfl (WL.q (LX.addI rfl rfl (by omega)) rfl (WL.q (LX.assign rfl) rfl (WL.nil ?_)))))))
      have hdr : ∀ {v V ds}, Num (((bq, .cells #[.int .i64 t] 3 (0, 0)) :: (b13, rgO (.slice A' len' cap') s') :: (N2 ++ N1)) ++ (pre ++ (N ++ (b9, ansO (.slice none 0 0) (.slice none 0 0) vt) :: (br, regsO (R.set s.o.toNat (.slice A' len' cap', s'))) :: (b6, ansO (.slice none 0 0) (.slice none 0 0) (.slice none 0 0)) :: M))) v V ds →
          Num (pre' ++ (((bq, .cells #[.int .i64 t] 3 (0, 0)) :: (b13, rgO (.slice A' len' cap') s') :: (N2 ++ N1) ++ (old ++ N)) ++ M)) v V ds := by
        intro v V ds h1
        have h2 := hTr h1
        have h3 := drop3 (L := pre' ++ (((bq, .cells #[.int .i64 t] 3 (0, 0)) :: (b13, rgO (.slice A' len' cap') s') :: (N2 ++ N1)) ++ (old ++ N))) (M := M) (by simpa only [List.append_assoc, List.cons_append] using h2)
        simpa only [List.append_assoc, List.cons_append] using h3
      have hv2 := drop3 (L := (N2 ++ N1) ++ (pre ++ N)) (M := M) (by simpa only [List.append_assoc] using hv)
      refine loopS_next (i + 1, R.set s.o.toNat (.slice A' len' cap', s'), vt', pre', (bq, .cells #[.int .i64 t] 3 (0, 0)) :: (b13, rgO (.slice A' len' cap') s') :: (N2 ++ N1) ++ (old ++ N), fun j => if j ≤ i then Rf j else (Rf i).set s.o.toNat (n', s'), fun j => if j < i then tf j else t)
        ⟨by simp only []; omega, ?_, ?_, ?_⟩ (by simp only []; omega) (.cons rfl (.cons rfl (.cons rfl (.cons rfl (.cons rfl (.cons rfl (.cons rfl .nil))))))) (by simp only [List.append_assoc, List.cons_append]; rfl)
      · have h1 := hrun.snoc (s := s) (R' := (Rf i).set s.o.toNat (n', s')) (t := t) ⟨po, pa, pb, x, km, n', s', by rw [htl]; exact hpo, by rw [htl]; exact hpa, by rw [htl]; exact hpb, hx, hkm, hps, by rw [htl]⟩
        rw [htl, ← take_snoc hs] at h1
        exact h1
      · simp only [if_neg (show ¬ i + 1 ≤ i by omega)]
        refine RgsR.set (hR.map fun h => hdr (h.mono fun p hp => ?_)) _ (hdr (hv2.mono fun p hp => ?_))
        · simp only [List.mem_append, List.mem_cons] at hp ⊢; grind
        · simp only [List.mem_append, List.mem_cons] at hp ⊢; grind
      · simp only []
        rw [told_snoc]; exact hT'
  · obtain rfl : i = S.length := by omega
    rw [List.take_length] at hrun
    have hPl := hbd.1
    have hPb := hbd.2
    generalize hP : Rf S.length = P at hR hPl hPb
    have htold := hT.rds (M := pre) fun _ h => h
    refine WC.exit (thenK_exit (loopS_exit (blockK_same (thenK_normal (WC.seq (WC.seq (WC.region (WL.q (LX.assign rfl) rfl (WL.nil (thenK_normal (WC.block ?_)))))))))))
    refine WC.loopS (fun s : Nat × Value × List Value × Value × Mem × Mem × Mem × Mem => [(1, .int .i64 c), (6, ptr b6), (8, .slice (some ⟨br, 0, none⟩) c c), (9, ptr b9), (16, .int .i64 s.1)])
      (fun s => s.2.2.2.2.1 ++ (s.2.2.2.2.2.1 ++ (s.2.2.2.2.2.2.1 ++ (s.2.2.2.2.2.2.2 ++ (b9, ansO s.2.1 s.2.2.2.1 vt) :: (br, regsO R) :: (b6, ansO (.slice none 0 0) (.slice none 0 0) (.slice none 0 0)) :: M))))
      (fun s => s.1 ≤ c ∧ (∀ p ∈ pre ++ N, p ∈ s.2.2.2.2.2.2.2) ∧ OwnQ (fun _ => True) 4 s.2.2.2.1 ((P.take s.1).map fun p => .bool (decide (p.2 < 0))) s.2.2.2.2.2.2.1 ∧ OwnQ (fun _ => True) 51 s.2.1 s.2.2.1 s.2.2.2.2.1 ∧ s.2.2.1.length = s.1 ∧
        ∀ (j : Nat) (p : Int × Int), P[j]? = some p → j < s.1 → ∃ w, s.2.2.1[j]? = some w ∧ Rds (s.2.2.2.2.2.1 ++ s.2.2.2.2.2.2.2) w ((wordsOf p).map (Value.int .u64))) (fun s => c - s.1)
      (0, .slice none 0 0, [], .slice none 0 0, [], [], [], pre ++ N) ⟨Nat.zero_le _, fun _ h => h, OwnQ.nil, OwnQ.nil, rfl, fun j p _ h => by simp at h⟩ (.cons rfl (.cons rfl (.cons rfl (.cons rfl (.cons rfl .nil))))) (by simp) ?_
    rintro ⟨i, vw, ws, vo, preW, H, preO, G⟩ ⟨hi, hG, hO, hW, hwl, hws⟩
    dsimp only at hi hG hO hW hwl hws ⊢
    have hWo := hW.one
    have hOo := hO.one
    refine WC.seq (WC.seq (WC.region (WL.q (LX.move rfl) rfl (WL.q (LX.move rfl) rfl (WL.q (LX.bin rfl rfl rfl) rfl (WL.nil (thenK_normal ?_)))))))
    refine WC.test rfl (fun hlt => ?_) (fun hge => ?_)
    · obtain ⟨p, hp, hpm⟩ := list_at (show i < P.length by omega)
      obtain ⟨v, ds, hRi, hnv⟩ := hR.at_ _ _ hp
      have hpb := hPb p hpm
      have hdl := hpb.len hnv
      have hz8 := hpb.z8
      have hms : ∀ {L : Mem} {R' : Mem}, ∀ q ∈ [(b9, ansO vw vo vt), (br, regsO R)], q ∈ L ++ (b9, ansO vw vo vt) :: (br, regsO R) :: R' := by
        intro L R' q hq
        simp only [List.mem_cons, List.not_mem_nil, or_false] at hq
        rcases hq with rfl | rfl <;> simp
      have hms0 : ∀ q ∈ [(b9, ansO vw vo vt), (br, regsO R)], q ∈ preW ++ (H ++ (preO ++ (G ++ (b9, ansO vw vo vt) :: (br, regsO R) :: (b6, ansO (.slice none 0 0) (.slice none 0 0) (.slice none 0 0)) :: M))) := fun q hq => by
        have := hms (L := preW ++ (H ++ (preO ++ G))) (R' := (b6, ansO (.slice none 0 0) (.slice none 0 0) (.slice none 0 0)) :: M) q hq
        simpa only [List.append_assoc] using this
      refine WC.skip (thenK_normal (WC.seq (WC.block (WC.seq (WC.draw [(0, 0), (0, 2), (0, 3), (0, 4), (0, 5), (1, 1), (1, 6), (0, 7), (2, 8), (2, 9), (0, 10), (2, 11)] [(b9, ansO vw vo vt), (br, regsO R)] rfl (by kernel_rfl) rfl (by kernel_rfl) (DW.p rfl rfl (fun _ => LX.field0 rfl rfl) rfl (DW.p rfl rfl (fun _ => LX.move rfl) rfl (DW.p rfl rfl (fun _ => LX.move rfl) rfl (DW.p rfl rfl (fun _ => LX.idx rfl rfl rfl i rfl (by omega)) rfl (DW.p rfl rfl (fun _ => LX.fieldQ rfl rfl) rfl ?_))))))))))
      refine DW.r rfl rfl (LX.load rfl rfl (by repeat first | assumption | exact List.mem_cons_self | refine List.mem_cons_of_mem _ ?_ | refine List.mem_append_right _ ?_) rfl) hms0 rfl ?_
      refine DW.r rfl rfl (LX.load rfl rfl (by repeat first | assumption | exact List.mem_cons_self | refine List.mem_cons_of_mem _ ?_) (Obj.cell_list (reg_cell1 hRi))) hms0 rfl ?_
      refine DW.p rfl rfl (fun _ => LX.bin rfl rfl rfl) rfl (DW.f rfl rfl (EX.bslice (e := 4) (cs := [.bool (decide (p.2 < 0))]) rfl (fun _ => by kernel_rfl)) rfl ?_)
      rintro _ _ ⟨bo, rfl, rfl⟩
      refine ⟨fun q hq => List.mem_cons_of_mem _ (hms0 q hq), ?_⟩
      
      refine DW.f rfl rfl (EX.appendQ (A := (bo, .cells #[.bool (decide (p.2 < 0))] 4 (0, 0)) :: (preW ++ H)) (pre := preO) (B := G ++ (b9, ansO vw vo vt) :: (br, regsO R) :: (b6, ansO (.slice none 0 0) (.slice none 0 0) (.slice none 0 0)) :: M) (G := fun _ => True) (e := 4) (d := .bool (decide (p.2 < 0))) rfl hO rfl rfl rfl rfl trivial trivial rfl List.mem_cons_self (by simp; omega) |> EX.memEq (by simp only [List.append_assoc, List.cons_append])) rfl ?_
      rintro vo' _ ⟨preO', rfl, hO'⟩
      have hOo' := hO'.one
      have hO2 : OwnQ (fun _ => True) 4 vo' ((P.take (i + 1)).map fun p => .bool (decide (p.2 < 0))) preO' := by rw [take_snoc hp, List.map_append]; exact hO'
      refine ⟨fun q hq => ?_, ?_⟩
      · have := hms (L := preO' ++ ((bo, .cells #[.bool (decide (p.2 < 0))] 4 (0, 0)) :: (preW ++ H) ++ G)) (R' := (b6, ansO (.slice none 0 0) (.slice none 0 0) (.slice none 0 0)) :: M) q hq
        simpa only [List.append_assoc, List.cons_append] using this
      refine DW.p rfl rfl (fun _ => LX.field0 rfl rfl) rfl ?_
      refine DW.tput rfl rfl (EX.storeC rfl rfl rfl (by repeat first | assumption | exact List.mem_cons_self | refine List.mem_cons_of_mem _ ?_ | refine List.mem_append_right _ ?_) hOo' rfl (by repeat first | exact Upd.here | apply Upd.there | apply Upd.app)) (by kernel_rfl) ?_
      refine DW.nil (thenK_normal (WC.seq (WC.region (WL.step rfl (EX.bslice (e := 52) (cs := []) rfl (fun _ => by kernel_rfl)) ?_))))
      rintro _ _ ⟨bl, rfl, rfl⟩
      refine WL.q (LX.assign rfl) rfl (WL.nil (thenK_normal (WC.seq (WC.seq (WC.region (WL.q (LX.assign rfl) rfl (WL.nil (thenK_normal (WC.block ?_)))))))))
      obtain ⟨Kx, hKx⟩ : ∃ Kx, Kx = preO' ++ ((bo, .cells #[.bool (decide (p.2 < 0))] 4 (0, 0)) :: (preW ++ H) ++ (G ++ (b9, ansO vw vo' vt) :: (br, regsO R) :: (b6, ansO (.slice none 0 0) (.slice none 0 0) (.slice none 0 0)) :: M)) := ⟨_, rfl⟩
      have hKr : (br, regsO R) ∈ Kx := by rw [hKx]; simp
      have hKn : Num Kx v p.1 ds := hnv.mono fun q hq => by
        rw [hKx]
        have h1 : q ∈ G ∨ q ∈ M := by
          rcases List.mem_append.1 hq with h | h
          · exact .inl (hG _ (List.mem_append_left _ h))
          · rcases List.mem_append.1 h with h | h
            · exact .inl (hG _ (List.mem_append_right _ h))
            · exact .inr h
        simp only [List.mem_append, List.mem_cons]
        rcases h1 with h | h <;> simp [h]
      refine WC.loopS (fun s : Nat × Value × Mem × Mem => [(1, .int .i64 c), (6, ptr b6), (8, .slice (some ⟨br, 0, none⟩) c c), (9, ptr b9), (16, .int .i64 i), (17, s.2.1), (18, .int .i64 s.1)]) (fun s => s.2.2.1 ++ (s.2.2.2 ++ Kx))
        (fun s => s.1 ≤ p.2.toNat ∧ OwnQ (fun _ => True) 52 s.2.1 (((wordsOf p).take s.1).map (Value.int .u64)) s.2.2.1) (fun s => p.2.toNat - s.1)
        (0, .slice (some ⟨bl, 0, none⟩) 0 0, [(bl, .cells #[] 52 (0, 0))], []) ⟨Nat.zero_le _, .inr ⟨bl, [], rfl, Nat.le_refl _, rfl, rfl, by simp⟩⟩ (.cons rfl (.cons rfl (.cons rfl (.cons rfl (.cons rfl (.cons rfl (.cons rfl .nil))))))) (by rw [hKx]; rfl) ?_
      rintro ⟨k, vl, preL, G3⟩ ⟨hk, hL⟩
      dsimp only at hk hL ⊢
      have hKr' : (br, regsO R) ∈ preL ++ (G3 ++ Kx) := List.mem_append_right _ (List.mem_append_right _ hKr)
      have hKn' : Num (preL ++ (G3 ++ Kx)) v p.1 ds := hKn.mono fun _ h => List.mem_append_right _ (List.mem_append_right _ h)
      refine WC.seq (WC.seq (WC.region (WL.q (LX.move rfl) rfl (WL.q (LX.move rfl) rfl (WL.q (LX.move rfl) rfl (WL.q (LX.idx rfl rfl rfl i rfl (by omega)) rfl (WL.q (LX.fieldQ rfl rfl) rfl (WL.q (LX.load rfl rfl hKr' (Obj.cell_list (reg_cell1 hRi))) rfl (WL.q (LX.bin rfl rfl rfl) rfl (WL.nil (thenK_normal ?_)))))))))))
      refine WC.test rfl (fun hklt => ?_) (fun hkge => ?_)
      · have hk2 : k < p.2.toNat := by omega
        refine WC.skip (thenK_normal (WC.seq (WC.block (WC.seq (WC.region (WL.q (LX.assign rfl) rfl (WL.nil (thenK_normal (WC.seq (WC.seq (WC.region (WL.q (LX.assign rfl) rfl (WL.nil ?_)))))))))))))
        refine thenK_normal (WC.block ?_)
        refine WC.loopS (fun s : Nat × Int => [(1, .int .i64 c), (6, ptr b6), (8, .slice (some ⟨br, 0, none⟩) c c), (9, ptr b9), (16, .int .i64 i), (17, vl), (18, .int .i64 k), (19, .int .u64 s.2), (20, .int .i64 (7 - (s.1 : Int)))]) (fun _ => preL ++ (G3 ++ Kx))
          (fun s => s.1 ≤ 8 ∧ s.2 = p.1 / 256 ^ (8 * k + (8 - s.1)) % 256 ^ s.1) (fun s => 8 - s.1) (0, 0) ⟨by decide, by simp only []; rw [Int.pow_zero]; omega⟩ (.cons rfl (.cons rfl (.cons rfl (.cons rfl (.cons rfl (.cons rfl (.cons rfl (.cons rfl (.cons rfl .nil))))))))) rfl ?_
        rintro ⟨q, w⟩ ⟨hq, hw⟩
        dsimp only at hq hw ⊢
        have hw0 : 0 ≤ w := by rw [hw]; exact Int.emod_nonneg _ (by have := p256 q; omega)
        have hw1 : w < 256 ^ q := by rw [hw]; exact Int.emod_lt_of_pos _ (p256 q)
        have hnb : 0 ≤ p.1 / 256 ^ (8 * k + (7 - q)) % 256 ∧ p.1 / 256 ^ (8 * k + (7 - q)) % 256 < 256 := by omega
        refine WC.seq (WC.seq (WC.region (WL.q (LX.move rfl) rfl (WL.q (LX.bin rfl rfl rfl) rfl (WL.nil (thenK_normal ?_))))))
        refine WC.test rfl (fun hq7 => ?_) (fun hq7 => ?_)
        · have hb7 : (256 : Int) ^ q ≤ 72057594037927936 := by
            rw [pow256]; have := pow2_le (show 8 * q ≤ 56 by omega); have e : (2 : Int) ^ 56 = 72057594037927936 := by decide
            omega
          refine WC.skip (thenK_normal (WC.seq (WC.block (WC.region (WL.q (LX.move rfl) rfl (WL.q (LX.eq (LX.shl rfl rfl (by omega)) (show _ = Value.int .u64 (w * 256) by rw [show min ((8 : Int).toNat) IntKind.u64.bits = 8 from rfl, u64_in (by omega)]; rfl)) rfl (WL.q (LX.move rfl) rfl (WL.q (LX.move rfl) rfl (WL.q (LX.idx rfl rfl rfl i rfl (by omega)) rfl (WL.q (LX.fieldQ rfl rfl) rfl (WL.q (LX.load rfl rfl hKr' (Obj.cell_list (reg_cell0 hRi))) rfl (WL.q (LX.move rfl) rfl (WL.q (LX.mulI rfl rfl (by omega)) rfl ?_)))))))))))))
          refine WL.q (LX.move rfl) rfl (WL.q (LX.eq (LX.addI rfl rfl (by omega)) (show _ = Value.int .i64 ((8 * k + (7 - q) : Nat) : Int) by congr 1; omega)) rfl (WL.callR (soctet hKn' (by omega) (by omega)) rfl (fun _ => by kernel_rfl) rfl ?_))
          rintro _ _ ⟨rfl, hM⟩
          subst hM
          refine WL.q (LX.convU rfl rfl rfl (by omega)) rfl (WL.q (LX.addU rfl rfl (by omega)) rfl (WL.q (LX.assign rfl) rfl (WL.nil (blockK_normal (thenK_normal (WC.region (WL.q (LX.move rfl) rfl (WL.q (LX.eq (LX.subI rfl rfl (by omega)) (show _ = Value.int .i64 (7 - ((q + 1 : Nat) : Int)) by congr 1; omega)) rfl (WL.q (LX.assign rfl) rfl (WL.nil ?_))))))))))
          refine loopS_next (q + 1, w * 256 + p.1 / 256 ^ (8 * k + (7 - q)) % 256) ⟨by simp only []; omega, ?_⟩ (by simp only []; omega) (.cons rfl (.cons rfl (.cons rfl (.cons rfl (.cons rfl (.cons rfl (.cons rfl (.cons rfl (.cons rfl .nil))))))))) rfl
          have := byte_more (n := p.1) (a := 8 * k + (8 - q)) (q := q) (by omega)
          rw [← hw, show 8 * k + (8 - q) - 1 = 8 * k + (7 - q) by omega] at this
          simp only []
          rw [this, show 8 - (q + 1) = 7 - q by omega]
        · obtain rfl : q = 8 := by omega
          have hwk : w = p.1 / W64 ^ k % W64 := by
            rw [hw, W256 k]; rfl
          refine WC.exit (thenK_exit (loopS_exit (blockK_same (thenK_normal (WC.region (WL.q (LX.move rfl) rfl (WL.q (LX.move rfl) rfl (WL.step rfl (EX.bslice (e := 52) (cs := [.int .u64 w]) rfl (fun _ => by kernel_rfl)) ?_))))))))
          rintro _ _ ⟨bw, rfl, rfl⟩
          
          refine WL.step rfl (EX.appendQ (A := [(bw, .cells #[.int .u64 w] 52 (0, 0))]) (pre := preL) (B := G3 ++ Kx) (G := fun _ => True) (e := 52) (d := .int .u64 w) rfl hL rfl rfl rfl rfl trivial trivial rfl List.mem_cons_self (by rw [List.length_map, List.length_take, wordsOf_len]; omega)) ?_
          rintro vl' _ ⟨preL', rfl, hL'⟩
          refine WL.q (LX.assign rfl) rfl (WL.nil (blockK_normal (thenK_normal (WC.region (WL.q (LX.move rfl) rfl (WL.q (LX.addI rfl rfl (by omega)) rfl (WL.q (LX.assign rfl) rfl (WL.nil ?_))))))))
          refine loopS_next (k + 1, vl', preL', (bw, .cells #[.int .u64 w] 52 (0, 0)) :: G3) ⟨by simp only []; omega, ?_⟩ (by simp only []; omega) (.cons rfl (.cons rfl (.cons rfl (.cons rfl (.cons rfl (.cons rfl (.cons rfl .nil))))))) rfl
          simp only []
          rw [wordsOf_snoc hk2, List.map_append, ← hwk]
          exact hL'
      · obtain rfl : k = p.2.toNat := by omega
        rw [List.take_of_length_le (by rw [wordsOf_len]; omega)] at hL
        have hLo := hL.one
        have hK9 : (b9, ansO vw vo' vt) ∈ preL ++ (G3 ++ Kx) := by rw [hKx]; simp
        refine WC.exit (thenK_exit (loopS_exit (blockK_same (thenK_normal (WC.region (WL.q (LX.field0 rfl rfl) rfl (WL.q (LX.load rfl rfl hK9 rfl) rfl (WL.q (LX.move rfl) rfl (WL.step rfl (EX.bslice (e := 51) (cs := [vl]) rfl (fun _ => by obtain ⟨Al, capl, rfl⟩ := hL.form; kernel_rfl)) ?_)))))))))
        rintro _ _ ⟨bv, rfl, rfl⟩
        
        subst hKx
        refine WL.step rfl (EX.memEq (N := ((bv, .cells #[vl] 51 (0, 0)) :: (preL ++ (G3 ++ (preO' ++ [(bo, .cells #[.bool (decide (p.2 < 0))] 4 (0, 0))])))) ++ (preW ++ (H ++ (G ++ (b9, ansO vw vo' vt) :: (br, regsO R) :: (b6, ansO (.slice none 0 0) (.slice none 0 0) (.slice none 0 0)) :: M)))) (by simp only [List.append_assoc, List.cons_append, List.nil_append]) (EX.appendQ (e := 51) (d := vl) rfl hW rfl rfl rfl rfl trivial trivial hLo List.mem_cons_self (by omega))) ?_
        rintro vw' _ ⟨preW', rfl, hW'⟩
        have hWo' := hW'.one
        refine WL.q (LX.field0 rfl rfl) rfl ?_
        refine WL.put (EX.storeC rfl rfl rfl (by repeat first | assumption | exact List.mem_cons_self | refine List.mem_cons_of_mem _ ?_ | refine List.mem_append_right _ ?_) hWo' rfl (by repeat first | exact Upd.here | apply Upd.there | apply Upd.app)) ?_
        refine WL.nil (blockK_normal (thenK_normal (WC.region (WL.q (LX.move rfl) rfl (WL.q (LX.addI rfl rfl (by omega)) rfl (WL.q (LX.assign rfl) rfl (WL.nil ?_)))))))
        refine loopS_next (i + 1, vw', ws ++ [vl], vo', preW', (bv, .cells #[vl] 51 (0, 0)) :: (preL ++ G3), preO', (bo, .cells #[.bool (decide (p.2 < 0))] 4 (0, 0)) :: (H ++ G)) ⟨by simp only []; omega, fun q hq => ?_, hO2, hW', by simp; omega, ?_⟩ (by simp only []; omega) (.cons rfl (.cons rfl (.cons rfl (.cons rfl (.cons rfl .nil))))) (by simp only [List.append_assoc, List.cons_append, List.nil_append]; rfl)
        · have := hG q hq
          simp [this]
        · intro j p' hp' hj
          simp only [] at hj ⊢
          rcases Nat.lt_or_ge j i with hji | hji
          · obtain ⟨w, h1, h2⟩ := hws j p' hp' hji
            exact ⟨w, by rw [List.getElem?_append_left (by omega)]; exact h1, h2.mono fun q hq => by
              simp only [List.mem_append, List.mem_cons] at hq ⊢; grind⟩
          · obtain rfl : j = i := by omega
            rw [hp] at hp'; cases hp'
            refine ⟨vl, by rw [← hwl, List.getElem?_append_right (Nat.le_refl _)]; simp, hL.rds fun q hq => ?_⟩
            simp [hq]
    · obtain rfl : i = c := by omega
      refine WC.exit (thenK_exit (loopS_exit (blockK_same (thenK_normal (WC.seq (WC.region ?_))))))
      refine WL.q (LX.loadR rfl rfl (by repeat first | assumption | exact List.mem_cons_self | refine List.mem_cons_of_mem _ ?_ | refine List.mem_append_right _ ?_) rfl) rfl ?_
      refine WL.put (EX.storeW rfl rfl rfl rfl (by intro u hu; simp only [List.mem_cons, List.not_mem_nil, or_false] at hu; rcases hu with rfl | rfl | rfl <;> first | rfl | assumption) (by repeat first | assumption | exact List.mem_cons_self | refine List.mem_cons_of_mem _ ?_ | refine List.mem_append_right _ ?_) rfl (by repeat first | exact Upd.here | apply Upd.there | apply Upd.app)) ?_
      refine WL.q (LX.assign rfl) rfl (WL.nil (thenK_normal (WC.ret ?_)))
      refine KR.cell2 (.inl rfl) rfl rfl rfl rfl (by repeat first | assumption | exact List.mem_cons_self | refine List.mem_cons_of_mem _ ?_ | refine List.mem_append_right _ ?_) rfl ⟨vw, vo, vt, true, rfl, ⟨hWo, hOo, hTo⟩, ?_, fun _ => ⟨Rf, tf, hrun, ?_⟩⟩
      · exact pre_up (pre_up (pre_up (pre_up pre3a)))
      · rw [hP]
        rw [List.take_of_length_le (by omega)] at hO
        refine ⟨htold.mono fun q hq => ?_, hO.rds fun q hq => ?_, ws, hW.rds fun q hq => ?_, by omega, fun j p hp => ?_⟩
        · have := hG q (List.mem_append_left _ hq)
          simp [this]
        · simp [hq]
        · simp [hq]
        · have hj : j < P.length := by
            rcases Nat.lt_or_ge j P.length with h | h
            · exact h
            · simp [List.getElem?_eq_none h] at hp
          obtain ⟨w, h1, h2⟩ := hws j p hp (by omega)
          exact ⟨w, h1, h2.mono fun q hq => by simp only [List.mem_append] at hq ⊢; grind⟩
end
end Go.Proofs.YtdnngppofbmpeaaGreatDoor.Bm
