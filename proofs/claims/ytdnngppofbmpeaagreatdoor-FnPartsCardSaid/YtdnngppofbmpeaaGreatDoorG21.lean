/- Proved here: what fits of the reference does, and laws on registers of the reference; what a step does, told in plain numbers, and what laid of the reference does. Conditions: none but those that each theorem states. -/
import Derived.Test.YtdnngppofbmpeaaGreatDoorG20
namespace Go.Proofs.YtdnngppofbmpeaaGreatDoor.Bm
open Go Go.RowKit

theorem Upd.app {M M' : Mem} {b : Nat} {o : Obj} (N : Mem) (h : Upd M b o M') : Upd (N ++ M) b o (N ++ M') := by
  induction N with
  | nil => exact h
  | cons p N ih => exact .there ih
theorem reg_build (A : Option Addr) (len cap : Nat) (k : Int) (w : World) : (Instr.build 48 #[(0, .slice A len cap), (1, .int .i64 k)]).run P w = .ok (.agg #[.slice A len cap, .int .i64 k]) w := by kernel_rfl

section
variable {n : Nat} {w0 : World} {E : Env} {M : Mem}
theorem cell_run {T k b T' : Nat} {cs : List Value} (hT : sz T = some k) (hk : cs.length = k) {w : World} (h : w.heap[b]? = some (.cells cs.toArray T' (0, 0))) : (loadVar T ⟨b, 0, none⟩).run P w = .ok (.agg cs.toArray) w := by
  have h3 := loadCells_run (o := 0) h k 0 #[] (by omega)
  simp only [loadVar]
  simp [sz_ok hT w, loadCells, h3]
  rw [List.take_of_length_le (by omega)]
theorem KR.cell2 {fn : Func} {R : Value → Mem → Prop} {c T k b T' t : Nat} {cs : List Value} {v : Value} {e : Exit} (he : e = .ret ∨ e = .normal) (hr : fn.results = #[.cell c T, .tmp t]) (hc : E.at? c = some (ptr b)) (hT : sz T = some k) (hk : cs.length = k)
    (hm : (b, .cells cs.toArray T' (0, 0)) ∈ M) (hv : E.at? t = some v) (h : R (.tuple #[.agg cs.toArray, v]) M) : KR n w0 fn R e E M :=
  ⟨he, _, fun a w ha hw => by
    have h1 := cell_run hT hk (hw.has _ hm).2
    simp [results, hr, ha.at_ c _ hc, ha.at_ t v hv, ptr, h1, asAddr], h⟩
theorem KR.cell3 {fn : Func} {R : Value → Mem → Prop} {c T k b T' t t' : Nat} {cs : List Value} {v v' : Value} {e : Exit} (he : e = .ret ∨ e = .normal) (hr : fn.results = #[.cell c T, .tmp t, .tmp t']) (hc : E.at? c = some (ptr b)) (hT : sz T = some k) (hk : cs.length = k)
    (hm : (b, .cells cs.toArray T' (0, 0)) ∈ M) (hv : E.at? t = some v) (hv' : E.at? t' = some v') (h : R (.tuple #[.agg cs.toArray, v, v']) M) : KR n w0 fn R e E M :=
  ⟨he, _, fun a w ha hw => by
    have h1 := cell_run hT hk (hw.has _ hm).2
    simp [results, hr, ha.at_ c _ hc, ha.at_ t v hv, ha.at_ t' v' hv', ptr, h1, asAddr], h⟩
end

/-- a guarded operation, where what guards it has no value -/
theorem WL.noU {n : Nat} {w0 : World} {K : Exit → Env → Mem → Prop} {E : Env} {M : Mem} {ops : Array Oper} {rest : List Oper} {d : Nat} {op : Op} {ty : TypeId} {pos : String} {aft : Array Edge} {j t : Nat} {b' : Bool} (hj : (ops[j]?).bind (·.dst) = some t)
    (ht : E.at? t = some undef) (hd : Nat.blt d n = true) (h : WL n w0 ops K rest ((d, undef) :: E) M) :
    WL n w0 ops K (⟨some d, op, ty, pos, aft, some (j, b')⟩ :: rest) E M := by
  refine ⟨fun a w ha hw => ?_⟩
  have hy : yielded ops a.tmps j = none := by
    unfold yielded
    rw [hj]
    simp [ha.at_ t _ ht, undef]
  unfold wpList
  rw [if_neg (by simp [Region.wanted, hy])]
  exact h.run _ _ (ha.put (by simpa [Nat.blt_eq] using hd) undef) hw

/-- a struct's load, whole -/
theorem LX.loadR {n : Nat} {w0 : World} {E : Env} {M : Mem} {dst : Option Nat} {ty : TypeId} {pos : String} {aft : Array Edge} {g : Option (Nat × Bool)} {t k b T : Nat} {x : Operand} {c : List Value} {fr : Nat × Nat} (hx : ev E x = some (.pointer (some ⟨b, 0, none⟩))) (ht : sz t = some k) (hm : (b, .cells c.toArray T fr) ∈ M) (hk : c.length = k) :
    LX n w0 ⟨dst, .load t x, ty, pos, aft, g⟩ E M (.agg c.toArray) := by
  refine LX.eq (LX.loadA (o := 0) hx ht (fun w hw => (hw.has _ hm).2) (by omega)) ?_
  unfold sliceL
  rw [List.drop_zero, List.take_of_length_le (by omega)]

/-- the words of a modulus of so many bits -/
def wds (km : Nat) : Nat := (km + 63) / 64
/-- a register of the reference -/
abbrev rg (v : Value) (s : Int) : Value := .agg #[v, .int .i64 s]

section
variable {w0 : World} {M : Mem}
theorem sbitsK {v : Value} {V : Int} {ds : List Int} {k : Nat} (h : Num M v V ds) (hL : ds.length ≤ 1000) (hk : IsBl V k) :
    CS w0 61 [v] M (fun u M' => u = .int .i64 k ∧ M' = M) :=
  (sbits h hL).mono fun _ _ ⟨⟨j, h1, _, h3⟩, h4⟩ => ⟨by rw [h1, h3.uniq hk], h4⟩
theorem swordsK {v : Value} {V : Int} {ds : List Int} {k : Nat} (h : Num M v V ds) (hL : ds.length ≤ 1000) (hk : IsBl V k) :
    CS w0 29 [v] M (fun u M' => u = .int .i64 (wds k) ∧ M' = M) :=
  (swords h hL).mono fun _ _ ⟨⟨j, h1, _, h3⟩, h4⟩ => ⟨by rw [h1, h3.uniq hk]; rfl, h4⟩

/-- fits -/
theorem sfits {v w : Value} {n V s : Int} {ds ms : List Int} {km : Nat} (h : Num M v n ds) (k : Num M w V ms) (hL : ds.length ≤ 1000) (hL' : ms.length ≤ 1000) (hk : IsBl V km) :
    CS w0 64 [rg v s, w] M (fun u M' => u = .bool (decide (s = (wds km : Int) ∧ n < V)) ∧ ∃ N, M' = N ++ M) := by
  obtain ⟨A, cap, rfl, -⟩ := h.mem.form
  refine CS.of Tryz.func64 Tryz.ntmps64 rfl rfl ?_
  by_cases hs : s = (wds km : Int)
  · skip
    refine WC.seq (WC.region (WL.step rfl (EX.box rfl) ?_))
    rintro _ _ ⟨b2, rfl, rfl⟩
    refine WL.q (LX.assign rfl) rfl (WL.nil (thenK_normal (WC.seq (WC.draw [(0, 0), (0, 2), (1, 1), (2, 3), (0, 4), (0, 5), (0, 6), (0, 8), (1, 7), (2, 9), (0, 10), (0, 11)] ((b2, Obj.cells (rg (.slice A ds.length cap) s).cells 48 (0, 0)) :: M) rfl (by kernel_rfl) rfl (by kernel_rfl) (DW.p rfl rfl (fun _ => LX.field0 rfl rfl) rfl (DW.p rfl rfl (fun _ => LX.move rfl) rfl ?_))))))
    refine DW.r rfl rfl (LX.load rfl rfl (by repeat first | assumption | exact List.mem_cons_self | refine List.mem_cons_of_mem _ ?_ | refine List.mem_append_right _ ?_) rfl) (fun _ h => h) rfl ?_
    refine DW.fval rfl rfl (EX.call rfl (fun _ => by kernel_rfl) (swordsK (k.mono fun _ hp => List.mem_cons_of_mem _ hp) hL' hk)) (fun _ h => h) rfl (DW.p rfl rfl (fun _ => LX.eq (LX.bin rfl rfl rfl) (tru hs)) rfl (DW.p rfl rfl (fun _ => LX.move rfl) rfl (DW.p rfl rfl (fun _ => LX.field0 rfl rfl) rfl (DW.p rfl rfl (fun _ => LX.move rfl) rfl ?_))))
    refine DW.r rfl rfl (LX.load rfl rfl (by repeat first | assumption | exact List.mem_cons_self | refine List.mem_cons_of_mem _ ?_ | refine List.mem_append_right _ ?_) rfl) (fun _ h => h) rfl ?_
    refine DW.fval rfl rfl (EX.call rfl (fun _ => by kernel_rfl) (sless (h.mono fun _ hp => List.mem_cons_of_mem _ hp) (k.mono fun _ hp => List.mem_cons_of_mem _ hp) hL hL')) (fun _ h => h) rfl (DW.p rfl rfl (fun _ => LX.pickT rfl rfl) rfl (DW.p rfl rfl (fun _ => LX.assign rfl) rfl (DW.nil (thenK_normal (WC.ret ?_)))))
    exact KR.one (.inl rfl) rfl rfl ⟨by simp [hs], [_], rfl⟩
  · skip
    refine WC.seq (WC.region (WL.step rfl (EX.box rfl) ?_))
    rintro _ _ ⟨b2, rfl, rfl⟩
    refine WL.q (LX.assign rfl) rfl (WL.nil (thenK_normal (WC.seq (WC.draw [(0, 0), (0, 2), (1, 1), (2, 3), (0, 4), (0, 5), (0, 6), (0, 7), (0, 8), (0, 9), (0, 10), (0, 11)] ((b2, Obj.cells (rg (.slice A ds.length cap) s).cells 48 (0, 0)) :: M) rfl (by kernel_rfl) rfl (by kernel_rfl) (DW.p rfl rfl (fun _ => LX.field0 rfl rfl) rfl (DW.p rfl rfl (fun _ => LX.move rfl) rfl ?_))))))
    refine DW.r rfl rfl (LX.load rfl rfl (by repeat first | assumption | exact List.mem_cons_self | refine List.mem_cons_of_mem _ ?_ | refine List.mem_append_right _ ?_) rfl) (fun _ h => h) rfl ?_
    refine DW.fval rfl rfl (EX.call rfl (fun _ => by kernel_rfl) (swordsK (k.mono fun _ hp => List.mem_cons_of_mem _ hp) hL' hk)) (fun _ h => h) rfl (DW.p rfl rfl (fun _ => LX.eq (LX.bin rfl rfl rfl) (fls hs)) rfl (DW.p rfl rfl (fun _ => LX.move rfl) rfl (DW.skip rfl rfl rfl (DW.skip rfl rfl rfl (DW.skip rfl rfl rfl (DW.skip rfl rfl rfl (DW.p rfl rfl (fun _ => LX.pickF rfl rfl) rfl (DW.p rfl rfl (fun _ => LX.assign rfl) rfl (DW.nil (thenK_normal (WC.ret ?_)))))))))))
    exact KR.one (.inl rfl) rfl rfl ⟨by simp [hs], [_], rfl⟩
end
end Go.Proofs.YtdnngppofbmpeaaGreatDoor.Bm
namespace Go.Proofs.YtdnngppofbmpeaaGreatDoor.Bm
open Go Go.RowKit

def sumL (zs : List Int) : Int := zs.foldl (· + ·) 0
theorem sumL_snoc (zs : List Int) (x : Int) : sumL (zs ++ [x]) = sumL zs + x := by simp [sumL, List.foldl_append]
theorem sumL_take {zs : List Int} {i : Nat} (h : i < zs.length) : sumL (zs.take (i + 1)) = sumL (zs.take i) + gt zs i := by
  rw [List.take_succ_eq_append_getElem h, sumL_snoc, gt_eq h]

/-- a number can be reckoned with: its size is the modulus's, and it is below it -/
def Ft (s n V : Int) (km : Nat) : Prop := s = (wds km : Int) ∧ n < V

instance {s n V : Int} {km : Nat} : Decidable (Ft s n V km) := inferInstanceAs (Decidable (_ ∧ _))

/-- what a step leaves in its register (number and size) and tells: in plain numbers (on, an, bn the numbers of the registers, zo, za, zb their sizes, V the modulus, of km bits; eA, eB: the register is the first one, the second one) -/
inductive PS (num : Int) (bs : List Int) (eA eB : Prop) (on zo an za bn zb V : Int) (km : Nat) : Int → Int → Int → Int → Prop
  | k0no (h : V ≤ dv 256 bs.reverse) (hl : bs.length ≤ (km + 7) / 8) : PS num bs eA eB on zo an za bn zb V km 0 0 (-1) 0
  | k0ok (h : dv 256 bs.reverse < V) (hl : bs.length ≤ (km + 7) / 8) : PS num bs eA eB on zo an za bn zb V km 0 (dv 256 bs.reverse) (wds km) 1
  | k1no {kx : Nat} (hb : IsBl (dv 256 bs.reverse) kx) (h : km < kx) (hl : bs.length ≤ (km + 7) / 8) : PS num bs eA eB on zo an za bn zb V km 1 0 (-1) 0
  | k1ok {kx : Nat} (hb : IsBl (dv 256 bs.reverse) kx) (h : ¬ km < kx) (hl : bs.length ≤ (km + 7) / 8) : PS num bs eA eB on zo an za bn zb V km 1 (dv 256 bs.reverse % V) (wds km) 1
  | k2 (h : 0 ≤ num) : PS num bs eA eB on zo an za bn zb V km 2 num 1 0
  | k3 (h0 : 0 ≤ zo) (h1 : zo ≤ wds km) : PS num bs eA eB on zo an za bn zb V km 3 on (wds km) 0
  | k4 (h : 0 < za) (he : ¬ eA) : PS num bs eA eB on zo an za bn zb V km 4 (an % V) (wds km) 0
  | k5 (h : Ft zo on V km) (h' : Ft zb bn V km) : PS num bs eA eB on zo an za bn zb V km 5 ((on + bn) % V) (wds km) 0
  | k6 (h : Ft zo on V km) (h' : Ft zb bn V km) : PS num bs eA eB on zo an za bn zb V km 6 ((on + V - bn) % V) (wds km) 0
  | k7 (h : Ft zo on V km) (h' : Ft zb bn V km) : PS num bs eA eB on zo an za bn zb V km 7 (on * bn % V) (wds km) 0
  | k8 (ho : V % 2 = 1) (h : Ft za an V km) (he : ¬ eA) : PS num bs eA eB on zo an za bn zb V km 8 (an ^ evb bs % V) (wds km) 0
  | k9 (ho : V % 2 = 1) (h : Ft za an V km) (he : ¬ eA) (h1 : 1 ≤ num) (h2 : num ≤ 1099511627776) : PS num bs eA eB on zo an za bn zb V km 9 (an ^ num.toNat % V) (wds km) 0
  | k10 (h : Ft zo on V km) : PS num bs eA eB on zo an za bn zb V km 10 ((on + V - 1) % V) (wds km) 0
  | k11yes {x : Int} (h : 1 ≤ za) (hV : an < V) (he : ¬ eA) (h0 : 0 ≤ x) (h1 : x < V) (hx : ∃ B, x * an - B * V = 1) : PS num bs eA eB on zo an za bn zb V km 11 x (wds km) 1
  | k11no (h : 1 ≤ za) (hV : an < V) (he : ¬ eA) (hx : ∀ x B : Int, x * an - B * V ≠ 1) : PS num bs eA eB on zo an za bn zb V km 11 on zo 0
  | k12no (h : 1 ≤ za) (h' : 1 ≤ zb) (he : ¬ eA) (he' : ¬ eB) (hz : an = 0 ∨ bn = 0 ∨ an % 2 = 0 ∧ bn % 2 = 0) : PS num bs eA eB on zo an za bn zb V km 12 on zo 0
  | k12yes {g : Int} (h : 1 ≤ za) (h' : 1 ≤ zb) (he : ¬ eA) (he' : ¬ eB) (hz : ¬ (an = 0 ∨ bn = 0 ∨ an % 2 = 0 ∧ bn % 2 = 0)) (h0 : 0 ≤ g) (hg : Cd an bn g 0) : PS num bs eA eB on zo an za bn zb V km 12 g (if za < zb then zb else za) 1
  | k13 (h : 0 ≤ zo) (h0 : 0 ≤ num) (h1 : num ≤ 1000) : PS num bs eA eB on zo an za bn zb V km 13 (on / 2 ^ num.toNat) zo 0
  | k14 (h : 0 ≤ zo) : PS num bs eA eB on zo an za bn zb V km 14 (on / 2) zo 0
  | k15 (h : 0 ≤ za) : PS num bs eA eB on zo an za bn zb V km 15 an za 0
  | k16 {ka : Nat} (h : 0 < za) (hb : IsBl an ka) : PS num bs eA eB on zo an za bn zb V km 16 on zo (b1 (an = 0) + 2 * b1 (an = 1) + 4 * b1 (an % 2 = 1) + 8 * ka)
  | k17 (h : 0 < za) (he : za = zb) : PS num bs eA eB on zo an za bn zb V km 17 on zo (b1 (an = bn))
  | k18 (h : Ft za an V km) : PS num bs eA eB on zo an za bn zb V km 18 on zo (b1 (V - an = 1))
  | k19 {zs : List Int} (h : Ft za an V km) (hl : zs.length = (km + 7) / 8) (hd : Dg 256 zs) (hv : dv 256 zs.reverse = an) : PS num bs eA eB on zo an za bn zb V km 19 on zo (sumL zs)
  | k20 : PS num bs eA eB on zo an za bn zb V km 20 V (wds km) 0
  | k21 {k : Nat} (h : an ≠ 0) (hk : IsTz an k) : PS num bs eA eB on zo an za bn zb V km 21 on zo k

/-- a step in memory -/
abbrev stV (k o a b m num : Int) (data : Value) : Value := .agg #[.int .i64 k, .int .i64 o, .int .i64 a, .int .i64 b, .int .i64 m, .int .i64 num, data]

/-- what a part of the reference's step answers: a register, what it tells, and whether the page allows it -/
def SRes (M M' : Mem) (Q : Int → Int → Int → Prop) (r : Value) (t : Int) (ok : Bool) : Prop :=
  ∃ A len cap s, r = rg (.slice A len cap) s ∧ (∃ N, M' = N ++ M) ∧ (ok = true → ∃ x gs, Num M' (.slice A len cap) x gs ∧ Q x s t)

theorem pre3 {N M : Mem} {a b c : Nat × Obj} : ∃ N', N ++ a :: b :: c :: M = N' ++ M := ⟨N ++ [a, b, c], by simp⟩
theorem pre3' {N L M : Mem} {a b c : Nat × Obj} : ∃ N', L ++ (N ++ a :: b :: c :: M) = N' ++ M := ⟨L ++ (N ++ [a, b, c]), by simp⟩

/-- a number's digits lie in no register -/
theorem Num.skip {N R : Mem} {b : Nat} {c : Array Value} {fr : Nat × Nat} {o' : Obj} {v : Value} {V : Int} {ds : List Int} (h : Num (N ++ (b, .cells c 48 fr) :: R) v V ds) : Num (N ++ (b, o') :: R) v V ds := by
  refine ⟨?_, h.dg, h.val, h.top⟩
  have h1 := h.mem
  cases h1 with
  | nil => exact .nil
  | mk hm h0 hl hs hc =>
    refine .mk ?_ h0 hl hs hc
    rcases List.mem_append.1 hm with h2 | h2
    · exact List.mem_append_left _ h2
    · rcases List.mem_cons.1 h2 with h3 | h3
      · exfalso
        have h4 := congrArg Prod.snd h3
        simp [row] at h4
      · exact List.mem_append_right _ (List.mem_cons_of_mem _ h3)

section
variable {w0 : World} {M : Mem}
/-- laid -/
theorem slaid {k o a b m num : Int} {A : Option Addr} {cap : Nat} {bs : List Int} {vo vm : Value} {on zo an za bn zb V : Int} {ds ms : List Int} {km : Nat} {eA eB : Prop} (hs : Src w0 M A bs) (hb : Dg 256 bs) (hL : bs.length ≤ 60) (ho : Num M vo on ds) (hm : Num M vm V ms) (hLm : ms.length ≤ 60) (hV : 1 < V) (hkm : IsBl V km) (hkm1 : km ≤ 500) (hk : 0 ≤ k ∧ k ≤ 3) (hnum : num < 9223372036854775808) :
    CS w0 25 [stV k o a b m num (.slice A bs.length cap), rg vo zo, vm] M (fun u M' => ∃ r t ok, u = .tuple #[r, .int .i64 t, .bool ok] ∧ SRes M M' (PS num bs eA eB on zo an za bn zb V km k) r t ok) := by
  obtain ⟨Ao, capo, rfl, -⟩ := ho.mem.form
  obtain ⟨Am, capm, rfl, -⟩ := hm.mem.form
  refine CS.of Tryz.func25 Tryz.ntmps25 rfl rfl (WC.seq (WC.region (WL.step rfl (EX.box rfl) ?_)))
  rintro _ _ ⟨b3, rfl, rfl⟩
  refine WL.step rfl (EX.box rfl) ?_
  rintro _ _ ⟨b4, rfl, rfl⟩
  refine WL.step rfl (EX.alloc (z := .agg #[.slice none 0 0, .int .i64 0]) (fun _ => by kernel_rfl)) ?_
  rintro _ _ ⟨b6, rfl, rfl⟩
  refine WL.q (LX.assign rfl) rfl (WL.q (LX.assign rfl) rfl (WL.nil (thenK_normal (WC.seq (WC.region (WL.q (LX.field0 rfl rfl) rfl ?_))))))
  refine WL.q (LX.load rfl rfl (by repeat first | assumption | exact List.mem_cons_self | refine List.mem_cons_of_mem _ ?_ | refine List.mem_append_right _ ?_) rfl) rfl ?_
  refine WL.callR (sread (hs.mono fun _ hp => (by repeat first | assumption | exact List.mem_cons_self | refine List.mem_cons_of_mem _ ?_)) hb (by omega)) rfl (fun _ => by kernel_rfl) rfl ?_
  rintro x _ ⟨N, xs, rfl, hx⟩
  have hbv : dv 256 bs.reverse < 2 ^ 480 := by
    have h1 := dv_lt (b := 256) (by decide) (dg_rev hb)
    rw [pow256, List.length_reverse] at h1
    have := pow2_le (show 8 * bs.length ≤ 480 by omega)
    omega
  have hxl : xs.length ≤ 30 := hx.len (by rw [B16_two]; exact hbv)
  have hmm : ∀ {K : Mem}, (∀ p ∈ M, p ∈ K) → Num K (.slice Am ms.length capm) V ms := fun h => hm.mono h
  have hms : ∀ {L R : Mem} {q : Nat × Obj}, ∀ p ∈ [(b3, Obj.cells (stV k o a b m num (.slice A bs.length cap)).cells 41 (0, 0))], p ∈ L ++ q :: (b4, Obj.cells (rg (.slice Ao ds.length capo) zo).cells 48 (0, 0)) :: (b3, Obj.cells (stV k o a b m num (.slice A bs.length cap)).cells 41 (0, 0)) :: R := by
    intro L R q p hp; simp only [List.mem_cons, List.not_mem_nil, or_false] at hp; subst hp; exact (by repeat first | assumption | exact List.mem_cons_self | refine List.mem_cons_of_mem _ ?_ | refine List.mem_append_right _ ?_)
  obtain ⟨Ax, capx, rfl, -⟩ := hx.mem.form
  refine WL.q (LX.assign rfl) rfl (WL.nil (thenK_normal (WC.seq (WC.seq (WC.region (WL.q (LX.field0 rfl rfl) rfl ?_))))))
  refine WL.q (LX.load rfl rfl (by repeat first | assumption | exact List.mem_cons_self | refine List.mem_cons_of_mem _ ?_ | refine List.mem_append_right _ ?_) rfl) rfl ?_
  refine WL.nil (thenK_normal (WC.block (WC.seq (WC.region (WL.q (LX.bin rfl rfl rfl) rfl (WL.q (LX.assign rfl) rfl (WL.nil (thenK_normal ?_))))))))
  refine WC.test rfl (fun h0 => ?_) (fun h0 => ?_)
  · refine WC.seq (WC.seq (WC.region (WL.q (LX.move rfl) rfl (WL.q (LX.move rfl) rfl ?_))))
    refine WL.call (sless hx (hmm fun _ hp => (by repeat first | assumption | exact List.mem_cons_self | refine List.mem_cons_of_mem _ ?_ | refine List.mem_append_right _ ?_)) (by omega) (by omega)) rfl (fun _ => by kernel_rfl) rfl ?_
    refine WL.q (LX.not rfl) rfl (WL.nil (thenK_normal ?_))
    refine WC.testN rfl (fun hlt => ?_) (fun hlt => ?_)
    · refine WC.seq (WC.draw [(0, 0), (0, 1), (0, 4), (1, 2), (0, 3), (2, 5), (0, 6), (0, 7), (0, 8), (2, 9), (0, 10), (0, 11)] [(b3, Obj.cells (stV k o a b m num (.slice A bs.length cap)).cells 41 (0, 0))] rfl (by kernel_rfl) rfl (by kernel_rfl) (DW.p rfl rfl (fun _ => LX.build rfl (fun w => reg_build _ _ _ _ w)) rfl (DW.p rfl rfl (fun _ => LX.field0 rfl rfl) rfl (DW.p rfl rfl (fun _ => LX.move rfl) rfl ?_))))
      refine DW.r rfl rfl (LX.load rfl rfl (by repeat first | assumption | exact List.mem_cons_self | refine List.mem_cons_of_mem _ ?_ | refine List.mem_append_right _ ?_) rfl) hms rfl ?_
      refine DW.p rfl rfl (fun _ => LX.len rfl rfl rfl) rfl ?_
      refine DW.fval rfl rfl (EX.call rfl (fun _ => by kernel_rfl) (sbitsK (hmm fun _ hp => (by repeat first | assumption | exact List.mem_cons_self | refine List.mem_cons_of_mem _ ?_ | refine List.mem_append_right _ ?_)) (by omega) hkm)) hms rfl ?_
      refine DW.p rfl rfl (fun _ => LX.addI rfl rfl (by omega)) rfl (DW.p rfl rfl (fun _ => LX.quoI rfl rfl (by omega) (by omega)) rfl (DW.p rfl rfl (fun _ => LX.bin rfl rfl rfl) rfl ?_))
      refine DW.fput rfl rfl (EX.storeA rfl rfl rfl rfl rfl (by simp [Value.oneCell']) (by repeat first | assumption | exact List.mem_cons_self | refine List.mem_cons_of_mem _ ?_ | refine List.mem_append_right _ ?_) (by decide) (Upd.app _ Upd.here)) hms ?_
      refine DW.p rfl rfl (fun _ => LX.assign rfl) rfl (DW.p rfl rfl (fun _ => LX.assign rfl) rfl (DW.nil (thenK_normal (WC.ret (thenK_ret (blockK_ret (thenK_ret ?_)))))))
      exact KR.cell3 (.inl rfl) rfl rfl rfl rfl (by repeat first | assumption | exact List.mem_cons_self | refine List.mem_cons_of_mem _ ?_ | refine List.mem_append_right _ ?_) rfl rfl ⟨_, _, _, rfl, _, _, _, _, rfl, pre3, fun hok => ⟨0, [], Num.nil, by rw [h0]; exact .k0no (by omega) (by have := of_decide_eq_true hok; omega)⟩⟩
    · refine WC.skip (thenK_normal (WC.seq (WC.draw [(0, 0), (0, 1), (0, 4), (0, 7), (1, 5), (0, 6), (2, 2), (0, 3), (2, 8), (0, 9), (0, 10), (0, 11), (2, 12), (0, 13), (0, 14)] [(b3, Obj.cells (stV k o a b m num (.slice A bs.length cap)).cells 41 (0, 0))] rfl (by kernel_rfl) rfl (by kernel_rfl) (DW.p rfl rfl (fun _ => LX.move rfl) rfl (DW.p rfl rfl (fun _ => LX.move rfl) rfl (DW.p rfl rfl (fun _ => LX.field0 rfl rfl) rfl (DW.p rfl rfl (fun _ => LX.move rfl) rfl ?_)))))))
      refine DW.r rfl rfl (LX.load rfl rfl (by repeat first | assumption | exact List.mem_cons_self | refine List.mem_cons_of_mem _ ?_ | refine List.mem_append_right _ ?_) rfl) hms rfl ?_
      refine DW.p rfl rfl (fun _ => LX.len rfl rfl rfl) rfl ?_
      refine DW.fval rfl rfl (EX.call rfl (fun _ => by kernel_rfl) (swordsK (hmm fun _ hp => (by repeat first | assumption | exact List.mem_cons_self | refine List.mem_cons_of_mem _ ?_ | refine List.mem_append_right _ ?_)) (by omega) hkm)) hms rfl ?_
      refine DW.p rfl rfl (fun _ => LX.build rfl (fun w => reg_build _ _ _ _ w)) rfl ?_
      refine DW.fval rfl rfl (EX.call rfl (fun _ => by kernel_rfl) (sbitsK (hmm fun _ hp => (by repeat first | assumption | exact List.mem_cons_self | refine List.mem_cons_of_mem _ ?_ | refine List.mem_append_right _ ?_)) (by omega) hkm)) hms rfl ?_
      refine DW.p rfl rfl (fun _ => LX.addI rfl rfl (by omega)) rfl (DW.p rfl rfl (fun _ => LX.quoI rfl rfl (by omega) (by omega)) rfl (DW.p rfl rfl (fun _ => LX.bin rfl rfl rfl) rfl ?_))
      refine DW.fput rfl rfl (EX.storeA rfl rfl rfl rfl rfl (by simp [Value.oneCell']) (by repeat first | assumption | exact List.mem_cons_self | refine List.mem_cons_of_mem _ ?_ | refine List.mem_append_right _ ?_) (by decide) (Upd.app _ Upd.here)) hms ?_
      refine DW.p rfl rfl (fun _ => LX.assign rfl) rfl (DW.p rfl rfl (fun _ => LX.assign rfl) rfl (DW.nil (thenK_normal (WC.ret (blockK_ret (thenK_ret ?_))))))
      exact KR.cell3 (.inl rfl) rfl rfl rfl rfl (by repeat first | assumption | exact List.mem_cons_self | refine List.mem_cons_of_mem _ ?_ | refine List.mem_append_right _ ?_) rfl rfl ⟨_, _, _, rfl, _, _, _, _, rfl, pre3, fun hok => ⟨_, xs, hx.skip, by rw [h0]; exact .k0ok hlt (by have := of_decide_eq_true hok; omega)⟩⟩
  refine WC.seq (WC.region (WL.q (LX.bin rfl rfl rfl) rfl (WL.q (LX.assign rfl) rfl (WL.nil (thenK_normal ?_)))))
  refine WC.test rfl (fun h1 => ?_) (fun h1 => ?_)
  · refine WC.seq (WC.seq (WC.region (WL.q (LX.move rfl) rfl (WL.callR (sbits hx (by omega)) rfl (fun _ => by kernel_rfl) rfl ?_))))
    rintro _ _ ⟨⟨kx, rfl, hkx, hbl⟩, hM⟩
    subst hM
    refine WL.q (LX.move rfl) rfl ?_
    refine WL.call (sbitsK (hmm fun _ hp => (by repeat first | assumption | exact List.mem_cons_self | refine List.mem_cons_of_mem _ ?_ | refine List.mem_append_right _ ?_)) (by omega) hkm) rfl (fun _ => by kernel_rfl) rfl ?_
    refine WL.q (LX.bin rfl rfl rfl) rfl (WL.nil (thenK_normal ?_))
    refine WC.test rfl (fun hlt => ?_) (fun hlt => ?_)
    · refine WC.seq (WC.draw [(0, 0), (0, 1), (0, 4), (1, 2), (0, 3), (2, 5), (0, 6), (0, 7), (0, 8), (2, 9), (0, 10), (0, 11)] [(b3, Obj.cells (stV k o a b m num (.slice A bs.length cap)).cells 41 (0, 0))] rfl (by kernel_rfl) rfl (by kernel_rfl) (DW.p rfl rfl (fun _ => LX.build rfl (fun w => reg_build _ _ _ _ w)) rfl (DW.p rfl rfl (fun _ => LX.field0 rfl rfl) rfl (DW.p rfl rfl (fun _ => LX.move rfl) rfl ?_))))
      refine DW.r rfl rfl (LX.load rfl rfl (by repeat first | assumption | exact List.mem_cons_self | refine List.mem_cons_of_mem _ ?_ | refine List.mem_append_right _ ?_) rfl) hms rfl ?_
      refine DW.p rfl rfl (fun _ => LX.len rfl rfl rfl) rfl ?_
      refine DW.fval rfl rfl (EX.call rfl (fun _ => by kernel_rfl) (sbitsK (hmm fun _ hp => (by repeat first | assumption | exact List.mem_cons_self | refine List.mem_cons_of_mem _ ?_ | refine List.mem_append_right _ ?_)) (by omega) hkm)) hms rfl ?_
      refine DW.p rfl rfl (fun _ => LX.addI rfl rfl (by omega)) rfl (DW.p rfl rfl (fun _ => LX.quoI rfl rfl (by omega) (by omega)) rfl (DW.p rfl rfl (fun _ => LX.bin rfl rfl rfl) rfl ?_))
      refine DW.fput rfl rfl (EX.storeA rfl rfl rfl rfl rfl (by simp [Value.oneCell']) (by repeat first | assumption | exact List.mem_cons_self | refine List.mem_cons_of_mem _ ?_ | refine List.mem_append_right _ ?_) (by decide) (Upd.app _ Upd.here)) hms ?_
      refine DW.p rfl rfl (fun _ => LX.assign rfl) rfl (DW.p rfl rfl (fun _ => LX.assign rfl) rfl (DW.nil (thenK_normal (WC.ret (thenK_ret (blockK_ret (thenK_ret ?_)))))))
      exact KR.cell3 (.inl rfl) rfl rfl rfl rfl (by repeat first | assumption | exact List.mem_cons_self | refine List.mem_cons_of_mem _ ?_ | refine List.mem_append_right _ ?_) rfl rfl ⟨_, _, _, rfl, _, _, _, _, rfl, pre3, fun hok => ⟨0, [], Num.nil, by rw [h1]; exact .k1no hbl (by omega) (by have := of_decide_eq_true hok; omega)⟩⟩
    · refine WC.skip (thenK_normal (WC.seq (WC.draw [(0, 0), (0, 1), (0, 3), (0, 6), (0, 9), (1, 7), (0, 8), (2, 2), (2, 4), (0, 5), (2, 10), (0, 11), (0, 12), (0, 13), (2, 14), (0, 15), (0, 16)] [(b3, Obj.cells (stV k o a b m num (.slice A bs.length cap)).cells 41 (0, 0))] rfl (by kernel_rfl) rfl (by kernel_rfl) (DW.p rfl rfl (fun _ => LX.move rfl) rfl (DW.p rfl rfl (fun _ => LX.move rfl) rfl (DW.p rfl rfl (fun _ => LX.move rfl) rfl (DW.p rfl rfl (fun _ => LX.field0 rfl rfl) rfl (DW.p rfl rfl (fun _ => LX.move rfl) rfl ?_))))))))
      refine DW.r rfl rfl (LX.load rfl rfl (by repeat first | assumption | exact List.mem_cons_self | refine List.mem_cons_of_mem _ ?_ | refine List.mem_append_right _ ?_) rfl) hms rfl ?_
      refine DW.p rfl rfl (fun _ => LX.len rfl rfl rfl) rfl ?_
      refine DW.f rfl rfl (EX.call rfl (fun _ => by kernel_rfl) (smodulo hx (hmm fun _ hp => (by repeat first | assumption | exact List.mem_cons_self | refine List.mem_cons_of_mem _ ?_ | refine List.mem_append_right _ ?_)) (by omega) (by omega) (by omega))) rfl ?_
      rintro y _ ⟨N2, gs, rfl, hy⟩
      obtain ⟨Ay, capy, rfl, -⟩ := hy.mem.form
      rw [← List.append_assoc] at hy ⊢
      refine ⟨hms, ?_⟩
      
      refine DW.fval rfl rfl (EX.call rfl (fun _ => by kernel_rfl) (swordsK (hmm fun _ hp => (by repeat first | assumption | exact List.mem_cons_self | refine List.mem_cons_of_mem _ ?_ | refine List.mem_append_right _ ?_)) (by omega) hkm)) hms rfl ?_
      refine DW.p rfl rfl (fun _ => LX.build rfl (fun w => reg_build _ _ _ _ w)) rfl ?_
      refine DW.fval rfl rfl (EX.call rfl (fun _ => by kernel_rfl) (sbitsK (hmm fun _ hp => (by repeat first | assumption | exact List.mem_cons_self | refine List.mem_cons_of_mem _ ?_ | refine List.mem_append_right _ ?_)) (by omega) hkm)) hms rfl ?_
      refine DW.p rfl rfl (fun _ => LX.addI rfl rfl (by omega)) rfl (DW.p rfl rfl (fun _ => LX.quoI rfl rfl (by omega) (by omega)) rfl (DW.p rfl rfl (fun _ => LX.bin rfl rfl rfl) rfl ?_))
      refine DW.fput rfl rfl (EX.storeA rfl rfl rfl rfl rfl (by simp [Value.oneCell']) (by repeat first | assumption | exact List.mem_cons_self | refine List.mem_cons_of_mem _ ?_ | refine List.mem_append_right _ ?_) (by decide) (Upd.app _ Upd.here)) hms ?_
      refine DW.p rfl rfl (fun _ => LX.assign rfl) rfl (DW.p rfl rfl (fun _ => LX.assign rfl) rfl (DW.nil (thenK_normal (WC.ret (blockK_ret (thenK_ret ?_))))))
      exact KR.cell3 (.inl rfl) rfl rfl rfl rfl (by repeat first | assumption | exact List.mem_cons_self | refine List.mem_cons_of_mem _ ?_ | refine List.mem_append_right _ ?_) rfl rfl ⟨_, _, _, rfl, _, _, _, _, rfl, pre3, fun hok => ⟨_, gs, hy.skip, by rw [h1]; exact .k1ok hbl (by omega) (by have := of_decide_eq_true hok; omega)⟩⟩
  refine WC.seq (WC.region (WL.q (LX.bin rfl rfl rfl) rfl (WL.q (LX.assign rfl) rfl (WL.nil (thenK_normal ?_)))))
  refine WC.test rfl (fun h2 => ?_) (fun h2 => ?_)
  · refine WC.seq (WC.seq (WC.region (WL.q (LX.field0 rfl rfl) rfl ?_)))
    refine WL.q (LX.load rfl rfl (by repeat first | assumption | exact List.mem_cons_self | refine List.mem_cons_of_mem _ ?_ | refine List.mem_append_right _ ?_) rfl) rfl ?_
    refine WL.q (LX.bin rfl rfl rfl) rfl (WL.nil (thenK_normal ?_))
    refine WC.test rfl (fun hlt => ?_) (fun hlt => ?_)
    · refine WC.seq (WC.region ?_)
      refine WL.q (LX.loadR rfl rfl (by repeat first | assumption | exact List.mem_cons_self | refine List.mem_cons_of_mem _ ?_ | refine List.mem_append_right _ ?_) rfl) rfl ?_
      refine WL.put (EX.storeA rfl rfl rfl rfl rfl (by simp [Value.oneCell']) (by repeat first | assumption | exact List.mem_cons_self | refine List.mem_cons_of_mem _ ?_ | refine List.mem_append_right _ ?_) (by decide) (by repeat first | exact Upd.here | apply Upd.there | apply Upd.app)) ?_
      refine WL.q (LX.assign rfl) rfl (WL.q (LX.assign rfl) rfl (WL.nil (thenK_normal (WC.ret (thenK_ret (blockK_ret (thenK_ret ?_)))))))
      exact KR.cell3 (.inl rfl) rfl rfl rfl rfl (by repeat first | assumption | exact List.mem_cons_self | refine List.mem_cons_of_mem _ ?_ | refine List.mem_append_right _ ?_) rfl rfl ⟨_, _, _, rfl, _, _, _, _, rfl, pre3, fun hok => by cases hok⟩
    · refine WC.skip (thenK_normal (WC.seq (WC.region (WL.q (LX.field0 rfl rfl) rfl ?_))))
      refine WL.q (LX.load rfl rfl (by repeat first | assumption | exact List.mem_cons_self | refine List.mem_cons_of_mem _ ?_ | refine List.mem_append_right _ ?_) rfl) rfl ?_
      refine WL.callR (ssmall (x := num) (by omega) hnum) rfl (fun _ => by kernel_rfl) rfl ?_
      rintro y _ ⟨N2, gs, rfl, hy⟩
      obtain ⟨Ay, capy, rfl, -⟩ := hy.mem.form
      rw [← List.append_assoc] at hy ⊢
      refine WL.q (LX.build rfl (fun w => reg_build _ _ _ _ w)) rfl ?_
      refine WL.put (EX.storeA rfl rfl rfl rfl rfl (by simp [Value.oneCell']) (by repeat first | assumption | exact List.mem_cons_self | refine List.mem_cons_of_mem _ ?_ | refine List.mem_append_right _ ?_) (by decide) (by repeat first | exact Upd.here | apply Upd.there | apply Upd.app)) ?_
      refine WL.q (LX.assign rfl) rfl (WL.q (LX.assign rfl) rfl (WL.nil (thenK_normal (WC.ret (blockK_ret (thenK_ret ?_))))))
      exact KR.cell3 (.inl rfl) rfl rfl rfl rfl (by repeat first | assumption | exact List.mem_cons_self | refine List.mem_cons_of_mem _ ?_ | refine List.mem_append_right _ ?_) rfl rfl ⟨_, _, _, rfl, _, _, _, _, rfl, pre3, fun hok => ⟨_, gs, hy.skip, by rw [h2]; exact .k2 (by omega)⟩⟩
  · have h3 : k = 3 := by omega
    have hms : ∀ {L R : Mem} {q : Nat × Obj}, ∀ p ∈ [(b4, Obj.cells (rg (.slice Ao ds.length capo) zo).cells 48 (0, 0))], p ∈ L ++ q :: (b4, Obj.cells (rg (.slice Ao ds.length capo) zo).cells 48 (0, 0)) :: R := by
      intro L R q p hp; simp only [List.mem_cons, List.not_mem_nil, or_false] at hp; subst hp; exact (by repeat first | assumption | exact List.mem_cons_self | refine List.mem_cons_of_mem _ ?_ | refine List.mem_append_right _ ?_)
    by_cases hz : zo ≥ 0
    · skip
      refine WC.skip (blockK_normal (thenK_normal (WC.seq (WC.draw [(0, 0), (0, 2), (0, 5), (1, 1), (1, 6), (0, 7), (2, 3), (0, 4), (0, 8), (0, 9), (0, 11), (1, 10), (2, 12), (0, 13), (0, 14), (2, 15), (0, 16), (0, 17)] [(b4, Obj.cells (rg (.slice Ao ds.length capo) zo).cells 48 (0, 0))] rfl (by kernel_rfl) rfl (by kernel_rfl) (DW.p rfl rfl (fun _ => LX.field0 rfl rfl) rfl (DW.p rfl rfl (fun _ => LX.move rfl) rfl (DW.p rfl rfl (fun _ => LX.field0 rfl rfl) rfl ?_)))))))
      refine DW.r rfl rfl (LX.load rfl rfl (by repeat first | assumption | exact List.mem_cons_self | refine List.mem_cons_of_mem _ ?_ | refine List.mem_append_right _ ?_) rfl) hms rfl ?_
      refine DW.r rfl rfl (LX.load rfl rfl (by repeat first | assumption | exact List.mem_cons_self | refine List.mem_cons_of_mem _ ?_ | refine List.mem_append_right _ ?_) rfl) hms rfl ?_
      refine DW.p rfl rfl (fun _ => LX.eq (LX.bin rfl rfl rfl) (tru hz)) rfl ?_
      refine DW.fval rfl rfl (EX.call rfl (fun _ => by kernel_rfl) (swordsK (hmm fun _ hp => (by repeat first | assumption | exact List.mem_cons_self | refine List.mem_cons_of_mem _ ?_ | refine List.mem_append_right _ ?_)) (by omega) hkm)) hms rfl ?_
      refine DW.p rfl rfl (fun _ => LX.build rfl (fun w => reg_build _ _ _ _ w)) rfl (DW.p rfl rfl (fun _ => LX.move rfl) rfl (DW.p rfl rfl (fun _ => LX.field0 rfl rfl) rfl (DW.p rfl rfl (fun _ => LX.move rfl) rfl ?_)))
      refine DW.r rfl rfl (LX.load rfl rfl (by repeat first | assumption | exact List.mem_cons_self | refine List.mem_cons_of_mem _ ?_ | refine List.mem_append_right _ ?_) rfl) hms rfl ?_
      refine DW.fval rfl rfl (EX.call rfl (fun _ => by kernel_rfl) (swordsK (hmm fun _ hp => (by repeat first | assumption | exact List.mem_cons_self | refine List.mem_cons_of_mem _ ?_ | refine List.mem_append_right _ ?_)) (by omega) hkm)) hms rfl ?_
      refine DW.p rfl rfl (fun _ => LX.bin rfl rfl rfl) rfl (DW.p rfl rfl (fun _ => LX.pickT rfl rfl) rfl ?_)
      refine DW.fput rfl rfl (EX.storeA rfl rfl rfl rfl rfl (by simp [Value.oneCell']) (by repeat first | assumption | exact List.mem_cons_self | refine List.mem_cons_of_mem _ ?_ | refine List.mem_append_right _ ?_) (by decide) (Upd.app _ Upd.here)) hms ?_
      refine DW.p rfl rfl (fun _ => LX.assign rfl) rfl (DW.p rfl rfl (fun _ => LX.assign rfl) rfl (DW.nil (thenK_normal (WC.ret ?_))))
      exact KR.cell3 (.inl rfl) rfl rfl rfl rfl (by repeat first | assumption | exact List.mem_cons_self | refine List.mem_cons_of_mem _ ?_ | refine List.mem_append_right _ ?_) rfl rfl ⟨_, _, _, rfl, _, _, _, _, rfl, pre3, fun hok => ⟨_, ds, ho.mono fun _ hp => (by repeat first | assumption | exact List.mem_cons_self | refine List.mem_cons_of_mem _ ?_ | refine List.mem_append_right _ ?_), by rw [h3]; exact .k3 (by omega) (of_decide_eq_true hok)⟩⟩
    · skip
      refine WC.skip (blockK_normal (thenK_normal (WC.seq (WC.draw [(0, 0), (0, 2), (0, 5), (1, 1), (1, 6), (0, 7), (2, 3), (0, 4), (0, 8), (0, 9), (0, 10), (0, 11), (0, 12), (0, 13), (0, 14), (2, 15), (0, 16), (0, 17)] [(b4, Obj.cells (rg (.slice Ao ds.length capo) zo).cells 48 (0, 0))] rfl (by kernel_rfl) rfl (by kernel_rfl) (DW.p rfl rfl (fun _ => LX.field0 rfl rfl) rfl (DW.p rfl rfl (fun _ => LX.move rfl) rfl (DW.p rfl rfl (fun _ => LX.field0 rfl rfl) rfl ?_)))))))
      refine DW.r rfl rfl (LX.load rfl rfl (by repeat first | assumption | exact List.mem_cons_self | refine List.mem_cons_of_mem _ ?_ | refine List.mem_append_right _ ?_) rfl) hms rfl ?_
      refine DW.r rfl rfl (LX.load rfl rfl (by repeat first | assumption | exact List.mem_cons_self | refine List.mem_cons_of_mem _ ?_ | refine List.mem_append_right _ ?_) rfl) hms rfl ?_
      refine DW.p rfl rfl (fun _ => LX.eq (LX.bin rfl rfl rfl) (fls hz)) rfl ?_
      refine DW.fval rfl rfl (EX.call rfl (fun _ => by kernel_rfl) (swordsK (hmm fun _ hp => (by repeat first | assumption | exact List.mem_cons_self | refine List.mem_cons_of_mem _ ?_ | refine List.mem_append_right _ ?_)) (by omega) hkm)) hms rfl ?_
      refine DW.p rfl rfl (fun _ => LX.build rfl (fun w => reg_build _ _ _ _ w)) rfl (DW.p rfl rfl (fun _ => LX.move rfl) rfl (DW.skip rfl rfl rfl (DW.skip rfl rfl rfl (DW.skip rfl rfl rfl (DW.skip rfl rfl rfl (DW.skip rfl rfl rfl (DW.p rfl rfl (fun _ => LX.pickF rfl rfl) rfl ?_)))))))
      refine DW.fput rfl rfl (EX.storeA rfl rfl rfl rfl rfl (by simp [Value.oneCell']) (by repeat first | assumption | exact List.mem_cons_self | refine List.mem_cons_of_mem _ ?_ | refine List.mem_append_right _ ?_) (by decide) (Upd.app _ Upd.here)) hms ?_
      refine DW.p rfl rfl (fun _ => LX.assign rfl) rfl (DW.p rfl rfl (fun _ => LX.assign rfl) rfl (DW.nil (thenK_normal (WC.ret ?_))))
      exact KR.cell3 (.inl rfl) rfl rfl rfl rfl (by repeat first | assumption | exact List.mem_cons_self | refine List.mem_cons_of_mem _ ?_ | refine List.mem_append_right _ ?_) rfl rfl ⟨_, _, _, rfl, _, _, _, _, rfl, pre3, fun hok => by cases hok⟩
end
end Go.Proofs.YtdnngppofbmpeaaGreatDoor.Bm
