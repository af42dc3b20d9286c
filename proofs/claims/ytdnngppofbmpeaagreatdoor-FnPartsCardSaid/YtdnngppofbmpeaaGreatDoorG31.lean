/- Proved here: the registers of the thin package in memory, and what the calls that alter one of them do, told by the plain step (kinds 0 to 7); what the calls that alter a register do, told by the plain step (kinds 8 to 15, 20); what a plain step is, by its kind. Conditions: none but those that each theorem states. -/
import Derived.Test.YtdnngppofbmpeaaGreatDoorG30
namespace Go.Proofs.YtdnngppofbmpeaaGreatDoor.Bm
open Go Go.RowKit

/-- the registers L hold the plain ones P (a register whose size is open may hold anything) -/
structure NtI (t : Nt) (p : Int × Int) : Prop where
  ex : ∃ V, NV t.n 32 V t.xs ∧ t.n ≤ 8 ∧ (0 ≤ p.2 → (t.n : Int) = p.2 ∧ V = p.1)
structure RegI (L : List Nt) (P : List (Int × Int)) : Prop where
  len : L.length = P.length
  at_ : ∀ (i : Nat) (p : Int × Int), P[i]? = some p → ∃ t, L[i]? = some t ∧ NtI t p
theorem RegI.set {L : List Nt} {P : List (Int × Int)} (h : RegI L P) (j : Nat) {t : Nt} {p : Int × Int} (ht : NtI t p) : RegI (L.set j t) (P.set j p) := by
  refine ⟨by simpa using h.len, fun i q hq => ?_⟩
  rw [List.getElem?_set] at hq
  split at hq
  · rename_i hji
    subst hji
    split at hq
    · rename_i hlt
      cases hq
      exact ⟨t, by rw [List.getElem?_set_self (by rw [h.len]; exact hlt)], ht⟩
    · cases hq
  · rename_i hji
    obtain ⟨t', h1, h2⟩ := h.at_ i q hq
    exact ⟨t', by rw [List.getElem?_set_ne hji]; exact h1, h2⟩

theorem some_lt {α : Type} {l : List α} {i : Nat} {x : α} (h : l[i]? = some x) : ∃ hi : i < l.length, l[i] = x := by
  rcases Nat.lt_or_ge i l.length with h1 | h1
  · exact ⟨h1, by rw [List.getElem?_eq_getElem h1] at h; exact Option.some.inj h⟩
  · rw [List.getElem?_eq_none h1] at h; cases h

section
variable {w0 : World}
/-- a call that alters register i, which stands at the memory's head -/
theorem csNmA {f : FuncId} {args : List Value} {L : List Nt} {A R : Mem} {i n' : Nat} {t : Nt} (h : L[i]? = some t) {Q : Value → List Int → Prop}
    (hc : CS w0 f args ((t.p, natO t.l t.n 32) :: (t.l, words t.xs) :: (nm (L.eraseIdx i) ++ (A ++ R))) (fun u M' => ∃ zs, Q u zs ∧ M' = (t.p, natO t.l n' 32) :: (t.l, words zs) :: (nm (L.eraseIdx i) ++ (A ++ R)))) :
    CS w0 f args (A ++ (nm L ++ R)) (fun u M' => ∃ zs, Q u zs ∧ M' = A ++ (nm (L.set i ⟨t.p, t.l, n', zs⟩) ++ R)) := by
  obtain ⟨hi, rfl⟩ := some_lt h
  refine CS.perm (CS.pm ⟨?_⟩ hc) ?_
  · exact ((nm_pick L i hi).append_right (A ++ R)).symm.trans (List.perm_append_comm_assoc _ _ _)
  · rintro v M' ⟨zs, hq, rfl⟩
    refine ⟨_, ?_, zs, hq, rfl⟩
    exact (List.perm_append_comm_assoc _ _ _).trans ((nm_put L i hi ⟨L[i].p, L[i].l, n', zs⟩).append_right (A ++ R))
/-- another register's blocks -/
theorem nm_other {L : List Nt} {i j : Nat} {t u : Nt} {X : Mem} (hi : L[i]? = some t) (hj : L[j]? = some u) (hne : j ≠ i) : (u.p, natO u.l u.n 32) ∈ nm (L.eraseIdx i) ++ X ∧ (u.l, words u.xs) ∈ nm (L.eraseIdx i) ++ X := by
  obtain ⟨h1, rfl⟩ := some_lt hi
  obtain ⟨h2, rfl⟩ := some_lt hj
  have := nm_mem (nm_erase h1 h2 hne)
  exact ⟨List.mem_append_left _ this.1, List.mem_append_left _ this.2⟩
theorem nm_any {L : List Nt} {j : Nat} {u : Nt} {A X : Mem} (hj : L[j]? = some u) : (u.p, natO u.l u.n 32) ∈ A ++ (nm L ++ X) ∧ (u.l, words u.xs) ∈ A ++ (nm L ++ X) := by
  have := nm_mem (List.mem_of_getElem? hj)
  exact ⟨List.mem_append_right _ (List.mem_append_left _ this.1), List.mem_append_right _ (List.mem_append_left _ this.2)⟩
end

/-- a modulus's size in words is told by its bits -/
theorem ModX.n_eq {M : Mem} {q n km : Nat} {V : Int} (h : ModX M q n V) (hk : IsBl V km) : n = wds km := by
  obtain ⟨pm, lm, odd, m0, rv, ms, hM⟩ := h.r
  have h1 := hM.nv.lt
  have h2 := h.norm
  have h3 := h.n0
  rw [W64_two] at h1 h2
  have h4 := hk.lt
  have h5 : km ≤ 64 * n := by
    rcases Nat.lt_or_ge (64 * n) km with h | h
    · rcases hk.ge with h6 | h6
      · omega
      · have := pow2_le (show 64 * n ≤ km - 1 by omega); omega
    · exact h
  have h6 : 64 * (n - 1) < km := by
    rcases Nat.lt_or_ge (64 * (n - 1)) km with h | h
    · exact h
    · have := pow2_le h; omega
  unfold wds; omega
theorem cg_mod {V Z x : Int} {n c : Nat} {zs : List Int} (h : NV n c Z zs) (hlt : Z < V) (hc : Cg V Z x) : Z = x % V := hc.eq_mod h.nonneg hlt

/-- what a call that alters register o leaves: the plain step's register -/
def RO (L : List Nt) (A R : Mem) (o : Nat) (x s : Int) (M' : Mem) : Prop := ∃ t', M' = A ++ (nm (L.set o t') ++ R) ∧ NtI t' (x, s) ∧ (∃ t, L[o]? = some t ∧ t'.p = t.p)

section
variable {w0 : World} {L : List Nt} {A R : Mem} {o a b q n km : Nat} {po pa pb : Int × Int} {V x s num : Int} {bs : List Int} {to ta tb : Nt}
theorem RO.of {f : FuncId} {args : List Value} {n' : Nat} {U : Value → Prop} (ho : L[o]? = some to)
    (hc : CS w0 f args ((to.p, natO to.l to.n 32) :: (to.l, words to.xs) :: (nm (L.eraseIdx o) ++ (A ++ R))) (fun u M' => ∃ zs, (U u ∧ NtI ⟨to.p, to.l, n', zs⟩ (x, s)) ∧ M' = (to.p, natO to.l n' 32) :: (to.l, words zs) :: (nm (L.eraseIdx o) ++ (A ++ R)))) :
    CS w0 f args (A ++ (nm L ++ R)) (fun u M' => U u ∧ RO L A R o x s M') :=
  (csNmA (Q := fun u zs => U u ∧ NtI ⟨to.p, to.l, n', zs⟩ (x, s)) ho hc).mono fun _ _ ⟨_, h1, h2⟩ => ⟨h1.1, _, h2, h1.2, to, ho, rfl⟩
theorem NtI.mk' {p l n : Nat} {xs : List Int} {V : Int} (h : NV n 32 V xs) (hn : n ≤ 8) {x s : Int} (hs : 0 ≤ s → (n : Int) = s ∧ V = x) : NtI ⟨p, l, n, xs⟩ (x, s) := ⟨V, h, hn, hs⟩
theorem rest_mod' {L : List Nt} {A R : Mem} {o q n : Nat} {V : Int} (h : ModX R q n V) : ModX (nm (L.eraseIdx o) ++ (A ++ R)) q n V := h.mono fun _ h => List.mem_append_right _ (List.mem_append_right _ h)

/-- kind 4 -/
theorem ik4 (ho : L[o]? = some to) (ha : L[a]? = some ta) (hoa : a ≠ o) (hto : NtI to po) (hta : NtI ta pa) (hM : ModX R q n V) (hk : IsBl V km) (hs : 0 < pa.2) :
    CS w0 38 [ptr to.p, ptr ta.p, ptr q] (A ++ (nm L ++ R)) (fun _ M' => True ∧ RO L A R o (pa.1 % V) (wds km) M') := by
  obtain ⟨Vo, ho1, ho2, ho3⟩ := hto.ex
  obtain ⟨Va, ha1, ha2, ha3⟩ := hta.ex
  obtain ⟨-, hav⟩ := ha3 (by omega)
  have hn := hM.n_eq hk
  obtain ⟨pm, lm, odd, m0, rv, ms, hMr⟩ := (rest_mod' (L := L) (A := A) (o := o) hM).r
  have hoth := nm_other (X := A ++ R) ho ha hoa
  refine RO.of (n' := n) ho ((nMod ho1.len ho1.le (by have := hM.n8; omega) (by decide) ho1.dg ha1 hoth.1 hoth.2 hMr hM.n0 hM.norm).mono ?_)
  rintro v M' ⟨zs, Z, h1, h2, h3, h4, h5⟩
  exact ⟨zs, ⟨trivial, NtI.mk' h2 hM.n8 fun _ => ⟨by rw [hn], by rw [cg_mod h2 h3 h4, hav]⟩⟩, h5⟩

/-- kind 5 -/
theorem add_mod {X Y V : Int} (hx : 0 ≤ X ∧ X < V) (hy : 0 ≤ Y ∧ Y < V) : (if X + Y < V then X + Y else X + Y - V) = (X + Y) % V := by
  split
  · rw [Int.emod_eq_of_lt (by omega) (by omega)]
  · rw [← Int.sub_emod_right, Int.emod_eq_of_lt (by omega) (by omega)]
theorem sub_mod {X Y V : Int} (hx : 0 ≤ X ∧ X < V) (hy : 0 ≤ Y ∧ Y < V) : (if Y ≤ X then X - Y else X - Y + V) = (X + V - Y) % V := by
  split
  · rw [show X + V - Y = X - Y + V by omega, Int.add_emod_right, Int.emod_eq_of_lt (by omega) (by omega)]
  · rw [show X + V - Y = X - Y + V by omega, Int.emod_eq_of_lt (by omega) (by omega)]
/-- a register that fits -/
theorem NtI.fit {t : Nt} {p : Int × Int} {M : Mem} (h : NtI t p) (hM : ModX M q n V) (hk : IsBl V km) (hf : Ft p.2 p.1 V km) : t.n = n ∧ NV n 32 p.1 t.xs ∧ 0 ≤ p.1 := by
  obtain ⟨W, h1, h2, h3⟩ := h.ex
  have h4 := hf.1
  obtain ⟨h5, h6⟩ := h3 (by omega)
  have h7 := hM.n_eq hk
  obtain rfl : t.n = n := by omega
  subst h6
  exact ⟨rfl, h1, h1.nonneg⟩
theorem ik5 (ho : L[o]? = some to) (hb : L[b]? = some tb) (hto : NtI to po) (htb : NtI tb pb) (hpb : b = o → pb = po) (hM : ModX R q n V) (hk : IsBl V km) (hf : Ft po.2 po.1 V km) (hg : Ft pb.2 pb.1 V km) :
    CS w0 39 [ptr to.p, ptr tb.p, ptr q] (A ++ (nm L ++ R)) (fun _ M' => True ∧ RO L A R o ((po.1 + pb.1) % V) (wds km) M') := by
  obtain ⟨ho1, ho2, ho3⟩ := hto.fit hM hk hf
  obtain ⟨hb1, hb2, hb3⟩ := htb.fit hM hk hg
  have hn := hM.n_eq hk
  have h8 := hM.n8
  obtain ⟨pm, lm, odd, m0, rv, ms, hMr⟩ := (rest_mod' (L := L) (A := A) (o := o) hM).r
  have e := add_mod ⟨ho3, hf.2⟩ ⟨hb3, hg.2⟩
  by_cases hbo : b = o
  · subst hbo
    obtain rfl : tb = to := by rw [ho] at hb; exact (Option.some.inj hb).symm
    have hpp := hpb rfl
    subst hpp
    refine RO.of (n' := n) ho ?_
    rw [ho1]
    refine (nAddSelf (by omega) ho2 hMr hf.2).mono ?_
    rintro v M' ⟨zs, h1, h2, h3⟩
    exact ⟨zs, ⟨trivial, NtI.mk' h2 h8 fun _ => ⟨by rw [hn], e⟩⟩, h3⟩
  · have hoth := nm_other (X := A ++ R) ho hb hbo
    rw [hb1] at hoth
    refine RO.of (n' := n) ho ?_
    rw [ho1]
    refine (nAdd (by omega) ho2 hb2 hoth.1 hoth.2 hMr (by have := hf.2; have := hg.2; omega)).mono ?_
    rintro v M' ⟨zs, h1, h2, h3⟩
    exact ⟨zs, ⟨trivial, NtI.mk' h2 h8 fun _ => ⟨by rw [hn], e⟩⟩, h3⟩
theorem ik6 (ho : L[o]? = some to) (hb : L[b]? = some tb) (hto : NtI to po) (htb : NtI tb pb) (hpb : b = o → pb = po) (hM : ModX R q n V) (hk : IsBl V km) (hf : Ft po.2 po.1 V km) (hg : Ft pb.2 pb.1 V km) :
    CS w0 40 [ptr to.p, ptr tb.p, ptr q] (A ++ (nm L ++ R)) (fun _ M' => True ∧ RO L A R o ((po.1 + V - pb.1) % V) (wds km) M') := by
  obtain ⟨ho1, ho2, ho3⟩ := hto.fit hM hk hf
  obtain ⟨hb1, hb2, hb3⟩ := htb.fit hM hk hg
  have hn := hM.n_eq hk
  have h8 := hM.n8
  obtain ⟨pm, lm, odd, m0, rv, ms, hMr⟩ := (rest_mod' (L := L) (A := A) (o := o) hM).r
  have e := sub_mod ⟨ho3, hf.2⟩ ⟨hb3, hg.2⟩
  by_cases hbo : b = o
  · subst hbo
    obtain rfl : tb = to := by rw [ho] at hb; exact (Option.some.inj hb).symm
    have hpp := hpb rfl
    subst hpp
    refine RO.of (n' := n) ho ?_
    rw [ho1]
    refine (nSubSelf (by omega) ho2 hMr).mono ?_
    rintro v M' ⟨zs, h1, h2, h3⟩
    exact ⟨zs, ⟨trivial, NtI.mk' h2 h8 fun _ => ⟨by rw [hn], e⟩⟩, h3⟩
  · have hoth := nm_other (X := A ++ R) ho hb hbo
    rw [hb1] at hoth
    refine RO.of (n' := n) ho ?_
    rw [ho1]
    refine (nSub (by omega) ho2 hb2 hoth.1 hoth.2 hMr (by have := hf.2; have := hg.2; omega)).mono ?_
    rintro v M' ⟨zs, h1, h2, h3⟩
    exact ⟨zs, ⟨trivial, NtI.mk' h2 h8 fun _ => ⟨by rw [hn], e⟩⟩, h3⟩
theorem ik7 (ho : L[o]? = some to) (hb : L[b]? = some tb) (hto : NtI to po) (htb : NtI tb pb) (hM : ModX R q n V) (hk : IsBl V km) (hf : Ft po.2 po.1 V km) (hg : Ft pb.2 pb.1 V km) :
    CS w0 41 [ptr to.p, ptr tb.p, ptr q] (A ++ (nm L ++ R)) (fun _ M' => True ∧ RO L A R o (po.1 * pb.1 % V) (wds km) M') := by
  obtain ⟨ho1, ho2, ho3⟩ := hto.fit hM hk hf
  obtain ⟨hb1, hb2, hb3⟩ := htb.fit hM hk hg
  have hn := hM.n_eq hk
  have h8 := hM.n8
  have hM' := rest_mod' (L := L) (A := A) (o := o) hM
  have hmem : (tb.p, natO tb.l n 32) ∈ (to.p, natO to.l n 32) :: (to.l, words to.xs) :: (nm (L.eraseIdx o) ++ (A ++ R)) ∧ (tb.l, words tb.xs) ∈ (to.p, natO to.l n 32) :: (to.l, words to.xs) :: (nm (L.eraseIdx o) ++ (A ++ R)) := by
    by_cases hbo : b = o
    · subst hbo
      obtain rfl : tb = to := by rw [ho] at hb; exact (Option.some.inj hb).symm
      simp
    · have hoth := nm_other (X := A ++ R) ho hb hbo
      rw [hb1] at hoth
      exact ⟨List.mem_cons_of_mem _ (List.mem_cons_of_mem _ hoth.1), List.mem_cons_of_mem _ (List.mem_cons_of_mem _ hoth.2)⟩
  refine RO.of (n' := n) ho ?_
  rw [ho1]
  refine (nMul ho2 hf.2 hb2 hmem.1 hmem.2 hM').mono ?_
  rintro v M' ⟨zs, Z, h1, h2, h3, h4, h5⟩
  exact ⟨zs, ⟨trivial, NtI.mk' h2 h8 fun _ => ⟨by rw [hn], cg_mod h2 h3 h4⟩⟩, h5⟩

theorem NtI.nv {t : Nt} {p : Int × Int} (h : NtI t p) : ∃ V, NV t.n 32 V t.xs ∧ t.n ≤ 8 := let ⟨V, h1, h2, _⟩ := h.ex; ⟨V, h1, h2⟩
/-- kinds 0, 1 -/
theorem ik0 {Ad : Option Addr} {cap : Nat} (ho : L[o]? = some to) (hto : NtI to po) (hM : ModX R q n V) (hk : IsBl V km) (hb : Bsl (A ++ R) Ad bs cap) (hbd : Dg 256 bs) (hl : bs.length ≤ (km + 7) / 8) :
    CS w0 33 [ptr to.p, .slice Ad bs.length cap, ptr q] (A ++ (nm L ++ R)) (fun u M' => (if V ≤ dv 256 bs.reverse then ∃ e, u = .tuple #[.pointer none, .iface 137 (ptr e)] else u = .tuple #[ptr to.p, .nilIface]) ∧ RO L A R o (dv 256 bs.reverse) (wds km) M') := by
  obtain ⟨Vo, ho1, ho2⟩ := hto.nv
  have hn := hM.n_eq hk
  have h8 := hM.n8
  refine RO.of (n' := n) ho ((nSetBytes ho1.len ho1.le (by omega) (by decide) ho1.dg (hb.mono fun _ h => List.mem_append_right _ h) hbd (by unfold wds at hn; omega) (rest_mod' (L := L) (A := A) (o := o) hM)).mono ?_)
  rintro v M' ⟨h1, zs, h2, h3⟩
  exact ⟨zs, ⟨h1, NtI.mk' h2 h8 fun _ => ⟨by rw [hn], rfl⟩⟩, h3⟩
theorem ik1no {Ad : Option Addr} {cap kx : Nat} (ho : L[o]? = some to) (hto : NtI to po) (hM : ModX R q n V) (hk : IsBl V km) (hb : Bsl (A ++ R) Ad bs cap) (hbd : Dg 256 bs) (hl : bs.length ≤ (km + 7) / 8) (hkx : IsBl (dv 256 bs.reverse) kx) (hlt : km < kx) :
    CS w0 35 [ptr to.p, .slice Ad bs.length cap, ptr q] (A ++ (nm L ++ R)) (fun u M' => (∃ e, u = .tuple #[.pointer none, .iface 137 (ptr e)]) ∧ RO L A R o 0 (-1) M') := by
  obtain ⟨Vo, ho1, ho2⟩ := hto.nv
  have hn := hM.n_eq hk
  have h8 := hM.n8
  refine RO.of (n' := n) ho ((nSetOver ho1.len ho1.le (by omega) (by decide) ho1.dg (hb.mono fun _ h => List.mem_append_right _ h) hbd (by unfold wds at hn; omega) (rest_mod' (L := L) (A := A) (o := o) hM) hkx hk).mono ?_)
  rintro v M' (⟨_, e, Z, h1, zs, h2, h3⟩ | ⟨h0, _⟩)
  · exact ⟨zs, ⟨⟨e, h1⟩, NtI.mk' h2 h8 fun h => by omega⟩, h3⟩
  · exact absurd hlt h0
theorem ik1ok {Ad : Option Addr} {cap kx : Nat} (ho : L[o]? = some to) (hto : NtI to po) (hM : ModX R q n V) (hk : IsBl V km) (hb : Bsl (A ++ R) Ad bs cap) (hbd : Dg 256 bs) (hl : bs.length ≤ (km + 7) / 8) (hkx : IsBl (dv 256 bs.reverse) kx) (hlt : ¬ km < kx) :
    CS w0 35 [ptr to.p, .slice Ad bs.length cap, ptr q] (A ++ (nm L ++ R)) (fun u M' => u = .tuple #[ptr to.p, .nilIface] ∧ RO L A R o (dv 256 bs.reverse % V) (wds km) M') := by
  obtain ⟨Vo, ho1, ho2⟩ := hto.nv
  have hn := hM.n_eq hk
  have h8 := hM.n8
  refine RO.of (n' := n) ho ((nSetOver ho1.len ho1.le (by omega) (by decide) ho1.dg (hb.mono fun _ h => List.mem_append_right _ h) hbd (by unfold wds at hn; omega) (rest_mod' (L := L) (A := A) (o := o) hM) hkx hk).mono ?_)
  rintro v M' (⟨h0, _⟩ | ⟨_, h1, zs, Z, h2, h3, h4, h5⟩)
  · exact absurd h0 hlt
  · exact ⟨zs, ⟨h1, NtI.mk' h2 h8 fun _ => ⟨by rw [hn], cg_mod h2 h3 h4⟩⟩, h5⟩
/-- kind 2 -/
theorem ik2 (ho : L[o]? = some to) (hto : NtI to po) (h0 : 0 ≤ num) (h1 : num < 18446744073709551616) :
    CS w0 36 [ptr to.p, .int .u64 num] (A ++ (nm L ++ R)) (fun _ M' => True ∧ RO L A R o num 1 M') := by
  obtain ⟨Vo, ho1, ho2⟩ := hto.nv
  refine RO.of (n' := 1) ho ((nsetUint ho1.len ho1.le (by decide) (by decide) ho1.dg ⟨h0, by unfold W64; omega⟩).mono ?_)
  rintro v M' ⟨zs, h1, h2, h3⟩
  exact ⟨zs, ⟨trivial, NtI.mk' h2 (by decide) fun _ => ⟨rfl, rfl⟩⟩, h3⟩
/-- kind 3 -/
theorem ik3 (ho : L[o]? = some to) (hto : NtI to po) (hM : ModX R q n V) (hk : IsBl V km) (h0 : 0 ≤ po.2) (h1 : po.2 ≤ wds km) :
    CS w0 37 [ptr to.p, ptr q] (A ++ (nm L ++ R)) (fun _ M' => True ∧ RO L A R o po.1 (wds km) M') := by
  obtain ⟨Vo, ho1, ho2, ho3⟩ := hto.ex
  obtain ⟨h2, rfl⟩ := ho3 h0
  have hn := hM.n_eq hk
  have h8 := hM.n8
  obtain ⟨pm, lm, odd, m0, rv, ms, hMr⟩ := (rest_mod' (L := L) (A := A) (o := o) hM).r
  refine RO.of (n' := n) ho ((nexpandFor ho1 (by omega) (by omega) (by omega) hMr).mono ?_)
  rintro v M' ⟨zs, h1, h2, h3⟩
  exact ⟨zs, ⟨trivial, NtI.mk' h2 h8 fun _ => ⟨by rw [hn], rfl⟩⟩, h3⟩
end
end Go.Proofs.YtdnngppofbmpeaaGreatDoor.Bm
namespace Go.Proofs.YtdnngppofbmpeaaGreatDoor.Bm
open Go Go.RowKit

section
variable {w0 : World} {L : List Nt} {A R : Mem} {o a b q n km : Nat} {po pa pb : Int × Int} {V x s num : Int} {bs : List Int} {to ta tb : Nt}
theorem ModX.odd' {M : Mem} (h : ModX M q n V) (ho : V % 2 = 1) : ∃ pm lm pr lr m0 ms rs RR, MdX M q pm lm pr lr n m0 ms rs V RR := by
  rcases h.kind with ⟨h1, _⟩ | h1
  · omega
  · exact h1
theorem ik8 {Ad : Option Addr} {cap : Nat} (ho : L[o]? = some to) (ha : L[a]? = some ta) (hoa : a ≠ o) (hto : NtI to po) (hta : NtI ta pa) (hM : ModX R q n V) (hk : IsBl V km) (hodd : V % 2 = 1) (hf : Ft pa.2 pa.1 V km) (hb : Bsl (A ++ R) Ad bs cap) (hbd : Dg 256 bs) (hl : bs.length ≤ 60) :
    CS w0 42 [ptr to.p, ptr ta.p, .slice Ad bs.length cap, ptr q] (A ++ (nm L ++ R)) (fun _ M' => True ∧ RO L A R o (pa.1 ^ evb bs % V) (wds km) M') := by
  obtain ⟨Vo, ho1, ho2⟩ := hto.nv
  obtain ⟨ha1, ha2, ha3⟩ := hta.fit hM hk hf
  have hn := hM.n_eq hk
  have h8 := hM.n8
  obtain ⟨pm, lm, pr, lr, m0, ms, rs, RR, hX⟩ := (rest_mod' (L := L) (A := A) (o := o) hM).odd' hodd
  have hoth := nm_other (X := A ++ R) ho ha hoa
  rw [ha1] at hoth
  refine RO.of (n' := n) ho ((nExp ho1.len ho1.le (by omega) (by decide) ho1.dg ha2 hf.2 hoth.1 hoth.2 hX (hb.mono fun _ h => List.mem_append_right _ h) hbd hl).mono ?_)
  rintro v M' ⟨zs, Z, h1, h2, h3, h4, h5⟩
  exact ⟨zs, ⟨trivial, NtI.mk' h2 h8 fun _ => ⟨by rw [hn], cg_mod h2 h3 h4⟩⟩, h5⟩
theorem ik9 (ho : L[o]? = some to) (ha : L[a]? = some ta) (hoa : a ≠ o) (hto : NtI to po) (hta : NtI ta pa) (hM : ModX R q n V) (hk : IsBl V km) (hodd : V % 2 = 1) (hf : Ft pa.2 pa.1 V km) (h1 : 1 ≤ num) (h2 : num ≤ 1099511627776) :
    CS w0 43 [ptr to.p, ptr ta.p, .int .u64 num, ptr q] (A ++ (nm L ++ R)) (fun _ M' => True ∧ RO L A R o (pa.1 ^ num.toNat % V) (wds km) M') := by
  obtain ⟨Vo, ho1, ho2⟩ := hto.nv
  obtain ⟨ha1, ha2, ha3⟩ := hta.fit hM hk hf
  have hn := hM.n_eq hk
  have h8 := hM.n8
  obtain ⟨pm, lm, pr, lr, m0, ms, rs, RR, hX⟩ := (rest_mod' (L := L) (A := A) (o := o) hM).odd' hodd
  have hoth := nm_other (X := A ++ R) ho ha hoa
  rw [ha1] at hoth
  have hc := nExpShort (w0 := w0) (p := to.p) (l := to.l) (E := num.toNat) ho1.len ho1.le (by omega) (by decide) ho1.dg ha2 hf.2 hoth.1 hoth.2 hX (by omega) (by omega)
  rw [Int.toNat_of_nonneg (by omega)] at hc
  refine RO.of (n' := n) ho (hc.mono ?_)
  rintro v M' ⟨zs, Z, h1, h2, h3, h4, h5⟩
  exact ⟨zs, ⟨trivial, NtI.mk' h2 h8 fun _ => ⟨by rw [hn], cg_mod h2 h3 h4⟩⟩, h5⟩
theorem ik10 (ho : L[o]? = some to) (hto : NtI to po) (hM : ModX R q n V) (hk : IsBl V km) (hf : Ft po.2 po.1 V km) :
    CS w0 44 [ptr to.p, ptr q] (A ++ (nm L ++ R)) (fun _ M' => True ∧ RO L A R o ((po.1 + V - 1) % V) (wds km) M') := by
  obtain ⟨ho1, ho2, ho3⟩ := hto.fit hM hk hf
  have hn := hM.n_eq hk
  have h8 := hM.n8
  have hV := hM.V1
  obtain ⟨pm, lm, odd, m0, rv, ms, hMr⟩ := (rest_mod' (L := L) (A := A) (o := o) hM).r
  have e := sub_mod (Y := 1) ⟨ho3, hf.2⟩ ⟨by omega, by omega⟩
  refine RO.of (n' := n) ho ?_
  rw [ho1]
  refine (nSubOne hM.n0 (by omega) ho2 hMr (by omega)).mono ?_
  rintro v M' ⟨zs, h1, h2, h3⟩
  exact ⟨zs, ⟨trivial, NtI.mk' h2 h8 fun _ => ⟨by rw [hn], e⟩⟩, h3⟩
/-- kind 11 -/
theorem ik11yes (ho : L[o]? = some to) (ha : L[a]? = some ta) (hoa : a ≠ o) (hto : NtI to po) (hta : NtI ta pa) (hM : ModX R q n V) (hk : IsBl V km) (hs : 1 ≤ pa.2) (hav : pa.1 < V) (h0 : 0 ≤ x) (h1 : x < V) (hx : ∃ B, x * pa.1 - B * V = 1) :
    CS w0 45 [ptr to.p, ptr ta.p, ptr q] (A ++ (nm L ++ R)) (fun u M' => u = .tuple #[ptr to.p, .bool true] ∧ RO L A R o x (wds km) M') := by
  obtain ⟨Vo, ho1, ho2⟩ := hto.nv
  obtain ⟨Va, ha1, ha2, ha3⟩ := hta.ex
  obtain ⟨-, rfl⟩ := ha3 (by omega)
  have hn := hM.n_eq hk
  have h8 := hM.n8
  obtain ⟨pm, lm, odd, m0, rv, ms, hMr⟩ := (rest_mod' (L := L) (A := A) (o := o) hM).r
  have hoth := nm_other (X := A ++ R) ho ha hoa
  refine RO.of (n' := n) ho ((nInv ho1.len ho1.le (by decide) ho1.dg (by omega) ha1 hMr hM.V1 hav (by omega) (by omega) hoth.1 hoth.2 ⟨x, hx⟩).mono ?_)
  rintro v M' ⟨zs, Z, h2, h3, h4, h5, h6⟩
  exact ⟨zs, ⟨h2, NtI.mk' h3 h8 fun _ => ⟨by rw [hn], inv_uniq ⟨h3.nonneg, h4⟩ ⟨h0, h1⟩ h5 hx⟩⟩, h6⟩
theorem ik11no (ha : L[a]? = some ta) (hta : NtI ta pa) (hM : ModX R q n V) (hs : 1 ≤ pa.2) (hav : pa.1 < V) (hx : ∀ x B : Int, x * pa.1 - B * V ≠ 1) :
    CS w0 45 [ptr to.p, ptr ta.p, ptr q] (A ++ (nm L ++ R)) (fun u M' => u = .tuple #[ptr to.p, .bool false] ∧ M' = A ++ (nm L ++ R)) := by
  obtain ⟨Va, ha1, ha2, ha3⟩ := hta.ex
  obtain ⟨-, rfl⟩ := ha3 (by omega)
  have h8 := hM.n8
  obtain ⟨pm, lm, odd, m0, rv, ms, hMr⟩ := (hM.mono (N := A ++ (nm L ++ R)) fun _ h => List.mem_append_right _ (List.mem_append_right _ h)).r
  have hoth := nm_any (A := A) (X := R) ha
  exact nInvNo ha1 hMr hM.V1 hav (by omega) (by omega) hoth.1 hoth.2 hx
/-- kind 12 -/
theorem ik12yes (ho : L[o]? = some to) (ha : L[a]? = some ta) (hb : L[b]? = some tb) (hoa : a ≠ o) (hob : b ≠ o) (hto : NtI to po) (hta : NtI ta pa) (htb : NtI tb pb) (hs : 1 ≤ pa.2) (hs' : 1 ≤ pb.2) (hz : ¬ (pa.1 = 0 ∨ pb.1 = 0 ∨ pa.1 % 2 = 0 ∧ pb.1 % 2 = 0)) (h0 : 0 ≤ x) (hg : Cd pa.1 pb.1 x 0) :
    CS w0 46 [ptr to.p, ptr ta.p, ptr tb.p] (A ++ (nm L ++ R)) (fun u M' => u = .tuple #[ptr to.p, .nilIface] ∧ RO L A R o x (if pa.2 < pb.2 then pb.2 else pa.2) M') := by
  obtain ⟨Vo, ho1, ho2⟩ := hto.nv
  obtain ⟨Va, ha1, ha2, ha3⟩ := hta.ex
  obtain ⟨ha4, rfl⟩ := ha3 (by omega)
  obtain ⟨Vb, hb1, hb2, hb3⟩ := htb.ex
  obtain ⟨hb4, rfl⟩ := hb3 (by omega)
  have hoth := nm_other (X := A ++ R) ho ha hoa
  have hoth' := nm_other (X := A ++ R) ho hb hob
  have p1 := ha1.nonneg
  have p2 := hb1.nonneg
  refine RO.of (n' := max ta.n tb.n) ho ((nGCD ho1.len ho1.le (by decide) ho1.dg (by omega) ha1 hb1 (by omega) (by omega) (by omega) (by omega) (by omega) hoth.1 hoth.2 hoth'.1 hoth'.2).mono ?_)
  rintro v M' ⟨zs, g, h2, h3, h4, h5, h6⟩
  refine ⟨zs, ⟨h2, NtI.mk' h3 (by omega) fun _ => ⟨?_, h5.uniq hg (by omega) h0⟩⟩, h6⟩
  rw [← ha4, ← hb4]
  split <;> omega
theorem ik12no (ha : L[a]? = some ta) (hb : L[b]? = some tb) (hta : NtI ta pa) (htb : NtI tb pb) (hs : 1 ≤ pa.2) (hs' : 1 ≤ pb.2) (hz : pa.1 = 0 ∨ pb.1 = 0 ∨ pa.1 % 2 = 0 ∧ pb.1 % 2 = 0) :
    CS w0 46 [ptr to.p, ptr ta.p, ptr tb.p] (A ++ (nm L ++ R)) (fun u M' => (∃ e, u = .tuple #[.pointer none, .iface 137 (ptr e)]) ∧ M' = A ++ (nm L ++ R)) := by
  obtain ⟨Va, ha1, ha2, ha3⟩ := hta.ex
  obtain ⟨ha4, rfl⟩ := ha3 (by omega)
  obtain ⟨Vb, hb1, hb2, hb3⟩ := htb.ex
  obtain ⟨hb4, rfl⟩ := hb3 (by omega)
  have hoth := nm_any (A := A) (X := R) ha
  have hoth' := nm_any (A := A) (X := R) hb
  exact nGCDno ha1 hb1 hz hoth.1 hoth.2 hoth'.1 hoth'.2
/-- kinds 13, 14 -/
theorem ik13 (ho : L[o]? = some to) (hto : NtI to po) (hs : 0 ≤ po.2) (h0 : 0 ≤ num) (h1 : num ≤ 1000) :
    CS w0 47 [ptr to.p, .int .u64 num] (A ++ (nm L ++ R)) (fun _ M' => True ∧ RO L A R o (po.1 / 2 ^ num.toNat) po.2 M') := by
  obtain ⟨Vo, ho1, ho2, ho3⟩ := hto.ex
  obtain ⟨ho4, rfl⟩ := ho3 hs
  have hc := nshr (w0 := w0) (p := to.p) (l := to.l) (M := nm (L.eraseIdx o) ++ (A ++ R)) (N := num.toNat) ho1 (by omega)
  rw [Int.toNat_of_nonneg h0] at hc
  refine RO.of (n' := to.n) ho (hc.mono ?_)
  rintro v M' ⟨zs, h2, h3, h4⟩
  exact ⟨zs, ⟨trivial, NtI.mk' h3 ho2 fun _ => ⟨ho4, rfl⟩⟩, h4⟩
theorem ik14 (ho : L[o]? = some to) (hto : NtI to po) (hs : 0 ≤ po.2) :
    CS w0 48 [ptr to.p] (A ++ (nm L ++ R)) (fun _ M' => True ∧ RO L A R o (po.1 / 2) po.2 M') := by
  obtain ⟨Vo, ho1, ho2, ho3⟩ := hto.ex
  obtain ⟨ho4, rfl⟩ := ho3 hs
  refine RO.of (n' := to.n) ho ((shr1 ho1).mono ?_)
  rintro v M' ⟨zs, h2, h3, h4⟩
  exact ⟨zs, ⟨trivial, NtI.mk' h3 ho2 fun _ => ⟨ho4, rfl⟩⟩, h4⟩
/-- kinds 15, 20 -/
theorem ikSet {ly cy m : Nat} {ys : List Int} {Y : Int} (ho : L[o]? = some to) (hto : NtI to po) (hm : m ≤ 8) (hyn : m ≤ ys.length) (hyd : Dg W64 ys) (hyv : dv W64 (ys.take m) = Y) (hly : (ly, words ys) ∈ A ++ R) (hs : 0 ≤ s → (m : Int) = s ∧ Y = x) :
    CS w0 49 [ptr to.p, .slice (some ⟨ly, 0, none⟩) m cy] (A ++ (nm L ++ R)) (fun _ M' => True ∧ RO L A R o x s M') := by
  obtain ⟨Vo, ho1, ho2⟩ := hto.nv
  refine RO.of (n' := m) ho ((nsetBitsC ho1.len ho1.le (by omega) (by decide) ho1.dg hyn hyd hyv (List.mem_append_right _ hly)).mono ?_)
  rintro v M' ⟨zs, h2, h3, h4⟩
  exact ⟨zs, ⟨trivial, NtI.mk' h3 hm hs⟩, h4⟩
end

/-! what a step is, by its kind -/
section
variable {num : Int} {bs : List Int} {eA eB : Prop} {on zo an za bn zb V : Int} {km : Nat} {k x s t : Int}
theorem PS.range (h : PS num bs eA eB on zo an za bn zb V km k x s t) : 0 ≤ k ∧ k ≤ 21 := by cases h <;> decide
end
end Go.Proofs.YtdnngppofbmpeaaGreatDoor.Bm
namespace Go.Proofs.YtdnngppofbmpeaaGreatDoor.Bm
open Go Go.RowKit

section
variable {num : Int} {bs : List Int} {eA eB : Prop} {on zo an za bn zb V : Int} {km : Nat} {k x s t : Int}
theorem PS.inv0 (h : PS num bs eA eB on zo an za bn zb V km k x s t) (e : k = 0) : (x = 0 ∧ s = -1 ∧ t = 0 ∧ V ≤ dv 256 bs.reverse ∧ bs.length ≤ (km + 7) / 8) ∨ (x = dv 256 bs.reverse ∧ s = wds km ∧ t = 1 ∧ dv 256 bs.reverse < V ∧ bs.length ≤ (km + 7) / 8) := by
  cases h <;> first | exact absurd e (by decide) | skip
  · exact .inl ⟨rfl, rfl, rfl, by assumption, by assumption⟩
  · exact .inr ⟨rfl, rfl, rfl, by assumption, by assumption⟩
theorem PS.inv1 (h : PS num bs eA eB on zo an za bn zb V km k x s t) (e : k = 1) : ∃ kx, IsBl (dv 256 bs.reverse) kx ∧ bs.length ≤ (km + 7) / 8 ∧ ((x = 0 ∧ s = -1 ∧ t = 0 ∧ km < kx) ∨ (x = dv 256 bs.reverse % V ∧ s = wds km ∧ t = 1 ∧ ¬ km < kx)) := by
  cases h <;> first | exact absurd e (by decide) | skip
  · exact ⟨_, by assumption, by assumption, .inl ⟨rfl, rfl, rfl, by assumption⟩⟩
  · exact ⟨_, by assumption, by assumption, .inr ⟨rfl, rfl, rfl, by assumption⟩⟩
theorem PS.inv2 (h : PS num bs eA eB on zo an za bn zb V km k x s t) (e : k = 2) : x = num ∧ s = 1 ∧ t = 0 ∧ 0 ≤ num := by
  cases h <;> first | exact absurd e (by decide) | skip
  exact ⟨rfl, rfl, rfl, by assumption⟩
theorem PS.inv3 (h : PS num bs eA eB on zo an za bn zb V km k x s t) (e : k = 3) : x = on ∧ s = wds km ∧ t = 0 ∧ 0 ≤ zo ∧ zo ≤ wds km := by
  cases h <;> first | exact absurd e (by decide) | skip
  exact ⟨rfl, rfl, rfl, by assumption, by assumption⟩
theorem PS.inv4 (h : PS num bs eA eB on zo an za bn zb V km k x s t) (e : k = 4) : x = an % V ∧ s = wds km ∧ t = 0 ∧ 0 < za ∧ ¬ eA := by
  cases h <;> first | exact absurd e (by decide) | skip
  exact ⟨rfl, rfl, rfl, by assumption, by assumption⟩
theorem PS.inv5 (h : PS num bs eA eB on zo an za bn zb V km k x s t) (e : k = 5) : x = (on + bn) % V ∧ s = wds km ∧ t = 0 ∧ Ft zo on V km ∧ Ft zb bn V km := by
  cases h <;> first | exact absurd e (by decide) | skip
  exact ⟨rfl, rfl, rfl, by assumption, by assumption⟩
theorem PS.inv6 (h : PS num bs eA eB on zo an za bn zb V km k x s t) (e : k = 6) : x = (on + V - bn) % V ∧ s = wds km ∧ t = 0 ∧ Ft zo on V km ∧ Ft zb bn V km := by
  cases h <;> first | exact absurd e (by decide) | skip
  exact ⟨rfl, rfl, rfl, by assumption, by assumption⟩
theorem PS.inv7 (h : PS num bs eA eB on zo an za bn zb V km k x s t) (e : k = 7) : x = on * bn % V ∧ s = wds km ∧ t = 0 ∧ Ft zo on V km ∧ Ft zb bn V km := by
  cases h <;> first | exact absurd e (by decide) | skip
  exact ⟨rfl, rfl, rfl, by assumption, by assumption⟩
theorem PS.inv8 (h : PS num bs eA eB on zo an za bn zb V km k x s t) (e : k = 8) : x = an ^ evb bs % V ∧ s = wds km ∧ t = 0 ∧ V % 2 = 1 ∧ Ft za an V km ∧ ¬ eA := by
  cases h <;> first | exact absurd e (by decide) | skip
  exact ⟨rfl, rfl, rfl, by assumption, by assumption, by assumption⟩
theorem PS.inv9 (h : PS num bs eA eB on zo an za bn zb V km k x s t) (e : k = 9) : x = an ^ num.toNat % V ∧ s = wds km ∧ t = 0 ∧ V % 2 = 1 ∧ Ft za an V km ∧ ¬ eA ∧ 1 ≤ num ∧ num ≤ 1099511627776 := by
  cases h <;> first | exact absurd e (by decide) | skip
  exact ⟨rfl, rfl, rfl, by assumption, by assumption, by assumption, by assumption, by assumption⟩
theorem PS.inv10 (h : PS num bs eA eB on zo an za bn zb V km k x s t) (e : k = 10) : x = (on + V - 1) % V ∧ s = wds km ∧ t = 0 ∧ Ft zo on V km := by
  cases h <;> first | exact absurd e (by decide) | skip
  exact ⟨rfl, rfl, rfl, by assumption⟩
theorem PS.inv11 (h : PS num bs eA eB on zo an za bn zb V km k x s t) (e : k = 11) : 1 ≤ za ∧ an < V ∧ ¬ eA ∧ ((s = wds km ∧ t = 1 ∧ 0 ≤ x ∧ x < V ∧ ∃ B, x * an - B * V = 1) ∨ (x = on ∧ s = zo ∧ t = 0 ∧ ∀ x B : Int, x * an - B * V ≠ 1)) := by
  cases h <;> first | exact absurd e (by decide) | skip
  · exact ⟨by assumption, by assumption, by assumption, .inl ⟨rfl, rfl, by assumption, by assumption, by assumption⟩⟩
  · exact ⟨by assumption, by assumption, by assumption, .inr ⟨rfl, rfl, rfl, by assumption⟩⟩
theorem PS.inv12 (h : PS num bs eA eB on zo an za bn zb V km k x s t) (e : k = 12) : 1 ≤ za ∧ 1 ≤ zb ∧ ¬ eA ∧ ¬ eB ∧ ((x = on ∧ s = zo ∧ t = 0 ∧ (an = 0 ∨ bn = 0 ∨ an % 2 = 0 ∧ bn % 2 = 0)) ∨ (s = (if za < zb then zb else za) ∧ t = 1 ∧ ¬ (an = 0 ∨ bn = 0 ∨ an % 2 = 0 ∧ bn % 2 = 0) ∧ 0 ≤ x ∧ Cd an bn x 0)) := by
  cases h <;> first | exact absurd e (by decide) | skip
  · exact ⟨by assumption, by assumption, by assumption, by assumption, .inl ⟨rfl, rfl, rfl, by assumption⟩⟩
  · exact ⟨by assumption, by assumption, by assumption, by assumption, .inr ⟨rfl, rfl, by assumption, by assumption, by assumption⟩⟩
theorem PS.inv13 (h : PS num bs eA eB on zo an za bn zb V km k x s t) (e : k = 13) : x = on / 2 ^ num.toNat ∧ s = zo ∧ t = 0 ∧ 0 ≤ zo ∧ 0 ≤ num ∧ num ≤ 1000 := by
  cases h <;> first | exact absurd e (by decide) | skip
  exact ⟨rfl, rfl, rfl, by assumption, by assumption, by assumption⟩
theorem PS.inv14 (h : PS num bs eA eB on zo an za bn zb V km k x s t) (e : k = 14) : x = on / 2 ∧ s = zo ∧ t = 0 ∧ 0 ≤ zo := by
  cases h <;> first | exact absurd e (by decide) | skip
  exact ⟨rfl, rfl, rfl, by assumption⟩
theorem PS.inv15 (h : PS num bs eA eB on zo an za bn zb V km k x s t) (e : k = 15) : x = an ∧ s = za ∧ t = 0 ∧ 0 ≤ za := by
  cases h <;> first | exact absurd e (by decide) | skip
  exact ⟨rfl, rfl, rfl, by assumption⟩
theorem PS.inv16 (h : PS num bs eA eB on zo an za bn zb V km k x s t) (e : k = 16) : ∃ ka : Nat, x = on ∧ s = zo ∧ t = b1 (an = 0) + 2 * b1 (an = 1) + 4 * b1 (an % 2 = 1) + 8 * ka ∧ 0 < za ∧ IsBl an ka := by
  cases h <;> first | exact absurd e (by decide) | skip
  exact ⟨_, rfl, rfl, rfl, by assumption, by assumption⟩
theorem PS.inv17 (h : PS num bs eA eB on zo an za bn zb V km k x s t) (e : k = 17) : x = on ∧ s = zo ∧ t = b1 (an = bn) ∧ 0 < za ∧ za = zb := by
  cases h <;> first | exact absurd e (by decide) | skip
  exact ⟨rfl, rfl, rfl, by assumption, by assumption⟩
theorem PS.inv18 (h : PS num bs eA eB on zo an za bn zb V km k x s t) (e : k = 18) : x = on ∧ s = zo ∧ t = b1 (V - an = 1) ∧ Ft za an V km := by
  cases h <;> first | exact absurd e (by decide) | skip
  exact ⟨rfl, rfl, rfl, by assumption⟩
theorem PS.inv19 (h : PS num bs eA eB on zo an za bn zb V km k x s t) (e : k = 19) : ∃ zs, x = on ∧ s = zo ∧ t = sumL zs ∧ Ft za an V km ∧ zs.length = (km + 7) / 8 ∧ Dg 256 zs ∧ dv 256 zs.reverse = an := by
  cases h <;> first | exact absurd e (by decide) | skip
  exact ⟨_, rfl, rfl, rfl, by assumption, by assumption, by assumption, by assumption⟩
theorem PS.inv20 (h : PS num bs eA eB on zo an za bn zb V km k x s t) (e : k = 20) : x = V ∧ s = wds km ∧ t = 0 := by
  cases h <;> first | exact absurd e (by decide) | skip
  exact ⟨rfl, rfl, rfl⟩
theorem PS.inv21 (h : PS num bs eA eB on zo an za bn zb V km k x s t) (e : k = 21) : ∃ j : Nat, x = on ∧ s = zo ∧ t = j ∧ an ≠ 0 ∧ IsTz an j := by
  cases h <;> first | exact absurd e (by decide) | skip
  exact ⟨_, rfl, rfl, rfl, by assumption, by assumption⟩
end
end Go.Proofs.YtdnngppofbmpeaaGreatDoor.Bm
