/- Proved here: laws on slices of the call's own that stand anywhere in memory, on whole structs and on new registers; plain laws on runs of scripts: what a step leaves is bounded, and there is one run alone; the law of append to the list of what steps tell, and that numbers stay where they lie. Conditions: none but those that each theorem states. -/
import Derived.Test.YtdnngppofbmpeaaGreatDoorG28
namespace Go.Proofs.YtdnngppofbmpeaaGreatDoor.Bm
open Go Go.RowKit

/-- a slice of the call's own, and the memory that it takes (nothing, or one block) -/
def OwnQ (G : Value → Prop) (T : TypeId) (v : Value) (l : List Value) (pre : Mem) : Prop :=
  (v = .slice none 0 0 ∧ l = [] ∧ pre = []) ∨
  ∃ (b : Nat) (c : List Value), v = .slice (some ⟨b, 0, none⟩) l.length c.length ∧ l.length ≤ c.length ∧ c.take l.length = l ∧ pre = [(b, .cells c.toArray T (0, 0))] ∧ ∀ u ∈ c, G u
theorem OwnQ.own {G : Value → Prop} {T : TypeId} {v : Value} {l : List Value} {pre : Mem} (h : OwnQ G T v l pre) (M0 : Mem) : Own G T v l M0 (pre ++ M0) := by
  rcases h with ⟨rfl, rfl, rfl⟩ | ⟨b, c, rfl, h1, h2, rfl, h3⟩
  · exact .inl ⟨rfl, rfl, rfl⟩
  · exact .inr ⟨b, c, rfl, h1, h2, rfl, h3⟩
theorem Own.q {G : Value → Prop} {T : TypeId} {v : Value} {l : List Value} {M0 M1 : Mem} (h : Own G T v l M0 M1) : ∃ pre, M1 = pre ++ M0 ∧ OwnQ G T v l pre := by
  rcases h with ⟨rfl, rfl, rfl⟩ | ⟨b, c, rfl, h1, h2, rfl, h3⟩
  · exact ⟨[], rfl, .inl ⟨rfl, rfl, rfl⟩⟩
  · exact ⟨[_], rfl, .inr ⟨b, c, rfl, h1, h2, rfl, h3⟩⟩
theorem OwnQ.nil {G : Value → Prop} {T : TypeId} : OwnQ G T (.slice none 0 0) [] [] := .inl ⟨rfl, rfl, rfl⟩
theorem OwnQ.one {G : Value → Prop} {T : TypeId} {v : Value} {l : List Value} {pre : Mem} (h : OwnQ G T v l pre) : v.oneCell' = true := by
  rcases h with ⟨rfl, _, _⟩ | ⟨b, c, rfl, _, _, _, _⟩ <;> rfl
theorem OwnQ.form {G : Value → Prop} {T : TypeId} {v : Value} {l : List Value} {pre : Mem} (h : OwnQ G T v l pre) : ∃ A cap, v = .slice A l.length cap := by
  rcases h with ⟨rfl, rfl, _⟩ | ⟨b, c, rfl, _, _, _, _⟩
  · exact ⟨_, _, rfl⟩
  · exact ⟨_, _, rfl⟩

/-- the slice reads as l -/
def Rds (M : Mem) (v : Value) (l : List Value) : Prop :=
  ∃ A cap, v = .slice A l.length cap ∧ (l = [] ∨ ∃ b c T, A = some ⟨b, 0, none⟩ ∧ (b, .cells (c : List Value).toArray T (0, 0)) ∈ M ∧ l.length ≤ c.length ∧ c.take l.length = l ∧ l.length ≤ cap)
theorem Rds.mono {M N : Mem} {v : Value} {l : List Value} (h : Rds M v l) (hs : ∀ p ∈ M, p ∈ N) : Rds N v l := by
  obtain ⟨A, cap, h1, h2⟩ := h
  refine ⟨A, cap, h1, ?_⟩
  rcases h2 with h2 | ⟨b, c, T, h3, h4, h5, h6, h7⟩
  · exact .inl h2
  · exact .inr ⟨b, c, T, h3, hs _ h4, h5, h6, h7⟩
theorem OwnQ.rds {G : Value → Prop} {T : TypeId} {v : Value} {l : List Value} {pre M : Mem} (h : OwnQ G T v l pre) (hs : ∀ p ∈ pre, p ∈ M) : Rds M v l := by
  rcases h with ⟨rfl, rfl, rfl⟩ | ⟨b, c, rfl, h1, h2, rfl, h3⟩
  · exact ⟨none, 0, rfl, .inl rfl⟩
  · exact ⟨_, _, rfl, .inr ⟨b, c, T, rfl, hs _ (by simp), h1, h2, h1⟩⟩
theorem Rds.at_ {M : Mem} {v : Value} {l : List Value} (h : Rds M v l) {A : Option Addr} {cap : Nat} (hv : v = .slice A l.length cap) (h0 : 0 < l.length) : ∃ b c T, A = some ⟨b, 0, none⟩ ∧ (b, .cells (c : List Value).toArray T (0, 0)) ∈ M ∧ ∀ (i : Nat) (u : Value), l[i]? = some u → c[i]? = some u := by
  obtain ⟨A', cap', h1, h2⟩ := h
  rw [hv] at h1
  obtain ⟨rfl, _, rfl⟩ : A = A' ∧ True ∧ cap = cap' := by simpa using h1
  rcases h2 with rfl | ⟨b, c, T, h3, h4, h5, h6, h7⟩
  · simp at h0
  · refine ⟨b, c, T, h3, h4, fun i u hu => ?_⟩
    have hi : i < l.length := by
      rcases Nat.lt_or_ge i l.length with h' | h'
      · exact h'
      · simp [List.getElem?_eq_none h'] at hu
    rw [← h6, List.getElem?_take, if_pos hi] at hu
    exact hu

section
variable {n : Nat} {w0 : World} {K : Exit → Env → Mem → Prop} {E : Env} {M M' : Mem} {dst : Option Nat} {ty : TypeId} {pos : String} {aft : Array Edge} {g : Option (Nat × Bool)}
/-- append of one element, to a slice whose block stands anywhere -/
theorem EX.appendQ {G : Value → Prop} {t e s bq T' : Nat} {x y : Operand} {ats : Array TypeId} {z v d : Value} {l : List Value} {pre A B : Mem} (hx : ev E x = some v) (hv : OwnQ G e v l pre) (hy : ev E y = some (.slice (some ⟨bq, 0, none⟩) 1 1))
    (ha : ats = #[t, t]) (ht : sl t = some (e, 1)) (he : ez e = some (z, s)) (hGz : G z) (hGd : G d) (h1 : d.oneCell' = true) (hm : (bq, .cells #[d] T' (0, 0)) ∈ A) (hsmall : l.length ≤ 1000) :
    EX n w0 ⟨dst, .call ⟨.builtin .append, #[x, y], ats⟩, ty, pos, aft, g⟩ E (A ++ (pre ++ B)) (fun u M' => ∃ pre', M' = pre' ++ (A ++ B) ∧ OwnQ G e u (l ++ [d]) pre') := by
  refine EX.pm (N := pre ++ (A ++ B)) ⟨List.perm_append_comm_assoc _ _ _⟩ (EX.mono (EX.append (ds := [d]) (d := [d]) (T' := T') (fr := (0, 0)) hx (hv.own (A ++ B)) hy ha ht ht he hGz (by intro u hu; simp at hu; subst hu; exact hGd) (fun w hw => (hw.has (bq, .cells #[d] T' (0, 0)) (List.mem_append_right _ (List.mem_append_left _ hm))).2) (Nat.le_refl _) rfl (by intro u hu; simp at hu; subst hu; exact h1) (by omega)) ?_)
  intro u M' h
  exact h.q

/-- a whole struct is written -/
theorem EX.storeW {t k b T : Nat} {x y : Operand} {c vs : List Value} (hx : ev E x = some (.pointer (some ⟨b, 0, none⟩))) (hy : ev E y = some (.agg vs.toArray)) (ht : sz t = some k) (hk : vs.length = k)
    (h1 : ∀ u ∈ vs, u.oneCell' = true) (hm : (b, .cells c.toArray T (0, 0)) ∈ M) (hi : c.length = k) (hu : Upd M b (.cells vs.toArray T (0, 0)) M') :
    EX n w0 ⟨dst, .store t x y, ty, pos, aft, g⟩ E M (fun u M'' => u = undef ∧ M'' = M') :=
  EX.storeA (vs := vs) hx hy ht rfl hk h1 hm (by omega) (by rw [putL_all _ _ (by omega)]; exact hu)

/-- a register in a row of them is written -/
theorem regC_put : ∀ {R : List (Value × Int)} {j : Nat} (_ : j < R.length) (v : Value) (s : Int), putL (regC R) (0 + j * 2) [v, .int .i64 s] = regC (R.set j (v, s))
  | [], j, h, v, s => by simp at h
  | q :: R, 0, h, v, s => rfl
  | q :: R, j + 1, h, v, s => by
    have := regC_put (R := R) (j := j) (by simpa using h) v s
    have e : ∀ q R, regC (q :: R) = q.1 :: .int .i64 q.2 :: regC R := fun _ _ => rfl
    rw [List.set_cons_succ, e, e, ← this, show 0 + (j + 1) * 2 = (0 + j * 2) + 1 + 1 by omega]
    unfold putL
    simp [List.take_succ_cons]
theorem EX.storeQ {x y : Operand} {b j : Nat} {R : List (Value × Int)} {v : Value} {s : Int} (hx : ev E x = some (.pointer (some ⟨b, 0 + j * 2, none⟩))) (hy : ev E y = some (rg v s)) (h1 : v.oneCell' = true) (hj : j < R.length)
    (hm : (b, regsO R) ∈ M) (hu : Upd M b (regsO (R.set j (v, s))) M') :
    EX n w0 ⟨dst, .store 48 x y, ty, pos, aft, g⟩ E M (fun u M'' => u = undef ∧ M'' = M') :=
  EX.storeA (vs := [v, .int .i64 s]) hx hy rfl rfl rfl (by intro u hu; simp only [List.mem_cons, List.not_mem_nil, or_false] at hu; rcases hu with rfl | rfl <;> first | exact h1 | rfl) hm (by rw [regC_len]; omega) (by rw [regC_put hj]; exact hu)

/-- new registers -/
theorem regs_make (c : Nat) (h1 : 1 ≤ c) (h5 : c ≤ 5) (w : World) : (Instr.makeSlice 46 (.int .i64 c) (.int .i64 c)).run P w = .ok (.slice (some ⟨w.heap.size, 0, none⟩) c c) (w.alloc (regsO (List.replicate c (.slice none 0 0, 0)))) := by
  rcases (show c = 1 ∨ c = 2 ∨ c = 3 ∨ c = 4 ∨ c = 5 by omega) with rfl | rfl | rfl | rfl | rfl
  · kernel_rfl
  · kernel_rfl
  · kernel_rfl
  · kernel_rfl
  · kernel_rfl
theorem EX.makeR {x y : Operand} {p q : Int} {c : Nat} (hx : ev E x = some (.int .i64 p)) (hy : ev E y = some (.int .i64 q)) (hp : p = (c : Int)) (hq : q = (c : Int)) (h1 : 1 ≤ c) (h5 : c ≤ 5) :
    EX n w0 ⟨dst, .makeSlice 46 x y, ty, pos, aft, g⟩ E M (fun u M' => ∃ b, u = .slice (some ⟨b, 0, none⟩) c c ∧ M' = (b, regsO (List.replicate c (.slice none 0 0, 0))) :: M) := by
  refine ⟨fun a w ha hw K Q hk => ?_⟩
  have e1 := ha.eval hx
  have e2 := ha.eval hy
  subst hp hq
  have : (execOp a.eval ⟨dst, .makeSlice 46 x y, ty, pos, aft, g⟩).run P w = .ok (.value (.slice (some ⟨w.heap.size, 0, none⟩) c c)) (w.alloc (regsO (List.replicate c (.slice none 0 0, 0)))) := by
    simp [execOp, e1, e2, regs_make c h1 h5 w]
  unfold Oper.wp
  rw [this, Oper.upon_value]
  exact hk _ _ _ ⟨_, rfl, rfl⟩ (hw.alloc _)
end
end Go.Proofs.YtdnngppofbmpeaaGreatDoor.Bm
namespace Go.Proofs.YtdnngppofbmpeaaGreatDoor.Bm
open Go Go.RowKit

theorem bl_exists : ∀ n : Nat, ∃ k, IsBl (n : Int) k := by
  intro n
  induction n using Nat.strongRecOn with
  | _ n ih =>
    rcases Nat.eq_zero_or_pos n with rfl | h
    · exact ⟨0, IsBl.zero⟩
    · obtain ⟨k, hk⟩ := ih (n / 2) (by omega)
      exact ⟨k + 1, IsBl.half (by simpa using hk) (by omega)⟩
theorem bl_ex {V : Int} (h : 0 ≤ V) : ∃ k, IsBl V k := by
  obtain ⟨k, hk⟩ := bl_exists V.toNat
  exact ⟨k, by rwa [Int.toNat_of_nonneg h] at hk⟩
theorem tz_lt {x : Int} {j k : Nat} (h : IsTz x j) (h' : IsTz x k) : ¬ j < k := by
  intro hlt
  obtain ⟨y, hy⟩ := dvd_of_mod h'.dvd
  have e : (2 : Int) ^ k = 2 ^ j * (2 * 2 ^ (k - j - 1)) := by rw [← pow2_succ, ← Int.pow_add]; congr 1; omega
  have h1 := h.odd
  rw [hy, e, Int.mul_assoc, Int.mul_ediv_cancel_left _ (by have := pow2_pos j; omega), Int.mul_assoc] at h1
  omega
theorem IsTz.uniq {x : Int} {j k : Nat} (h : IsTz x j) (h' : IsTz x k) : j = k := by
  have := tz_lt h h'; have := tz_lt h' h; omega
theorem inv_uniq {x y a V : Int} (hx : 0 ≤ x ∧ x < V) (hy : 0 ≤ y ∧ y < V) (h : ∃ B, x * a - B * V = 1) (h' : ∃ B, y * a - B * V = 1) : x = y := by
  obtain ⟨B, hB⟩ := h
  obtain ⟨C, hC⟩ := h'
  have e : Cg V x y := ⟨B * y - C * x, by grind⟩
  rw [e.eq_mod hx.1 hx.2]
  exact Int.emod_eq_of_lt hy.1 hy.2

section
variable {num : Int} {bs : List Int} {eA eB : Prop} {on zo an za bn zb V : Int} {km : Nat}
/-- a step leaves and tells one thing alone -/
theorem PS.det {k k' x s t x' s' t' : Int} (h : PS num bs eA eB on zo an za bn zb V km k x s t) (h' : PS num bs eA eB on zo an za bn zb V km k' x' s' t') (e : k = k') : x = x' ∧ s = s' ∧ t = t' := by
  cases h <;> cases h' <;> first
    | exact absurd e (by decide)
    | exact ⟨rfl, rfl, rfl⟩
    | (exfalso; omega)
    | skip
  case k1no.k1ok hb hlt _ _ hb' hlt' _ => exact absurd (hb.uniq hb' ▸ hlt) hlt'
  case k1ok.k1no hb hlt _ _ hb' hlt' _ => exact absurd (hb'.uniq hb ▸ hlt') hlt
  case k11yes.k11yes h0 h1 hx _ _ _ h0' h1' hx' => exact ⟨inv_uniq ⟨h0, h1⟩ ⟨h0', h1'⟩ hx hx', rfl, rfl⟩
  case k11yes.k11no hx _ _ _ hx' => obtain ⟨B, hB⟩ := hx; exact absurd hB (hx' _ _)
  case k11no.k11yes hx _ _ _ _ _ hx' => obtain ⟨B, hB⟩ := hx'; exact absurd hB (hx _ _)
  case k12yes.k12yes h0 hg _ _ _ _ _ h0' hg' => exact ⟨hg.uniq hg' h0 h0', rfl, rfl⟩
  case k16.k16 hb _ _ hb' => rw [hb.uniq hb']; exact ⟨rfl, rfl, rfl⟩
  case k19.k19 hl hd hv _ _ hl' hd' hv' =>
    have := dv_inj (by decide) (dg_rev hd) (dg_rev hd') (by simp [hl, hl']) (by rw [hv, hv'])
    rw [List.reverse_inj.1 this]; exact ⟨rfl, rfl, rfl⟩
  case k21.k21 hk _ _ hk' => rw [hk.uniq hk']; exact ⟨rfl, rfl, rfl⟩

/-- a register's number lies below its size; the size is at most 8 -/
structure RB (p : Int × Int) : Prop where
  n0 : 0 ≤ p.1
  z0 : -1 ≤ p.2
  z8 : p.2 ≤ 8
  lt : p.1 < W64 ^ p.2.toNat
theorem RB.zero : RB (0, 0) := ⟨Int.le_refl _, by decide, by decide, by decide⟩
theorem RB.open_ : RB (0, -1) := ⟨Int.le_refl _, by decide, by decide, by decide⟩
theorem wds_bd (h : km ≤ 480) : wds km ≤ 8 := by unfold wds; omega
theorem wds_lt (h : IsBl V km) : V < W64 ^ wds km := by
  rw [W64_two]
  have h1 := h.lt
  have h2 := pow2_le (show km ≤ 64 * wds km by unfold wds; omega)
  omega
theorem RB.mod {x : Int} (hbl : IsBl V km) (hkm : km ≤ 480) (h0 : 0 ≤ x) (h : x ≤ V) : RB (x, (wds km : Int)) :=
  ⟨h0, by simp only []; omega, by have := wds_bd hkm; simp only []; omega, by have := wds_lt hbl; simp only [Int.toNat_natCast]; omega⟩
theorem w64_le {a b : Nat} (h : a ≤ b) : W64 ^ a ≤ W64 ^ b := by rw [W64_two, W64_two]; exact pow2_le (by omega)

theorem PS.bound {k x s t : Int} (hb : Dg 256 bs) (hV : 1 < V) (hbl : IsBl V km) (hkm : km ≤ 480) (hnum : num < 9223372036854775808) (ho : RB (on, zo)) (ha : RB (an, za)) (hbb : RB (bn, zb)) (h : PS num bs eA eB on zo an za bn zb V km k x s t) : RB (x, s) := by
  have hm : ∀ y : Int, RB (y % V, (wds km : Int)) := fun y => RB.mod hbl hkm (Int.emod_nonneg _ (by omega)) (Int.le_of_lt (Int.emod_lt_of_pos _ (by omega)))
  have hd := dv_nonneg (b := 256) (by decide) (dg_rev hb)
  cases h <;> first
    | exact hm _
    | exact ho
    | exact ha
    | exact RB.open_
    | skip
  case k0ok h _ => exact RB.mod hbl hkm hd (by omega)
  case k2 h =>
    refine ⟨h, (show (-1 : Int) ≤ 1 by decide), (show (1 : Int) ≤ 8 by decide), ?_⟩
    show num < W64 ^ 1
    rw [Int.pow_succ, Int.pow_zero, Int.one_mul]; unfold W64; omega
  case k3 h0 h1 =>
    have h2 := w64_le (show zo.toNat ≤ wds km by omega)
    have h3 := ho.lt
    have h4 := wds_bd hkm
    exact ⟨ho.n0, by simp only []; omega, by simp only []; omega, by simp only [Int.toNat_natCast] at h3 ⊢; omega⟩
  case k11yes h _ _ h0 h1 _ => exact RB.mod hbl hkm h0 (by omega)
  case k12yes h h' _ _ hz h0 hg =>
    have h1 : x ∣ an := ((hg x).1 ⟨Int.dvd_refl _, Int.dvd_zero _⟩).1
    have h2 := ha.n0
    have h3 : x ≤ an := Int.le_of_dvd (by simp only [] at h2; omega) h1
    have h4 := ha.lt
    have h5 := ha.z8
    have h6 := hbb.z8
    simp only [] at h4 h5 h6
    have h7 := w64_le (show za.toNat ≤ (if za < zb then zb else za).toNat by split <;> omega)
    exact ⟨h0, by simp only []; split <;> omega, by simp only []; split <;> omega, by simp only []; omega⟩
  case k13 h h0 h1 =>
    have h2 := ho.n0
    have h3 := Int.ediv_nonneg h2 (Int.le_of_lt (pow2_pos num.toNat))
    have h4 := Int.ediv_le_self (2 ^ num.toNat) h2
    have h5 := ho.lt
    simp only [] at h3 h4 h5
    exact ⟨h3, ho.z0, ho.z8, by simp only []; omega⟩
  case k14 h =>
    have h2 := ho.n0
    have h5 := ho.lt
    simp only [] at h2 h5
    exact ⟨by simp only []; omega, ho.z0, ho.z8, by simp only []; omega⟩
  case k20 => exact RB.mod hbl hkm (by omega) (Int.le_refl _)
end

/-- a step over registers -/
structure Stepd (X : List Bs) (s : Stp) (R R' : List (Int × Int)) (t : Int) : Prop where
  ex : ∃ o a b x km n' z', R[s.o.toNat]? = some o ∧ R[s.a.toNat]? = some a ∧ R[s.b.toNat]? = some b ∧ X[s.m.toNat]? = some x ∧ IsBl (dv 256 x.bs.reverse) km ∧
    PS s.num s.d.bs (s.o = s.a) (s.o = s.b) o.1 o.2 a.1 a.2 b.1 b.2 (dv 256 x.bs.reverse) km s.k n' z' t ∧ R' = R.set s.o.toNat (n', z')
theorem Stepd.det {X : List Bs} {s : Stp} {R R' R'' : List (Int × Int)} {t t' : Int} (h : Stepd X s R R' t) (h' : Stepd X s R R'' t') : R' = R'' ∧ t = t' := by
  obtain ⟨o, a, b, x, km, n', z', h1, h2, h3, h4, h5, h6, rfl⟩ := h.ex
  obtain ⟨o2, a2, b2, x2, km2, n2, z2, k1, k2, k3, k4, k5, k6, rfl⟩ := h'.ex
  rw [h1] at k1; cases k1
  rw [h2] at k2; cases k2
  rw [h3] at k3; cases k3
  rw [h4] at k4; cases k4
  obtain rfl := h5.uniq k5
  obtain ⟨rfl, rfl, rfl⟩ := h6.det k6 rfl
  exact ⟨rfl, rfl⟩

/-- a run: the registers ahead of each step, and what each tells -/
structure RunF (X : List Bs) (c : Nat) (S : List Stp) (Rf : Nat → List (Int × Int)) (tf : Nat → Int) : Prop where
  start : Rf 0 = List.replicate c (0, 0)
  step : ∀ i s, S[i]? = some s → Stepd X s (Rf i) (Rf (i + 1)) (tf i)
theorem RunF.snoc {X : List Bs} {c : Nat} {S : List Stp} {Rf : Nat → List (Int × Int)} {tf : Nat → Int} {s : Stp} {R' : List (Int × Int)} {t : Int} (h : RunF X c S Rf tf) (hs : Stepd X s (Rf S.length) R' t) :
    RunF X c (S ++ [s]) (fun j => if j ≤ S.length then Rf j else R') (fun j => if j < S.length then tf j else t) := by
  refine ⟨by simpa using h.start, fun i u hu => ?_⟩
  rcases Nat.lt_trichotomy i S.length with h1 | h1 | h1
  · rw [List.getElem?_append_left h1] at hu
    simp only [if_pos (show i ≤ S.length by omega), if_pos (show i + 1 ≤ S.length by omega), if_pos h1]
    exact h.step i u hu
  · subst h1
    simp at hu; subst hu
    simp only [Nat.le_refl, if_true, if_neg (show ¬ S.length + 1 ≤ S.length by omega), Nat.lt_irrefl, if_false]
    exact hs
  · rw [List.getElem?_eq_none (by simp; omega)] at hu; cases hu
theorem RunF.take {X : List Bs} {c : Nat} {S : List Stp} {Rf : Nat → List (Int × Int)} {tf : Nat → Int} (h : RunF X c S Rf tf) (n : Nat) : RunF X c (S.take n) Rf tf :=
  ⟨h.start, fun i s hs => h.step i s (by rw [List.getElem?_take] at hs; split at hs; exact hs; cases hs)⟩
theorem RunF.det {X : List Bs} {c : Nat} {S : List Stp} {Rf Rg : Nat → List (Int × Int)} {tf tg : Nat → Int} (h : RunF X c S Rf tf) (h' : RunF X c S Rg tg) : ∀ i, i ≤ S.length → Rf i = Rg i ∧ (i < S.length → tf i = tg i) := by
  intro i
  induction i with
  | zero =>
    intro _
    have e := h.start.trans h'.start.symm
    refine ⟨e, fun h0 => ?_⟩
    obtain ⟨s, hs, _⟩ := list_at h0
    have h1 := h.step 0 s hs
    rw [e] at h1
    exact (h1.det (h'.step 0 s hs)).2
  | succ i ih =>
    intro hi
    obtain ⟨e1, e2⟩ := ih (by omega)
    obtain ⟨s, hs, _⟩ := list_at (show i < S.length by omega)
    have h1 := h.step i s hs
    rw [e1] at h1
    have e := (h1.det (h'.step i s hs)).1
    refine ⟨e, fun h0 => ?_⟩
    obtain ⟨s', hs', _⟩ := list_at h0
    have h1 := h.step (i + 1) s' hs'
    rw [e] at h1
    exact (h1.det (h'.step (i + 1) s' hs')).2
/-- what is known of a modulus -/
theorem ModP.bl {x : Bs} (h : ModP x) (hd : Dg 256 x.bs) {km : Nat} (hk : IsBl (dv 256 x.bs.reverse) km) : km ≤ 480 := by
  have h1 := dv_lt (b := 256) (by decide) (dg_rev hd)
  rw [pow256, List.length_reverse] at h1
  have h2 := pow2_le (show 8 * x.bs.length ≤ 480 by have := h.1; omega)
  rcases Nat.lt_or_ge 480 km with h3 | h3
  · exfalso
    rcases hk.ge with h4 | h4
    · omega
    · have h5 := pow2_le (show 480 ≤ km - 1 by omega)
      omega
  · exact h3
theorem Stepd.bound {X : List Bs} {s : Stp} {R R' : List (Int × Int)} {t : Int} (h : Stepd X s R R' t) (hX : ∀ x ∈ X, ModP x ∧ Dg 256 x.bs) (hs : Dg 256 s.d.bs) (hn : s.num < 9223372036854775808) (hR : ∀ p ∈ R, RB p) : ∀ p ∈ R', RB p := by
  obtain ⟨o, a, b, x, km, n', z', h1, h2, h3, h4, h5, h6, rfl⟩ := h.ex
  have hx := hX x (List.mem_of_getElem? h4)
  intro p hp
  rcases List.mem_or_eq_of_mem_set hp with hp | rfl
  · exact hR p hp
  · exact h6.bound hs hx.1.2 h5 (hx.1.bl hx.2 h5) hn (hR o (List.mem_of_getElem? h1)) (hR a (List.mem_of_getElem? h2)) (hR b (List.mem_of_getElem? h3))
theorem RunF.bound {X : List Bs} {c : Nat} {S : List Stp} {Rf : Nat → List (Int × Int)} {tf : Nat → Int} (h : RunF X c S Rf tf) (hX : ∀ x ∈ X, ModP x ∧ Dg 256 x.bs) (hS : ∀ s ∈ S, Dg 256 s.d.bs ∧ s.num < 9223372036854775808) : ∀ i, i ≤ S.length → (Rf i).length = c ∧ ∀ p ∈ Rf i, RB p := by
  intro i
  induction i with
  | zero => intro _; rw [h.start]; exact ⟨by simp, fun p hp => by rw [List.mem_replicate] at hp; rw [hp.2]; exact RB.zero⟩
  | succ i ih =>
    intro hi
    obtain ⟨e1, e2⟩ := ih (by omega)
    obtain ⟨s, hs, hsm⟩ := list_at (show i < S.length by omega)
    have h1 := h.step i s hs
    refine ⟨?_, h1.bound hX (hS s hsm).1 (hS s hsm).2 e2⟩
    obtain ⟨o, a, b, x, km, n', z', _, _, _, _, _, _, e⟩ := h1.ex
    rw [e]; simpa using e1
end Go.Proofs.YtdnngppofbmpeaaGreatDoor.Bm
namespace Go.Proofs.YtdnngppofbmpeaaGreatDoor.Bm
open Go Go.RowKit

/-- a number lies in no block of another type -/
theorem Num.dropT {L R : Mem} {b T : Nat} {c : Array Value} {fr : Nat × Nat} {v : Value} {V : Int} {ds : List Int} (h : Num (L ++ (b, .cells c T fr) :: R) v V ds) (hT : 3 ≠ T) : Num (L ++ R) v V ds := by
  refine ⟨?_, h.dg, h.val, h.top⟩
  have h1 := h.mem
  cases h1 with
  | nil => exact .nil
  | mk hm h0 hl hs hc =>
    refine .mk ?_ h0 hl hs hc
    rcases List.mem_append.1 hm with h2 | h2
    · exact List.mem_append_left _ h2
    · rcases List.mem_cons.1 h2 with h3 | h3
      · exfalso
        have h4 := congrArg Prod.snd h3
        simp only [row, Obj.cells.injEq] at h4
        exact hT h4.2.1
      · exact List.mem_append_right _ h3

/-- the list of what steps tell: nothing, or a block whose cells behind the list are 0 -/
def TQ (v : Value) (l : List Int) (pre : Mem) : Prop :=
  (v = .slice none 0 0 ∧ l = [] ∧ pre = []) ∨
  ∃ (b : Nat) (full : List Int), v = .slice (some ⟨b, 0, none⟩) l.length full.length ∧ l.length ≤ full.length ∧ full.take l.length = l ∧ pre = [(b, ints full)] ∧ ∀ i, l.length ≤ i → gt full i = 0
theorem TQ.one {v : Value} {l : List Int} {pre : Mem} (h : TQ v l pre) : v.oneCell' = true := by
  rcases h with ⟨rfl, _, _⟩ | ⟨b, full, rfl, _⟩ <;> rfl
theorem TQ.form {v : Value} {l : List Int} {pre : Mem} (h : TQ v l pre) : ∃ A cap, v = .slice A l.length cap := by
  rcases h with ⟨rfl, rfl, _⟩ | ⟨b, full, rfl, _⟩
  · exact ⟨_, _, rfl⟩
  · exact ⟨_, _, rfl⟩
theorem TQ.rds {v : Value} {l : List Int} {pre M : Mem} (h : TQ v l pre) (hs : ∀ p ∈ pre, p ∈ M) : Rds M v (l.map (Value.int .i64)) := by
  rcases h with ⟨rfl, rfl, rfl⟩ | ⟨b, full, rfl, h1, h2, rfl, h3⟩
  · exact ⟨none, 0, rfl, .inl rfl⟩
  · exact ⟨some ⟨b, 0, none⟩, full.length, by simp, .inr ⟨b, full.map (Value.int .i64), 3, rfl, hs _ (by simp [row]), by simpa using h1, by rw [List.length_map, ← List.map_take, h2], by simpa using h1⟩⟩

/-- a number stays where it lies when a cell is written that is 0, with only 0 behind -/
theorem Num.stay {Z : Mem} {b k : Nat} {full : List Int} {x : Int} {v : Value} {V : Int} {ds : List Int} (h : Num ((b, ints full) :: Z) v V ds) (hz : ∀ i, k ≤ i → gt full i = 0) : Num ((b, ints (full.set k x)) :: Z) v V ds := by
  refine ⟨?_, h.dg, h.val, h.top⟩
  have h1 := h.mem
  have ht := h.top
  cases h1 with
  | nil => exact .nil
  | @mk b' o cap full' _ hm h0 hl hs hc =>
    rcases List.mem_cons.1 hm with h3 | h3
    · obtain ⟨rfl, h5⟩ : b' = b ∧ ints full' = ints full := by simpa using h3
      obtain rfl := row_inj h5 rfl
      refine .mk List.mem_cons_self h0 (by simpa using hl) ?_ hc
      have hk : o + ds.length ≤ k := by
        rcases Nat.lt_or_ge k (o + ds.length) with h6 | h6
        · exfalso
          have h7 : gt ds (ds.length - 1) = gt full' (o + (ds.length - 1)) := by rw [← sliceL_gt (k := ds.length) (by omega), hs]
          rw [hz _ (by omega)] at h7
          rcases ht with h8 | h8
          · subst h8; simp at h0
          · exact h8 h7
        · exact h6
      have key : ∀ xs : List Int, sliceL xs o ds.length = (xs.take (o + ds.length)).drop o := by
        intro xs; rw [List.drop_take]; unfold sliceL; congr 1; omega
      rw [key, take_set_le hk, ← key, hs]
    · exact .mk (List.mem_cons_of_mem _ h3) h0 hl hs hc

section
variable {n : Nat} {w0 : World} {K : Exit → Env → Mem → Prop} {E : Env} {dst : Option Nat} {ty : TypeId} {pos : String} {aft : Array Edge} {g : Option (Nat × Bool)}
/-- append of what a step tells -/
theorem EX.appendT {bq : Nat} {x y : Operand} {ats : Array TypeId} {v : Value} {l : List Int} {d : Int} {pre A B : Mem} (hx : ev E x = some v) (hv : TQ v l pre) (hy : ev E y = some (.slice (some ⟨bq, 0, none⟩) 1 1))
    (ha : ats = #[29, 29]) (hm : (bq, .cells #[.int .i64 d] 3 (0, 0)) ∈ A) (hsmall : l.length ≤ 1000) :
    EX n w0 ⟨dst, .call ⟨.builtin .append, #[x, y], ats⟩, ty, pos, aft, g⟩ E (A ++ (pre ++ B)) (fun u M' => ∃ pre' old, M' = pre' ++ (A ++ (old ++ B)) ∧ TQ u (l ++ [d]) pre' ∧ ∀ {v V ds}, Num (A ++ (pre ++ B)) v V ds → Num M' v V ds) := by
  have hpm : Pm (A ++ (pre ++ B)) (pre ++ (A ++ B)) := ⟨List.perm_append_comm_assoc _ _ _⟩
  have toP : ∀ {v V ds}, Num (A ++ (pre ++ B)) v V ds → Num (pre ++ (A ++ B)) v V ds := fun h => h.mono fun p hp => hpm.perm.symm.subset hp
  refine EX.pm hpm ⟨fun a w hr hw K Q hk => ?_⟩
  subst ha
  have e1 := hr.eval hx
  have e2 := hr.eval hy
  have hsrc : w.heap[bq]? = some (.cells [Value.int .i64 d].toArray 3 (0, 0)) := (hw.has (bq, _) (List.mem_append_right _ (List.mem_append_left _ hm))).2
  have hnew := fun d' => firstCells_run (o := 0) (k := 1) (c' := 1) (l := [Value.int .i64 d]) hsrc (Nat.le_refl _) rfl 1 d'
  have fin : ∀ u w', (Builtin.append_ #[29, 29] ty #[v, .slice (some ⟨bq, 0, none⟩) 1 1]).run P w = .ok u w' → ∀ M', (∃ pre' old, M' = pre' ++ (A ++ (old ++ B)) ∧ TQ u (l ++ [d]) pre' ∧ ∀ {v V ds}, Num (A ++ (pre ++ B)) v V ds → Num M' v V ds) → HR w0 M' w' →
      Oper.wp P ⟨dst, .call ⟨.builtin .append, #[x, y], #[29, 29]⟩, ty, pos, aft, g⟩ a w K Q := by
    intro u w' hrun M' hown hw'
    have hr2 : (execOp a.eval ⟨dst, .call ⟨.builtin .append, #[x, y], #[29, 29]⟩, ty, pos, aft, g⟩).run P w = .ok (.value u) w' := by
      simp only [execOp, resolve, invoke, builtin]
      simp only [List.map_toArray, List.map_cons, List.map_nil, e1, e2, Sem.run_bind, Sem.run_pure, Result.andThen_ok, hrun]
    unfold Oper.wp
    rw [hr2, Oper.upon_value]
    exact hk _ M' _ hown hw'
  have ht : sl 29 = some (3, 1) := rfl
  have he : ez 3 = some (.int .i64 0, 8) := rfl
  rcases hv with ⟨rfl, rfl, rfl⟩ | ⟨b, full, rfl, hlc, htk, rfl, hz⟩
  · obtain ⟨q, hq, hrun⟩ := append_grows (ty' := ty) (base := none) (len := 0) (cap := 0) (x := .slice (some ⟨bq, 0, none⟩) 1 1) (m := 1) (old := []) (new := [Value.int .i64 d]) ht ht he (fun w => rfl) (by omega) (by omega) w (fun d => rfl) hnew rfl rfl
    have e : ([] ++ [Value.int .i64 d] ++ List.replicate (q - (0 + 1)) (Value.int .i64 0)) = (d :: List.replicate (q - 1) 0).map (Value.int .i64) := by simp
    rw [e] at hrun
    refine fin _ _ hrun _ ⟨[(w.heap.size, ints (d :: List.replicate (q - 1) 0))], [], rfl, .inr ⟨w.heap.size, d :: List.replicate (q - 1) 0, ?_, ?_, rfl, rfl, fun i hi => ?_⟩, fun h => (toP h).mono fun p hp => List.mem_cons_of_mem _ hp⟩ (hw.drawn.alloc _)
    · simp; omega
    · simp
    · simp only [List.nil_append, List.length_singleton] at hi
      rw [show i = i - 1 + 1 by omega]
      unfold gt
      rw [List.getD_cons_succ, List.getD_eq_getElem?_getD, List.getElem?_replicate]
      split <;> rfl
  · by_cases hle : l.length + 1 ≤ full.length
    · obtain ⟨w', h3, h4, h5⟩ := storeCells_run (b := b) (o := l.length) (T := 3) [Value.int .i64 d] 0 (full.map (Value.int .i64)) w (hw.has (b, ints full) List.mem_cons_self).2 (by simpa using hle) (by intro u hu; simp at hu; subst hu; rfl)
      have hrun : (Builtin.append_ #[29, 29] ty #[.slice (some ⟨b, 0, none⟩) l.length full.length, .slice (some ⟨bq, 0, none⟩) 1 1]).run P w = .ok (.slice (some ⟨b, 0, none⟩) (l.length + 1) full.length) w' := by
        have g1 := (sl_ok ht w).1
        have g2 := (sl_ok ht w).2
        have g4 := hnew w.drawn
        rw [show ({ w with drawn := w.drawn } : World) = w from rfl] at g4
        unfold Builtin.append_
        simp only [List.getElem?_toArray, List.getElem?_cons_zero, List.getElem?_cons_succ, Sem.run_bind, g1, Result.andThen_ok, g2, Sem.run_pure, Bool.false_eq_true, if_false, Builtin.lenOf, hle, if_true, Bool.not_false]
        simp only [g4, Result.andThen_ok, Nat.mul_one, add_addr, Nat.zero_add, h3]
      have e : putL (full.map (Value.int .i64)) (l.length + 0) [Value.int .i64 d] = (full.set l.length d).map (Value.int .i64) := by
        rw [show [Value.int .i64 d] = [d].map (Value.int .i64) from rfl, putL_map, Nat.add_zero]
        refine congrArg (List.map (Value.int .i64)) ?_
        unfold putL
        rw [List.set_eq_take_append_cons_drop, if_pos (by omega)]
        simp
      rw [e] at h4
      refine fin _ w' hrun ((b, ints (full.set l.length d)) :: (A ++ B)) ⟨[(b, ints (full.set l.length d))], [], rfl, .inr ⟨b, full.set l.length d, by simp, by rw [List.length_append, List.length_set]; exact hle, ?_, rfl, fun i hi => ?_⟩, fun h => Num.stay (b := b) (k := l.length) (x := d) (full := full) (Z := A ++ B) (toP h) hz⟩ (hw.but List.mem_cons_self .here h5 h4)
      · rw [List.length_append, List.length_singleton, List.take_succ_eq_append_getElem (by rw [List.length_set]; omega)]
        rw [take_set_le (Nat.le_refl _), htk]
        simp
      · simp only [List.length_append, List.length_singleton] at hi
        rw [gt_set_ne (by omega)]
        exact hz i (by omega)
    · have hfl : full.length = l.length := by omega
      have hold := fun d' => firstCells_run (o := 0) (c' := full.length) (hw.has (b, ints full) List.mem_cons_self).2 (by simpa using hlc) (show sliceL (full.map (Value.int .i64)) 0 l.length = l.map (Value.int .i64) by simp only [sliceL, List.drop_zero]; rw [← List.map_take, htk]) l.length d'
      obtain ⟨q, hq, hrun⟩ := append_grows (ty' := ty) (base := some ⟨b, 0, none⟩) (len := l.length) (cap := full.length) (x := .slice (some ⟨bq, 0, none⟩) 1 1) (m := 1) (old := l.map (Value.int .i64)) (new := [Value.int .i64 d]) ht ht he (fun w => rfl) (by omega) (by omega) w hold hnew (by simp) rfl
      have e : (l.map (Value.int .i64) ++ [Value.int .i64 d] ++ List.replicate (q - (l.length + 1)) (Value.int .i64 0)) = (l ++ [d] ++ List.replicate (q - (l.length + 1)) 0).map (Value.int .i64) := by simp
      rw [e] at hrun
      refine fin _ _ hrun ((w.heap.size, ints (l ++ [d] ++ List.replicate (q - (l.length + 1)) 0)) :: (A ++ ([(b, ints full)] ++ B))) ⟨[(w.heap.size, ints (l ++ [d] ++ List.replicate (q - (l.length + 1)) 0))], [(b, ints full)], rfl, .inr ⟨w.heap.size, l ++ [d] ++ List.replicate (q - (l.length + 1)) 0, ?_, ?_, ?_, rfl, fun i hi => ?_⟩, fun h => h.mono fun p hp => List.mem_cons_of_mem _ hp⟩ ?_
      · simp; omega
      · simp
      · rw [List.take_append_of_le_length (Nat.le_refl _), List.take_length]
      · unfold gt
        rw [List.getD_eq_getElem?_getD, List.getElem?_append_right hi, List.getElem?_replicate]
        split <;> rfl
      · exact (hw.drawn.alloc _).perm ((List.perm_append_comm_assoc A [(b, ints full)] B).cons _)
end
end Go.Proofs.YtdnngppofbmpeaaGreatDoor.Bm
