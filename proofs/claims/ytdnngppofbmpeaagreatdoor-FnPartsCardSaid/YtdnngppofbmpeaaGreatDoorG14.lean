/- Proved here: the plain laws of halving in the loop of extendedGCD, and on common divisors; what Add does without a bound, and how extendedGCD begins. Conditions: none but those that each theorem states. -/
import Derived.Test.YtdnngppofbmpeaaGreatDoorG13
namespace Go.Proofs.YtdnngppofbmpeaaGreatDoor.Bm
open Go Go.RowKit

theorem par {A a B m : Int} (h : (A * a - B * m) % 2 = 0) (hp : A % 2 = 1 ∨ B % 2 = 1) (ho : a % 2 = 1 ∨ m % 2 = 1) : (A + m) % 2 = 0 ∧ (B + a) % 2 = 0 := by
  have h1 := Int.mul_emod A a 2
  have h2 := Int.mul_emod B m 2
  rcases Int.emod_two_eq A with e1 | e1 <;> rcases Int.emod_two_eq a with e2 | e2 <;> rcases Int.emod_two_eq B with e3 | e3 <;> rcases Int.emod_two_eq m with e4 | e4 <;>
    rw [e1, e2] at h1 <;> rw [e3, e4] at h2 <;> simp at h1 h2 <;> omega
theorem even_of_mul {u t : Int} (hu : u % 2 = 1) (h : (u * t) % 2 = 0) : t % 2 = 0 := by
  have h1 := Int.mul_emod u t 2
  rcases Int.emod_two_eq t with e | e
  · exact e
  · rw [hu, e] at h1; simp at h1; omega

section
variable {a m u v A B C D : Int}
theorem GM.halfU (h : GM a m u v A B C D) (ho : a % 2 = 1 ∨ m % 2 = 1) (hu2 : u % 2 = 0) : GM a m (u / 2) v (hv (A % 2 = 1 ∨ B % 2 = 1) A m) (hv (A % 2 = 1 ∨ B % 2 = 1) B a) C D := by
  cases h with
  | final hu ho' hd hA0 hA hB0 hB hC0 hC hD0 hD => omega
  | exact hu hv' hA0 hA hB0 hB hC0 hC hD0 hD hk =>
    have hk' : v < a ∨ ∃ k : Nat, a = 2 ^ k * (u / 2) := by
      rcases hk with h | ⟨k, h⟩
      · exact .inl h
      · exact .inr ⟨k + 1, by rw [h, pow2_succ, Int.mul_assoc, Int.mul_comm 2, Int.mul_assoc, Int.mul_comm (u / 2)]; congr 1; omega⟩
    unfold hv
    by_cases hp : A % 2 = 1 ∨ B % 2 = 1
    · rw [if_pos hp, if_pos hp]
      obtain ⟨h1, h2⟩ := par (by rw [← hu]; exact hu2) hp ho
      refine .exact ?_ hv' (by omega) (by omega) (by omega) (by omega) hC0 hC hD0 hD hk'
      obtain ⟨x, hx⟩ : ∃ x, A + m = 2 * x := ⟨(A + m) / 2, by omega⟩
      obtain ⟨y, hy⟩ : ∃ y, B + a = 2 * y := ⟨(B + a) / 2, by omega⟩
      rw [hx, hy, Int.mul_ediv_cancel_left _ (by omega), Int.mul_ediv_cancel_left _ (by omega)]
      have : 2 * (x * a - y * m) = u := by
        have e1 : A = 2 * x - m := by omega
        have e2 : B = 2 * y - a := by omega
        rw [hu, e1, e2]; grind
      omega
    · rw [if_neg hp, if_neg hp]
      refine .exact ?_ hv' (by omega) (by omega) (by omega) (by omega) hC0 hC hD0 hD hk'
      obtain ⟨x, hx⟩ : ∃ x, A = 2 * x := ⟨A / 2, by omega⟩
      obtain ⟨y, hy⟩ : ∃ y, B = 2 * y := ⟨B / 2, by omega⟩
      rw [hx, hy, Int.mul_ediv_cancel_left _ (by omega), Int.mul_ediv_cancel_left _ (by omega)]
      have : 2 * (x * a - y * m) = u := by rw [hu, hx, hy]; grind
      omega

theorem GM.halfV (h : GM a m u v A B C D) (ho : a % 2 = 1 ∨ m % 2 = 1) (hv2 : v % 2 = 0) (hv0 : 0 ≤ v) : GM a m u (v / 2) A B (hv (C % 2 = 1 ∨ D % 2 = 1) C m) (hv (C % 2 = 1 ∨ D % 2 = 1) D a) := by
  cases h with
  | final hu ho' hd hA0 hA hB0 hB hC0 hC hD0 hD =>
    obtain ⟨t, ht⟩ := hd
    have ht2 : t % 2 = 0 := even_of_mul ho' (by rw [← ht]; exact hv2)
    refine .final hu ho' ⟨t / 2, ?_⟩ hA0 hA hB0 hB ?_ ?_ ?_ ?_
    · obtain ⟨s, hs⟩ : ∃ s, t = 2 * s := ⟨t / 2, by omega⟩
      rw [ht, hs, Int.mul_ediv_cancel_left _ (by omega), Int.mul_left_comm, Int.mul_ediv_cancel_left _ (by omega)]
    all_goals (unfold hv; split <;> omega)
  | exact hu hv' hA0 hA hB0 hB hC0 hC hD0 hD hk =>
    have hk' : v / 2 < a ∨ ∃ k : Nat, a = 2 ^ k * u := hk.imp (fun h => by omega) id
    unfold hv
    by_cases hp : C % 2 = 1 ∨ D % 2 = 1
    · rw [if_pos hp, if_pos hp]
      obtain ⟨h1, h2⟩ := par (A := D) (a := m) (B := C) (m := a) (by rw [← hv']; exact hv2) hp.symm ho.symm
      refine .exact hu ?_ hA0 hA hB0 hB (by omega) (by omega) (by omega) (by omega) hk'
      obtain ⟨x, hx⟩ : ∃ x, C + m = 2 * x := ⟨(C + m) / 2, by omega⟩
      obtain ⟨y, hy⟩ : ∃ y, D + a = 2 * y := ⟨(D + a) / 2, by omega⟩
      rw [hx, hy, Int.mul_ediv_cancel_left _ (by omega), Int.mul_ediv_cancel_left _ (by omega)]
      have : 2 * (y * m - x * a) = v := by
        have e1 : C = 2 * x - m := by omega
        have e2 : D = 2 * y - a := by omega
        rw [hv', e1, e2]; grind
      omega
    · rw [if_neg hp, if_neg hp]
      refine .exact hu ?_ hA0 hA hB0 hB (by omega) (by omega) (by omega) (by omega) hk'
      obtain ⟨x, hx⟩ : ∃ x, C = 2 * x := ⟨C / 2, by omega⟩
      obtain ⟨y, hy⟩ : ∃ y, D = 2 * y := ⟨D / 2, by omega⟩
      rw [hx, hy, Int.mul_ediv_cancel_left _ (by omega), Int.mul_ediv_cancel_left _ (by omega)]
      have : 2 * (y * m - x * a) = v := by rw [hv', hx, hy]; grind
      omega

theorem GM.start (ha : 0 < a) (ham : a < m) : GM a m a m 1 0 0 1 :=
  .exact (by omega) (by omega) (by omega) (by omega) (by omega) (by omega) (by omega) (by omega) (by omega) (by omega) (.inr ⟨0, by simp⟩)
theorem GM.out (h : GM a m u v A B C D) : u = A * a - B * m ∧ 0 ≤ A ∧ A < m := by
  cases h with
  | exact hu hv hA0 hA hB0 hB hC0 hC hD0 hD hk => exact ⟨hu, hA0, hA⟩
  | final hu ho hd hA0 hA hB0 hB hC0 hC hD0 hD => exact ⟨hu, hA0, hA⟩
end

/-- the common divisors of u and v are those of a and m -/
def Cd (a m u v : Int) : Prop := ∀ d : Int, (d ∣ u ∧ d ∣ v) ↔ (d ∣ a ∧ d ∣ m)
theorem Cd.refl {a m : Int} : Cd a m a m := fun _ => Iff.rfl
theorem Cd.subU {a m u v : Int} (h : Cd a m u v) : Cd a m (u - v) v := fun d => by
  rw [← h d]
  exact ⟨fun ⟨h1, h2⟩ => ⟨by have := Int.dvd_add h1 h2; rwa [Int.sub_add_cancel] at this, h2⟩, fun ⟨h1, h2⟩ => ⟨Int.dvd_sub h1 h2, h2⟩⟩
theorem Cd.symm {a m u v : Int} (h : Cd a m u v) : Cd a m v u := fun d => by rw [← h d]; exact ⟨fun ⟨h1, h2⟩ => ⟨h2, h1⟩, fun ⟨h1, h2⟩ => ⟨h2, h1⟩⟩
theorem Cd.halfU {a m u v : Int} (h : Cd a m u v) (hu : u % 2 = 0) (hv : v % 2 = 1) : Cd a m (u / 2) v := by
  intro d
  rw [← h d]
  obtain ⟨w, hw⟩ : ∃ w, u = 2 * w := ⟨u / 2, by omega⟩
  rw [hw, Int.mul_ediv_cancel_left _ (by omega)]
  refine ⟨fun ⟨h1, h2⟩ => ⟨Int.dvd_mul_of_dvd_right h1, h2⟩, fun ⟨⟨s, hs⟩, h2⟩ => ⟨?_, h2⟩⟩
  obtain ⟨t, ht⟩ := h2
  have hd : d % 2 = 1 := by
    rcases Int.emod_two_eq d with e | e
    · have h1 := Int.mul_emod d t 2
      rw [e] at h1; simp at h1; omega
    · exact e
  obtain ⟨e, he⟩ : ∃ e, d = 2 * e + 1 := ⟨d / 2, by omega⟩
  refine ⟨w - e * s, ?_⟩
  have h3 : s = 2 * (w - e * s) := by subst he; grind
  have h5 : d * s = d * (2 * (w - e * s)) := congrArg (d * ·) h3
  have h4 : 2 * w = 2 * (d * (w - e * s)) := by rw [hs, h5]; grind
  omega
end Go.Proofs.YtdnngppofbmpeaaGreatDoor.Bm
namespace Go.Proofs.YtdnngppofbmpeaaGreatDoor.Bm
open Go Go.RowKit

theorem KR.three {n : Nat} {w0 : World} {E : Env} {M : Mem} {fn : Func} {R : Value → Mem → Prop} {t t' t'' : Nat} {v v' v'' : Value} {e : Exit} (he : e = .ret ∨ e = .normal) (hr : fn.results = #[.tmp t, .tmp t', .tmp t'']) (hv : E.at? t = some v) (hv' : E.at? t' = some v') (hv'' : E.at? t'' = some v'')
    (h : R (.tuple #[v, v', v'']) M) : KR n w0 fn R e E M :=
  ⟨he, _, fun a w ha _ => by
    have : (results fn a.tmps).run P w = .ok (.tuple #[a.tmps.getD t undef, a.tmps.getD t' undef, a.tmps.getD t'' undef]) w := by simp [results, hr]
    rw [this]; simp [ha.at_ t v hv, ha.at_ t' v' hv', ha.at_ t'' v'' hv''], h⟩

section
variable {w0 : World} {M : Mem}
theorem isOddN {p l n c : Nat} {X : Int} {xs : List Int} (hx : NV n c X xs) (hp : (p, natO l n c) ∈ M) (hl : (l, words xs) ∈ M) : CS w0 53 [ptr p] M (fun u M' => u = .int .u64 (X % 2) ∧ M' = M) := by
  obtain ⟨h1, h2, h3, h4, rfl⟩ := hx
  subst h1
  exact isOdd hp hl h2 h3 h4
theorem isZeroN {p l n c : Nat} {X : Int} {xs : List Int} (hx : NV n c X xs) (hp : (p, natO l n c) ∈ M) (hl : (l, words xs) ∈ M) : CS w0 51 [ptr p] M (fun u M' => u = .int .u64 (b1 (X = 0)) ∧ M' = M) := by
  obtain ⟨h1, h2, h3, h4, rfl⟩ := hx
  subst h1
  exact isZero hp hl h2 h3 h4
theorem isOneN {p l n c : Nat} {X : Int} {xs : List Int} (hx : NV n c X xs) (hp : (p, natO l n c) ∈ M) (hl : (l, words xs) ∈ M) : CS w0 52 [ptr p] M (fun u M' => u = .int .u64 (b1 (X = 1)) ∧ M' = M) := by
  obtain ⟨h1, h2, h3, h4, rfl⟩ := hx
  subst h1
  exact isOne hp hl h2 h3 h4

/-- maybeSubtractModulus, whatever the number is -/
theorem maybeSubA {p l n c q pm lm cm : Nat} {odd : Bool} {m0 X V k : Int} {rv : Value} {xs ms : List Int} (hk : bt k) (hx : NV n c X xs) (hn : n ≤ 32) (hM : MdR M q pm lm n cm odd m0 rv ms V) :
    CS w0 85 [ptr p, .int .u64 k, ptr q] ((p, natO l n c) :: (l, words xs) :: M)
      (fun u M' => ∃ zs Z, u = .tuple #[] ∧ NV n c Z zs ∧ (X + W64 ^ n * k < 2 * V → Z = if X + W64 ^ n * k < V then X + W64 ^ n * k else X + W64 ^ n * k - V) ∧ M' = (p, natO l n c) :: (l, words zs) :: M) := by
  by_cases hlt : X + W64 ^ n * k < 2 * V
  · refine CS.post (maybeSub hk hx hn hM hlt) ?_
    rintro v M' ⟨zs, h1, h2, h3⟩
    exact ⟨M', List.Sublist.refl _, zs, _, h1, h2, fun _ => rfl, h3⟩
  refine CS.post (R := fun u M' => ∃ zs Z a b, u = .tuple #[] ∧ NV n c Z zs ∧ M' = (p, natO l n c) :: (l, words zs) :: a :: b :: M) ?_
    (fun v M' ⟨zs, Z, a, b, h1, h2, h3⟩ => ⟨(p, natO l n c) :: (l, words zs) :: M, h3 ▸ .cons_cons _ (.cons_cons _ (.cons _ (.cons _ (List.Sublist.refl _)))), zs, Z, h1, h2, fun h => absurd h hlt, rfl⟩)
  obtain ⟨hq, hp, hl, hv⟩ := hM
  refine CS.of Tryz.func85 Tryz.ntmps85 rfl rfl (WC.seq (WC.region (WL.callR newNat rfl (fun _ => by kernel_rfl) rfl ?_)))
  rintro _ _ ⟨pt, lt, rfl, rfl⟩
  refine WL.q (LX.move rfl) rfl ?_
  refine WL.callR (nset (by simp) (by omega) hn (by omega) (Dg.replicate W64_pos 32) hx (by repeat first | assumption | exact List.mem_cons_self | refine List.mem_cons_of_mem _ ?_) (by repeat first | assumption | exact List.mem_cons_self | refine List.mem_cons_of_mem _ ?_)) rfl (fun _ => by kernel_rfl) rfl ?_
  rintro _ _ ⟨zs, rfl, hz, rfl⟩
  refine WL.q (LX.assign rfl) rfl (WL.nil (thenK_normal (WC.seq (WC.region (WL.q (LX.move rfl) rfl (WL.q (LX.move rfl) rfl (WL.q (LX.nilCheck rfl) rfl (WL.q (LX.field0 rfl rfl) rfl ?_))))))))
  refine WL.q (LX.load rfl rfl (by repeat first | assumption | exact List.mem_cons_self | refine List.mem_cons_of_mem _ ?_) rfl) rfl ?_
  refine WL.callR (nsub hz hv (by repeat first | assumption | exact List.mem_cons_self | refine List.mem_cons_of_mem _ ?_) (by repeat first | assumption | exact List.mem_cons_self | refine List.mem_cons_of_mem _ ?_)) rfl (fun _ => by kernel_rfl) rfl ?_
  rintro _ _ ⟨ts, b, Z, hb, rfl, ht, hZ, rfl⟩
  refine WL.q (LX.assign rfl) rfl (WL.nil (thenK_normal (WC.seq (WC.region (WL.q (LX.move rfl) rfl (WL.call (bnot hb) rfl (fun _ => by kernel_rfl) rfl (WL.q (LX.move rfl) rfl (WL.q (LX.eq (LX.bin rfl rfl rfl) (by rw [or_bt (show bt (1 - b) by rcases hb with rfl | rfl <;> simp [bt]) hk])) rfl ?_))))))))
  refine WL.q (LX.assign rfl) rfl (WL.nil (thenK_normal (WC.region (WL.q (LX.move rfl) rfl (WL.q (LX.move rfl) rfl (WL.q (LX.move rfl) rfl ?_))))))
  refine WL.callR (CS.pm (by repeat first | exact Pm.done | (apply Pm.step; repeat first | exact Rem.here | apply Rem.there)) (nassign (b1_bt _) hx ht (by repeat first | assumption | exact List.mem_cons_self | refine List.mem_cons_of_mem _ ?_) (by repeat first | assumption | exact List.mem_cons_self | refine List.mem_cons_of_mem _ ?_))) rfl (fun _ => by kernel_rfl) rfl ?_
  rintro _ _ ⟨us, rfl, hu, rfl⟩
  refine WL.nil ?_
  exact KR.none (.inr rfl) rfl ⟨us, _, _, _, rfl, hu, rfl⟩

/-- Add, whatever the numbers are -/
theorem nAddA {p l py ly n c cy q pm lm cm : Nat} {odd : Bool} {m0 X Y V : Int} {rv : Value} {xs ys ms : List Int} (hn : n ≤ 32) (hx : NV n c X xs) (hy : NV n cy Y ys) (hpy : (py, natO ly n cy) ∈ M) (hly : (ly, words ys) ∈ M) (hM : MdR M q pm lm n cm odd m0 rv ms V) :
    CS w0 39 [ptr p, ptr py, ptr q] ((p, natO l n c) :: (l, words xs) :: M)
      (fun u M' => ∃ zs Z, u = ptr p ∧ NV n c Z zs ∧ (X + Y < 2 * V → Z = ad X Y V) ∧ M' = (p, natO l n c) :: (l, words zs) :: M) := by
  refine CS.of Tryz.func39 Tryz.ntmps39 rfl rfl (WC.seq (WC.region (WL.q (LX.assign rfl) rfl (WL.nil (thenK_normal (WC.seq (WC.region (WL.q (LX.move rfl) rfl (WL.q (LX.move rfl) rfl (WL.callR (nadd hx hy hpy hly) rfl (fun _ => by kernel_rfl) rfl ?_))))))))))
  rintro _ _ ⟨zs, k, Z, hk, rfl, hz, hZ, rfl⟩
  refine WL.q (LX.assign rfl) rfl (WL.nil (thenK_normal (WC.seq (WC.region (WL.q (LX.move rfl) rfl (WL.q (LX.move rfl) rfl (WL.q (LX.move rfl) rfl (WL.callR (maybeSubA hk hz hn hM) rfl (fun _ => by kernel_rfl) rfl ?_))))))))
  rintro _ _ ⟨us, U, rfl, hu, hU, rfl⟩
  refine WL.nil (thenK_normal (WC.seq (WC.region (WL.q (LX.move rfl) rfl (WL.q (LX.assign rfl) rfl (WL.nil (thenK_normal (WC.ret ?_))))))))
  rw [hZ] at hU
  exact KR.one (.inl rfl) rfl rfl ⟨us, U, rfl, hu, hU, rfl⟩

/-- x added to y, the sum halved: as extendedGCD does it, for numbers of one size -/
theorem half_of {Z k X Y : Int} {n : Nat} (h : Z + W64 ^ n * k = X + Y) : (Z + W64 ^ n * k) / 2 = (X + Y) / 2 := by rw [h]

/-- extendedGCD of 0: an error -/
theorem extGCDzero {pa la na ca pm lm n cm : Nat} {a m : Int} {xa xm : List Int} (hA : NV na ca a xa) (hM : NV n cm m xm) (h0 : a = 0 ∨ m = 0) (hpa : (pa, natO la na ca) ∈ M) (hla : (la, words xa) ∈ M) (hpm : (pm, natO lm n cm) ∈ M) (hlm : (lm, words xm) ∈ M) :
    CS w0 99 [ptr pa, ptr pm] M (fun u M' => (∃ b, u = .tuple #[.pointer none, .pointer none, .iface 137 (ptr b)]) ∧ M' = M) := by
  refine CS.of Tryz.func99 Tryz.ntmps99 rfl rfl (WC.seq (WC.region (WL.q (LX.assign rfl) rfl (WL.q (LX.assign rfl) rfl (WL.q (LX.assign rfl) rfl (WL.nil (thenK_normal (WC.seq (WC.seq (WC.region (WL.q (LX.move rfl) rfl (WL.call (isZeroN hA hpa hla) rfl (fun _ => by kernel_rfl) rfl ?_))))))))))))
  by_cases ha : a = 0
  · rw [b1_is ha]
    refine WL.q (LX.bin rfl rfl rfl) rfl (WL.q (LX.move rfl) rfl (WL.no rfl rfl (by decide) rfl (WL.no rfl rfl (by decide) rfl (WL.no rfl rfl (by decide) rfl (WL.q (LX.pickT rfl rfl) rfl (WL.nil (thenK_normal (WC.yes rfl (WC.seq (WC.region (WL.callR errNew rfl (fun _ => by kernel_rfl) rfl ?_)))))))))))
    rintro _ _ ⟨⟨b, rfl⟩, rfl⟩
    refine WL.q (LX.assign rfl) rfl (WL.q (LX.assign rfl) rfl (WL.q (LX.assign rfl) rfl (WL.nil (thenK_normal (WC.ret (thenK_ret ?_))))))
    exact KR.three (.inl rfl) rfl rfl rfl rfl ⟨⟨b, rfl⟩, rfl⟩
  · rw [b1_not ha]
    refine WL.q (LX.bin rfl rfl rfl) rfl (WL.q (LX.move rfl) rfl (WL.yes rfl rfl (WL.q (LX.move rfl) rfl (WL.yes rfl rfl (WL.callR (isZeroN hM hpm hlm) rfl (fun _ => by kernel_rfl) rfl ?_)))))
    rintro _ _ ⟨rfl, rfl⟩
    rw [b1_is (show m = 0 by omega)]
    refine WL.yes rfl rfl (WL.q (LX.bin rfl rfl rfl) rfl (WL.q (LX.pickF rfl rfl) rfl (WL.nil (thenK_normal (WC.yes rfl (WC.seq (WC.region (WL.callR errNew rfl (fun _ => by kernel_rfl) rfl ?_))))))))
    rintro _ _ ⟨⟨b, rfl⟩, rfl⟩
    refine WL.q (LX.assign rfl) rfl (WL.q (LX.assign rfl) rfl (WL.q (LX.assign rfl) rfl (WL.nil (thenK_normal (WC.ret (thenK_ret ?_))))))
    exact KR.three (.inl rfl) rfl rfl rfl rfl ⟨⟨b, rfl⟩, rfl⟩

/-- extendedGCD of two even numbers: an error -/
theorem extGCDeven {pa la na ca pm lm n cm : Nat} {a m : Int} {xa xm : List Int} (hA : NV na ca a xa) (hM : NV n cm m xm) (ha0 : a ≠ 0) (hm0 : m ≠ 0) (he : a % 2 = 0 ∧ m % 2 = 0) (hpa : (pa, natO la na ca) ∈ M) (hla : (la, words xa) ∈ M) (hpm : (pm, natO lm n cm) ∈ M) (hlm : (lm, words xm) ∈ M) :
    CS w0 99 [ptr pa, ptr pm] M (fun u M' => (∃ b, u = .tuple #[.pointer none, .pointer none, .iface 137 (ptr b)]) ∧ M' = M) := by
  refine CS.of Tryz.func99 Tryz.ntmps99 rfl rfl (WC.seq (WC.region (WL.q (LX.assign rfl) rfl (WL.q (LX.assign rfl) rfl (WL.q (LX.assign rfl) rfl (WL.nil (thenK_normal (WC.seq (WC.seq (WC.region (WL.q (LX.move rfl) rfl (WL.call (isZeroN hA hpa hla) rfl (fun _ => by kernel_rfl) rfl ?_))))))))))))
  rw [b1_not ha0]
  refine WL.q (LX.bin rfl rfl rfl) rfl (WL.q (LX.move rfl) rfl (WL.yes rfl rfl (WL.q (LX.move rfl) rfl (WL.yes rfl rfl (WL.callR (isZeroN hM hpm hlm) rfl (fun _ => by kernel_rfl) rfl ?_)))))
  rintro _ _ ⟨rfl, rfl⟩
  rw [b1_not hm0]
  refine WL.yes rfl rfl (WL.q (LX.bin rfl rfl rfl) rfl (WL.q (LX.pickF rfl rfl) rfl (WL.nil (thenK_normal (WC.no rfl (WC.skip (thenK_normal (WC.seq (WC.seq (WC.region (WL.q (LX.move rfl) rfl (WL.call (isOddN hA hpa hla) rfl (fun _ => by kernel_rfl) rfl ?_))))))))))))
  rw [he.1]
  refine WL.q (LX.bin rfl rfl rfl) rfl (WL.q (LX.move rfl) rfl (WL.yes rfl rfl (WL.q (LX.move rfl) rfl (WL.yes rfl rfl (WL.callR (isOddN hM hpm hlm) rfl (fun _ => by kernel_rfl) rfl ?_)))))
  rintro _ _ ⟨rfl, rfl⟩
  rw [he.2]
  refine WL.yes rfl rfl (WL.q (LX.bin rfl rfl rfl) rfl (WL.q (LX.pickT rfl rfl) rfl (WL.nil (thenK_normal (WC.yes rfl (WC.seq (WC.region (WL.callR errNew rfl (fun _ => by kernel_rfl) rfl ?_))))))))
  rintro _ _ ⟨⟨b, rfl⟩, rfl⟩
  refine WL.q (LX.assign rfl) rfl (WL.q (LX.assign rfl) rfl (WL.q (LX.assign rfl) rfl (WL.nil (thenK_normal (WC.ret (thenK_ret ?_))))))
  exact KR.three (.inl rfl) rfl rfl rfl rfl ⟨⟨b, rfl⟩, rfl⟩
end
end Go.Proofs.YtdnngppofbmpeaaGreatDoor.Bm
