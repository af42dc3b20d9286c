/- Proved here: what newModulus and NewModulus do at an odd number above 1, and what a modulus is; what shiftIn does; what Mod does. Conditions: none but those that each theorem states. -/
import Derived.Test.YtdnngppofbmpeaaGreatDoorG10
namespace Go.Proofs.YtdnngppofbmpeaaGreatDoor.Bm
open Go Go.RowKit

/-- a modulus as NewModulus makes it -/
structure ModX (M : Mem) (q n : Nat) (V : Int) : Prop where
  V1 : 1 < V
  n0 : 0 < n
  n8 : n ≤ 8
  norm : W64 ^ (n - 1) ≤ V
  kind : (V % 2 = 0 ∧ ∃ pm lm ms, MdR M q pm lm n 32 false 0 (.pointer none) ms V) ∨ (∃ pm lm pr lr m0 ms rs RR, MdX M q pm lm pr lr n m0 ms rs V RR)
theorem ModX.mono {M N : Mem} {q n : Nat} {V : Int} (h : ModX M q n V) (hs : ∀ p ∈ M, p ∈ N) : ModX N q n V :=
  ⟨h.V1, h.n0, h.n8, h.norm, h.kind.imp (fun ⟨h1, pm, lm, ms, h2⟩ => ⟨h1, pm, lm, ms, h2.mono hs⟩) (fun ⟨pm, lm, pr, lr, m0, ms, rs, RR, h⟩ => ⟨pm, lm, pr, lr, m0, ms, rs, RR, h.mono hs⟩)⟩
theorem ModX.r {M : Mem} {q n : Nat} {V : Int} (h : ModX M q n V) : ∃ pm lm odd m0 rv ms, MdR M q pm lm n 32 odd m0 rv ms V := by
  rcases h.kind with ⟨_, pm, lm, ms, h⟩ | ⟨pm, lm, pr, lr, m0, ms, rs, RR, h⟩
  · exact ⟨_, _, _, _, _, _, h⟩
  · exact ⟨_, _, _, _, _, _, h.o.r⟩

theorem norm_top {n c : Nat} {V : Int} {xs : List Int} (h : NV n c V xs) (h0 : 0 < n) (ht : gt xs (n - 1) ≠ 0) : W64 ^ (n - 1) ≤ V := by
  have h1 := h.len; have h2 := h.le
  have e := dv_take_gt W64 (xs := xs) (i := n - 1) (by omega)
  rw [show n - 1 + 1 = n by omega, h.val] at e
  have h3 := dv_nonneg W64_pos (h.dg.take (n - 1))
  have h4 := (dg_gt h.dg (n - 1)).1
  have h5 : W64 ^ (n - 1) * 1 ≤ W64 ^ (n - 1) * gt xs (n - 1) := Int.mul_le_mul_of_nonneg_left (by omega) (Int.le_of_lt (pow_pos W64_pos _))
  omega
theorem norm_le {n : Nat} {V : Int} (h : W64 ^ (n - 1) ≤ V) (hV : V < 2 ^ 512) : n ≤ 8 := by
  rcases Nat.lt_or_ge 8 n with h1 | h1
  · rw [W64_two] at h
    have := pow2_le (show 512 ≤ 64 * (n - 1) by omega)
    omega
  · exact h1

section
variable {w0 : World} {M : Mem}
/-- newModulus of an odd number -/
theorem newModulusOdd {p l n : Nat} {V : Int} {xs : List Int} (hp : (p, natO l n 32) ∈ M) (hl : (l, words xs) ∈ M) (hx : NV n 32 V xs) (h0 : 0 < n) (hn8 : n ≤ 8) (hnorm : W64 ^ (n - 1) ≤ V) (h1 : 1 < V) (h2 : V % 2 = 1) :
    CS w0 32 [ptr p] M (fun u M' => ∃ q pr lr m0 rs RR N, u = .tuple #[ptr q, .nilIface] ∧ M' = N ++ M ∧ MdX M' q p l pr lr n m0 xs rs V RR) := by
  have hxl := hx.len
  have hxd := hx.dg
  have hxv := hx.val
  have hp32 : (p, natO l n xs.length) ∈ M := by rw [hxl]; exact hp
  refine CS.of Tryz.func32 Tryz.ntmps32 rfl rfl (WC.seq (WC.region (WL.q (LX.assign rfl) rfl (WL.q (LX.assign rfl) rfl (WL.nil (thenK_normal (WC.seq (WC.region (WL.q (LX.move rfl) rfl (WL.q (LX.build (v := .agg #[ptr p, .bool false, .int .u64 0, .pointer none]) rfl (fun _ => by kernel_rfl)) rfl ?_))))))))))
  
  refine WL.step rfl (EX.box rfl) ?_
  rintro _ _ ⟨q, rfl, rfl⟩
  refine WL.q (LX.assign rfl) rfl (WL.nil (thenK_normal (WC.seq (WC.seq (WC.region (WL.q (LX.move rfl) rfl (WL.q (LX.nilCheck rfl) rfl (WL.q (LX.field0 rfl rfl) rfl ?_))))))))
  refine WL.q (LX.load rfl rfl (by repeat first | assumption | exact List.mem_cons_self | refine List.mem_cons_of_mem _ ?_) rfl) rfl ?_
  have hp' := List.mem_cons_of_mem (q, Obj.cells (Value.agg #[ptr p, .bool false, .int .u64 0, .pointer none]).cells 117 (0, 0)) hp32
  have hl' := List.mem_cons_of_mem (q, Obj.cells (Value.agg #[ptr p, .bool false, .int .u64 0, .pointer none]).cells 117 (0, 0)) hl
  refine WL.call (isZero hp' hl' (by omega) (by omega) hxd) rfl (fun _ => by kernel_rfl) rfl ?_
  rw [hxv, b1_not (show ¬ V = 0 by omega)]
  refine WL.q (LX.bin rfl rfl rfl) rfl (WL.q (LX.move rfl) rfl (WL.yes rfl rfl (WL.q (LX.move rfl) rfl (WL.yes rfl rfl (WL.q (LX.nilCheck rfl) rfl (WL.yes rfl rfl (WL.q (LX.field0 rfl rfl) rfl (WL.yes rfl rfl ?_))))))))
  refine WL.q (LX.load rfl rfl (by repeat first | assumption | exact List.mem_cons_self | refine List.mem_cons_of_mem _ ?_) rfl) rfl ?_
  refine WL.yes rfl rfl (WL.callR (isOne hp' hl' (by omega) (by omega) hxd) rfl (fun _ => by kernel_rfl) rfl ?_)
  rintro _ _ ⟨rfl, rfl⟩
  rw [hxv, b1_not (show ¬ V = 1 by omega)]
  refine WL.yes rfl rfl (WL.q (LX.bin rfl rfl rfl) rfl (WL.q (LX.pickF rfl rfl) rfl (WL.nil (thenK_normal (WC.no rfl (WC.skip (thenK_normal (WC.seq (WC.seq (WC.region (WL.q (LX.move rfl) rfl (WL.q (LX.nilCheck rfl) rfl (WL.q (LX.field0 rfl rfl) rfl ?_)))))))))))))
  refine WL.q (LX.load rfl rfl (by repeat first | assumption | exact List.mem_cons_self | refine List.mem_cons_of_mem _ ?_) rfl) rfl ?_
  refine WL.call (isOdd hp' hl' (by omega) (by omega) hxd) rfl (fun _ => by kernel_rfl) rfl ?_
  rw [hxv, h2]
  refine WL.q (LX.bin rfl rfl rfl) rfl (WL.nil (thenK_normal (WC.yes rfl (WC.seq (WC.region (WL.q (LX.move rfl) rfl (WL.q (LX.nilCheck rfl) rfl (WL.q (LX.field0 rfl rfl) rfl ?_))))))))
  refine WL.put (EX.storeC rfl rfl rfl (by repeat first | assumption | exact List.mem_cons_self | refine List.mem_cons_of_mem _ ?_) rfl rfl (by repeat first | exact Upd.here | apply Upd.there)) ?_
  refine WL.nil (thenK_normal (WC.seq (WC.region (WL.q (LX.move rfl) rfl (WL.q (LX.move rfl) rfl (WL.q (LX.nilCheck rfl) rfl (WL.q (LX.field0 rfl rfl) rfl ?_)))))))
  refine WL.q (LX.load rfl rfl (by repeat first | assumption | exact List.mem_cons_self | refine List.mem_cons_of_mem _ ?_) rfl) rfl ?_
  refine WL.q (LX.nilCheck rfl) rfl (WL.q (LX.field0 rfl rfl) rfl ?_)
  refine WL.q (LX.load rfl rfl (by repeat first | assumption | exact List.mem_cons_self | refine List.mem_cons_of_mem _ ?_) rfl) rfl ?_
  refine WL.q (LX.idx1 rfl rfl rfl 0 rfl (by omega)) rfl ?_
  refine WL.q (LX.loadRow rfl rfl (by repeat first | assumption | exact List.mem_cons_self | refine List.mem_cons_of_mem _ ?_) (by omega)) rfl ?_
  have hlow : gt xs 0 % 2 = 1 := by rw [← dv_mod2 h0 (by omega), hxv, h2]
  refine WL.callR (minv (dg_gt hxd 0) hlow) rfl (fun _ => by kernel_rfl) rfl ?_
  rintro _ _ ⟨⟨m0, rfl, hm0w, hm0⟩, rfl⟩
  refine WL.q (LX.nilCheck rfl) rfl (WL.q (LX.field0 rfl rfl) rfl ?_)
  refine WL.put (EX.storeC rfl rfl rfl (by repeat first | assumption | exact List.mem_cons_self | refine List.mem_cons_of_mem _ ?_) rfl rfl (by repeat first | exact Upd.here | apply Upd.there)) ?_
  refine WL.nil (thenK_normal (WC.region (WL.q (LX.move rfl) rfl (WL.q (LX.move rfl) rfl ?_))))
  have hm : (V * m0 + 1) % W64 = 0 := by
    obtain ⟨m, rfl⟩ : ∃ m, n = m + 1 := ⟨n - 1, by omega⟩
    cases xs with
    | nil => simp at hxl
    | cons x r =>
      simp only [List.take_succ_cons, dv_cons] at hxv
      have e : gt (x :: r) 0 = x := rfl
      rw [e] at hm0
      rw [← hxv]
      obtain ⟨t, ht⟩ := dvd_of_mod hm0
      have : (x + W64 * dv W64 (r.take m)) * m0 + 1 = W64 * (t + dv W64 (r.take m) * m0) := by grind
      rw [this, Int.mul_emod_right]
  have hO : MdO ((q, modO p true m0 (.pointer none)) :: M) q p l n 32 m0 (.pointer none) xs V :=
    ⟨⟨List.mem_cons_self, List.mem_cons_of_mem _ hp, List.mem_cons_of_mem _ hl, hx⟩, h0, by omega, h1, hm, h2⟩
  refine WL.callR (nrr hO hnorm) rfl (fun _ => by kernel_rfl) rfl ?_
  rintro _ _ ⟨pr, lr, rs, RR, rfl, hr, hrlt, hrc, rfl⟩
  refine WL.q (LX.nilCheck rfl) rfl (WL.q (LX.field0 rfl rfl) rfl (WL.put (EX.storeC rfl rfl rfl (show (q, Obj.cells [ptr p, .bool true, .int .u64 m0, .pointer none].toArray 117 (0, 0)) ∈ _ from List.mem_cons_of_mem _ (List.mem_cons_of_mem _ List.mem_cons_self)) rfl rfl (by repeat first | exact Upd.here | apply Upd.there)) (WL.nil (thenK_normal (WC.seq (WC.region (WL.q (LX.move rfl) rfl (WL.q (LX.assign rfl) rfl (WL.q (LX.assign rfl) rfl (WL.nil (thenK_normal (WC.ret ?_))))))))))))
  refine KR.two (.inl rfl) rfl rfl rfl ⟨q, pr, lr, m0, rs, RR, [_, _, _], rfl, rfl, ?_⟩
  have hs : ∀ z ∈ M, z ∈ [(pr, natO lr n 32), (lr, words rs), (q, modO p true m0 (ptr pr))] ++ M := fun _ h => List.mem_append_right _ h
  exact ⟨⟨⟨List.mem_cons_of_mem _ (List.mem_cons_of_mem _ List.mem_cons_self), hs _ hp, hs _ hl, hx⟩, h0, by omega, h1, hm, h2⟩, List.mem_cons_self, List.mem_cons_of_mem _ List.mem_cons_self, hr, hrlt, hrc⟩

/-- NewModulus of a number above 1 -/
theorem newMod {A : Option Addr} {bs : List Int} {cap : Nat} (hb : Bsl M A bs cap) (hbd : Dg 256 bs) (hL : bs.length ≤ 60) (h1 : 1 < dv 256 bs.reverse) :
    CS w0 16 [.slice A bs.length cap] M (fun u M' => ∃ q n N, u = .tuple #[ptr q, .nilIface] ∧ M' = N ++ M ∧ ModX M' q n (dv 256 bs.reverse)) := by
  have hV : dv 256 bs.reverse < 2 ^ 512 := by
    have h2 := dv_lt (b := 256) (by omega) (dg_rev hbd)
    rw [pow256] at h2
    have := pow2_le (show 8 * bs.reverse.length ≤ 512 by simp; omega)
    omega
  refine CS.of Tryz.func16 Tryz.ntmps16 rfl rfl (WC.seq (WC.region (WL.q (LX.assign rfl) rfl (WL.q (LX.assign rfl) rfl (WL.nil (thenK_normal (WC.seq (WC.region (WL.callR newNat rfl (fun _ => by kernel_rfl) rfl ?_)))))))))
  rintro _ _ ⟨p, l, rfl, rfl⟩
  refine WL.q (LX.move rfl) rfl (WL.callR (resetToBytes hb hbd (by omega)) rfl (fun _ => by kernel_rfl) rfl ?_)
  rintro _ _ ⟨rfl, m, ys, hy, hyd, hm, hv, hz, rfl⟩
  refine WL.q (LX.assign rfl) rfl (WL.nil (thenK_normal (WC.seq (WC.region (WL.q (LX.move rfl) rfl ?_)))))
  have hnv : NV m 32 (dv 256 bs.reverse) ys := ⟨hy, hm, by omega, hyd, hv⟩
  have hm0 : 0 < m := by
    rcases Nat.eq_zero_or_pos m with h | h
    · subst h; simp at hv; omega
    · exact h
  have hnorm := norm_top hnv hm0 (by rcases hz with h | h; omega; exact h)
  have hn8 := norm_le hnorm hV
  rcases (show dv 256 bs.reverse % 2 = 0 ∨ dv 256 bs.reverse % 2 = 1 by omega) with he | ho
  · have h3 := newModulusEven (w0 := w0) (M := (p, natO l m 32) :: (l, words ys) :: M) (p := p) (l := l) (n := m) (xs := ys) (by rw [hy]; exact List.mem_cons_self) (List.mem_cons_of_mem _ List.mem_cons_self) (by omega) (by omega) hyd (by rw [hv]; exact h1) (by rw [hv]; exact he)
    refine WL.callR h3 rfl (fun _ => by kernel_rfl) rfl ?_
    rintro _ _ ⟨q, rfl, rfl⟩
    refine WL.q (LX.extract rfl rfl) rfl (WL.q (LX.extract rfl rfl) rfl (WL.q (LX.assign rfl) rfl (WL.q (LX.assign rfl) rfl (WL.nil (thenK_normal (WC.ret ?_))))))
    exact KR.two (.inl rfl) rfl rfl rfl ⟨q, m, [_, _, _], rfl, rfl, h1, hm0, hn8, hnorm, .inl ⟨he, p, l, ys, ⟨List.mem_cons_self, List.mem_cons_of_mem _ List.mem_cons_self, List.mem_cons_of_mem _ (List.mem_cons_of_mem _ List.mem_cons_self), hnv⟩⟩⟩
  · skip
    refine WL.callR (newModulusOdd List.mem_cons_self (List.mem_cons_of_mem _ List.mem_cons_self) hnv hm0 hn8 hnorm h1 ho) rfl (fun _ => by kernel_rfl) rfl ?_
    rintro _ _ ⟨q, pr, lr, m0, rs, RR, N, rfl, rfl, hX⟩
    refine WL.q (LX.extract rfl rfl) rfl (WL.q (LX.extract rfl rfl) rfl (WL.q (LX.assign rfl) rfl (WL.q (LX.assign rfl) rfl (WL.nil (thenK_normal (WC.ret ?_))))))
    refine KR.two (.inl rfl) rfl rfl rfl ⟨q, m, N ++ [_, _], rfl, by rw [List.append_assoc]; rfl, h1, hm0, hn8, hnorm, .inr ⟨_, _, _, _, _, _, _, _, hX⟩⟩
end
end Go.Proofs.YtdnngppofbmpeaaGreatDoor.Bm
namespace Go.Proofs.YtdnngppofbmpeaaGreatDoor.Bm
open Go Go.RowKit

/-- the inner loop of shiftIn -/
structure Sh (n c k : Nat) (need bit : Int) (xs ds ms xs' ds' : List Int) (carry borrow : Int) : Prop where
  sx : St c xs k xs'
  sd : St 32 ds k ds'
  hc : bt carry
  hb : bt borrow
  ex : dv W64 (xs'.take k) + W64 ^ k * carry = 2 * (if need = 1 then dv W64 (ds.take k) else dv W64 (xs.take k)) + bit
  ed : dv W64 (ds'.take k) - W64 ^ k * borrow = dv W64 (xs'.take k) - dv W64 (ms.take k)

theorem sh_add {Z A b S W c' Q q c : Int} (h : Z + A * c = 2 * Q + b) (h2 : S + W * c' = q + q + c) : Z + A * S + (A * W) * c' = 2 * (Q + A * q) + b := by grind

theorem sh_fin {cur V R c b X D S : Int} (hR : V < R) (h0 : 0 ≤ cur) (hc : cur < V) (hS : S = 2 * cur ∨ S = 2 * cur + 1) (ex : X + R * c = S) (ed : D - R * b = X - V) (hX : 0 ≤ X ∧ X < R) (hD : 0 ≤ D ∧ D < R) (hbc : bt c) (hbb : bt b) :
    (1 - b = 1 ∨ c = 1 → 0 ≤ D ∧ D < V ∧ D = S - V) ∧ (¬ (1 - b = 1 ∨ c = 1) → X < V ∧ X = S) := by
  rcases hbc with rfl | rfl <;> rcases hbb with rfl | rfl <;> constructor <;> intro h <;> omega

section
variable {w0 : World} {M : Mem}
/-- shiftIn -/
theorem shiftIn {p l n c q pm lm cm : Nat} {odd : Bool} {m0 X V y : Int} {rv : Value} {xs ms : List Int} (hy : wd y) (hx : NV n c X xs) (hX : X < V) (hn : n ≤ 32) (hM : MdR M q pm lm n cm odd m0 rv ms V) :
    CS w0 87 [ptr p, .int .u64 y, ptr q] ((p, natO l n c) :: (l, words xs) :: M)
      (fun u M' => ∃ zs Z, u = ptr p ∧ NV n c Z zs ∧ Z < V ∧ Cg V Z (X * W64 + y) ∧ M' = (p, natO l n c) :: (l, words zs) :: M) := by
  refine CS.post (R := fun u M' => ∃ zs Z a b, u = ptr p ∧ NV n c Z zs ∧ Z < V ∧ Cg V Z (X * W64 + y) ∧ M' = (p, natO l n c) :: (l, words zs) :: a :: b :: M) ?_
    (fun v M' ⟨zs, Z, a, b, h1, h2, h3, h4, h5⟩ => ⟨(p, natO l n c) :: (l, words zs) :: M, h5 ▸ .cons_cons _ (.cons_cons _ (.cons _ (.cons _ (List.Sublist.refl _)))), zs, Z, h1, h2, h3, h4, rfl⟩)
  obtain ⟨hmq, hmp, hml, hmv⟩ := id hM
  have hmlen := hmv.len; have hmle := hmv.le; have hmsm := hmv.small
  have hxlen := hx.len; have hxle := hx.le; have hxsm := hx.small
  have hy' := wd_def hy
  refine CS.of Tryz.func87 Tryz.ntmps87 rfl rfl (WC.seq (WC.region (WL.q (LX.assign rfl) rfl (WL.nil (thenK_normal (WC.seq (WC.region (WL.callR newNat rfl (fun _ => by kernel_rfl) rfl ?_))))))))
  rintro _ _ ⟨pd, ld, rfl, rfl⟩
  refine WL.q (LX.move rfl) rfl (WL.callR (nresetFor (by simp) (by omega) hn (by omega) (Dg.replicate W64_pos 32) (hM.mono fun _ h => List.mem_cons_of_mem _ (List.mem_cons_of_mem _ h))) rfl (fun _ => by kernel_rfl) rfl ?_)
  rintro _ _ ⟨ds, rfl, hd, rfl⟩
  refine WL.q (LX.assign rfl) rfl (WL.nil (thenK_normal (WC.seq (WC.region (WL.q (LX.move rfl) rfl (WL.q (LX.nilCheck rfl) rfl (WL.q (LX.field0 rfl rfl) rfl ?_)))))))
  refine WL.q (LX.load rfl rfl (by repeat first | assumption | exact List.mem_cons_self | refine List.mem_cons_of_mem _ ?_) rfl) rfl ?_
  refine WL.q (LX.nilCheck rfl) rfl (WL.q (LX.field0 rfl rfl) rfl ?_)
  refine WL.q (LX.load rfl rfl (by repeat first | assumption | exact List.mem_cons_self | refine List.mem_cons_of_mem _ ?_) rfl) rfl ?_
  refine WL.q (LX.len rfl rfl rfl) rfl (WL.q (LX.assign rfl) rfl (WL.nil (thenK_normal (WC.seq (WC.region (WL.q (LX.move rfl) rfl (WL.q (LX.nilCheck rfl) rfl (WL.q (LX.field0 rfl rfl) rfl ?_))))))))
  refine WL.q (LX.load rfl rfl (by repeat first | assumption | exact List.mem_cons_self | refine List.mem_cons_of_mem _ ?_) rfl) rfl ?_
  refine WL.q (LX.move rfl) rfl (WL.q (LX.sliceTo rfl rfl rfl _ rfl (by omega)) rfl (WL.q (LX.assign rfl) rfl (WL.nil (thenK_normal (WC.seq (WC.region (WL.q (LX.move rfl) rfl (WL.q (LX.nilCheck rfl) rfl (WL.q (LX.field0 rfl rfl) rfl ?_)))))))))
  refine WL.q (LX.load rfl rfl (by repeat first | assumption | exact List.mem_cons_self | refine List.mem_cons_of_mem _ ?_) rfl) rfl ?_
  refine WL.q (LX.move rfl) rfl (WL.q (LX.sliceTo rfl rfl rfl _ rfl (by omega)) rfl (WL.q (LX.assign rfl) rfl (WL.nil (thenK_normal (WC.seq (WC.region (WL.q (LX.move rfl) rfl (WL.q (LX.nilCheck rfl) rfl (WL.q (LX.field0 rfl rfl) rfl ?_)))))))))
  refine WL.q (LX.load rfl rfl (by repeat first | assumption | exact List.mem_cons_self | refine List.mem_cons_of_mem _ ?_) rfl) rfl ?_
  refine WL.q (LX.nilCheck rfl) rfl (WL.q (LX.field0 rfl rfl) rfl ?_)
  refine WL.q (LX.load rfl rfl (by repeat first | assumption | exact List.mem_cons_self | refine List.mem_cons_of_mem _ ?_) rfl) rfl ?_
  refine WL.q (LX.move rfl) rfl (WL.q (LX.sliceTo rfl rfl rfl _ rfl (by omega)) rfl (WL.q (LX.assign rfl) rfl (WL.nil (thenK_normal (WC.seq (WC.region (WL.q (LX.assign rfl) rfl (WL.nil (thenK_normal (WC.seq (WC.seq (WC.region (WL.q (LX.assign rfl) rfl ?_)))))))))))))
  refine WL.nil (thenK_normal (WC.block ?_))
  refine WC.loopS (fun s : Nat × List Int × List Int × Int => [(0, ptr p), (1, .int .u64 y), (7, ptr pd), (8, .int .i64 n), (9, .slice (some ⟨l, 0, none⟩) n c), (10, .slice (some ⟨ld, 0, none⟩) n 32), (11, .slice (some ⟨lm, 0, none⟩) n cm), (12, .int .u64 s.2.2.2), (13, .int .i64 ((s.1 : Int) - 1))])
    (fun s => (pd, natO ld n 32) :: (ld, words s.2.2.1) :: (p, natO l n c) :: (l, words s.2.1) :: M)
    (fun s => s.1 ≤ 64 ∧ bt s.2.2.2 ∧ ∃ A D, NV n c A s.2.1 ∧ NV n 32 D s.2.2.1 ∧ (if s.2.2.2 = 1 then D else A) < V ∧ Cg V (if s.2.2.2 = 1 then D else A) (X * 2 ^ (64 - s.1) + y / 2 ^ s.1)) (fun s => s.1) (64, xs, ds, 0)
    ⟨Nat.le_refl _, bt_zero, X, 0, hx, hd, by simpa using hX, ?_⟩ (.cons rfl (.cons rfl (.cons rfl (.cons rfl (.cons rfl (.cons rfl (.cons rfl (.cons rfl (.cons rfl .nil))))))))) rfl ?_
  · dsimp only
    rw [if_neg (by omega), Int.ediv_eq_zero_of_lt hy'.1 (by rw [← W64_2]; exact hy.2)]
    exact .of_eq (by simp)
  rintro ⟨j, us, vs, need⟩ ⟨hj, hneed, A, D, hA, hD, hlt, hcg⟩
  dsimp only at hj hneed hA hD hlt hcg ⊢
  have hyd : 0 ≤ y / 2 ^ (j - 1) := Int.ediv_nonneg hy'.1 (Int.le_of_lt (pow2_pos _))
  have hyd2 : y / 2 ^ (j - 1) ≤ y := Int.ediv_le_self _ hy'.1
  have hb64 : IntKind.u64.bits = 64 := rfl
  refine WC.seq (WC.seq (WC.region (WL.q (LX.move rfl) rfl (WL.q (LX.bin rfl rfl rfl) rfl (WL.nil (thenK_normal ?_))))))
  refine WC.test rfl (fun hge => ?_) (fun hge => ?_)
  · refine WC.skip (thenK_normal (WC.seq (WC.block (WC.seq (WC.region (WL.q (LX.move rfl) rfl (WL.q (LX.move rfl) rfl (WL.q (LX.eq (LX.shr rfl rfl (by omega) (by omega)) (show _ = Value.int .u64 (y / 2 ^ (j - 1)) by rw [show min ((j : Int) - 1).toNat IntKind.u64.bits = j - 1 by rw [hb64]; omega])) rfl (WL.q (LX.eq (LX.bin rfl rfl rfl) (by rw [and_one (by unfold wd W64; omega)])) rfl ?_)))))))))
    refine WL.q (LX.assign rfl) rfl (WL.nil (thenK_normal (WC.seq (WC.region (WL.q (LX.assign rfl) rfl (WL.nil (thenK_normal (WC.seq (WC.region (WL.q (LX.move rfl) rfl (WL.call ctMask rfl (fun _ => by kernel_rfl) rfl (WL.q (LX.assign rfl) rfl (WL.nil ?_)))))))))))))
    refine thenK_normal (WC.seq (WC.seq (WC.region (WL.q (LX.assign rfl) rfl (WL.nil (thenK_normal (WC.block ?_)))))))
    refine WC.loopS (fun s : Nat × List Int × List Int × Int × Int => [(0, ptr p), (1, .int .u64 y), (7, ptr pd), (8, .int .i64 n), (9, .slice (some ⟨l, 0, none⟩) n c), (10, .slice (some ⟨ld, 0, none⟩) n 32), (11, .slice (some ⟨lm, 0, none⟩) n cm), (13, .int .i64 ((j : Int) - 1)), (14, .int .u64 s.2.2.2.1), (15, .int .u64 s.2.2.2.2), (16, .int .u64 (mask need)), (17, .int .i64 s.1)])
      (fun s => (pd, natO ld n 32) :: (ld, words s.2.2.1) :: (p, natO l n c) :: (l, words s.2.1) :: M)
      (fun s => s.1 ≤ n ∧ Sh n c s.1 need (y / 2 ^ (j - 1) % 2) us vs ms s.2.1 s.2.2.1 s.2.2.2.1 s.2.2.2.2) (fun s => n - s.1) (0, us, vs, y / 2 ^ (j - 1) % 2, 0)
      ⟨Nat.zero_le _, St.start hA.len hA.dg, St.start hD.len hD.dg, show bt (y / 2 ^ (j - 1) % 2) by unfold bt; omega, bt_zero, by simp, by simp⟩ (.cons rfl (.cons rfl (.cons rfl (.cons rfl (.cons rfl (.cons rfl (.cons rfl (.cons rfl (.cons rfl (.cons rfl (.cons rfl (.cons rfl .nil)))))))))))) rfl ?_
    rintro ⟨k, xs', ds', carry, borrow⟩ ⟨hk, hs⟩
    dsimp only at hk hs ⊢
    have hxl := hs.sx.len
    have hdl := hs.sd.len
    have hx1 := dg_gt hs.sx.dg k
    have hd1 := dg_gt hs.sd.dg k
    have hm1 := dg_gt hmv.dg k
    have hl1 : wd (if need = 1 then gt ds' k else gt xs' k) := by split <;> assumption
    have hms : ∀ z ∈ [(l, words xs'), (ld, words ds')], z ∈ (pd, natO ld n 32) :: (ld, words ds') :: (p, natO l n c) :: (l, words xs') :: M := by
      intro z hz
      simp only [List.mem_cons, List.not_mem_nil, or_false] at hz
      rcases hz with rfl | rfl
      · exact List.mem_cons_of_mem _ (List.mem_cons_of_mem _ (List.mem_cons_of_mem _ List.mem_cons_self))
      · exact List.mem_cons_of_mem _ List.mem_cons_self
    refine WC.seq (WC.seq (WC.region (WL.q (LX.move rfl) rfl (WL.q (LX.move rfl) rfl (WL.q (LX.bin rfl rfl rfl) rfl (WL.nil (thenK_normal ?_)))))))
    refine WC.test rfl (fun hlt2 => ?_) (fun hge2 => ?_)
    · refine WC.skip (thenK_normal (WC.seq (WC.block (WC.seq (WC.draw [(0, 0), (0, 1), (0, 2), (0, 4), (0, 5), (0, 6), (0, 7), (0, 9), (0, 10), (0, 11), (1, 3), (1, 8), (1, 12), (0, 13), (0, 14), (0, 15), (0, 16)] [(l, words xs'), (ld, words ds')] rfl (by kernel_rfl) rfl (by kernel_rfl) (DW.p rfl rfl (fun _ => LX.move rfl) rfl (DW.p rfl rfl (fun _ => LX.move rfl) rfl (DW.p rfl rfl (fun _ => LX.idx1 rfl rfl rfl _ rfl (by omega)) rfl (DW.p rfl rfl (fun _ => LX.move rfl) rfl (DW.p rfl rfl (fun _ => LX.move rfl) rfl (DW.p rfl rfl (fun _ => LX.move rfl) rfl (DW.p rfl rfl (fun _ => LX.idx1 rfl rfl rfl _ rfl (by omega)) rfl (DW.p rfl rfl (fun _ => LX.move rfl) rfl ?_)))))))))))))
      refine DW.p rfl rfl (fun _ => LX.move rfl) rfl (DW.p rfl rfl (fun _ => LX.idx1 rfl rfl rfl _ rfl (by omega)) rfl ?_)
      refine DW.r rfl rfl (LX.loadRow rfl rfl (by repeat first | assumption | exact List.mem_cons_self | refine List.mem_cons_of_mem _ ?_) (by omega)) hms rfl ?_
      refine DW.r rfl rfl (LX.loadRow rfl rfl (by repeat first | assumption | exact List.mem_cons_self | refine List.mem_cons_of_mem _ ?_) (by omega)) hms rfl ?_
      refine DW.r rfl rfl (LX.loadRow rfl rfl (by repeat first | assumption | exact List.mem_cons_self | refine List.mem_cons_of_mem _ ?_) (by omega)) hms rfl ?_
      refine DW.p rfl rfl (fun _ => LX.bin rfl rfl rfl) rfl (DW.p rfl rfl (fun _ => LX.bin rfl rfl rfl) rfl (DW.p rfl rfl (fun _ => LX.eq (LX.bin rfl rfl rfl) (by rw [pickW hx1 hd1 hneed])) rfl ?_))
      refine DW.p rfl rfl (fun _ => LX.assign rfl) rfl (DW.nil (thenK_normal (WC.seq (WC.region (WL.q (LX.move rfl) rfl (WL.q (LX.move rfl) rfl (WL.q (LX.move rfl) rfl (WL.q (LX.move rfl) rfl (WL.q (LX.move rfl) rfl (WL.call (bitsAdd hl1 hl1 hs.hc) rfl (fun _ => by kernel_rfl) rfl (WL.q (LX.move rfl) rfl (WL.q (LX.extract rfl rfl) rfl (WL.q (LX.extract rfl rfl) rfl ?_)))))))))))))
      refine WL.q (LX.idx1 rfl rfl rfl _ rfl (by omega)) rfl ?_
      refine WL.put (EX.storeRow rfl rfl rfl (by repeat first | assumption | exact List.mem_cons_self | refine List.mem_cons_of_mem _ ?_) (by omega) (by repeat first | exact Upd.here | apply Upd.there)) ?_
      have hx2 : wd (gt (xs'.set k (sumW (if need = 1 then gt ds' k else gt xs' k) (if need = 1 then gt ds' k else gt xs' k) carry)) k) := by
        rw [gt_set_eq (by omega)]; exact sumW_wd _ _ _
      have hxl2 : (xs'.set k (sumW (if need = 1 then gt ds' k else gt xs' k) (if need = 1 then gt ds' k else gt xs' k) carry)).length = c := by simpa using hxl
      have hms2 : ∀ z ∈ [(l, words (xs'.set k (sumW (if need = 1 then gt ds' k else gt xs' k) (if need = 1 then gt ds' k else gt xs' k) carry))), (lm, words ms)], z ∈ (pd, natO ld n 32) :: (ld, words ds') :: (p, natO l n c) :: (l, words (xs'.set k (sumW (if need = 1 then gt ds' k else gt xs' k) (if need = 1 then gt ds' k else gt xs' k) carry))) :: M := by
        intro z hz
        simp only [List.mem_cons, List.not_mem_nil, or_false] at hz
        rcases hz with rfl | rfl
        · exact List.mem_cons_of_mem _ (List.mem_cons_of_mem _ (List.mem_cons_of_mem _ List.mem_cons_self))
        · exact List.mem_cons_of_mem _ (List.mem_cons_of_mem _ (List.mem_cons_of_mem _ (List.mem_cons_of_mem _ hml)))
      refine WL.q (LX.assign rfl) rfl (WL.nil (thenK_normal (WC.draw [(0, 0), (0, 1), (0, 2), (0, 3), (0, 4), (0, 6), (0, 7), (0, 8), (0, 10), (1, 5), (1, 9), (2, 11), (0, 12), (0, 13), (0, 14), (0, 15), (2, 16), (0, 17)] [(l, words (xs'.set k (sumW (if need = 1 then gt ds' k else gt xs' k) (if need = 1 then gt ds' k else gt xs' k) carry))), (lm, words ms)] rfl (by kernel_rfl) rfl (by kernel_rfl) (DW.p rfl rfl (fun _ => LX.move rfl) rfl (DW.p rfl rfl (fun _ => LX.move rfl) rfl (DW.p rfl rfl (fun _ => LX.move rfl) rfl (DW.p rfl rfl (fun _ => LX.move rfl) rfl (DW.p rfl rfl (fun _ => LX.idx1 rfl rfl rfl _ rfl (by omega)) rfl (DW.p rfl rfl (fun _ => LX.move rfl) rfl (DW.p rfl rfl (fun _ => LX.move rfl) rfl (DW.p rfl rfl (fun _ => LX.idx1 rfl rfl rfl _ rfl (by omega)) rfl (DW.p rfl rfl (fun _ => LX.move rfl) rfl ?_))))))))))))
      refine DW.r rfl rfl (LX.loadRow rfl rfl (by repeat first | assumption | exact List.mem_cons_self | refine List.mem_cons_of_mem _ ?_) (by omega)) hms2 rfl ?_
      refine DW.r rfl rfl (LX.loadRow rfl rfl (by repeat first | assumption | exact List.mem_cons_self | refine List.mem_cons_of_mem _ ?_) (by omega)) hms2 rfl ?_
      refine DW.fval rfl rfl (EX.call rfl (fun _ => by kernel_rfl) (bitsSub hx2 hm1 hs.hb)) hms2 rfl (DW.p rfl rfl (fun _ => LX.move rfl) rfl (DW.p rfl rfl (fun _ => LX.extract rfl rfl) rfl (DW.p rfl rfl (fun _ => LX.extract rfl rfl) rfl (DW.p rfl rfl (fun _ => LX.idx1 rfl rfl rfl _ rfl (by omega)) rfl ?_))))
      refine DW.tput rfl rfl (EX.storeRow rfl rfl rfl (by repeat first | assumption | exact List.mem_cons_self | refine List.mem_cons_of_mem _ ?_) (by omega) (by repeat first | exact Upd.here | apply Upd.there)) (by kernel_rfl) ?_
      refine DW.p rfl rfl (fun _ => LX.assign rfl) rfl (DW.nil (blockK_normal (thenK_normal (WC.region (WL.q (LX.move rfl) rfl (WL.q (LX.addI rfl rfl (by omega)) rfl (WL.q (LX.assign rfl) rfl (WL.nil ?_))))))))
      rw [gt_set_eq (by omega)] at hx2
      refine loopS_next (k + 1, _, _, _, _) ⟨by omega, ?_⟩ (by simp; omega) (.cons rfl (.cons rfl (.cons rfl (.cons rfl (.cons rfl (.cons rfl (.cons rfl (.cons rfl (.cons rfl (.cons rfl (.cons rfl (.cons rfl .nil)))))))))))) rfl
      dsimp only
      rw [gt_set_eq (by omega)]
      refine ⟨hs.sx.next (sumW_wd _ _ _), hs.sd.next (difW_wd _ _ _), sumC_bt hl1 hl1 hs.hc, difC_bt _ _ _, ?_, ?_⟩
      · rw [dv_take_set (by omega), Int.pow_succ]
        have e := sh_add hs.ex (sum_eq (if need = 1 then gt ds' k else gt xs' k) (if need = 1 then gt ds' k else gt xs' k) carry)
        refine e.trans ?_
        have hdlen := hD.len
        have hulen := hA.len
        have hvlen := hD.le
        have hule := hA.le
        rw [dv_take_gt W64 (xs := vs) (by omega), dv_take_gt W64 (xs := us) (by omega), hs.sd.gt, hs.sx.gt]
        split <;> rfl
      · rw [dv_take_set (by omega), dv_take_set (by omega), dv_take_gt W64 (xs := ms) (by omega), Int.pow_succ]
        exact sub_step hs.ed (dif_eq hx2 hm1 hs.hb)
    · refine WC.exit (thenK_exit (loopS_exit (blockK_same (thenK_normal (WC.region (WL.q (LX.move rfl) rfl ?_))))))
      obtain rfl : k = n := by omega
      refine WL.call (bnot hs.hb) rfl (fun _ => by kernel_rfl) rfl (WL.q (LX.move rfl) rfl (WL.q (LX.eq (LX.bin rfl rfl rfl) (by rw [or_bt (show bt (1 - borrow) by rcases hs.hb with rfl | rfl <;> simp [bt]) hs.hc])) rfl ?_))
      refine WL.q (LX.assign rfl) rfl (WL.nil (blockK_normal (thenK_normal (WC.region (WL.q (LX.move rfl) rfl (WL.q (LX.eq (LX.subI rfl rfl (by omega)) (show _ = Value.int IntKind.i64 (((j - 1 : Nat) : Int) - 1) by congr 1; omega)) rfl (WL.q (LX.assign rfl) rfl (WL.nil ?_))))))))
      have hA' : NV k c (dv W64 (xs'.take k)) xs' := ⟨hxl, hA.le, hA.small, hs.sx.dg, rfl⟩
      have hD' : NV k 32 (dv W64 (ds'.take k)) ds' := ⟨hdl, hD.le, hD.small, hs.sd.dg, rfl⟩
      have ex := hs.ex
      have ed := hs.ed
      rw [hD.val, hA.val] at ex
      rw [hmv.val] at ed
      have hcur0 : 0 ≤ (if need = 1 then D else A) := by
        have := hA.nonneg; have := hD.nonneg
        split <;> assumption
      have hf := sh_fin hmv.lt hcur0 hlt (S := 2 * (if need = 1 then D else A) + y / 2 ^ (j - 1) % 2) (by omega) ex ed ⟨hA'.nonneg, hA'.lt⟩ ⟨hD'.nonneg, hD'.lt⟩ hs.hc hs.hb
      have hy2 : y / 2 ^ (j - 1) = 2 * (y / 2 ^ j) + y / 2 ^ (j - 1) % 2 := by
        have e : y / 2 ^ (j - 1) / 2 = y / 2 ^ j := by
          rw [Int.ediv_ediv_of_nonneg (Int.le_of_lt (pow2_pos _))]
          congr 1
          have := pow2_succ (j - 1)
          rw [show j - 1 + 1 = j by omega] at this
          omega
        omega
      have hcg2 : Cg V (2 * (if need = 1 then D else A) + y / 2 ^ (j - 1) % 2) (X * 2 ^ (64 - (j - 1)) + y / 2 ^ (j - 1)) := by
        have h1 := (hcg.add hcg).add (Cg.refl (V := V) (a := y / 2 ^ (j - 1) % 2))
        have e : (64 : Nat) - (j - 1) = 64 - j + 1 := by omega
        rw [e, pow2_succ]
        have e2 : X * (2 * 2 ^ (64 - j)) = X * 2 ^ (64 - j) + X * 2 ^ (64 - j) := by grind
        rw [e2]
        refine ((Cg.of_eq ?_).trans h1).trans (.of_eq ?_) <;> omega
      refine loopS_next (j - 1, xs', ds', b1 (1 - borrow = 1 ∨ carry = 1)) ⟨by omega, b1_bt _, _, _, hA', hD', ?_⟩ (by simp; omega) (.cons rfl (.cons rfl (.cons rfl (.cons rfl (.cons rfl (.cons rfl (.cons rfl (.cons rfl (.cons rfl .nil))))))))) rfl
      dsimp only
      by_cases hnd : 1 - borrow = 1 ∨ carry = 1
      · obtain ⟨_, h2, h3⟩ := hf.1 hnd
        rw [b1_is hnd, if_pos rfl]
        refine ⟨h2, ?_⟩
        obtain ⟨t, ht⟩ := hcg2
        exact ⟨t - 1, by rw [h3, ht, Int.mul_sub]; omega⟩
      · obtain ⟨h2, h3⟩ := hf.2 hnd
        rw [b1_not hnd, if_neg (by omega)]
        exact ⟨h2, h3 ▸ hcg2⟩
  · refine WC.exit (thenK_exit (loopS_exit (blockK_same (thenK_normal (WC.seq (WC.region (WL.q (LX.move rfl) rfl (WL.q (LX.move rfl) rfl (WL.q (LX.move rfl) rfl ?_)))))))))
    obtain rfl : j = 0 := by omega
    refine WL.callR (CS.pm (by repeat first | exact Pm.done | (apply Pm.step; repeat first | exact Rem.here | apply Rem.there)) (nassign hneed hA hD (by repeat first | assumption | exact List.mem_cons_self | refine List.mem_cons_of_mem _ ?_) (by repeat first | assumption | exact List.mem_cons_self | refine List.mem_cons_of_mem _ ?_))) rfl (fun _ => by kernel_rfl) rfl ?_
    rintro _ _ ⟨zs, rfl, hz, rfl⟩
    refine WL.q (LX.assign rfl) rfl (WL.nil (thenK_normal (WC.ret ?_)))
    refine KR.one (.inl rfl) rfl rfl ⟨zs, _, _, _, rfl, hz, hlt, ?_, rfl⟩
    rw [Nat.sub_zero, ← W64_2, Int.pow_zero, Int.ediv_one] at hcg
    exact hcg
end
end Go.Proofs.YtdnngppofbmpeaaGreatDoor.Bm
namespace Go.Proofs.YtdnngppofbmpeaaGreatDoor.Bm
open Go Go.RowKit

theorem WC.cutT {n : Nat} {w0 : World} {K : Exit → Env → Mem → Prop} {E : Env} {M : Mem} {x y : Code} (J : Env → Mem → Prop) (h : WC n w0 x (Bm.cutK J K) E M) (k : ∀ E' M', J E' M' → WC n w0 y K E' M') : WC n w0 x (Bm.thenK n w0 y K) E M :=
  h.mono fun e E' M' hk => by
    cases e with
    | normal => exact k E' M' hk
    | _ => exact hk

theorem drop_take_cons {xs : List Int} {n i : Nat} (hn : n ≤ xs.length) (hi : i < n) : dv W64 ((xs.take n).drop i) = gt xs i + W64 * dv W64 ((xs.take n).drop (i + 1)) := by
  rw [List.drop_eq_getElem_cons (by simp; omega), dv_cons]
  congr 1
  rw [gt_eq (by omega)]
  simp

theorem mod_top {zs xs : List Int} {n nx s : Nat} (hz : n ≤ zs.length) (hx : nx ≤ xs.length) (hs : s ≤ n) (hsx : s ≤ nx) (h : ∀ t, t < n → gt zs t = if t < s then gt xs (nx - s + t) else 0) :
    dv W64 (zs.take n) = dv W64 ((xs.take nx).drop (nx - s)) := by
  rw [dv_take_zero (k := s) hs hz (fun t h1 h2 => by rw [h t h2, if_neg (by omega)])]
  congr 1
  apply List.ext_getElem
  · simp; omega
  · intro t h1 h2
    have h1' : t < s := by simp at h1; omega
    have e := h t (by omega)
    rw [if_pos h1', gt_eq (by omega), gt_eq (by omega)] at e
    simpa using e

section
variable {w0 : World} {M : Mem}
/-- Mod, of a number apart from out -/
theorem nMod {p l a c px lx nx cx q n : Nat} {X V : Int} {xs us : List Int} {pm lm : Nat} {odd : Bool} {m0 : Int} {rv : Value} {ms : List Int} (hl : us.length = c) (ha : a ≤ c) (hnc : n ≤ c) (hc : c ≤ 1000) (hd : Dg W64 us)
    (hx : NV nx cx X xs) (hpx : (px, natO lx nx cx) ∈ M) (hlx : (lx, words xs) ∈ M) (hM : MdR M q pm lm n 32 odd m0 rv ms V) (hn0 : 0 < n) (hnorm : W64 ^ (n - 1) ≤ V) :
    CS w0 38 [ptr p, ptr px, ptr q] ((p, natO l a c) :: (l, words us) :: M)
      (fun u M' => ∃ zs Z, u = ptr p ∧ NV n c Z zs ∧ Z < V ∧ Cg V Z X ∧ M' = (p, natO l n c) :: (l, words zs) :: M) := by
  obtain ⟨hmq, hmp, hml, hmv⟩ := id hM
  have hmle := hmv.le
  have hxlen := hx.len; have hxle := hx.le; have hxsm := hx.small
  have hM2 : ∀ {zs : List Int}, MdR ((p, natO l n c) :: (l, words zs) :: M) q pm lm n 32 odd m0 rv ms V := hM.mono fun _ h => List.mem_cons_of_mem _ (List.mem_cons_of_mem _ h)
  refine CS.of Tryz.func38 Tryz.ntmps38 rfl rfl (WC.seq (WC.region (WL.q (LX.assign rfl) rfl (WL.nil (thenK_normal (WC.seq (WC.region (WL.q (LX.move rfl) rfl (WL.q (LX.move rfl) rfl (WL.callR (nresetFor hl ha hnc hc hd hM) rfl (fun _ => by kernel_rfl) rfl ?_))))))))))
  rintro _ _ ⟨zs0, rfl, hz0, rfl⟩
  refine WL.nil (thenK_normal (WC.seq (WC.region (WL.q (LX.move rfl) rfl (WL.q (LX.nilCheck rfl) rfl (WL.q (LX.field0 rfl rfl) rfl ?_))))))
  refine WL.q (LX.load rfl rfl (by repeat first | assumption | exact List.mem_cons_self | refine List.mem_cons_of_mem _ ?_) rfl) rfl ?_
  refine WL.q (LX.len rfl rfl rfl) rfl (WL.q (LX.subI rfl rfl (by omega)) rfl (WL.q (LX.assign rfl) rfl (WL.nil (thenK_normal (WC.seq (WC.region (WL.q (LX.move rfl) rfl (WL.q (LX.nilCheck rfl) rfl (WL.q (LX.field0 rfl rfl) rfl ?_)))))))))
  refine WL.q (LX.load rfl rfl (by repeat first | assumption | exact List.mem_cons_self | refine List.mem_cons_of_mem _ ?_) rfl) rfl ?_
  refine WL.q (LX.nilCheck rfl) rfl (WL.q (LX.field0 rfl rfl) rfl ?_)
  refine WL.q (LX.load rfl rfl (by repeat first | assumption | exact List.mem_cons_self | refine List.mem_cons_of_mem _ ?_) rfl) rfl ?_
  refine WL.q (LX.len rfl rfl rfl) rfl (WL.q (LX.subI rfl rfl (by omega)) rfl (WL.q (LX.assign rfl) rfl (WL.nil (thenK_normal (WC.seq (WC.seq (WC.region (WL.q (LX.move rfl) rfl (WL.q (LX.move rfl) rfl (WL.q (LX.bin rfl rfl rfl) rfl (WL.nil (thenK_normal ?_))))))))))))
  refine WC.cutT (fun E' M' => Sub [(0, ptr p), (1, ptr px), (2, ptr q), (7, .int .i64 ((nx : Int) - 1)), (8, .int .i64 (((min (n - 1) nx : Nat) : Int) - 1))] E' ∧ M' = (p, natO l n c) :: (l, words zs0) :: M) ?_ ?_
  · skip
    refine WC.test rfl (fun hlt => ?_) (fun hge => ?_)
    · skip
      refine WC.region (WL.q (LX.eq (LX.move rfl) (show _ = Value.int .i64 (((min (n - 1) nx : Nat) : Int) - 1) by congr 1; omega)) rfl (WL.q (LX.assign rfl) rfl (WL.nil ?_)))
      exact ⟨(.cons rfl (.cons rfl (.cons rfl (.cons rfl (.cons rfl .nil))))), rfl⟩
    · refine WC.skip ?_
      have e : ((n : Int) - 2) = ((min (n - 1) nx : Nat) : Int) - 1 := by omega
      rw [e]
      exact ⟨(.cons rfl (.cons rfl (.cons rfl (.cons rfl (.cons rfl .nil))))), rfl⟩
  rintro E' M' ⟨hE, rfl⟩
  refine WC.cutE _ hE ?_
  generalize hs : min (n - 1) nx = s
  refine WC.seq (WC.seq (WC.region (WL.q (LX.move rfl) rfl (WL.q (LX.assign rfl) rfl (WL.nil (thenK_normal (WC.block ?_)))))))
  refine WC.loopS (fun s' : Nat × List Int => [(0, ptr p), (1, ptr px), (2, ptr q), (7, .int .i64 (((nx - s + s'.1 : Nat) : Int) - 1)), (9, .int .i64 ((s'.1 : Int) - 1))]) (fun s' => (p, natO l n c) :: (l, words s'.2) :: M)
    (fun s' => s'.1 ≤ s ∧ s'.2.length = c ∧ Dg W64 s'.2 ∧ ∀ t, t < n → gt s'.2 t = if s'.1 ≤ t ∧ t < s then gt xs (nx - s + t) else 0) (fun s' => s'.1) (s, zs0)
    ⟨Nat.le_refl _, hz0.len, hz0.dg, fun t ht => by rw [hz0.gt0 ht, if_neg (by simp only []; omega)]⟩ ?_ rfl ?_
  · have e : (nx : Int) - 1 = ((nx - s + s : Nat) : Int) - 1 := by omega
    rw [e]
    exact (.cons rfl (.cons rfl (.cons rfl (.cons rfl (.cons rfl .nil)))))
  rintro ⟨j, zs⟩ ⟨hj, hzl, hzd, hzg⟩
  dsimp only at hj hzl hzd hzg ⊢
  have hmm : ∀ z ∈ [(p, natO l n c), (px, natO lx nx cx), (lx, words xs)], z ∈ (p, natO l n c) :: (l, words zs) :: M := by
    intro z hz
    simp only [List.mem_cons, List.not_mem_nil, or_false] at hz
    rcases hz with rfl | rfl | rfl
    · exact List.mem_cons_self
    · exact List.mem_cons_of_mem _ (List.mem_cons_of_mem _ hpx)
    · exact List.mem_cons_of_mem _ (List.mem_cons_of_mem _ hlx)
  refine WC.seq (WC.seq (WC.region (WL.q (LX.move rfl) rfl (WL.q (LX.bin rfl rfl rfl) rfl (WL.nil (thenK_normal ?_))))))
  refine WC.test rfl (fun hge => ?_) (fun hge => ?_)
  · refine WC.skip (thenK_normal (WC.seq (WC.block (WC.seq (WC.draw [(0, 0), (0, 1), (0, 2), (0, 4), (0, 5), (0, 6), (0, 7), (0, 9), (1, 3), (1, 8), (0, 10), (1, 11), (0, 12), (2, 13)] [(p, natO l n c), (px, natO lx nx cx), (lx, words xs)] rfl (by kernel_rfl) rfl (by kernel_rfl) (DW.p rfl rfl (fun _ => LX.move rfl) rfl (DW.p rfl rfl (fun _ => LX.nilCheck rfl) rfl (DW.p rfl rfl (fun _ => LX.field0 rfl rfl) rfl (DW.p rfl rfl (fun _ => LX.move rfl) rfl (DW.p rfl rfl (fun _ => LX.move rfl) rfl (DW.p rfl rfl (fun _ => LX.nilCheck rfl) rfl (DW.p rfl rfl (fun _ => LX.field0 rfl rfl) rfl (DW.p rfl rfl (fun _ => LX.move rfl) rfl ?_)))))))))))))
    refine DW.r rfl rfl (LX.load rfl rfl (by repeat first | assumption | exact List.mem_cons_self | refine List.mem_cons_of_mem _ ?_) rfl) hmm rfl ?_
    refine DW.r rfl rfl (LX.load rfl rfl (by repeat first | assumption | exact List.mem_cons_self | refine List.mem_cons_of_mem _ ?_) rfl) hmm rfl ?_
    refine DW.p rfl rfl (fun _ => LX.idx1 rfl rfl rfl (nx - s + j - 1) (by omega) (by omega)) rfl ?_
    refine DW.r rfl rfl (LX.loadRow rfl rfl (by repeat first | assumption | exact List.mem_cons_self | refine List.mem_cons_of_mem _ ?_) (by omega)) hmm rfl ?_
    refine DW.p rfl rfl (fun _ => LX.idx1 rfl rfl rfl (j - 1) (by omega) (by omega)) rfl ?_
    refine DW.tput rfl rfl (EX.storeRow rfl rfl rfl (by repeat first | assumption | exact List.mem_cons_self | refine List.mem_cons_of_mem _ ?_) (by omega) (by repeat first | exact Upd.here | apply Upd.there)) (by kernel_rfl) ?_
    refine DW.nil (thenK_normal (WC.region (WL.q (LX.move rfl) rfl (WL.q (LX.eq (LX.subI rfl rfl (by omega)) (show _ = Value.int .i64 (((nx - s + (j - 1) : Nat) : Int) - 1) by congr 1; omega)) rfl (WL.q (LX.assign rfl) rfl (WL.nil (blockK_normal (thenK_normal (WC.region (WL.q (LX.move rfl) rfl (WL.q (LX.eq (LX.subI rfl rfl (by omega)) (show _ = Value.int .i64 (((j - 1 : Nat) : Int) - 1) by congr 1; omega)) rfl (WL.q (LX.assign rfl) rfl (WL.nil ?_)))))))))))))
    have hw := dg_gt hx.dg (nx - s + j - 1)
    refine loopS_next (j - 1, zs.set (j - 1) (gt xs (nx - s + j - 1))) ⟨by omega, by simpa using hzl, hzd.set hw.1 hw.2 _, fun t ht => ?_⟩ (by simp; omega) (.cons rfl (.cons rfl (.cons rfl (.cons rfl (.cons rfl .nil))))) rfl
    dsimp only
    by_cases he : t = j - 1
    · subst he
      rw [gt_set_eq (by omega), if_pos (by omega)]
      congr 1; omega
    · rw [gt_set_ne (by omega), hzg t ht]
      split <;> split <;> first | rfl | omega
  refine WC.exit (thenK_exit (loopS_exit (blockK_same (thenK_normal (WC.seq (WC.block ?_))))))
  obtain rfl : j = 0 := by omega
  have hv0 : dv W64 (zs.take n) = dv W64 ((xs.take nx).drop (nx - s)) := mod_top (by omega) (by omega) (by omega) (by omega) (fun t ht => by rw [hzg t ht]; simp)
  have hnv0 : NV n c (dv W64 ((xs.take nx).drop (nx - s))) zs := ⟨hzl, hnc, hc, hzd, hv0⟩
  have hlt0 : dv W64 ((xs.take nx).drop (nx - s)) < V := by
    have h1 := dv_lt W64_pos ((hx.dg.take nx).drop (nx - s))
    have h2 : W64 ^ ((xs.take nx).drop (nx - s)).length ≤ W64 ^ (n - 1) := by
      rw [W64_two, W64_two]; exact pow2_le (by simp; omega)
    omega
  refine WC.loopS (fun s' : Nat × List Int × Int => [(0, ptr p), (1, ptr px), (2, ptr q), (7, .int .i64 ((s'.1 : Int) - 1))]) (fun s' => (p, natO l n c) :: (l, words s'.2.1) :: M)
    (fun s' => s'.1 ≤ nx ∧ NV n c s'.2.2 s'.2.1 ∧ s'.2.2 < V ∧ Cg V s'.2.2 (dv W64 ((xs.take nx).drop s'.1))) (fun s' => s'.1) (nx - s, zs, _)
    ⟨by simp only []; omega, hnv0, hlt0, Cg.refl⟩ (.cons rfl (.cons rfl (.cons rfl (.cons rfl .nil)))) rfl ?_
  rintro ⟨i, ys, Y⟩ ⟨hi, hy, hY, hcg⟩
  dsimp only at hi hy hY hcg ⊢
  refine WC.seq (WC.seq (WC.region (WL.q (LX.move rfl) rfl (WL.q (LX.bin rfl rfl rfl) rfl (WL.nil (thenK_normal ?_))))))
  refine WC.test rfl (fun hge2 => ?_) (fun hge2 => ?_)
  · refine WC.skip (thenK_normal (WC.block (WC.seq (WC.region (WL.q (LX.move rfl) rfl (WL.q (LX.move rfl) rfl (WL.q (LX.nilCheck rfl) rfl (WL.q (LX.field0 rfl rfl) rfl ?_))))))))
    refine WL.q (LX.load rfl rfl (by repeat first | assumption | exact List.mem_cons_self | refine List.mem_cons_of_mem _ ?_) rfl) rfl ?_
    refine WL.q (LX.move rfl) rfl (WL.q (LX.idx1 rfl rfl rfl (i - 1) (by omega) (by omega)) rfl ?_)
    refine WL.q (LX.loadRow rfl rfl (by repeat first | assumption | exact List.mem_cons_self | refine List.mem_cons_of_mem _ ?_) (by omega)) rfl ?_
    refine WL.q (LX.move rfl) rfl (WL.callR (shiftIn (dg_gt hx.dg (i - 1)) hy hY (by omega) hM) rfl (fun _ => by kernel_rfl) rfl ?_)
    rintro _ _ ⟨vs, Z, rfl, hvs, hZ, hZc, rfl⟩
    refine WL.nil (thenK_normal (WC.region (WL.q (LX.move rfl) rfl (WL.q (LX.eq (LX.subI rfl rfl (by omega)) (show _ = Value.int .i64 (((i - 1 : Nat) : Int) - 1) by congr 1; omega)) rfl (WL.q (LX.assign rfl) rfl (WL.nil (blockK_normal ?_)))))))
    refine loopS_next (i - 1, vs, Z) ⟨by omega, hvs, hZ, ?_⟩ (by simp; omega) (.cons rfl (.cons rfl (.cons rfl (.cons rfl .nil)))) rfl
    dsimp only
    have e := drop_take_cons (xs := xs) (n := nx) (i := i - 1) (by omega) (by omega)
    rw [show i - 1 + 1 = i by omega] at e
    refine hZc.trans (((hcg.mul Cg.refl).add Cg.refl).trans (.of_eq ?_))
    rw [e]; grind
  · refine WC.exit (thenK_exit (loopS_exit (blockK_same (thenK_normal (WC.seq (WC.region (WL.q (LX.move rfl) rfl (WL.q (LX.assign rfl) rfl (WL.nil (thenK_normal (WC.ret ?_)))))))))))
    obtain rfl : i = 0 := by omega
    refine KR.one (.inl rfl) rfl rfl ⟨ys, Y, rfl, hy, hY, ?_, rfl⟩
    rw [List.drop_zero, hx.val] at hcg
    exact hcg
end
end Go.Proofs.YtdnngppofbmpeaaGreatDoor.Bm
