/- Proved here: that laws.FnNone answers true at every input. No conditions but those that each theorem states. -/
import Derived.Test.YtdnngppofbmpeaaDoorSd2
namespace Go.Proofs.YtdnngppofbmpeaaDoor.Bm
open Go Go.RowKit

theorem dv_rep0 (b : Int) (n : Nat) : dv b (List.replicate n 0) = 0 := by
  induction n with
  | zero => rfl
  | succ n ih => rw [List.replicate_succ, dv_cons, ih]; simp
theorem dg_rep0 (n : Nat) : Dg 256 (List.replicate n 0) := Dg.replicate (by omega) n

section
variable {w0 : World} {M : Mem}
/-- the law FnNone holds -/
theorem fnNone {z c : Int} {l : Bool} : CS w0 3 [.int .i64 z, .bool l, .int .i64 c] M (fun u _ => u = .bool true) := by
  refine CS.of Tryd.func3 Tryd.ntmps3 rfl rfl ?_
  by_cases h1 : z < 0
  · skip
    refine WC.seq ?_
    refine WC.region ?_
    refine WL.q (LX.assign rfl) rfl ?_
    refine WL.nil ?_
    refine thenK_normal ?_
    refine WC.seq ?_
    refine WC.seq ?_
    refine WC.region ?_
    refine WL.q (LX.move rfl) rfl ?_
    refine WL.q (LX.eq (LX.bin rfl rfl rfl) (tru h1)) rfl ?_
    refine WL.q (LX.move rfl) rfl ?_
    refine WL.no rfl rfl (by decide) rfl ?_
    refine WL.no rfl rfl (by decide) rfl ?_
    refine WL.q (LX.pickT rfl rfl) rfl ?_
    refine WL.q (LX.move rfl) rfl ?_
    refine WL.no rfl rfl (by decide) rfl ?_
    refine WL.no rfl rfl (by decide) rfl ?_
    refine WL.q (LX.pickT rfl rfl) rfl ?_
    refine WL.q (LX.move rfl) rfl ?_
    refine WL.no rfl rfl (by decide) rfl ?_
    refine WL.no rfl rfl (by decide) rfl ?_
    refine WL.q (LX.pickT rfl rfl) rfl ?_
    refine WL.nil ?_
    refine thenK_normal ?_
    refine WC.yes rfl ?_
    refine WC.seq ?_
    refine WC.region ?_
    refine WL.q (LX.assign rfl) rfl ?_
    refine WL.nil ?_
    refine thenK_normal ?_
    refine WC.ret ?_
    refine thenK_ret ?_
    exact KR.one (.inl rfl) rfl rfl rfl
  by_cases h2 : 50 < z
  · skip
    refine WC.seq ?_
    refine WC.region ?_
    refine WL.q (LX.assign rfl) rfl ?_
    refine WL.nil ?_
    refine thenK_normal ?_
    refine WC.seq ?_
    refine WC.seq ?_
    refine WC.region ?_
    refine WL.q (LX.move rfl) rfl ?_
    refine WL.q (LX.eq (LX.bin rfl rfl rfl) (fls h1)) rfl ?_
    refine WL.q (LX.move rfl) rfl ?_
    refine WL.yes rfl rfl ?_
    refine WL.q (LX.move rfl) rfl ?_
    refine WL.yes rfl rfl ?_
    refine WL.q (LX.eq (LX.bin rfl rfl rfl) (tru (by omega))) rfl ?_
    refine WL.q (LX.pickF rfl rfl) rfl ?_
    refine WL.q (LX.move rfl) rfl ?_
    refine WL.no rfl rfl (by decide) rfl ?_
    refine WL.no rfl rfl (by decide) rfl ?_
    refine WL.q (LX.pickT rfl rfl) rfl ?_
    refine WL.q (LX.move rfl) rfl ?_
    refine WL.no rfl rfl (by decide) rfl ?_
    refine WL.no rfl rfl (by decide) rfl ?_
    refine WL.q (LX.pickT rfl rfl) rfl ?_
    refine WL.nil ?_
    refine thenK_normal ?_
    refine WC.yes rfl ?_
    refine WC.seq ?_
    refine WC.region ?_
    refine WL.q (LX.assign rfl) rfl ?_
    refine WL.nil ?_
    refine thenK_normal ?_
    refine WC.ret ?_
    refine thenK_ret ?_
    exact KR.one (.inl rfl) rfl rfl rfl
  by_cases h3 : c < 1
  · skip
    refine WC.seq ?_
    refine WC.region ?_
    refine WL.q (LX.assign rfl) rfl ?_
    refine WL.nil ?_
    refine thenK_normal ?_
    refine WC.seq ?_
    refine WC.seq ?_
    refine WC.region ?_
    refine WL.q (LX.move rfl) rfl ?_
    refine WL.q (LX.eq (LX.bin rfl rfl rfl) (fls h1)) rfl ?_
    refine WL.q (LX.move rfl) rfl ?_
    refine WL.yes rfl rfl ?_
    refine WL.q (LX.move rfl) rfl ?_
    refine WL.yes rfl rfl ?_
    refine WL.q (LX.eq (LX.bin rfl rfl rfl) (fls (by omega))) rfl ?_
    refine WL.q (LX.pickF rfl rfl) rfl ?_
    refine WL.q (LX.move rfl) rfl ?_
    refine WL.yes rfl rfl ?_
    refine WL.q (LX.move rfl) rfl ?_
    refine WL.yes rfl rfl ?_
    refine WL.q (LX.eq (LX.bin rfl rfl rfl) (tru (by omega))) rfl ?_
    refine WL.q (LX.pickF rfl rfl) rfl ?_
    refine WL.q (LX.move rfl) rfl ?_
    refine WL.no rfl rfl (by decide) rfl ?_
    refine WL.no rfl rfl (by decide) rfl ?_
    refine WL.q (LX.pickT rfl rfl) rfl ?_
    refine WL.nil ?_
    refine thenK_normal ?_
    refine WC.yes rfl ?_
    refine WC.seq ?_
    refine WC.region ?_
    refine WL.q (LX.assign rfl) rfl ?_
    refine WL.nil ?_
    refine thenK_normal ?_
    refine WC.ret ?_
    refine thenK_ret ?_
    exact KR.one (.inl rfl) rfl rfl rfl
  by_cases h4 : 5 < c
  · skip
    refine WC.seq ?_
    refine WC.region ?_
    refine WL.q (LX.assign rfl) rfl ?_
    refine WL.nil ?_
    refine thenK_normal ?_
    refine WC.seq ?_
    refine WC.seq ?_
    refine WC.region ?_
    refine WL.q (LX.move rfl) rfl ?_
    refine WL.q (LX.eq (LX.bin rfl rfl rfl) (fls h1)) rfl ?_
    refine WL.q (LX.move rfl) rfl ?_
    refine WL.yes rfl rfl ?_
    refine WL.q (LX.move rfl) rfl ?_
    refine WL.yes rfl rfl ?_
    refine WL.q (LX.eq (LX.bin rfl rfl rfl) (fls (by omega))) rfl ?_
    refine WL.q (LX.pickF rfl rfl) rfl ?_
    refine WL.q (LX.move rfl) rfl ?_
    refine WL.yes rfl rfl ?_
    refine WL.q (LX.move rfl) rfl ?_
    refine WL.yes rfl rfl ?_
    refine WL.q (LX.eq (LX.bin rfl rfl rfl) (fls (by omega))) rfl ?_
    refine WL.q (LX.pickF rfl rfl) rfl ?_
    refine WL.q (LX.move rfl) rfl ?_
    refine WL.yes rfl rfl ?_
    refine WL.q (LX.move rfl) rfl ?_
    refine WL.yes rfl rfl ?_
    refine WL.q (LX.eq (LX.bin rfl rfl rfl) (tru (by omega))) rfl ?_
    refine WL.q (LX.pickF rfl rfl) rfl ?_
    refine WL.nil ?_
    refine thenK_normal ?_
    refine WC.yes rfl ?_
    refine WC.seq ?_
    refine WC.region ?_
    refine WL.q (LX.assign rfl) rfl ?_
    refine WL.nil ?_
    refine thenK_normal ?_
    refine WC.ret ?_
    refine thenK_ret ?_
    exact KR.one (.inl rfl) rfl rfl rfl
  obtain ⟨z, rfl⟩ : ∃ n : Nat, z = n := ⟨z.toNat, by omega⟩
  obtain ⟨c, rfl⟩ : ∃ n : Nat, c = n := ⟨c.toNat, by omega⟩
  refine WC.seq ?_
  refine WC.region ?_
  refine WL.q (LX.assign rfl) rfl ?_
  refine WL.nil ?_
  refine thenK_normal ?_
  refine WC.seq ?_
  refine WC.seq ?_
  refine WC.region ?_
  refine WL.q (LX.move rfl) rfl ?_
  refine WL.q (LX.eq (LX.bin rfl rfl rfl) (fls h1)) rfl ?_
  refine WL.q (LX.move rfl) rfl ?_
  refine WL.yes rfl rfl ?_
  refine WL.q (LX.move rfl) rfl ?_
  refine WL.yes rfl rfl ?_
  refine WL.q (LX.eq (LX.bin rfl rfl rfl) (fls (by omega))) rfl ?_
  refine WL.q (LX.pickF rfl rfl) rfl ?_
  refine WL.q (LX.move rfl) rfl ?_
  refine WL.yes rfl rfl ?_
  refine WL.q (LX.move rfl) rfl ?_
  refine WL.yes rfl rfl ?_
  refine WL.q (LX.eq (LX.bin rfl rfl rfl) (fls (by omega))) rfl ?_
  refine WL.q (LX.pickF rfl rfl) rfl ?_
  refine WL.q (LX.move rfl) rfl ?_
  refine WL.yes rfl rfl ?_
  refine WL.q (LX.move rfl) rfl ?_
  refine WL.yes rfl rfl ?_
  refine WL.q (LX.eq (LX.bin rfl rfl rfl) (fls (by omega))) rfl ?_
  refine WL.q (LX.pickF rfl rfl) rfl ?_
  refine WL.nil ?_
  refine thenK_normal ?_
  refine WC.no rfl ?_
  refine WC.skip ?_
  refine thenK_normal ?_
  refine WC.seq ?_
  refine WC.region ?_
  refine WL.q (LX.move rfl) rfl ?_
  refine WL.step rfl (EX.make (k := .u8) (e := 5) rfl rfl rfl rfl z z rfl rfl (Nat.le_refl _) (by omega) (by omega)) ?_
  rintro _ _ ⟨b, rfl, rfl⟩
  refine WL.q (LX.assign rfl) rfl ?_
  refine WL.nil ?_
  refine thenK_normal ?_
  refine WC.seq ?_
  refine WC.seq ?_
  refine WC.region ?_
  refine WL.q (LX.move rfl) rfl ?_
  refine WL.nil ?_
  refine thenK_normal ?_
  have hd0 := dg_rep0 z
  have hl1 : (List.replicate z (0 : Int)).length ≤ 248 := by simp; omega
  have hl2 : (List.replicate z (0 : Int) ++ [1]).length ≤ 248 := by simp; omega
  have hv1 : dv 256 (List.replicate z (0 : Int)).reverse ≤ 1 := by simp [dv_rep0]
  have hv2 : dv 256 (List.replicate z (0 : Int) ++ [1]).reverse ≤ 1 := by simp [dv_rep0]
  cases l
  · refine WC.no rfl ?_
    refine WC.skip ?_
    refine thenK_normal ?_
    refine WC.seq ?_
    refine WC.region ?_
    refine WL.q (LX.move rfl) rfl ?_
    refine WL.step rfl (EX.bslice (e := 22) (cs := [.slice (some ⟨b, 0, none⟩) z z]) rfl (fun _ => by kernel_rfl)) ?_
    rintro _ _ ⟨b1, rfl, rfl⟩
    refine WL.q (LX.move rfl) rfl ?_
    refine WL.callR (scriptErr (c := c) (cap := _) (bs := List.replicate z 0) (by rw [List.length_replicate]; exact List.mem_cons_self) ((show Bsl _ (some ⟨b, 0, none⟩) (List.replicate z 0) z from .inr ⟨b, List.replicate z 0, rfl, List.mem_cons_self, Nat.le_refl _, List.take_length, hd0, Nat.le_of_eq List.length_replicate⟩).mono fun _ h => List.mem_cons_of_mem _ h) hd0 hl1 hv1 (by omega) (by omega)) rfl (fun _ => by kernel_rfl) rfl ?_
    rintro _ _ ⟨rfl, rfl⟩
    refine WL.q (LX.move rfl) rfl ?_
    refine WL.q (LX.extract rfl rfl) rfl ?_
    refine WL.q (LX.extract rfl rfl) rfl ?_
    refine WL.q (LX.extract rfl rfl) rfl ?_
    refine WL.q (LX.assign rfl) rfl ?_
    refine WL.q (LX.assign rfl) rfl ?_
    refine WL.q (LX.assign rfl) rfl ?_
    refine WL.nil ?_
    refine thenK_normal ?_
    refine WC.seq ?_
    refine WC.region ?_
    refine WL.step rfl (EX.bslice (e := 5) (cs := [.int .u8 2]) rfl (fun _ => by kernel_rfl)) ?_
    rintro _ _ ⟨b2, rfl, rfl⟩
    
    refine WL.step rfl (EX.bslice (e := 22) (cs := [.slice (some ⟨b2, 0, none⟩) 1 1]) rfl (fun _ => by kernel_rfl)) ?_
    rintro _ _ ⟨b3, rfl, rfl⟩
    refine WL.q (LX.move rfl) rfl ?_
    refine WL.callR (scriptOk (bs := [2]) (cap := 1) List.mem_cons_self (.inr ⟨b2, [2], rfl, List.mem_cons_of_mem _ List.mem_cons_self, Nat.le_refl _, rfl, by intro x hx; simp at hx; omega, Nat.le_refl _⟩) (by intro x hx; simp at hx; omega) (by decide) (by decide) (by decide) (by omega) (by omega)) rfl (fun _ => by kernel_rfl) rfl ?_
    rintro _ _ ⟨⟨x, y, rfl⟩, rfl⟩
    refine WL.q (LX.move rfl) rfl ?_
    refine WL.q (LX.extract rfl rfl) rfl ?_
    refine WL.q (LX.extract rfl rfl) rfl ?_
    refine WL.q (LX.extract rfl rfl) rfl ?_
    refine WL.q (LX.assign rfl) rfl ?_
    refine WL.q (LX.assign rfl) rfl ?_
    refine WL.q (LX.assign rfl) rfl ?_
    refine WL.nil ?_
    refine thenK_normal ?_
    refine WC.seq ?_
    refine WC.region ?_
    refine WL.q (LX.move rfl) rfl ?_
    refine WL.q (LX.not rfl) rfl ?_
    refine WL.q (LX.move rfl) rfl ?_
    refine WL.yes rfl rfl ?_
    refine WL.q (LX.move rfl) rfl ?_
    refine WL.q (LX.pickT rfl rfl) rfl ?_
    refine WL.q (LX.assign rfl) rfl ?_
    refine WL.nil ?_
    refine thenK_normal ?_
    refine WC.ret ?_
    exact KR.one (.inl rfl) rfl rfl rfl
  · skip
    refine WC.yes rfl ?_
    refine WC.region ?_
    refine WL.q (LX.move rfl) rfl ?_
    refine WL.step rfl (EX.bslice (e := 5) (cs := [.int .u8 1]) rfl (fun _ => by kernel_rfl)) ?_
    rintro _ _ ⟨b0, rfl, rfl⟩
    
    have hown : Own isU8 5 (.slice (some ⟨b, 0, none⟩) z z) ((List.replicate z 0).map (Value.int .u8)) ((b0, .cells #[.int .u8 1] 5 (0, 0)) :: M) ((b, row .u8 5 (List.replicate z 0)) :: (b0, .cells #[.int .u8 1] 5 (0, 0)) :: M) :=
      .inr ⟨b, (List.replicate z 0).map (Value.int .u8), by simp, by simp, by simp, rfl, by intro u hu; obtain ⟨q, hq, rfl⟩ := List.mem_map.1 hu; exact ⟨q, rfl, hd0 q hq⟩⟩
    refine WL.appendOwn (EX.pm (by repeat first | exact Pm.done | (apply Pm.step; repeat first | exact Rem.here | apply Rem.there)) (EX.append (ds := [.int .u8 1]) (d := [.int .u8 1]) rfl hown rfl rfl rfl rfl rfl ⟨0, rfl, by omega, by omega⟩ (by intro u hu; simp at hu; subst hu; exact ⟨1, rfl, by omega, by omega⟩) (fun w hw => (hw.has _ (List.mem_cons_of_mem _ List.mem_cons_self)).2) (Nat.le_refl _) rfl (by simp; rfl) (by simp; omega))) rfl ?_
    rintro v7 M7 hv
    have hv : Own isU8 5 v7 ((List.replicate z (0 : Int) ++ [1]).map (Value.int .u8)) ((b0, .cells #[.int .u8 1] 5 (0, 0)) :: M) M7 := by rw [List.map_append]; exact hv
    obtain ⟨A, cap, N, rfl, rfl, hb⟩ := hv.bsl
    refine WL.q (LX.assign rfl) rfl ?_
    refine WL.nil ?_
    refine thenK_normal ?_
    refine WC.seq ?_
    refine WC.region ?_
    refine WL.q (LX.move rfl) rfl ?_
    refine WL.step rfl (EX.bslice (e := 22) (cs := [.slice A (List.replicate z (0 : Int) ++ [1]).length cap]) rfl (fun _ => by kernel_rfl)) ?_
    rintro _ _ ⟨b1, rfl, rfl⟩
    refine WL.q (LX.move rfl) rfl ?_
    refine WL.callR (scriptErr (c := c) (cap := _) (bs := List.replicate z 0 ++ [1]) List.mem_cons_self (hb.mono fun _ h => List.mem_cons_of_mem _ (List.mem_append_left _ h)) (hd0.append (by intro x hx; simp at hx; omega)) hl2 hv2 (by omega) (by omega)) rfl (fun _ => by kernel_rfl) rfl ?_
    rintro _ _ ⟨rfl, rfl⟩
    refine WL.q (LX.move rfl) rfl ?_
    refine WL.q (LX.extract rfl rfl) rfl ?_
    refine WL.q (LX.extract rfl rfl) rfl ?_
    refine WL.q (LX.extract rfl rfl) rfl ?_
    refine WL.q (LX.assign rfl) rfl ?_
    refine WL.q (LX.assign rfl) rfl ?_
    refine WL.q (LX.assign rfl) rfl ?_
    refine WL.nil ?_
    refine thenK_normal ?_
    refine WC.seq ?_
    refine WC.region ?_
    refine WL.step rfl (EX.bslice (e := 5) (cs := [.int .u8 2]) rfl (fun _ => by kernel_rfl)) ?_
    rintro _ _ ⟨b2, rfl, rfl⟩
    
    refine WL.step rfl (EX.bslice (e := 22) (cs := [.slice (some ⟨b2, 0, none⟩) 1 1]) rfl (fun _ => by kernel_rfl)) ?_
    rintro _ _ ⟨b3, rfl, rfl⟩
    refine WL.q (LX.move rfl) rfl ?_
    refine WL.callR (scriptOk (bs := [2]) (cap := 1) List.mem_cons_self (.inr ⟨b2, [2], rfl, List.mem_cons_of_mem _ List.mem_cons_self, Nat.le_refl _, rfl, by intro x hx; simp at hx; omega, Nat.le_refl _⟩) (by intro x hx; simp at hx; omega) (by decide) (by decide) (by decide) (by omega) (by omega)) rfl (fun _ => by kernel_rfl) rfl ?_
    rintro _ _ ⟨⟨x, y, rfl⟩, rfl⟩
    refine WL.q (LX.move rfl) rfl ?_
    refine WL.q (LX.extract rfl rfl) rfl ?_
    refine WL.q (LX.extract rfl rfl) rfl ?_
    refine WL.q (LX.extract rfl rfl) rfl ?_
    refine WL.q (LX.assign rfl) rfl ?_
    refine WL.q (LX.assign rfl) rfl ?_
    refine WL.q (LX.assign rfl) rfl ?_
    refine WL.nil ?_
    refine thenK_normal ?_
    refine WC.seq ?_
    refine WC.region ?_
    refine WL.q (LX.move rfl) rfl ?_
    refine WL.q (LX.not rfl) rfl ?_
    refine WL.q (LX.move rfl) rfl ?_
    refine WL.yes rfl rfl ?_
    refine WL.q (LX.move rfl) rfl ?_
    refine WL.q (LX.pickT rfl rfl) rfl ?_
    refine WL.q (LX.assign rfl) rfl ?_
    refine WL.nil ?_
    refine thenK_normal ?_
    refine WC.ret ?_
    exact KR.one (.inl rfl) rfl rfl rfl
end
end Go.Proofs.YtdnngppofbmpeaaDoor.Bm
