/- Proved here: what impl.Script does with one modulus that is 0 or 1 and no steps. No conditions but those that each theorem states. -/
import Derived.Test.YtdnngppofbmpeaaDoorFn6
namespace Go.Proofs.YtdnngppofbmpeaaDoor.Bm
open Go Go.RowKit

theorem KR.three {n : Nat} {w0 : World} {E : Env} {M : Mem} {fn : Func} {R : Value → Mem → Prop} {t t' t'' : Nat} {v v' v'' : Value} {e : Exit} (he : e = .ret ∨ e = .normal) (hr : fn.results = #[.tmp t, .tmp t', .tmp t'']) (hv : E.at? t = some v) (hv' : E.at? t' = some v') (hv'' : E.at? t'' = some v'')
    (h : R (.tuple #[v, v', v'']) M) : KR n w0 fn R e E M :=
  ⟨he, _, fun a w ha _ => by
    have : (results fn a.tmps).run P w = .ok (.tuple #[a.tmps.getD t undef, a.tmps.getD t' undef, a.tmps.getD t'' undef]) w := by simp [results, hr]
    rw [this]; simp [ha.at_ t v hv, ha.at_ t' v' hv', ha.at_ t'' v'' hv''], h⟩

section
variable {w0 : World} {M : Mem}
theorem Bsl.src {A : Option Addr} {bs : List Int} {cap : Nat} (h : Bsl M A bs cap) : Src w0 M A bs := by
  rcases h with rfl | ⟨b, full, rfl, hm, hl, ht, hd, hc⟩
  · exact .inl rfl
  · refine .inr ⟨b, 0, full.map (Value.int .u8), 5, (0, 0), rfl, fun w hw => by simpa [bytes, row] using (hw.has _ hm).2, by simpa using hl, ?_⟩
    simp only [sliceL, List.drop_zero, ← List.map_take, ht]

/-- Script of one modulus that is 0 or 1, and no steps -/
theorem scriptErr {a c : Nat} {T : TypeId} {A : Option Addr} {bs : List Int} {cap : Nat} (hm : (a, Obj.cells #[.slice A bs.length cap] T) ∈ M) (hb : Bsl M A bs cap) (hbd : Dg 256 bs) (hL : bs.length ≤ 248) (h1 : dv 256 bs.reverse ≤ 1) (hc : 1 ≤ c) (hc5 : c ≤ 5) :
    CS w0 4 [.slice (some ⟨a, 0, none⟩) 1 1, .int .i64 c, .slice none 0 0] M (fun u M' => u = .tuple #[.slice none 0 0, .slice none 0 0, .bool false] ∧ M' = M) := by
  refine CS.post (R := fun u M' => u = .tuple #[.slice none 0 0, .slice none 0 0, .bool false] ∧ M.Sublist M') ?_ (fun v M' ⟨h1, h2⟩ => ⟨M, h2, h1, rfl⟩)
  refine CS.of Tryd.func4 Tryd.ntmps4 rfl rfl ?_
  refine WC.seq ?_
  refine WC.region ?_
  refine WL.q (LX.assign rfl) rfl ?_
  refine WL.q (LX.assign rfl) rfl ?_
  refine WL.q (LX.assign rfl) rfl ?_
  refine WL.nil ?_
  refine thenK_normal ?_
  refine WC.seq ?_
  refine WC.seq ?_
  refine WC.region ?_
  refine WL.q (LX.move rfl) rfl ?_
  refine WL.q (LX.eq (LX.bin rfl rfl rfl) (fls (by omega))) rfl ?_
  refine WL.q (LX.move rfl) rfl ?_
  refine WL.yes rfl rfl ?_
  refine WL.q (LX.move rfl) rfl ?_
  refine WL.yes rfl rfl ?_
  refine WL.q (LX.eq (LX.bin rfl rfl rfl) (fls (by omega))) rfl ?_
  refine WL.q (LX.pickF rfl rfl) rfl ?_
  refine WL.nil ?_
  refine thenK_normal ?_
  refine WC.no rfl ?_
  refine WC.skip ?_
  refine thenK_normal ?_
  refine WC.seq ?_
  refine WC.region ?_
  refine WL.q (LX.assign rfl) rfl ?_
  refine WL.nil ?_
  refine thenK_normal ?_
  refine WC.seq ?_
  refine WC.seq ?_
  refine WC.region ?_
  refine WL.q (LX.move rfl) rfl ?_
  refine WL.q (LX.len rfl rfl rfl) rfl ?_
  refine WL.q (LX.move rfl) rfl ?_
  refine WL.nil ?_
  refine thenK_normal ?_
  refine WC.block ?_
  refine WC.loopS (fun _ : Unit => [(32, .slice (some ⟨a, 0, none⟩) 1 1), (33, .int .i64 1), (34, .int .i64 0)]) (fun _ => M) (fun _ => True) (fun _ => 0) () trivial (.cons rfl (.cons rfl (.cons rfl .nil))) rfl ?_
  rintro ⟨⟩ _
  refine WC.seq ?_
  refine WC.region ?_
  refine WL.q (LX.eq (LX.bin rfl rfl rfl) (tru (by omega))) rfl ?_
  refine WL.nil ?_
  refine thenK_normal ?_
  refine WC.seq ?_
  refine WC.yes rfl ?_
  refine WC.skip ?_
  refine thenK_normal ?_
  refine WC.seq ?_
  refine WC.block ?_
  refine WC.seq ?_
  refine WC.region ?_
  refine WL.q (LX.idx1 rfl rfl rfl 0 rfl (by omega)) rfl ?_
  refine WL.q (LX.load rfl rfl (by repeat first | assumption | exact List.mem_cons_self | refine List.mem_cons_of_mem _ ?_) rfl) rfl ?_
  refine WL.q (LX.assign rfl) rfl ?_
  refine WL.nil ?_
  refine thenK_normal ?_
  refine WC.seq ?_
  refine WC.region ?_
  refine WL.q (LX.move rfl) rfl ?_
  refine WL.callR (cloneB hb.src hbd (by omega)) rfl (fun _ => by kernel_rfl) rfl ?_
  rintro _ _ ⟨A', cap', N, rfl, rfl, hb'⟩
  
  refine WL.callR (newModErr (hb'.mono (fun p hp => List.mem_append_left _ hp)) hbd hL h1) rfl (fun _ => by kernel_rfl) rfl ?_
  rintro _ _ ⟨⟨b, rfl⟩, rfl⟩
  refine WL.q (LX.move rfl) rfl ?_
  refine WL.q (LX.extract rfl rfl) rfl ?_
  refine WL.q (LX.extract rfl rfl) rfl ?_
  refine WL.q (LX.assign rfl) rfl ?_
  refine WL.q (LX.assign rfl) rfl ?_
  refine WL.nil ?_
  refine thenK_normal ?_
  refine WC.seq ?_
  refine WC.seq ?_
  refine WC.region ?_
  refine WL.q (LX.move rfl) rfl ?_
  refine WL.q (LX.errNeT rfl) rfl ?_
  refine WL.nil ?_
  refine thenK_normal ?_
  refine WC.yes rfl ?_
  refine WC.seq ?_
  refine WC.region ?_
  refine WL.q (LX.assign rfl) rfl ?_
  refine WL.q (LX.assign rfl) rfl ?_
  refine WL.q (LX.assign rfl) rfl ?_
  refine WL.nil ?_
  refine thenK_normal ?_
  refine WC.ret ?_
  refine thenK_ret ?_
  refine blockK_ret ?_
  refine thenK_ret ?_
  refine loopS_ret ?_
  refine blockK_ret ?_
  refine thenK_ret ?_
  exact KR.three (.inl rfl) rfl rfl rfl rfl ⟨rfl, List.sublist_append_right _ _⟩
end
end Go.Proofs.YtdnngppofbmpeaaDoor.Bm
