/- Proved here: what trimmed, even and less of the reference do; what read of the reference does; what read, even and less of the reference do; what even and less of the reference do; what one, within and small do; what small does; what sum of the reference does. Conditions: none but those that each theorem states. -/
import Derived.Test.YtdnngppofbmpeaaGreatDoorG16
namespace Go.Proofs.YtdnngppofbmpeaaGreatDoor.Bm
open Go Go.RowKit

/-- a number out of the first k digits in a block -/
theorem num_take {M : Mem} {b cap k : Nat} {full ds : List Int} (hm : (b, ints full) ∈ M) (hl : ds.length ≤ full.length) (hs : full.take ds.length = ds) (hc : ds.length ≤ cap) (hd : Dg B16 ds) (hk : k ≤ ds.length) (h : k = 0 ∨ gt ds (k - 1) ≠ 0) : Num M (.slice (some ⟨b, 0, none⟩) k cap) (dv B16 (ds.take k)) (ds.take k) := by
  have hkl : (ds.take k).length = k := by rw [List.length_take]; omega
  refine ⟨?_, hd.take k, rfl, ?_⟩
  · rcases Nat.eq_zero_or_pos k with h0 | h0
    · subst h0; exact .nil
    · have : Ds M (.slice (some ⟨b, 0, none⟩) (ds.take k).length cap) (ds.take k) := by
        refine .mk hm (by omega) (by omega) ?_ (by omega)
        rw [hkl]
        unfold sliceL
        rw [List.drop_zero, ← hs, List.take_take, Nat.min_eq_left (by omega)]
      rwa [hkl] at this
  · rcases h with h | h
    · subst h; exact .inl rfl
    · rcases Nat.eq_zero_or_pos k with h0 | h0
      · subst h0; exact .inl rfl
      · right; rw [hkl, gt_take (by omega)]; exact h

section
variable {w0 : World} {M : Mem}
/-- trimmed, told by where it lies -/
theorem trimmedX {b cap : Nat} {full ds : List Int} (hm : (b, ints full) ∈ M) (hl : ds.length ≤ full.length) (hs : full.take ds.length = ds) (hc : ds.length ≤ cap) (hN : ds.length ≤ 1000) :
    CS w0 60 [.slice (some ⟨b, 0, none⟩) ds.length cap] M (fun u M' => (∃ k, u = .slice (some ⟨b, 0, none⟩) k cap ∧ k ≤ ds.length ∧ dv B16 (ds.take k) = dv B16 ds ∧ (k = 0 ∨ gt ds (k - 1) ≠ 0)) ∧ M' = M) := by
  have hg : ∀ i, i < ds.length → gt full i = gt ds i := fun i hi => by rw [← hs, gt_take (by omega)]
  refine CS.of Tryz.func60 Tryz.ntmps60 rfl rfl (WC.seq (WC.region (WL.q (LX.assign rfl) rfl (WL.nil (thenK_normal (WC.seq (WC.region (WL.q (LX.move rfl) rfl (WL.q (LX.len rfl rfl rfl) rfl (WL.q (LX.assign rfl) rfl (WL.nil (thenK_normal (WC.seq ?_)))))))))))))
  refine WC.block (WC.loopS (fun k : Nat => [(0, .slice (some ⟨b, 0, none⟩) ds.length cap), (3, .int .i64 k)]) (fun _ => M) (fun k => k ≤ ds.length ∧ dv B16 (ds.take k) = dv B16 ds) (fun k => k) ds.length ⟨Nat.le_refl _, by rw [List.take_length]⟩ (.cons rfl (.cons rfl .nil)) rfl ?_)
  rintro k ⟨hk, hv⟩
  by_cases h0 : k = 0
  · subst h0
    refine WC.seq (WC.seq (WC.region (WL.q (LX.move rfl) rfl (WL.q (LX.eq (LX.bin rfl rfl rfl) (fls (by omega))) rfl (WL.q (LX.move rfl) rfl (WL.no rfl rfl (by decide) rfl (WL.no rfl rfl (by decide) rfl (WL.no rfl rfl (by decide) rfl (WL.no rfl rfl (by decide) rfl (WL.no rfl rfl (by decide) rfl (WL.no rfl rfl (by decide) rfl (WL.q (LX.pickF rfl rfl) rfl (WL.nil ?_)))))))))))))
    refine thenK_normal (WC.no rfl (WC.exit (thenK_exit (loopS_exit (blockK_same (thenK_normal (WC.seq (WC.region (WL.q (LX.move rfl) rfl (WL.q (LX.move rfl) rfl (WL.q (LX.sliceTo rfl rfl rfl _ rfl (by omega)) rfl (WL.q (LX.assign rfl) rfl (WL.nil ?_)))))))))))))
    refine thenK_normal (WC.ret ?_)
    exact KR.one (.inl rfl) rfl rfl ⟨⟨0, rfl, hk, hv, .inl rfl⟩, rfl⟩
  refine WC.seq (WC.seq (WC.region (WL.q (LX.move rfl) rfl (WL.q (LX.eq (LX.bin rfl rfl rfl) (tru (by omega))) rfl (WL.q (LX.move rfl) rfl (WL.yes rfl rfl (WL.q (LX.move rfl) rfl (WL.yes rfl rfl (WL.q (LX.move rfl) rfl (WL.yes rfl rfl (WL.q (LX.eq (LX.subI rfl rfl (by omega)) (show _ = Value.int .i64 ((k - 1 : Nat) : Int) by congr 1; omega)) rfl (WL.yes rfl rfl (WL.q (LX.idx1 rfl rfl rfl (k - 1) rfl (by omega)) rfl ?_)))))))))))))
  refine WL.yes rfl rfl (WL.q (LX.eq (LX.loadRow rfl rfl hm (by omega)) (by rw [hg (k - 1) (by omega)])) rfl ?_)
  refine WL.yes rfl rfl (WL.q (LX.bin rfl rfl rfl) rfl (WL.q (LX.pickT rfl rfl) rfl (WL.nil (thenK_normal ?_))))
  refine WC.test rfl (fun hz => ?_) (fun hz => ?_)
  · refine WC.skip (thenK_normal (WC.block (WC.region (WL.q (LX.move rfl) rfl (WL.q (LX.eq (LX.subI rfl rfl (by omega)) (show _ = Value.int .i64 ((k - 1 : Nat) : Int) by congr 1; omega)) rfl (WL.q (LX.assign rfl) rfl (WL.nil (blockK_normal ?_))))))))
    refine loopS_next (k - 1) ⟨by omega, ?_⟩ (by omega) (.cons rfl (.cons rfl .nil)) rfl
    rw [← hv]
    have e := dv_take_gt B16 (xs := ds) (i := k - 1) (by omega)
    rw [show k - 1 + 1 = k by omega, hz] at e
    rw [e]; simp
  · refine WC.exit (thenK_exit (loopS_exit (blockK_same (thenK_normal (WC.seq (WC.region (WL.q (LX.move rfl) rfl (WL.q (LX.move rfl) rfl (WL.q (LX.sliceTo rfl rfl rfl _ rfl (by omega)) rfl (WL.q (LX.assign rfl) rfl (WL.nil (thenK_normal (WC.ret ?_)))))))))))))
    exact KR.one (.inl rfl) rfl rfl ⟨⟨k, rfl, hk, hv, .inr hz⟩, rfl⟩

/-- trimmed -/
theorem trimmed {b cap : Nat} {full ds : List Int} (hm : (b, ints full) ∈ M) (hl : ds.length ≤ full.length) (hs : full.take ds.length = ds) (hc : ds.length ≤ cap) (hd : Dg B16 ds) (hN : ds.length ≤ 1000) :
    CS w0 60 [.slice (some ⟨b, 0, none⟩) ds.length cap] M (fun u M' => (∃ es, Num M u (dv B16 ds) es) ∧ M' = M) := by
  refine CS.post (trimmedX hm hl hs hc hN) ?_
  rintro v M' ⟨⟨k, rfl, hk, hv, ht⟩, hM⟩
  exact ⟨M', List.Sublist.refl _, ⟨_, hv ▸ num_take hm hl hs hc hd hk ht⟩, hM⟩
end
end Go.Proofs.YtdnngppofbmpeaaGreatDoor.Bm
namespace Go.Proofs.YtdnngppofbmpeaaGreatDoor.Bm
open Go Go.RowKit

theorem dv_set {b : Int} : ∀ {xs : List Int} {k : Nat} (_ : k < xs.length) (v : Int), dv b (xs.set k v) = dv b xs + b ^ k * (v - gt xs k)
  | [], k, h, v => by simp at h
  | x :: xs, 0, h, v => by simp [gt]; omega
  | x :: xs, k + 1, h, v => by
    have ih := dv_set (b := b) (xs := xs) (k := k) (by simpa using h) v
    have e : gt (x :: xs) (k + 1) = gt xs k := by simp [gt]
    rw [List.set_cons_succ, dv_cons, dv_cons, ih, e, Int.pow_succ]
    grind

theorem Src.mono {w0 : World} {M N : Mem} {A : Option Addr} {bs : List Int} (h : Src w0 M A bs) (hs : ∀ p ∈ M, p ∈ N) : Src w0 N A bs := by
  rcases h with h | ⟨b, o, d, T, fr, h1, h2, h3, h4⟩
  · exact .inl h
  · exact .inr ⟨b, o, d, T, fr, h1, fun w hw => h2 w ⟨hw.below, fun p hp => hw.has p (hs p hp)⟩, h3, h4⟩

section
variable {n : Nat} {w0 : World} {E : Env} {M : Mem} {dst : Option Nat} {ty : TypeId} {pos : String} {aft : Array Edge} {g : Option (Nat × Bool)}
theorem LX.loadS {t : Nat} {x : Operand} {b i : Nat} {o : Obj} {v : Value} (hx : ev E x = some (.pointer (some ⟨b, i, none⟩))) (ht : c1 t = true) (hm : ∀ w, HW w0 M w → w.heap[b]? = some o) (hv : Obj.cell o i = some v) :
    LX n w0 ⟨dst, .load t x, ty, pos, aft, g⟩ E M v := by
  refine ⟨fun a w ha hw => ?_⟩
  have e1 := ha.eval hx
  have hc := cell_of (hm w hw) hv
  simp [execOp, e1, Instr.loadAt, Instr.sureAddr, loadVar, c1_ok ht w, hc]
end

theorem Src.cell {d : List Value} {o : Nat} {bs : List Int} {T : TypeId} {fr : Nat × Nat} {i : Nat} (hl : o + bs.length ≤ d.length) (hs : sliceL d o bs.length = bs.map (Value.int .u8)) (hi : i < bs.length) : Obj.cell (.cells d.toArray T fr) (o + i) = some (.int .u8 (gt bs i)) := by
  apply Obj.cell_list
  have h1 : (sliceL d o bs.length)[i]? = some (.int .u8 (gt bs i)) := by rw [hs, List.getElem?_map, List.getElem?_eq_getElem hi, gt_eq hi]; rfl
  unfold sliceL at h1
  rwa [List.getElem?_take, if_pos hi, List.getElem?_drop] at h1

/-- i bytes are read -/
structure Rb (bs : List Int) (i : Nat) (zs : List Int) : Prop where
  len : zs.length = bs.length / 2 + 1
  dg : Dg B16 zs
  val : dv B16 zs = dv 256 (bs.reverse.take i)
  up : ∀ j, (i + 1) / 2 ≤ j → gt zs j = 0
  half : i % 2 = 1 → gt zs (i / 2) < 256
theorem Rb.start (bs : List Int) : Rb bs 0 (List.replicate (bs.length / 2 + 1) 0) :=
  ⟨by simp, Dg.replicate B16_pos _, by rw [dv_replicate_zero]; rfl, fun j _ => by
    unfold gt; rw [List.getD_eq_getElem?_getD, List.getElem?_replicate]; split <;> rfl, fun h => by omega⟩
theorem Rb.next {bs : List Int} {i : Nat} {zs : List Int} (h : Rb bs i zs) (hb : Dg 256 bs) (hi : i < bs.length) : Rb bs (i + 1) (zs.set (i / 2) (gt zs (i / 2) + (if i % 2 = 1 then gt bs (bs.length - 1 - i) * 256 else gt bs (bs.length - 1 - i)))) := by
  have hl := h.len
  have hx := dg8_gt hb (bs.length - 1 - i)
  have hz0 : 0 ≤ gt zs (i / 2) := (Dg.getD B16_pos h.dg _).1
  have e : gt bs.reverse i = gt bs (bs.length - 1 - i) := gt_reverse hi
  have hv := dv_take_gt 256 (xs := bs.reverse) (i := i) (by simpa using hi)
  rcases Nat.mod_two_eq_zero_or_one i with h2 | h2
  · have hz : gt zs (i / 2) = 0 := h.up _ (by omega)
    rw [if_neg (by omega), hz, Int.zero_add]
    refine ⟨by simpa using hl, h.dg.set hx.1 (by unfold B16; omega) _, ?_, fun j hj => ?_, fun _ => ?_⟩
    · rw [dv_set (by omega), hz, h.val, hv, e, Int.sub_zero]
      congr 2
      rw [show (B16 : Int) = 256 ^ 2 by decide, ← Int.pow_mul]; congr 1; omega
    · rw [gt_set_ne (by omega)]; exact h.up _ (by omega)
    · rw [show (i + 1) / 2 = i / 2 by omega, gt_set_eq (by omega)]; exact hx.2
  · have hz := h.half h2
    rw [if_pos h2]
    refine ⟨by simpa using hl, h.dg.set (by omega) (by unfold B16; omega) _, ?_, fun j hj => ?_, fun h3 => by omega⟩
    · rw [dv_set (by omega), h.val, hv, e]
      congr 1
      have e2 : (256 : Int) ^ i = B16 ^ (i / 2) * 256 := by
        rw [show (B16 : Int) = 256 ^ 2 by decide, ← Int.pow_mul, ← Int.pow_succ]; congr 1; omega
      rw [e2]
      grind
    · rw [gt_set_ne (by omega)]; exact h.up _ (by omega)
end Go.Proofs.YtdnngppofbmpeaaGreatDoor.Bm
namespace Go.Proofs.YtdnngppofbmpeaaGreatDoor.Bm
open Go Go.RowKit

section
variable {w0 : World} {M : Mem}
/-- read -/
theorem sread {A : Option Addr} {bs : List Int} {cap : Nat} (hs : Src w0 M A bs) (hb : Dg 256 bs) (hL : bs.length ≤ 600) :
    CS w0 22 [.slice A bs.length cap] M (fun u M' => ∃ N ds, M' = N ++ M ∧ Num M' u (dv 256 bs.reverse) ds) := by
  refine CS.of Tryz.func22 Tryz.ntmps22 rfl rfl (WC.seq (WC.region (WL.q (LX.assign rfl) rfl (WL.nil (thenK_normal (WC.seq (WC.region (WL.q (LX.move rfl) rfl (WL.q (LX.len rfl rfl rfl) rfl (WL.q (LX.eq (LX.quoI rfl rfl (by omega) (by omega)) (show _ = Value.int .i64 ((bs.length / 2 : Nat) : Int) by congr 1)) rfl (WL.q (LX.eq (LX.addI rfl rfl (by omega)) (show _ = Value.int .i64 ((bs.length / 2 + 1 : Nat) : Int) by congr 1)) rfl (WL.step rfl (EX.make (k := .i64) (e := 3) rfl rfl rfl rfl (bs.length / 2 + 1) (bs.length / 2 + 1) rfl rfl (Nat.le_refl _) (by omega) (by omega)) ?_))))))))))))
  rintro _ _ ⟨b, rfl, rfl⟩
  refine WL.q (LX.assign rfl) rfl (WL.nil (thenK_normal (WC.seq (WC.seq (WC.region (WL.q (LX.assign rfl) rfl (WL.nil (thenK_normal (WC.block ?_)))))))))
  refine WC.loopS (fun s : Nat × List Int => [(0, .slice A bs.length cap), (3, .slice (some ⟨b, 0, none⟩) (bs.length / 2 + 1) (bs.length / 2 + 1)), (4, .int .i64 s.1)]) (fun s => (b, ints s.2) :: M)
    (fun s => s.1 ≤ bs.length ∧ Rb bs s.1 s.2) (fun s => bs.length - s.1) (0, _) ⟨Nat.zero_le _, Rb.start bs⟩ (.cons rfl (.cons rfl (.cons rfl .nil))) rfl ?_
  rintro ⟨i, zs⟩ ⟨hi, hr⟩
  dsimp only at hi hr ⊢
  have hzl := hr.len
  refine WC.seq (WC.seq (WC.region (WL.q (LX.move rfl) rfl (WL.q (LX.move rfl) rfl (WL.q (LX.len rfl rfl rfl) rfl (WL.q (LX.bin rfl rfl rfl) rfl (WL.nil (thenK_normal ?_))))))))
  refine WC.test rfl (fun hlt => ?_) (fun hge => ?_)
  · rcases hs with rfl | ⟨b', o, d, T, fr, rfl, hm, ho, hsl⟩
    · simp at hlt; omega
    have hx := dg8_gt hb (bs.length - 1 - i)
    have hz0 : 0 ≤ gt zs (i / 2) ∧ gt zs (i / 2) < 65536 := Dg.getD B16_pos hr.dg _
    refine WC.skip (thenK_normal (WC.seq (WC.block (WC.seq (WC.region (WL.q (LX.move rfl) rfl (WL.q (LX.move rfl) rfl (WL.q (LX.len rfl rfl rfl) rfl (WL.q (LX.subI rfl rfl (by omega)) rfl (WL.q (LX.move rfl) rfl (WL.q (LX.subI rfl rfl (by omega)) rfl (WL.q (LX.idxo rfl rfl rfl (bs.length - 1 - i) (by omega) (by omega)) rfl (WL.q (LX.loadS rfl rfl (fun w hw => hm w ⟨hw.below, fun p hp => hw.has p (List.mem_cons_of_mem _ hp)⟩) (Src.cell ho hsl (by omega))) rfl ?_)))))))))))))
    refine WL.q (LX.convI rfl rfl rfl (by omega)) rfl (WL.q (LX.assign rfl) rfl (WL.nil (thenK_normal (WC.seq (WC.seq (WC.region (WL.q (LX.move rfl) rfl (WL.q (LX.rem rfl rfl (by omega) (by omega)) rfl (WL.q (LX.bin rfl rfl rfl) rfl (WL.nil (thenK_normal ?_)))))))))))
    have hnx := hr.next hb (i := i) (by omega)
    refine WC.test rfl (fun hodd => ?_) (fun hev => ?_)
    · refine WC.region (WL.q (LX.move rfl) rfl (WL.q (LX.mulI rfl rfl (by omega)) rfl (WL.q (LX.assign rfl) rfl (WL.nil (thenK_normal (WC.region (WL.q (LX.move rfl) rfl (WL.q (LX.move rfl) rfl (WL.q (LX.eq (LX.quoI rfl rfl (by omega) (by omega)) (show _ = Value.int .i64 ((i / 2 : Nat) : Int) by congr 1)) rfl (WL.q (LX.move rfl) rfl (WL.q (LX.move rfl) rfl (WL.q (LX.eq (LX.quoI rfl rfl (by omega) (by omega)) (show _ = Value.int .i64 ((i / 2 : Nat) : Int) by congr 1)) rfl (WL.q (LX.idx1 rfl rfl rfl _ rfl (by omega)) rfl ?_)))))))))))))
      refine WL.q (LX.loadRow rfl rfl (by repeat first | assumption | exact List.mem_cons_self | refine List.mem_cons_of_mem _ ?_) (by omega)) rfl ?_
      refine WL.q (LX.move rfl) rfl (WL.q (LX.addI rfl rfl (by omega)) rfl (WL.q (LX.idx1 rfl rfl rfl _ rfl (by omega)) rfl (WL.put (EX.storeRow rfl rfl rfl List.mem_cons_self (by omega) Upd.here) (WL.nil (blockK_normal (thenK_normal (WC.region (WL.q (LX.move rfl) rfl (WL.q (LX.addI rfl rfl (by omega)) rfl (WL.q (LX.assign rfl) rfl (WL.nil ?_)))))))))))
      rw [if_pos (by omega)] at hnx
      exact loopS_next (i + 1, _) ⟨by simp only []; omega, hnx⟩ (by simp only []; omega) (.cons rfl (.cons rfl (.cons rfl .nil))) rfl
    · refine WC.skip (thenK_normal (WC.region (WL.q (LX.move rfl) rfl (WL.q (LX.move rfl) rfl (WL.q (LX.eq (LX.quoI rfl rfl (by omega) (by omega)) (show _ = Value.int .i64 ((i / 2 : Nat) : Int) by congr 1)) rfl (WL.q (LX.move rfl) rfl (WL.q (LX.move rfl) rfl (WL.q (LX.eq (LX.quoI rfl rfl (by omega) (by omega)) (show _ = Value.int .i64 ((i / 2 : Nat) : Int) by congr 1)) rfl (WL.q (LX.idx1 rfl rfl rfl _ rfl (by omega)) rfl ?_)))))))))
      refine WL.q (LX.loadRow rfl rfl (by repeat first | assumption | exact List.mem_cons_self | refine List.mem_cons_of_mem _ ?_) (by omega)) rfl ?_
      refine WL.q (LX.move rfl) rfl (WL.q (LX.addI rfl rfl (by omega)) rfl (WL.q (LX.idx1 rfl rfl rfl _ rfl (by omega)) rfl (WL.put (EX.storeRow rfl rfl rfl List.mem_cons_self (by omega) Upd.here) (WL.nil (blockK_normal (thenK_normal (WC.region (WL.q (LX.move rfl) rfl (WL.q (LX.addI rfl rfl (by omega)) rfl (WL.q (LX.assign rfl) rfl (WL.nil ?_)))))))))))
      rw [if_neg (by omega)] at hnx
      exact loopS_next (i + 1, _) ⟨by simp only []; omega, hnx⟩ (by simp only []; omega) (.cons rfl (.cons rfl (.cons rfl .nil))) rfl
  · refine WC.exit (thenK_exit (loopS_exit (blockK_same (thenK_normal (WC.seq (WC.region (WL.q (LX.move rfl) rfl ?_)))))))
    obtain rfl : i = bs.length := by omega
    have ht := trimmed (w0 := w0) (M := (b, ints zs) :: M) (cap := bs.length / 2 + 1) (ds := zs) List.mem_cons_self (Nat.le_refl _) (List.take_length) (by omega) hr.dg (by omega)
    rw [hzl] at ht
    refine WL.callR ht rfl (fun _ => by kernel_rfl) rfl ?_
    rintro v M1 ⟨⟨es, hes⟩, hM1⟩
    subst hM1
    refine WL.q (LX.assign rfl) rfl (WL.nil (thenK_normal (WC.ret ?_)))
    have hv := hr.val
    rw [List.take_of_length_le (by simp)] at hv
    rw [hv] at hes
    exact KR.one (.inl rfl) rfl rfl ⟨[_], es, rfl, hes⟩
end
end Go.Proofs.YtdnngppofbmpeaaGreatDoor.Bm
namespace Go.Proofs.YtdnngppofbmpeaaGreatDoor.Bm
open Go Go.RowKit

theorem Num.mod2 {M : Mem} {v : Value} {V : Int} {ds : List Int} (h : Num M v V ds) (h0 : 0 < ds.length) : V % 2 = gt ds 0 % 2 := by
  cases ds with
  | nil => simp at h0
  | cons x r => rw [← h.val, dv_cons]; show _ = x % 2; unfold B16; omega

theorem less_at {ds es : List Int} {j : Nat} (hd : Dg B16 ds) (he : Dg B16 es) (hj : j < ds.length) (hk : j < es.length) (hdr : ds.drop (j + 1) = es.drop (j + 1)) (hlt : gt ds j < gt es j) : dv B16 ds < dv B16 es := by
  rw [dv_split B16 ds (j + 1) (by omega), dv_split B16 es (j + 1) (by omega), hdr, dv_take_gt _ hj, dv_take_gt _ hk]
  have h1 := dv_lt B16_pos (hd.take j)
  have h2 := dv_nonneg B16_pos (he.take j)
  rw [List.length_take, Nat.min_eq_left (by omega)] at h1
  have h3 : B16 ^ j * (gt ds j + 1) ≤ B16 ^ j * gt es j := Int.mul_le_mul_of_nonneg_left (by omega) (Int.le_of_lt (pow_pos B16_pos j))
  rw [Int.mul_add, Int.mul_one] at h3
  omega

section
variable {w0 : World} {M : Mem}
theorem seven {v : Value} {V : Int} {ds : List Int} (h : Num M v V ds) (hL : ds.length ≤ 1000) : CS w0 67 [v] M (fun u M' => u = .bool (decide (V % 2 = 0)) ∧ M' = M) := by
  have hmem := h.mem
  cases hmem with
  | nil =>
    have hV : V = 0 := h.zero.2 rfl
    refine CS.of Tryz.func67 Tryz.ntmps67 rfl rfl (WC.seq (WC.region (WL.q (LX.assign rfl) rfl (WL.nil (thenK_normal (WC.seq (WC.region (WL.q (LX.move rfl) rfl (WL.q (LX.len rfl rfl rfl) rfl (WL.q (LX.bin rfl rfl rfl) rfl (WL.q (LX.move rfl) rfl (WL.no rfl rfl (by decide) rfl (WL.no rfl rfl (by decide) rfl ?_)))))))))))))
    refine WL.no rfl rfl (by decide) rfl (WL.no rfl rfl (by decide) rfl (WL.no rfl rfl (by decide) rfl (WL.q (LX.pickT rfl rfl) rfl (WL.q (LX.assign rfl) rfl (WL.nil (thenK_normal (WC.ret ?_)))))))
    exact KR.one (.inl rfl) rfl rfl ⟨by rw [hV]; rfl, rfl⟩
  | @mk b o cap full _ hm h0 hl hs hc =>
    have e := h.mod2 h0
    have hg : gt full (o + 0) = gt ds 0 := by rw [← sliceL_gt (k := ds.length) h0, hs]
    have hd := Dg.getD B16_pos h.dg 0
    refine CS.of Tryz.func67 Tryz.ntmps67 rfl rfl (WC.seq (WC.region (WL.q (LX.assign rfl) rfl (WL.nil (thenK_normal (WC.seq (WC.region (WL.q (LX.move rfl) rfl (WL.q (LX.len rfl rfl rfl) rfl (WL.q (LX.eq (LX.bin rfl rfl rfl) (fls (by omega))) rfl (WL.q (LX.move rfl) rfl (WL.yes rfl rfl (WL.q (LX.move rfl) rfl ?_)))))))))))))
    refine WL.yes rfl rfl (WL.q (LX.idxo rfl rfl rfl 0 rfl (by omega)) rfl (WL.yes rfl rfl (WL.q (LX.eq (LX.loadRow rfl rfl hm (by omega)) (by rw [hg])) rfl ?_)))
    refine WL.yes rfl rfl (WL.q (LX.rem rfl rfl hd.1 (by omega)) rfl (WL.yes rfl rfl (WL.q (LX.bin rfl rfl rfl) rfl (WL.q (LX.pickF rfl rfl) rfl (WL.q (LX.assign rfl) rfl (WL.nil (thenK_normal (WC.ret ?_))))))))
    exact KR.one (.inl rfl) rfl rfl ⟨by rw [e], rfl⟩

theorem len_lt {M N : Mem} {v w : Value} {V W : Int} {ds es : List Int} (h : Num M v V ds) (k : Num N w W es) (hl : ds.length < es.length) : V < W := by
  have h1 := h.lt
  have h2 := k.ge (by intro e; subst e; simp at hl)
  have h3 := pow2_le (show 16 * ds.length ≤ 16 * (es.length - 1) by omega)
  rw [B16_two] at h1 h2
  omega

/-- less -/
theorem sless {v w : Value} {V W : Int} {ds es : List Int} (h : Num M v V ds) (k : Num M w W es) (hL : ds.length ≤ 1000) (hL' : es.length ≤ 1000) : CS w0 23 [v, w] M (fun u M' => u = .bool (decide (V < W)) ∧ M' = M) := by
  obtain ⟨A, cap, hv⟩ : ∃ A cap, v = .slice A ds.length cap := by
    have := h.mem
    cases this with
    | nil => exact ⟨_, _, rfl⟩
    | mk => exact ⟨_, _, rfl⟩
  obtain ⟨A', cap', hw⟩ : ∃ A cap, w = .slice A es.length cap := by
    have := k.mem
    cases this with
    | nil => exact ⟨_, _, rfl⟩
    | mk => exact ⟨_, _, rfl⟩
  subst hv hw
  refine CS.of Tryz.func23 Tryz.ntmps23 rfl rfl (WC.seq (WC.region (WL.q (LX.assign rfl) rfl (WL.nil (thenK_normal (WC.seq (WC.seq (WC.region (WL.q (LX.move rfl) rfl (WL.q (LX.len rfl rfl rfl) rfl (WL.q (LX.move rfl) rfl (WL.q (LX.len rfl rfl rfl) rfl (WL.q (LX.bin rfl rfl rfl) rfl ?_)))))))))))))
  refine WL.nil (thenK_normal ?_)
  refine WC.testN rfl (fun hne => ?_) (fun heq => ?_)
  · have hiff : ((ds.length : Int) < (es.length : Int)) ↔ V < W := by
      constructor
      · intro h1; exact len_lt h k (by omega)
      · intro h1
        rcases Nat.lt_or_ge es.length ds.length with h2 | h2
        · have := len_lt k h h2; omega
        · omega
    refine WC.seq (WC.region (WL.q (LX.move rfl) rfl (WL.q (LX.len rfl rfl rfl) rfl (WL.q (LX.move rfl) rfl (WL.q (LX.len rfl rfl rfl) rfl (WL.q (LX.bin rfl rfl rfl) rfl (WL.q (LX.assign rfl) rfl (WL.nil (thenK_normal (WC.ret (thenK_ret ?_)))))))))))
    exact KR.one (.inl rfl) rfl rfl ⟨by simp only [hiff], rfl⟩
  · refine WC.skip (thenK_normal (WC.seq (WC.seq (WC.region (WL.q (LX.move rfl) rfl (WL.q (LX.len rfl rfl rfl) rfl (WL.q (LX.subI rfl rfl (by omega)) rfl (WL.q (LX.assign rfl) rfl (WL.nil (thenK_normal (WC.block ?_)))))))))))
    have hle : ds.length = es.length := by omega
    refine WC.loopS (fun j : Nat => [(0, .slice A ds.length cap), (1, .slice A' es.length cap'), (5, .int .i64 ((j : Int) - 1))]) (fun _ => M) (fun j => j ≤ ds.length ∧ ds.drop j = es.drop j) (fun j => j) ds.length ⟨Nat.le_refl _, by rw [List.drop_length, hle, List.drop_length]⟩ (.cons rfl (.cons rfl (.cons rfl .nil))) rfl ?_
    rintro j ⟨hj, hdr⟩
    have hj1 : ((j : Int) - 1 ≥ 0) → 0 < j := by omega
    refine WC.seq (WC.seq (WC.region (WL.q (LX.move rfl) rfl (WL.q (LX.bin rfl rfl rfl) rfl (WL.nil (thenK_normal ?_))))))
    refine WC.test rfl (fun hge => ?_) (fun hge => ?_)
    · have hm1 := h.mem
      have hm2 := k.mem
      generalize hdl : ds.length = n1 at hm1
      generalize hel : es.length = n2 at hm2
      obtain ⟨b, o, full, rfl, hm, hl, hs, hc⟩ : ∃ b o full, A = some ⟨b, o, none⟩ ∧ (b, ints full) ∈ M ∧ o + ds.length ≤ full.length ∧ sliceL full o ds.length = ds ∧ ds.length ≤ cap := by
        cases hm1 with
        | nil => simp only [List.length_nil] at hj; omega
        | mk hm h0 hl hs hc => exact ⟨_, _, _, rfl, hm, hl, hs, hc⟩
      obtain ⟨b', o', full', rfl, hm', hl', hs', hc'⟩ : ∃ b o full, A' = some ⟨b, o, none⟩ ∧ (b, ints full) ∈ M ∧ o + es.length ≤ full.length ∧ sliceL full o es.length = es ∧ es.length ≤ cap' := by
        cases hm2 with
        | nil => simp only [List.length_nil] at hle; omega
        | mk hm h0 hl hs hc => exact ⟨_, _, _, rfl, hm, hl, hs, hc⟩
      have hg : gt full (o + (j - 1)) = gt ds (j - 1) := by rw [← sliceL_gt (k := ds.length) (by omega), hs]
      have hg' : gt full' (o' + (j - 1)) = gt es (j - 1) := by rw [← sliceL_gt (k := es.length) (by omega), hs']
      have hms : ∀ z ∈ [(b, ints full), (b', ints full')], z ∈ M := by
        intro z hz
        simp only [List.mem_cons, List.not_mem_nil, or_false] at hz
        rcases hz with rfl | rfl <;> assumption
      refine WC.skip (thenK_normal (WC.seq (WC.block (WC.seq (WC.draw [(0, 0), (0, 1), (0, 2), (0, 4), (0, 5), (0, 6), (1, 3), (1, 7), (0, 8)] [(b, ints full), (b', ints full')] rfl (by kernel_rfl) rfl (by kernel_rfl) (DW.p rfl rfl (fun _ => LX.move rfl) rfl (DW.p rfl rfl (fun _ => LX.move rfl) rfl (DW.p rfl rfl (fun _ => LX.idxo rfl rfl rfl (j - 1) (by omega) (by omega)) rfl (DW.p rfl rfl (fun _ => LX.move rfl) rfl (DW.p rfl rfl (fun _ => LX.move rfl) rfl (DW.p rfl rfl (fun _ => LX.idxo rfl rfl rfl (j - 1) (by omega) (by omega)) rfl ?_)))))))))))
      refine DW.r rfl rfl (LX.eq (LX.loadRow rfl rfl (by repeat first | assumption | exact List.mem_cons_self | refine List.mem_cons_of_mem _ ?_) (by omega)) (by rw [hg])) hms rfl ?_
      refine DW.r rfl rfl (LX.eq (LX.loadRow rfl rfl (by repeat first | assumption | exact List.mem_cons_self | refine List.mem_cons_of_mem _ ?_) (by omega)) (by rw [hg'])) hms rfl ?_
      refine DW.p rfl rfl (fun _ => LX.bin rfl rfl rfl) rfl (DW.nil (thenK_normal ?_))
      refine WC.testN rfl (fun hne => ?_) (fun heq2 => ?_)
      · have hdr' : ds.drop (j - 1 + 1) = es.drop (j - 1 + 1) := by rw [show j - 1 + 1 = j by omega]; exact hdr
        have hiff : (gt ds (j - 1) < gt es (j - 1)) ↔ V < W := by
          rw [← h.val, ← k.val]
          constructor
          · intro h1; exact less_at h.dg k.dg (by omega) (by omega) hdr' h1
          · intro h1
            rcases Int.lt_or_le (gt ds (j - 1)) (gt es (j - 1)) with h2 | h2
            · exact h2
            · have := less_at k.dg h.dg (by omega) (by omega) hdr'.symm (by omega); omega
        refine WC.seq (WC.draw [(0, 0), (0, 1), (0, 2), (0, 4), (0, 5), (0, 6), (1, 3), (1, 7), (0, 8), (0, 9)] [(b, ints full), (b', ints full')] rfl (by kernel_rfl) rfl (by kernel_rfl) (DW.p rfl rfl (fun _ => LX.move rfl) rfl (DW.p rfl rfl (fun _ => LX.move rfl) rfl (DW.p rfl rfl (fun _ => LX.idxo rfl rfl rfl (j - 1) (by omega) (by omega)) rfl (DW.p rfl rfl (fun _ => LX.move rfl) rfl (DW.p rfl rfl (fun _ => LX.move rfl) rfl (DW.p rfl rfl (fun _ => LX.idxo rfl rfl rfl (j - 1) (by omega) (by omega)) rfl ?_)))))))
        refine DW.r rfl rfl (LX.eq (LX.loadRow rfl rfl (by repeat first | assumption | exact List.mem_cons_self | refine List.mem_cons_of_mem _ ?_) (by omega)) (by rw [hg])) hms rfl ?_
        refine DW.r rfl rfl (LX.eq (LX.loadRow rfl rfl (by repeat first | assumption | exact List.mem_cons_self | refine List.mem_cons_of_mem _ ?_) (by omega)) (by rw [hg'])) hms rfl ?_
        refine DW.p rfl rfl (fun _ => LX.bin rfl rfl rfl) rfl (DW.p rfl rfl (fun _ => LX.assign rfl) rfl (DW.nil (thenK_normal (WC.ret (blockK_ret (thenK_ret (loopS_ret (blockK_ret (thenK_ret ?_)))))))))
        exact KR.one (.inl rfl) rfl rfl ⟨by simp only [hiff], rfl⟩
      · refine WC.skip (blockK_normal (thenK_normal (WC.region (WL.q (LX.move rfl) rfl (WL.q (LX.eq (LX.subI rfl rfl (by omega)) (show _ = Value.int .i64 (((j - 1 : Nat) : Int) - 1) by congr 1; omega)) rfl (WL.q (LX.assign rfl) rfl (WL.nil ?_)))))))
        refine loopS_next (j - 1) ⟨by omega, ?_⟩ (by omega) (.cons rfl (.cons rfl (.cons rfl .nil))) rfl
        have e1 : ds.drop (j - 1) = gt ds (j - 1) :: ds.drop j := by
          rw [List.drop_eq_getElem_cons (by omega), gt_eq (by omega), show j - 1 + 1 = j by omega]
        have e2 : es.drop (j - 1) = gt es (j - 1) :: es.drop j := by
          rw [List.drop_eq_getElem_cons (by omega), gt_eq (by omega), show j - 1 + 1 = j by omega]
        rw [e1, e2, hdr, heq2]
    · refine WC.exit (thenK_exit (loopS_exit (blockK_same (thenK_normal (WC.seq (WC.region (WL.q (LX.assign rfl) rfl (WL.nil (thenK_normal (WC.ret ?_))))))))))
      obtain rfl : j = 0 := by omega
      have : ds = es := by simpa using hdr
      have hVW : V = W := by rw [← h.val, ← k.val, this]
      exact KR.one (.inl rfl) rfl rfl ⟨by rw [hVW]; simp, rfl⟩
end
end Go.Proofs.YtdnngppofbmpeaaGreatDoor.Bm
namespace Go.Proofs.YtdnngppofbmpeaaGreatDoor.Bm
open Go Go.RowKit

section
variable {w0 : World} {M : Mem}
theorem ione {b : Bool} : CS w0 34 [.bool b] M (fun u M' => u = .int .i64 (if b then 1 else 0) ∧ M' = M) := by
  refine CS.of Tryz.func34 Tryz.ntmps34 rfl rfl (WC.seq (WC.region (WL.q (LX.assign rfl) rfl (WL.nil (thenK_normal (WC.seq (WC.seq (WC.region (WL.q (LX.move rfl) rfl (WL.nil (thenK_normal ?_)))))))))))
  cases b
  · refine WC.no rfl (WC.skip (thenK_normal (WC.seq (WC.region (WL.q (LX.assign rfl) rfl (WL.nil (thenK_normal (WC.ret ?_))))))))
    exact KR.one (.inl rfl) rfl rfl ⟨rfl, rfl⟩
  · skip
    refine WC.yes rfl (WC.seq (WC.region (WL.q (LX.assign rfl) rfl (WL.nil (thenK_normal (WC.ret (thenK_ret ?_)))))))
    exact KR.one (.inl rfl) rfl rfl ⟨rfl, rfl⟩
theorem sone {b : Bool} : CS w0 73 [.bool b] M (fun u M' => u = .int .i64 (if b then 1 else 0) ∧ M' = M) := by
  refine CS.of Tryz.func73 Tryz.ntmps73 rfl rfl (WC.seq (WC.region (WL.q (LX.assign rfl) rfl (WL.nil (thenK_normal (WC.seq (WC.seq (WC.region (WL.q (LX.move rfl) rfl (WL.nil (thenK_normal ?_)))))))))))
  cases b
  · refine WC.no rfl (WC.skip (thenK_normal (WC.seq (WC.region (WL.q (LX.assign rfl) rfl (WL.nil (thenK_normal (WC.ret ?_))))))))
    exact KR.one (.inl rfl) rfl rfl ⟨rfl, rfl⟩
  · skip
    refine WC.yes rfl (WC.seq (WC.region (WL.q (LX.assign rfl) rfl (WL.nil (thenK_normal (WC.ret (thenK_ret ?_)))))))
    exact KR.one (.inl rfl) rfl rfl ⟨rfl, rfl⟩
theorem iwithin {i n : Int} : CS w0 18 [.int .i64 i, .int .i64 n] M (fun u M' => u = .bool (decide (0 ≤ i ∧ i < n)) ∧ M' = M) := by
  refine CS.of Tryz.func18 Tryz.ntmps18 rfl rfl ?_
  by_cases h : 0 ≤ i
  · skip
    refine WC.seq (WC.region (WL.q (LX.assign rfl) rfl (WL.nil (thenK_normal (WC.seq (WC.region (WL.q (LX.move rfl) rfl (WL.q (LX.eq (LX.bin rfl rfl rfl) (tru (by omega))) rfl (WL.q (LX.move rfl) rfl (WL.yes rfl rfl (WL.q (LX.move rfl) rfl (WL.yes rfl rfl (WL.q (LX.move rfl) rfl ?_)))))))))))))
    refine WL.yes rfl rfl (WL.q (LX.bin rfl rfl rfl) rfl (WL.q (LX.pickT rfl rfl) rfl (WL.q (LX.assign rfl) rfl (WL.nil (thenK_normal (WC.ret ?_))))))
    exact KR.one (.inl rfl) rfl rfl ⟨by simp [h], rfl⟩
  · skip
    refine WC.seq (WC.region (WL.q (LX.assign rfl) rfl (WL.nil (thenK_normal (WC.seq (WC.region (WL.q (LX.move rfl) rfl (WL.q (LX.eq (LX.bin rfl rfl rfl) (fls (by omega))) rfl (WL.q (LX.move rfl) rfl (WL.no rfl rfl (by decide) rfl (WL.no rfl rfl (by decide) rfl (WL.no rfl rfl (by decide) rfl (WL.q (LX.pickF rfl rfl) rfl ?_)))))))))))))
    refine WL.q (LX.assign rfl) rfl (WL.nil (thenK_normal (WC.ret ?_)))
    exact KR.one (.inl rfl) rfl rfl ⟨by simp [h], rfl⟩
end
end Go.Proofs.YtdnngppofbmpeaaGreatDoor.Bm
namespace Go.Proofs.YtdnngppofbmpeaaGreatDoor.Bm
open Go Go.RowKit

def isD (v : Value) : Prop := ∃ q, v = .int .i64 q ∧ 0 ≤ q ∧ q < B16
theorem Own.ds {v : Value} {ds : List Int} {M0 M1 : Mem} (h : Own isD 3 v (ds.map (Value.int .i64)) M0 M1) : Ds M1 v ds ∧ Dg B16 ds := by
  rcases h with ⟨rfl, h, rfl⟩ | ⟨b, c, rfl, hlc, htk, rfl, hG⟩
  · have : ds = [] := by simpa using h
    subst this
    exact ⟨.nil, Dg.nil _⟩
  · obtain ⟨full, rfl⟩ := ints_of (k := .i64) (fun u hu => let ⟨q, h, _⟩ := hG u hu; ⟨q, h⟩)
    simp only [List.length_map] at hlc htk ⊢
    rw [← List.map_take] at htk
    have htk' := ints_inj htk
    have hd : Dg B16 ds := by
      intro x hx
      rw [← htk'] at hx
      obtain ⟨q, h1, h2⟩ := hG (.int .i64 x) (List.mem_map.2 ⟨x, List.mem_of_mem_take hx, rfl⟩)
      cases h1
      exact h2
    refine ⟨?_, hd⟩
    rcases Nat.eq_zero_or_pos ds.length with h0 | h0
    · have : ds = [] := List.length_eq_zero_iff.1 h0
      subst this
      exact .nil
    · exact .mk (List.mem_cons_self) h0 (by omega) (by simp only [sliceL, List.drop_zero]; exact htk') hlc

section
variable {w0 : World} {M : Mem}
/-- small -/
theorem ssmall {x : Int} (h0 : 0 ≤ x) (h1 : x < 9223372036854775808) : CS w0 24 [.int .i64 x] M (fun u M' => ∃ N ds, M' = N ++ M ∧ Num M' u x ds) := by
  refine CS.of Tryz.func24 Tryz.ntmps24 rfl rfl (WC.seq (WC.region (WL.q (LX.assign rfl) rfl (WL.nil (thenK_normal (WC.seq (WC.region (WL.step rfl (EX.bslice (e := 3) (cs := []) rfl (fun _ => by kernel_rfl)) ?_))))))))
  rintro _ _ ⟨b, rfl, rfl⟩
  refine WL.q (LX.assign rfl) rfl (WL.nil (thenK_normal (WC.seq (WC.block ?_))))
  refine WC.loopS (fun s : Int × List Int × Value × Mem × Mem => [(0, .int .i64 s.1), (3, s.2.2.1)]) (fun s => s.2.2.2.2)
    (fun s => 0 ≤ s.1 ∧ s.1 ≤ x ∧ Own isD 3 s.2.2.1 (s.2.1.map (Value.int .i64)) s.2.2.2.1 s.2.2.2.2 ∧ (∃ N, s.2.2.2.1 = N ++ M) ∧ dv B16 s.2.1 + B16 ^ s.2.1.length * s.1 = x ∧ (s.1 = 0 → s.2.1 = [] ∨ gt s.2.1 (s.2.1.length - 1) ≠ 0)) (fun s => s.1.toNat)
    (x, [], .slice (some ⟨b, 0, none⟩) 0 0, M, _) ⟨h0, Int.le_refl _, .inr ⟨b, [], rfl, Nat.le_refl _, rfl, rfl, by simp⟩, ⟨[], rfl⟩, by simp, fun _ => .inl rfl⟩ (.cons rfl (.cons rfl .nil)) rfl ?_
  rintro ⟨y, ds, v3, M0, M1⟩ ⟨hy0, hyx, hown, ⟨N, hN⟩, hv, ht⟩
  dsimp only at hy0 hyx hown hN hv ht ⊢
  obtain ⟨hds, hdg⟩ := hown.ds
  refine WC.seq (WC.seq (WC.region (WL.q (LX.move rfl) rfl (WL.q (LX.bin rfl rfl rfl) rfl (WL.nil (thenK_normal ?_))))))
  refine WC.test rfl (fun hlt => ?_) (fun hge => ?_)
  · have hlen : ds.length ≤ 4 := by
      rcases Nat.lt_or_ge 4 ds.length with h | h
      · exfalso
        have h2 := pow2_le (show 80 ≤ 16 * ds.length by omega)
        rw [← B16_two] at h2
        have h3 : B16 ^ ds.length * 1 ≤ B16 ^ ds.length * y := Int.mul_le_mul_of_nonneg_left (by omega) (Int.le_of_lt (pow_pos B16_pos _))
        have h4 := dv_nonneg B16_pos hdg
        have h5 : (2 : Int) ^ 80 = 1208925819614629174706176 := by decide
        omega
      · exact h
    refine WC.skip (thenK_normal (WC.seq (WC.block (WC.region (WL.q (LX.move rfl) rfl (WL.q (LX.move rfl) rfl (WL.q (LX.rem rfl rfl (by omega) (by omega)) rfl (WL.step rfl (EX.bslice (e := 3) (cs := [.int .i64 (y % 65536)]) rfl (fun _ => by kernel_rfl)) ?_))))))))
    rintro _ _ ⟨b', rfl, rfl⟩
    
    obtain ⟨M2, hown2, hperm⟩ := hown.more [(b', .cells #[.int .i64 (y % 65536)] 3 (0, 0))]
    refine WL.appendOwn (EX.pm ⟨hperm⟩ (EX.append (ds := [.int .i64 (y % 65536)]) (d := [.int .i64 (y % 65536)]) rfl hown2 rfl rfl rfl rfl rfl ⟨0, rfl, by omega, by decide⟩ (by intro u hu; simp at hu; subst hu; exact ⟨_, rfl, by omega, by unfold B16; omega⟩) (fun w hw => (hw.has _ (hperm.symm.subset List.mem_cons_self)).2) (Nat.le_refl _) rfl (by simp; rfl) (by simp; omega))) rfl ?_
    rintro v' M3 hv'
    have hv' : Own isD 3 v' ((ds ++ [y % 65536]).map (Value.int .i64)) ([(b', .cells #[.int .i64 (y % 65536)] 3 (0, 0))] ++ M0) M3 := by rw [List.map_append]; exact hv'
    refine WL.q (LX.assign rfl) rfl (WL.nil (blockK_normal (thenK_normal (WC.region (WL.q (LX.move rfl) rfl (WL.q (LX.quoI rfl rfl (by omega) (by omega)) rfl (WL.q (LX.assign rfl) rfl (WL.nil ?_))))))))
    refine loopS_next (y / 65536, ds ++ [y % 65536], v', _, M3) ⟨by simp only []; omega, by simp only []; omega, hv', ⟨_ :: N, by rw [hN]; rfl⟩, ?_, fun h => .inr ?_⟩ (by simp only []; omega) (.cons rfl (.cons rfl .nil)) rfl
    · simp only []
      rw [dv_snoc, List.length_append, List.length_singleton, Int.pow_succ, ← hv]
      have e : y = 65536 * (y / 65536) + y % 65536 := by omega
      generalize y / 65536 = q at *
      generalize y % 65536 = r at *
      subst e
      unfold B16
      grind
    · simp only [] at h ⊢
      rw [List.length_append, List.length_singleton, Nat.add_sub_cancel]
      have : gt (ds ++ [y % 65536]) ds.length = y % 65536 := by unfold gt; simp
      rw [this]; omega
  · refine WC.exit (thenK_exit (loopS_exit (blockK_same (thenK_normal (WC.seq (WC.region (WL.q (LX.move rfl) rfl (WL.q (LX.assign rfl) rfl (WL.nil (thenK_normal (WC.ret ?_)))))))))))
    obtain rfl : y = 0 := by omega
    rw [Int.mul_zero, Int.add_zero] at hv
    have hsub : ∃ N', M1 = N' ++ M := by
      rcases hown with ⟨_, _, rfl⟩ | ⟨bb, c, _, _, _, rfl, _⟩
      · exact ⟨N, hN⟩
      · exact ⟨_ :: N, by rw [hN]; rfl⟩
    obtain ⟨N', hN'⟩ := hsub
    exact KR.one (.inl rfl) rfl rfl ⟨N', ds, hN', hds, hdg, hv, ht rfl⟩
end
end Go.Proofs.YtdnngppofbmpeaaGreatDoor.Bm
namespace Go.Proofs.YtdnngppofbmpeaaGreatDoor.Bm
open Go Go.RowKit

/-- digit i, nought beyond the end -/
def dg (ds : List Int) (i : Nat) : Int := if i < ds.length then gt ds i else 0
theorem dg_bd {ds : List Int} (h : Dg B16 ds) (i : Nat) : 0 ≤ dg ds i ∧ dg ds i < 65536 := by
  unfold dg; split
  · exact Dg.getD B16_pos h i
  · omega
theorem dv_take_dg {b : Int} {ds : List Int} {i : Nat} : dv b (ds.take (i + 1)) = dv b (ds.take i) + b ^ i * dg ds i := by
  unfold dg; split
  · rw [dv_take_gt _ (by omega)]
  · rw [List.take_of_length_le (by omega), List.take_of_length_le (by omega)]; simp

/-- a slice of the call's own: its block is the memory's head -/
def OwnB (v : Value) (ds : List Int) (M0 M1 : Mem) : Prop := ∃ b full, v = .slice (some ⟨b, 0, none⟩) ds.length full.length ∧ ds.length ≤ full.length ∧ full.take ds.length = ds ∧ Dg B16 full ∧ M1 = (b, ints full) :: M0
theorem OwnB.own {v : Value} {ds : List Int} {M0 M1 : Mem} (h : OwnB v ds M0 M1) : Own isD 3 v (ds.map (Value.int .i64)) M0 M1 := by
  obtain ⟨b, full, rfl, hl, ht, hd, rfl⟩ := h
  refine .inr ⟨b, full.map (Value.int .i64), by simp, by simpa using hl, by rw [List.length_map, ← List.map_take, ht], rfl, ?_⟩
  intro u hu
  obtain ⟨q, hq, rfl⟩ := List.mem_map.1 hu
  exact ⟨q, rfl, hd q hq⟩
theorem Own.ownB {v : Value} {ds : List Int} {M0 M1 : Mem} (h : Own isD 3 v (ds.map (Value.int .i64)) M0 M1) (hne : ds ≠ []) : OwnB v ds M0 M1 := by
  rcases h with ⟨rfl, h, rfl⟩ | ⟨b, c, rfl, hlc, htk, rfl, hG⟩
  · exact absurd (by simpa using h) hne
  · obtain ⟨full, rfl⟩ := ints_of (k := .i64) (fun u hu => let ⟨q, h, _⟩ := hG u hu; ⟨q, h⟩)
    simp only [List.length_map] at hlc htk ⊢
    rw [← List.map_take] at htk
    refine ⟨b, full, rfl, hlc, ints_inj htk, ?_, rfl⟩
    intro x hx
    obtain ⟨q, h1, h2⟩ := hG (.int .i64 x) (List.mem_map.2 ⟨x, hx, rfl⟩)
    cases h1
    exact h2

/-- a slice of a number's digits: where it lies -/
theorem Ds.form {M : Mem} {v : Value} {ds : List Int} (h : Ds M v ds) : ∃ A cap, v = .slice A ds.length cap ∧ (0 < ds.length → ∃ b o full, A = some ⟨b, o, none⟩ ∧ (b, ints full) ∈ M ∧ o + ds.length ≤ full.length ∧ sliceL full o ds.length = ds ∧ ds.length ≤ cap) := by
  cases h with
  | nil => exact ⟨_, _, rfl, fun h => by simp at h⟩
  | mk hm h0 hl hs hc => exact ⟨_, _, rfl, fun _ => ⟨_, _, _, rfl, hm, hl, hs, hc⟩⟩

theorem Own.pre {G : Value → Prop} {T : TypeId} {v : Value} {l : List Value} {M M0 M1 : Mem} (h : Own G T v l M0 M1) (hN : ∃ N, M0 = N ++ M) : ∃ N, M1 = N ++ M := by
  obtain ⟨N, hN⟩ := hN
  rcases h with ⟨_, _, rfl⟩ | ⟨bb, c, _, _, _, rfl, _⟩
  · exact ⟨N, hN⟩
  · exact ⟨_ :: N, by rw [hN]; rfl⟩
theorem sum_step {Z P c X x Y y c' r : Int} (h : Z + P * c = X + Y) (h2 : c + x + y = 65536 * c' + r) : Z + P * r + (P * 65536) * c' = X + P * x + (Y + P * y) := by grind

section
variable {w0 : World} {M : Mem}
/-- sum -/
theorem ssum {v w : Value} {V W : Int} {ds es : List Int} (h : Num M v V ds) (k : Num M w W es) (hL : ds.length ≤ 300) (hL' : es.length ≤ 300) :
    CS w0 63 [v, w] M (fun u M' => ∃ N fs, M' = N ++ M ∧ Num M' u (V + W) fs) := by
  obtain ⟨A, cap, rfl, hA⟩ := h.mem.form
  obtain ⟨A', cap', rfl, hA'⟩ := k.mem.form
  refine CS.of Tryz.func63 Tryz.ntmps63 rfl rfl (WC.seq (WC.region (WL.q (LX.assign rfl) rfl (WL.nil (thenK_normal (WC.seq (WC.region (WL.step rfl (EX.bslice (e := 3) (cs := []) rfl (fun _ => by kernel_rfl)) ?_))))))))
  rintro _ _ ⟨b, rfl, rfl⟩
  refine WL.q (LX.assign rfl) rfl (WL.nil (thenK_normal (WC.seq (WC.region (WL.q (LX.assign rfl) rfl (WL.nil (thenK_normal (WC.seq (WC.seq (WC.region (WL.q (LX.assign rfl) rfl (WL.nil (thenK_normal ?_)))))))))))))
  refine WC.block ?_
  refine WC.loopS (fun s : Nat × Int × List Int × Value × Mem × Mem => [(0, .slice A ds.length cap), (1, .slice A' es.length cap'), (5, s.2.2.2.1), (6, .int .i64 s.2.1), (7, .int .i64 s.1)]) (fun s => s.2.2.2.2.2)
    (fun s => (0 ≤ s.2.1 ∧ s.2.1 ≤ 1) ∧ s.1 ≤ 302 ∧ (max ds.length es.length < s.1 → s.2.1 = 0) ∧ OwnB s.2.2.2.1 s.2.2.1 s.2.2.2.2.1 s.2.2.2.2.2 ∧ (∃ N, s.2.2.2.2.1 = N ++ M) ∧ s.2.2.1.length = s.1 ∧ dv B16 s.2.2.1 + B16 ^ s.1 * s.2.1 = dv B16 (ds.take s.1) + dv B16 (es.take s.1)) (fun s => 303 - s.1)
    (0, 0, [], .slice (some ⟨b, 0, none⟩) 0 0, M, _) ⟨⟨Int.le_refl _, (show (0 : Int) ≤ 1 by decide)⟩, (show 0 ≤ 302 by decide), fun _ => rfl, ⟨b, [], rfl, Nat.le_refl _, rfl, Dg.nil _, rfl⟩, ⟨[], rfl⟩, rfl, by simp⟩ (.cons rfl (.cons rfl (.cons rfl (.cons rfl (.cons rfl .nil))))) rfl ?_
  rintro ⟨i, c, fs, v5, M0, M1⟩ ⟨hc, hi, hlast, hown, hN, hfl, hv⟩
  dsimp only at hc hi hlast hown hN hfl hv ⊢
  obtain ⟨hfs, hfd⟩ := hown.own.ds
  have hMM : ∀ z ∈ M, z ∈ M1 := by
    obtain ⟨N, rfl⟩ := hown.own.pre hN
    exact fun z hz => List.mem_append_right _ hz
  have hxb := dg_bd h.dg i
  have hyb := dg_bd k.dg i
  
  refine WC.cut (fun E' M' => (i < max ds.length es.length ∨ 0 < c) ∧ Sub [(0, .slice A ds.length cap), (1, .slice A' es.length cap'), (5, v5), (6, .int .i64 c), (7, .int .i64 i)] E' ∧ M1 = M') ?_ ?_
  · refine WC.seq (WC.region (WL.q (LX.move rfl) rfl (WL.q (LX.move rfl) rfl (WL.q (LX.len rfl rfl rfl) rfl (WL.q (LX.bin rfl rfl rfl) rfl (WL.q (LX.move rfl) rfl ?_))))))
    by_cases h1 : (i : Int) < ds.length
    · rw [decide_eq_true h1]
      refine WL.no rfl rfl (by decide) rfl (WL.no rfl rfl (by decide) rfl (WL.no rfl rfl (by decide) rfl (WL.no rfl rfl (by decide) rfl (WL.q (LX.pickT rfl rfl) rfl (WL.q (LX.move rfl) rfl (WL.no rfl rfl (by decide) rfl (WL.no rfl rfl (by decide) rfl (WL.q (LX.pickT rfl rfl) rfl (WL.nil (thenK_normal (WC.yes rfl (WC.skip ?_))))))))))))
      exact ⟨.inl (by omega), (.cons rfl (.cons rfl (.cons rfl (.cons rfl (.cons rfl .nil))))), rfl⟩
    rw [decide_eq_false h1]
    refine WL.yes rfl rfl (WL.q (LX.move rfl) rfl (WL.yes rfl rfl (WL.q (LX.move rfl) rfl (WL.yes rfl rfl (WL.q (LX.len rfl rfl rfl) rfl (WL.yes rfl rfl (WL.q (LX.bin rfl rfl rfl) rfl (WL.q (LX.pickF rfl rfl) rfl (WL.q (LX.move rfl) rfl ?_)))))))))
    by_cases h2 : (i : Int) < es.length
    · rw [decide_eq_true h2]
      refine WL.no rfl rfl (by decide) rfl (WL.no rfl rfl (by decide) rfl (WL.q (LX.pickT rfl rfl) rfl (WL.nil (thenK_normal (WC.yes rfl (WC.skip ?_))))))
      exact ⟨.inl (by omega), (.cons rfl (.cons rfl (.cons rfl (.cons rfl (.cons rfl .nil))))), rfl⟩
    rw [decide_eq_false h2]
    refine WL.yes rfl rfl (WL.q (LX.move rfl) rfl (WL.yes rfl rfl (WL.q (LX.bin rfl rfl rfl) rfl (WL.q (LX.pickF rfl rfl) rfl (WL.nil (thenK_normal ?_))))))
    refine WC.test rfl (fun h3 => ?_) (fun h3 => ?_)
    · refine WC.skip ?_
      exact ⟨.inr (by omega), (.cons rfl (.cons rfl (.cons rfl (.cons rfl (.cons rfl .nil))))), rfl⟩
    · refine WC.exit (cutK_exit (loopS_exit (blockK_same (thenK_normal (WC.seq (WC.region (WL.q (LX.move rfl) rfl ?_)))))))
      obtain rfl : c = 0 := by omega
      rw [Int.mul_zero, Int.add_zero, List.take_of_length_le (by omega), List.take_of_length_le (by omega), h.val, k.val] at hv
      obtain ⟨N, hN'⟩ := hown.own.pre hN
      obtain ⟨bf, full, rfl, hl1, hl2, hl3, rfl⟩ := hown
      refine WL.callR (trimmed (M := (bf, ints full) :: M0) (full := full) (ds := fs) List.mem_cons_self hl1 hl2 hl1 hfd (by omega)) rfl (fun _ => by kernel_rfl) rfl ?_
      rintro u M2 ⟨⟨gs, hgs⟩, hM2⟩
      subst hM2
      refine WL.q (LX.assign rfl) rfl (WL.nil (thenK_normal (WC.ret ?_)))
      rw [hv] at hgs
      exact KR.one (.inl rfl) rfl rfl ⟨N, gs, hN', hgs⟩
  rintro E' M' ⟨hgo, hE, rfl⟩
  refine WC.cutE _ hE (WC.seq (WC.block ?_))
  refine WC.cut (fun E' M' => Sub [(0, .slice A ds.length cap), (1, .slice A' es.length cap'), (5, v5), (6, .int .i64 (c + dg ds i)), (7, .int .i64 i)] E' ∧ M1 = M') ?_ ?_
  · refine WC.seq (WC.region (WL.q (LX.move rfl) rfl (WL.q (LX.move rfl) rfl (WL.q (LX.len rfl rfl rfl) rfl (WL.q (LX.bin rfl rfl rfl) rfl (WL.nil (thenK_normal ?_)))))))
    refine WC.test rfl (fun h1 => ?_) (fun h1 => ?_)
    · obtain ⟨b1', o1, full1, rfl, hm1, hl1, hs1, hc1⟩ := hA (by omega)
      have hg : gt full1 (o1 + i) = dg ds i := by unfold dg; rw [if_pos (by omega), ← sliceL_gt (k := ds.length) (by omega), hs1]
      refine WC.region (WL.q (LX.move rfl) rfl (WL.q (LX.move rfl) rfl (WL.q (LX.move rfl) rfl (WL.q (LX.idxo rfl rfl rfl i rfl (by omega)) rfl (WL.q (LX.eq (LX.loadRow rfl rfl (hMM _ hm1) (by omega)) (by rw [hg])) rfl ?_)))))
      refine WL.q (LX.addI rfl rfl (by omega)) rfl (WL.q (LX.assign rfl) rfl (WL.nil ?_))
      exact ⟨(.cons rfl (.cons rfl (.cons rfl (.cons rfl (.cons rfl .nil))))), rfl⟩
    · refine WC.skip ?_
      have : dg ds i = 0 := by unfold dg; rw [if_neg (by omega)]
      rw [this, Int.add_zero]
      exact ⟨(.cons rfl (.cons rfl (.cons rfl (.cons rfl (.cons rfl .nil))))), rfl⟩
  rintro E' M' ⟨hE, rfl⟩
  refine WC.cutE _ hE ?_
  
  refine WC.cut (fun E' M' => Sub [(0, .slice A ds.length cap), (1, .slice A' es.length cap'), (5, v5), (6, .int .i64 (c + dg ds i + dg es i)), (7, .int .i64 i)] E' ∧ M1 = M') ?_ ?_
  · refine WC.seq (WC.region (WL.q (LX.move rfl) rfl (WL.q (LX.move rfl) rfl (WL.q (LX.len rfl rfl rfl) rfl (WL.q (LX.bin rfl rfl rfl) rfl (WL.nil (thenK_normal ?_)))))))
    refine WC.test rfl (fun h1 => ?_) (fun h1 => ?_)
    · obtain ⟨b1', o1, full1, rfl, hm1, hl1, hs1, hc1⟩ := hA' (by omega)
      have hg : gt full1 (o1 + i) = dg es i := by unfold dg; rw [if_pos (by omega), ← sliceL_gt (k := es.length) (by omega), hs1]
      refine WC.region (WL.q (LX.move rfl) rfl (WL.q (LX.move rfl) rfl (WL.q (LX.move rfl) rfl (WL.q (LX.idxo rfl rfl rfl i rfl (by omega)) rfl (WL.q (LX.eq (LX.loadRow rfl rfl (hMM _ hm1) (by omega)) (by rw [hg])) rfl ?_)))))
      refine WL.q (LX.addI rfl rfl (by omega)) rfl (WL.q (LX.assign rfl) rfl (WL.nil ?_))
      exact ⟨(.cons rfl (.cons rfl (.cons rfl (.cons rfl (.cons rfl .nil))))), rfl⟩
    · refine WC.skip ?_
      have : dg es i = 0 := by unfold dg; rw [if_neg (by omega)]
      rw [this, Int.add_zero]
      exact ⟨(.cons rfl (.cons rfl (.cons rfl (.cons rfl (.cons rfl .nil))))), rfl⟩
  rintro E' M' ⟨hE, rfl⟩
  refine WC.cutE _ hE (WC.seq (WC.region (WL.q (LX.move rfl) rfl (WL.q (LX.move rfl) rfl (WL.q (LX.rem rfl rfl (by omega) (by omega)) rfl ?_)))))
  have hr0 : 0 ≤ (c + dg ds i + dg es i) % 65536 ∧ (c + dg ds i + dg es i) % 65536 < 65536 := by omega
  refine WL.step rfl (EX.bslice (e := 3) (cs := [.int .i64 ((c + dg ds i + dg es i) % 65536)]) rfl (fun _ => by kernel_rfl)) ?_
  rintro _ _ ⟨b', rfl, rfl⟩
  
  obtain ⟨M2, hown2, hperm⟩ := hown.own.more [(b', .cells #[.int .i64 ((c + dg ds i + dg es i) % 65536)] 3 (0, 0))]
  refine WL.appendOwn (EX.pm ⟨hperm⟩ (EX.append (ds := [.int .i64 ((c + dg ds i + dg es i) % 65536)]) (d := [.int .i64 ((c + dg ds i + dg es i) % 65536)]) rfl hown2 rfl rfl rfl rfl rfl ⟨0, rfl, by omega, by decide⟩ (by intro u hu; simp at hu; subst hu; exact ⟨_, rfl, hr0.1, hr0.2⟩) (fun w hw => (hw.has _ (hperm.symm.subset List.mem_cons_self)).2) (Nat.le_refl _) rfl (by simp; rfl) (by simp; omega))) rfl ?_
  rintro v' M3 hv'
  have hv' : Own isD 3 v' ((fs ++ [(c + dg ds i + dg es i) % 65536]).map (Value.int .i64)) ([(b', .cells #[.int .i64 ((c + dg ds i + dg es i) % 65536)] 3 (0, 0))] ++ M0) M3 := by rw [List.map_append]; exact hv'
  refine WL.q (LX.assign rfl) rfl (WL.nil (thenK_normal (WC.region (WL.q (LX.move rfl) rfl (WL.q (LX.quoI rfl rfl (by omega) (by omega)) rfl (WL.q (LX.assign rfl) rfl (WL.nil (blockK_normal (thenK_normal (WC.region (WL.q (LX.move rfl) rfl (WL.q (LX.addI rfl rfl (by omega)) rfl (WL.q (LX.assign rfl) rfl ?_)))))))))))))
  refine WL.nil ?_
  obtain ⟨N, hN⟩ := hN
  refine loopS_next (i + 1, (c + dg ds i + dg es i) / 65536, fs ++ [(c + dg ds i + dg es i) % 65536], v', _, M3) ⟨⟨?_, ?_⟩, ?_, fun h1 => ?_, hv'.ownB (by simp), ⟨_ :: N, by rw [hN]; rfl⟩, by simp; omega, ?_⟩ ?_ (.cons rfl (.cons rfl (.cons rfl (.cons rfl (.cons rfl .nil))))) rfl
  · simp only []; omega
  · simp only []; omega
  · simp only []
    rcases Nat.lt_or_ge (max ds.length es.length) i with h2 | h2
    · have := hlast h2; omega
    · omega
  · simp only [] at h1 ⊢
    have e1 : dg ds i = 0 := by unfold dg; rw [if_neg (by omega)]
    have e2 : dg es i = 0 := by unfold dg; rw [if_neg (by omega)]
    rw [e1, e2]; omega
  · simp only []
    rw [dv_snoc, hfl, Int.pow_succ, dv_take_dg, dv_take_dg]
    exact sum_step hv (by omega)
  · simp only []
    rcases Nat.lt_or_ge (max ds.length es.length) i with h2 | h2
    · have := hlast h2; omega
    · omega
end
end Go.Proofs.YtdnngppofbmpeaaGreatDoor.Bm
