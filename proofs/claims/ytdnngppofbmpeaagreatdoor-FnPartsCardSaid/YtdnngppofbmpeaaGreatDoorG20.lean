/- Proved here: what modulo, modulus, zeros and shifted of the reference do; what power, divisor and inverse of the reference do; what divisor and inverse of the reference do. Conditions: none but those that each theorem states. -/
import Derived.Test.YtdnngppofbmpeaaGreatDoorG19
namespace Go.Proofs.YtdnngppofbmpeaaGreatDoor.Bm
open Go Go.RowKit

theorem bit_at {V : Int} {i : Nat} : V / B16 ^ (i / 16) % B16 / 2 ^ (i % 16) % 2 = V / 2 ^ i % 2 := by
  have e : (2 : Int) ^ i = 2 ^ (16 * (i / 16)) * 2 ^ (i % 16) := by rw [← Int.pow_add]; congr 1; omega
  rw [e, B16_two, ← Int.ediv_ediv_of_nonneg (Int.le_of_lt (pow2_pos _))]
  have h16 : i % 16 < 16 := by omega
  generalize V / 2 ^ (16 * (i / 16)) = X
  generalize i % 16 = r at *
  unfold B16
  have e2 : (65536 : Int) = 2 ^ r * (2 * 2 ^ (15 - r)) := by
    rw [← pow2_succ, ← Int.pow_add, show r + (15 - r + 1) = 16 by omega]; rfl
  have h1 := Int.mul_ediv_add_emod X 65536
  have h2 : X % 65536 = X + 2 ^ r * (2 * (2 ^ (15 - r) * (-(X / 65536)))) := by
    conv => lhs; rw [show X % 65536 = X - 65536 * (X / 65536) by omega, e2]
    rw [← e2]; grind
  rw [h2, Int.add_mul_ediv_left _ _ (by have := pow2_pos r; omega)]
  omega
theorem even_pow {V : Int} {n : Nat} (h : V % 2 ^ n = 0) (h2 : V / 2 ^ n % 2 = 0) : V % 2 ^ (n + 1) = 0 := by
  have h1 := Int.mul_ediv_add_emod V (2 ^ n)
  rw [h] at h1
  have h3 : V = 2 ^ (n + 1) * (V / 2 ^ n / 2) := by
    rw [Int.pow_succ]
    have h4 : V / 2 ^ n = 2 * (V / 2 ^ n / 2) := by omega
    generalize V / 2 ^ n / 2 = q at *
    rw [h4] at h1
    grind
  rw [h3]; exact Int.mul_emod_right _ _
theorem Num.tail {M : Mem} {b o cap : Nat} {V : Int} {ds full : List Int} (h : Num M (.slice (some ⟨b, o, none⟩) ds.length cap) V ds) (hm : (b, ints full) ∈ M) (h0 : 0 < ds.length) (hl : o + ds.length ≤ full.length) (hs : sliceL full o ds.length = ds) (hc : ds.length ≤ cap) (A : Option Addr) (hA : 1 < cap → A = some ⟨b, o + 1, none⟩) :
    Num M (.slice A (ds.length - 1) (cap - 1)) (V / B16) ds.tail := by
  cases ds with
  | nil => simp at h0
  | cons x r =>
    have hx := h.dg.head
    refine ⟨?_, h.dg.tail, ?_, ?_⟩
    · rcases Nat.eq_zero_or_pos r.length with h1 | h1
      · have : r = [] := List.length_eq_zero_iff.1 h1
        subst this
        exact .nil
      · simp only [List.length_cons] at hc hl hs ⊢
        rw [hA (by omega)]
        refine .mk hm (by simpa using h1) (by omega) ?_ (by omega)
        rw [sliceL_succ _ _ _ (by omega)] at hs
        exact (List.cons.inj hs).2
    · rw [← h.val, List.tail_cons, dv_cons, Int.add_mul_ediv_left _ _ (by decide), Int.ediv_eq_zero_of_lt hx.1 hx.2]; omega
    · rcases h.top with h1 | h1
      · simp at h1
      · rw [List.tail_cons]
        rcases Nat.eq_zero_or_pos r.length with h2 | h2
        · exact .inl (List.length_eq_zero_iff.1 h2)
        · right
          simp only [List.length_cons, Nat.add_sub_cancel] at h1
          have : gt (x :: r) r.length = gt r (r.length - 1) := by
            unfold gt; rw [show r.length = r.length - 1 + 1 by omega]; simp
          rwa [this] at h1

section
variable {w0 : World} {M : Mem}
/-- modulo -/
theorem smodulo {v w : Value} {V W : Int} {ds es : List Int} (h : Num M v V ds) (k : Num M w W es) (hL : ds.length ≤ 200) (hL' : es.length ≤ 200) (hW : 0 < W) :
    CS w0 62 [v, w] M (fun u M' => ∃ N gs, M' = N ++ M ∧ Num M' u (V % W) gs) := by
  refine CS.of Tryz.func62 Tryz.ntmps62 rfl rfl (WC.seq (WC.region (WL.q (LX.assign rfl) rfl (WL.nil (thenK_normal (WC.seq (WC.region (WL.q (LX.move rfl) rfl (WL.q (LX.move rfl) rfl (WL.callR (squot h k hL hL' hW) rfl (fun _ => by kernel_rfl) rfl ?_))))))))))
  rintro _ _ ⟨x, y, N, fs, gs, rfl, rfl, -, hy⟩
  refine WL.q (LX.move rfl) rfl (WL.q (LX.extract rfl rfl) rfl (WL.q (LX.extract rfl rfl) rfl (WL.q (LX.assign rfl) rfl (WL.q (LX.assign rfl) rfl (WL.nil (thenK_normal (WC.seq (WC.region (WL.q (LX.move rfl) rfl (WL.q (LX.assign rfl) rfl (WL.nil (thenK_normal (WC.ret ?_)))))))))))))
  exact KR.one (.inl rfl) rfl rfl ⟨N, gs, rfl, hy⟩

/-- modulus -/
theorem smodulus {A : Option Addr} {bs : List Int} {cap : Nat} (hs : Src w0 M A bs) (hb : Dg 256 bs) (hL : bs.length ≤ 600) :
    CS w0 13 [.slice A bs.length cap] M (fun u M' => ∃ x N ds, u = .tuple #[x, .bool (decide (1 < dv 256 bs.reverse))] ∧ M' = N ++ M ∧ Num M' x (dv 256 bs.reverse) ds) := by
  refine CS.of Tryz.func13 Tryz.ntmps13 rfl rfl (WC.seq (WC.region (WL.q (LX.assign rfl) rfl (WL.q (LX.assign rfl) rfl (WL.nil (thenK_normal (WC.seq (WC.region (WL.q (LX.move rfl) rfl (WL.callR (sread hs hb hL) rfl (fun _ => by kernel_rfl) rfl ?_))))))))))
  rintro x _ ⟨N, ds, rfl, hx⟩
  refine WL.q (LX.assign rfl) rfl (WL.nil (thenK_normal (WC.seq (WC.region (WL.q (LX.move rfl) rfl (WL.q (LX.move rfl) rfl (WL.callR (ssmall (x := 2) (by decide) (by decide)) rfl (fun _ => by kernel_rfl) rfl ?_)))))))
  rintro y _ ⟨N2, es, rfl, hy⟩
  
  have hx' := hx.mono (N := N2 ++ (N ++ M)) fun _ hp => List.mem_append_right _ hp
  have hel : es.length ≤ 1 := hy.len (by decide)
  have hdl : ds.length ≤ 300 := hx.len (by
    have h1 := dv_lt (b := 256) (by decide) (dg_rev hb)
    rw [pow256, List.length_reverse] at h1
    rw [B16_two]
    have := pow2_le (show 8 * bs.length ≤ 16 * 300 by omega)
    omega)
  refine WL.call (sless hx' hy (by omega) (by omega)) rfl (fun _ => by kernel_rfl) rfl (WL.q (LX.not rfl) rfl (WL.q (LX.assign rfl) rfl (WL.q (LX.assign rfl) rfl (WL.nil (thenK_normal (WC.ret ?_))))))
  refine KR.two (.inl rfl) rfl rfl rfl ⟨x, N2 ++ N, ds, ?_, by simp, hx'⟩
  congr 5
  rw [← decide_not]
  exact decide_eq_decide.2 (by omega)

/-- zeros -/
theorem szeros {v : Value} {V : Int} {ds : List Int} (h : Num M v V ds) (hL : ds.length ≤ 900) :
    CS w0 75 [v] M (fun u M' => (∃ k : Nat, u = .int .i64 k ∧ (V ≠ 0 → IsTz V k)) ∧ M' = M) := by
  obtain ⟨A, cap, rfl, hA⟩ := h.mem.form
  refine CS.of Tryz.func75 Tryz.ntmps75 rfl rfl (WC.seq (WC.region (WL.q (LX.assign rfl) rfl (WL.nil (thenK_normal (WC.seq (WC.region (WL.q (LX.assign rfl) rfl (WL.nil (thenK_normal (WC.seq (WC.block (WC.loopS (fun n : Nat => [(0, .slice A ds.length cap), (3, .int .i64 n)]) (fun _ => M) (fun n => V % 2 ^ n = 0 ∧ n ≤ 16 * ds.length) (fun n => 16 * ds.length - n) 0 ⟨by rw [Int.pow_zero]; omega, Nat.zero_le _⟩ (.cons rfl (.cons rfl .nil)) rfl ?_)))))))))))))
  rintro n ⟨hn, hnl⟩
  by_cases h0 : ds.length = 0
  · skip
    refine WC.seq (WC.seq (WC.region (WL.q (LX.move rfl) rfl (WL.q (LX.len rfl rfl rfl) rfl (WL.q (LX.eq (LX.bin rfl rfl rfl) (fls (by omega))) rfl (WL.q (LX.move rfl) rfl (WL.no rfl rfl (by decide) rfl (WL.no rfl rfl (by decide) rfl (WL.no rfl rfl (by decide) rfl (WL.no rfl rfl (by decide) rfl (WL.no rfl rfl (by decide) rfl (WL.no rfl rfl (by decide) rfl (WL.no rfl rfl (by decide) rfl ?_)))))))))))))
    refine WL.no rfl rfl (by decide) rfl (WL.no rfl rfl (by decide) rfl (WL.no rfl rfl (by decide) rfl (WL.q (LX.pickF rfl rfl) rfl (WL.nil (thenK_normal (WC.no rfl (WC.exit (thenK_exit (loopS_exit (blockK_same (thenK_normal (WC.seq (WC.region ?_)))))))))))))
    refine WL.q (LX.move rfl) rfl (WL.q (LX.assign rfl) rfl (WL.nil (thenK_normal (WC.ret ?_))))
    exact KR.one (.inl rfl) rfl rfl ⟨⟨n, rfl, fun hV => absurd (h.zero.2 (List.length_eq_zero_iff.1 h0)) hV⟩, rfl⟩
  · have hV : 0 < V := by
      have h1 := h.nonneg
      have h2 : V ≠ 0 := fun e => h0 (by rw [h.zero.1 e]; rfl)
      omega
    have hlt : n < 16 * ds.length := by
      rcases Nat.lt_or_ge n (16 * ds.length) with h1 | h1
      · exact h1
      · exfalso
        have h2 := h.lt
        rw [B16_two] at h2
        have h3 := pow2_le h1
        have h4 := Int.emod_eq_of_lt (Int.le_of_lt hV) (Int.lt_of_lt_of_le h2 h3)
        omega
    obtain ⟨b1, o1, full1, rfl, hm1, hl1, hs1, hc1⟩ := hA (by omega)
    have hg1 : gt full1 (o1 + n / 16) = dg ds (n / 16) := by unfold dg; rw [if_pos (by omega), ← sliceL_gt (k := ds.length) (by omega), hs1]
    have hb := dg_bd h.dg (n / 16)
    have hbit : dg ds (n / 16) / 2 ^ (n % 16) % 2 = V / 2 ^ n % 2 := by rw [← num_dg h, bit_at]
    have hmin : min (((n : Int) % 16).toNat) IntKind.i64.bits = n % 16 := by
      have : IntKind.i64.bits = 64 := rfl
      omega
    refine WC.seq (WC.seq (WC.region (WL.q (LX.move rfl) rfl (WL.q (LX.len rfl rfl rfl) rfl (WL.q (LX.eq (LX.bin rfl rfl rfl) (tru (by omega))) rfl (WL.q (LX.move rfl) rfl (WL.yes rfl rfl (WL.q (LX.move rfl) rfl (WL.yes rfl rfl (WL.q (LX.move rfl) rfl (WL.yes rfl rfl (WL.q (LX.quoI rfl rfl (by omega) (by omega)) rfl (WL.yes rfl rfl ?_)))))))))))))
    refine WL.q (LX.idxo rfl rfl rfl (n / 16) (by omega) (by omega)) rfl (WL.yes rfl rfl (WL.q (LX.eq (LX.loadRow rfl rfl hm1 (by omega)) (by rw [hg1])) rfl ?_))
    refine WL.yes rfl rfl (WL.q (LX.move rfl) rfl (WL.yes rfl rfl (WL.q (LX.rem rfl rfl (by omega) (by omega)) rfl (WL.yes rfl rfl (WL.q (LX.eq (LX.shr rfl rfl (by omega) (by omega)) (by rw [hmin])) rfl ?_)))))
    refine WL.yes rfl rfl (WL.q (LX.eq (LX.rem rfl rfl (Int.ediv_nonneg hb.1 (Int.le_of_lt (pow2_pos _))) (by omega)) (by rw [hbit])) rfl ?_)
    refine WL.yes rfl rfl (WL.q (LX.bin rfl rfl rfl) rfl (WL.q (LX.pickT rfl rfl) rfl (WL.nil (thenK_normal ?_))))
    refine WC.test rfl (fun hz => ?_) (fun hz => ?_)
    · refine WC.skip (thenK_normal (WC.block (WC.region (WL.q (LX.move rfl) rfl (WL.q (LX.addI rfl rfl (by omega)) rfl (WL.q (LX.assign rfl) rfl (WL.nil (blockK_normal ?_))))))))
      exact loopS_next (n + 1) ⟨even_pow hn hz, by omega⟩ (by omega) (.cons rfl (.cons rfl .nil)) rfl
    · refine WC.exit (thenK_exit (loopS_exit (blockK_same (thenK_normal (WC.seq (WC.region (WL.q (LX.move rfl) rfl (WL.q (LX.assign rfl) rfl (WL.nil (thenK_normal (WC.ret ?_)))))))))))
      exact KR.one (.inl rfl) rfl rfl ⟨⟨n, rfl, fun _ => ⟨hn, by omega⟩⟩, rfl⟩
  
/-- shifted -/
theorem sshifted {v : Value} {V : Int} {ds : List Int} {n : Nat} (h : Num M v V ds) (hL : ds.length ≤ 200) (hn : n < 9223372036854775808) :
    CS w0 28 [v, .int .i64 n] M (fun u M' => ∃ N gs, M' = N ++ M ∧ Num M' u (V / 2 ^ n) gs) := by
  refine CS.of Tryz.func28 Tryz.ntmps28 rfl rfl (WC.seq (WC.region (WL.q (LX.assign rfl) rfl (WL.nil (thenK_normal (WC.seq (WC.block ?_)))))))
  refine WC.loopS (fun s : Value × Int × List Int × Nat => [(0, s.1), (1, .int .i64 s.2.2.2)]) (fun _ => M) (fun s => Num M s.1 s.2.1 s.2.2.1 ∧ s.2.2.1.length ≤ 200 ∧ s.2.2.2 < 9223372036854775808 ∧ s.2.1 / 2 ^ s.2.2.2 = V / 2 ^ n) (fun s => s.2.2.2)
    (v, V, ds, n) ⟨h, hL, hn, rfl⟩ (.cons rfl (.cons rfl .nil)) rfl ?_
  rintro ⟨v, V', ds, k⟩ ⟨h, hL, hk, he⟩
  dsimp only at h hL hk he ⊢
  obtain ⟨A, cap, rfl, hA⟩ := h.mem.form
  by_cases h16 : (k : Int) ≥ 16
  · by_cases h0 : 0 < ds.length
    · obtain ⟨b1, o1, full1, rfl, hm1, hl1, hs1, hc1⟩ := hA h0
      refine WC.seq (WC.seq (WC.region (WL.q (LX.move rfl) rfl (WL.q (LX.eq (LX.bin rfl rfl rfl) (tru h16)) rfl (WL.q (LX.move rfl) rfl (WL.yes rfl rfl (WL.q (LX.move rfl) rfl (WL.yes rfl rfl (WL.q (LX.len rfl rfl rfl) rfl (WL.yes rfl rfl (WL.q (LX.eq (LX.bin rfl rfl rfl) (tru (by omega))) rfl (WL.q (LX.pickT rfl rfl) rfl (WL.nil ?_)))))))))))))
      refine thenK_normal (WC.yes rfl (WC.skip (thenK_normal (WC.seq (WC.block (WC.region (WL.q (LX.move rfl) rfl (WL.q (LX.slice rfl rfl 1 ds.length (.inr ⟨_, _, rfl, rfl⟩) (.inl ⟨rfl, rfl⟩) (by omega) hc1) rfl (WL.q (LX.assign rfl) rfl (WL.nil (blockK_normal (thenK_normal (WC.region ?_)))))))))))))
      refine WL.q (LX.move rfl) rfl (WL.q (LX.eq (LX.subI rfl rfl (by omega)) (show _ = Value.int .i64 ((k - 16 : Nat) : Int) by congr 1; omega)) rfl (WL.q (LX.assign rfl) rfl (WL.nil ?_)))
      have ht := h.tail hm1 h0 hl1 hs1 hc1 (some (if cap = 1 then ⟨b1, o1, none⟩ else ⟨b1, o1 + 1 * 1, none⟩)) (fun hc => by rw [if_neg (by omega), Nat.mul_one])
      refine loopS_next (_, V' / B16, ds.tail, k - 16) ⟨ht, by simp only [List.length_tail]; omega, by simp only []; omega, ?_⟩ (by simp only []; omega) (.cons rfl (.cons rfl .nil)) rfl
      simp only []
      rw [← he, Int.ediv_ediv_of_nonneg (by decide), show (B16 : Int) = 2 ^ 16 by decide, ← Int.pow_add]
      congr 2; omega
    · skip
      refine WC.seq (WC.seq (WC.region (WL.q (LX.move rfl) rfl (WL.q (LX.eq (LX.bin rfl rfl rfl) (tru h16)) rfl (WL.q (LX.move rfl) rfl (WL.yes rfl rfl (WL.q (LX.move rfl) rfl (WL.yes rfl rfl (WL.q (LX.len rfl rfl rfl) rfl (WL.yes rfl rfl (WL.q (LX.eq (LX.bin rfl rfl rfl) (fls (by omega))) rfl (WL.q (LX.pickT rfl rfl) rfl (WL.nil ?_)))))))))))))
      refine thenK_normal (WC.no rfl (WC.exit (thenK_exit (loopS_exit (blockK_same (thenK_normal (WC.seq (WC.seq (WC.region (WL.q (LX.move rfl) rfl (WL.q (LX.len rfl rfl rfl) rfl (WL.q (LX.eq (LX.bin rfl rfl rfl) (tru (by omega))) rfl (WL.q (LX.move rfl) rfl ?_)))))))))))))
      refine WL.no rfl rfl (by decide) rfl (WL.no rfl rfl (by decide) rfl (WL.q (LX.pickT rfl rfl) rfl (WL.nil (thenK_normal (WC.yes rfl (WC.seq (WC.region (WL.step rfl (EX.bslice (e := 3) (cs := []) rfl (fun _ => by kernel_rfl)) ?_))))))))
      rintro _ _ ⟨b, rfl, rfl⟩
      refine WL.q (LX.assign rfl) rfl (WL.nil (thenK_normal (WC.ret (thenK_ret ?_))))
      have hV : V' = 0 := h.zero.2 (List.length_eq_zero_iff.1 (by omega))
      refine KR.one (.inl rfl) rfl rfl ⟨[_], [], rfl, ?_⟩
      rw [← he, hV, Int.zero_ediv]; exact Num.nil
  · skip
    refine WC.seq (WC.seq (WC.region (WL.q (LX.move rfl) rfl (WL.q (LX.eq (LX.bin rfl rfl rfl) (fls h16)) rfl (WL.q (LX.move rfl) rfl (WL.no rfl rfl (by decide) rfl (WL.no rfl rfl (by decide) rfl (WL.no rfl rfl (by decide) rfl (WL.q (LX.pickF rfl rfl) rfl (WL.nil (thenK_normal (WC.no rfl ?_))))))))))))
    by_cases h0 : ds.length = 0
    · skip
      refine WC.exit (thenK_exit (loopS_exit (blockK_same (thenK_normal (WC.seq (WC.seq (WC.region (WL.q (LX.move rfl) rfl (WL.q (LX.len rfl rfl rfl) rfl (WL.q (LX.eq (LX.bin rfl rfl rfl) (tru (by omega))) rfl (WL.q (LX.move rfl) rfl (WL.no rfl rfl (by decide) rfl (WL.no rfl rfl (by decide) rfl ?_)))))))))))))
      refine WL.q (LX.pickT rfl rfl) rfl (WL.nil (thenK_normal (WC.yes rfl (WC.seq (WC.region (WL.step rfl (EX.bslice (e := 3) (cs := []) rfl (fun _ => by kernel_rfl)) ?_))))))
      rintro _ _ ⟨b, rfl, rfl⟩
      refine WL.q (LX.assign rfl) rfl (WL.nil (thenK_normal (WC.ret (thenK_ret ?_))))
      have hV : V' = 0 := h.zero.2 (List.length_eq_zero_iff.1 (by omega))
      refine KR.one (.inl rfl) rfl rfl ⟨[_], [], rfl, ?_⟩
      rw [← he, hV, Int.zero_ediv]; exact Num.nil
    · skip
      have hp : (1 : Int) ≤ 2 ^ k ∧ (2 : Int) ^ k < 65536 := by
        have h1 := pow2_pos k
        have h2 := pow2_le (show k ≤ 15 by omega)
        have h3 : (2 : Int) ^ 15 = 32768 := by decide
        omega
      refine WC.exit (thenK_exit (loopS_exit (blockK_same (thenK_normal (WC.seq (WC.seq (WC.region (WL.q (LX.move rfl) rfl (WL.q (LX.len rfl rfl rfl) rfl (WL.q (LX.eq (LX.bin rfl rfl rfl) (fls (by omega))) rfl (WL.q (LX.move rfl) rfl (WL.yes rfl rfl (WL.q (LX.move rfl) rfl ?_)))))))))))))
      refine WL.yes rfl rfl (WL.q (LX.eq (LX.bin rfl rfl rfl) (fls h16)) rfl (WL.q (LX.pickF rfl rfl) rfl (WL.nil (thenK_normal (WC.no rfl (WC.skip (thenK_normal (WC.seq (WC.region (WL.q (LX.move rfl) rfl (WL.q (LX.move rfl) rfl (WL.q (LX.eq (LX.shl rfl rfl (by omega)) (by rw [show min ((k : Int).toNat) IntKind.i64.bits = k by have : IntKind.i64.bits = 64 := rfl; omega, Int.one_mul, i64_in (by omega)])) rfl ?_))))))))))))
      refine WL.callR (sdivided h hp (by omega)) rfl (fun _ => by kernel_rfl) rfl ?_
      rintro _ _ ⟨x, N, fs, rfl, rfl, hx⟩
      refine WL.q (LX.move rfl) rfl (WL.q (LX.extract rfl rfl) rfl (WL.q (LX.extract rfl rfl) rfl (WL.q (LX.assign rfl) rfl (WL.q (LX.assign rfl) rfl (WL.nil (thenK_normal (WC.seq (WC.region (WL.q (LX.move rfl) rfl (WL.q (LX.assign rfl) rfl (WL.nil (thenK_normal (WC.ret ?_)))))))))))))
      rw [he] at hx
      exact KR.one (.inl rfl) rfl rfl ⟨N, fs, rfl, hx⟩
end
end Go.Proofs.YtdnngppofbmpeaaGreatDoor.Bm
namespace Go.Proofs.YtdnngppofbmpeaaGreatDoor.Bm
open Go Go.RowKit

theorem mul_mod_l {a b V : Int} : (a % V * b) % V = (a * b) % V := by rw [Int.mul_emod, Int.emod_emod, ← Int.mul_emod]
theorem mul_mod_r {a b V : Int} : (a * (b % V)) % V = (a * b) % V := by rw [Int.mul_emod, Int.emod_emod, ← Int.mul_emod]
theorem pow_sq {X V : Int} {e : Nat} : (X ^ e % V * (X ^ e % V)) % V = X ^ (2 * e) % V := by rw [mul_mod_l, mul_mod_r, ← Int.pow_add]; congr 2; omega
theorem pow_mul1 {X V : Int} {e : Nat} : (X ^ e % V * X) % V = X ^ (e + 1) % V := by rw [mul_mod_l, ← Int.pow_succ]
theorem Cd.step {a b r s : Int} (h : Cd a b r s) : Cd a b s (r % s) := fun d => by
  rw [← h d]
  have e := Int.mul_ediv_add_emod r s
  constructor
  · rintro ⟨h1, h2⟩
    exact ⟨by rw [← e]; exact Int.dvd_add (Int.dvd_trans h1 (Int.dvd_mul_right _ _)) h2, h1⟩
  · rintro ⟨h1, h2⟩
    refine ⟨h2, ?_⟩
    rw [show r % s = r - s * (r / s) by omega]
    exact Int.dvd_sub h1 (Int.dvd_trans h2 (Int.dvd_mul_right _ _))
theorem Cd.uniq {a b g k : Int} (h : Cd a b g 0) (h' : Cd a b k 0) (hg : 0 ≤ g) (hk : 0 ≤ k) : g = k := by
  have h1 := (h' g).2 ((h g).1 ⟨Int.dvd_refl _, Int.dvd_zero _⟩)
  have h2 := (h k).2 ((h' k).1 ⟨Int.dvd_refl _, Int.dvd_zero _⟩)
  exact Int.dvd_antisymm hg hk h1.1 h2.1

/-- the bit of the exponent's byte that is looked at in round t -/
def bitOf (t : Nat) : Int := (128 / 2 ^ t : Nat)
theorem bitOf_next {t : Nat} : bitOf t / 2 = bitOf (t + 1) := by
  unfold bitOf
  rw [Nat.pow_succ, ← Nat.div_div_eq_div_mul]; omega
theorem bitOf_pos {t : Nat} : 0 < bitOf t ↔ t < 8 := by
  unfold bitOf
  constructor
  · intro h
    rcases Nat.lt_or_ge t 8 with h1 | h1
    · exact h1
    · exfalso
      have h2 : 2 ^ 8 ≤ 2 ^ t := Nat.pow_le_pow_right (by omega) h1
      rw [Nat.div_eq_of_lt (by omega)] at h
      omega
  · intro h
    have h2 : 2 ^ t ≤ 2 ^ 7 := Nat.pow_le_pow_right (by omega) (by omega)
    have h3 : 0 < 128 / 2 ^ t := Nat.div_pos (by omega) (Nat.pow_pos (by omega))
    omega
theorem bitOf_bd {t : Nat} : 0 ≤ bitOf t ∧ bitOf t ≤ 128 := by
  unfold bitOf
  have := Nat.div_le_self 128 (2 ^ t)
  generalize 128 / 2 ^ t = z at *
  omega
theorem bitOf_div {t b : Nat} (ht : t < 8) : (b : Int) / bitOf t % 2 = ((b / 2 ^ (7 - t) % 2 : Nat) : Int) := by
  have : 128 / 2 ^ t = 2 ^ (7 - t) := by
    rw [show 128 = 2 ^ t * 2 ^ (7 - t) by rw [← Nat.pow_add, show t + (7 - t) = 7 by omega]]
    exact Nat.mul_div_cancel_left _ (Nat.pow_pos (by omega))
  unfold bitOf; rw [this]; omega
theorem Num.len_of {M N : Mem} {v w : Value} {V W : Int} {ds es : List Int} (h : Num M v V ds) (k : Num N w W es) (hl : V ≤ W) : ds.length ≤ es.length := h.len (Int.lt_of_le_of_lt hl k.lt)

section
variable {w0 : World} {M : Mem}
/-- power -/
theorem spower {vx vm : Value} {X V : Int} {xs ms : List Int} {A : Option Addr} {bs : List Int} {cap : Nat} (hx : Num M vx X xs) (hm : Num M vm V ms) (hV : 0 < V) (hLx : xs.length ≤ 60) (hLm : ms.length ≤ 60) (hs : Src w0 M A bs) (hb : Dg 256 bs) (hL : bs.length ≤ 60) :
    CS w0 68 [vx, .slice A bs.length cap, vm] M (fun u M' => ∃ N gs, M' = N ++ M ∧ Num M' u (X ^ evb bs % V) gs) := by
  refine CS.of Tryz.func68 Tryz.ntmps68 rfl rfl (WC.seq (WC.region (WL.q (LX.assign rfl) rfl (WL.nil (thenK_normal (WC.seq (WC.region (WL.callR (ssmall (x := 1) (by decide) (by decide)) rfl (fun _ => by kernel_rfl) rfl ?_))))))))
  rintro v1 _ ⟨N1, os, rfl, h1⟩
  refine WL.q (LX.move rfl) rfl ?_
  have hol : os.length ≤ 1 := h1.len (by decide)
  refine WL.callR (squot h1 (hm.mono fun _ hp => List.mem_append_right _ hp) (by omega) (by omega) hV) rfl (fun _ => by kernel_rfl) rfl ?_
  rintro _ _ ⟨q, r, N2, fs, gs, rfl, rfl, -, hr⟩
  refine WL.q (LX.move rfl) rfl (WL.q (LX.extract rfl rfl) rfl (WL.q (LX.extract rfl rfl) rfl (WL.q (LX.assign rfl) rfl (WL.q (LX.assign rfl) rfl (WL.nil (thenK_normal (WC.seq (WC.seq (WC.region (WL.q (LX.assign rfl) rfl (WL.nil (thenK_normal (WC.block ?_)))))))))))))
  refine WC.loopS (fun s : Nat × Value × List Int × Mem => [(0, vx), (1, .slice A bs.length cap), (2, vm), (8, s.2.1), (9, .int .i64 s.1)]) (fun s => s.2.2.2)
    (fun s => s.1 ≤ bs.length ∧ (∃ N, s.2.2.2 = N ++ M) ∧ Num s.2.2.2 s.2.1 (X ^ evb (bs.take s.1) % V) s.2.2.1) (fun s => bs.length - s.1) (0, r, gs, _) ⟨Nat.zero_le _, ⟨N2 ++ N1, by simp⟩, by simpa [evb] using hr⟩ (.cons rfl (.cons rfl (.cons rfl (.cons rfl (.cons rfl .nil))))) rfl ?_
  rintro ⟨i, vo, os, M1⟩ ⟨hi, hpre, ho⟩
  dsimp only at hi hpre ho ⊢
  refine WC.seq (WC.seq (WC.region (WL.q (LX.move rfl) rfl (WL.q (LX.move rfl) rfl (WL.q (LX.len rfl rfl rfl) rfl (WL.q (LX.bin rfl rfl rfl) rfl (WL.nil (thenK_normal ?_))))))))
  refine WC.test rfl (fun hlt => ?_) (fun hge => ?_)
  · have hi' : i < bs.length := by omega
    have hbx := dg8_gt hb i
    obtain ⟨b, hbe⟩ : ∃ b : Nat, gt bs i = b := ⟨(gt bs i).toNat, by omega⟩
    rw [hbe] at hbx
    obtain ⟨bA, oA, dA, TA, fA, rfl, hmA, hoA, hsl⟩ : ∃ b o d T fr, A = some ⟨b, o, none⟩ ∧ (∀ w, HW w0 M w → w.heap[b]? = some (.cells (d : List Value).toArray T fr)) ∧ o + bs.length ≤ d.length ∧ sliceL d o bs.length = bs.map (Value.int .u8) := by
      rcases hs with h | h
      · subst h; simp at hi'
      · exact h
    refine WC.skip (thenK_normal (WC.seq (WC.block (WC.seq (WC.region (WL.q (LX.assign rfl) rfl (WL.nil (thenK_normal (WC.block ?_)))))))))
    refine WC.loopS (fun s : Nat × Value × List Int × Mem => [(0, vx), (1, .slice (some ⟨bA, oA, none⟩) bs.length cap), (2, vm), (8, s.2.1), (9, .int .i64 i), (10, .int .i64 (bitOf s.1))]) (fun s => s.2.2.2)
      (fun s => s.1 ≤ 8 ∧ (∃ N, s.2.2.2 = N ++ M) ∧ Num s.2.2.2 s.2.1 (X ^ (evb (bs.take i) * 2 ^ s.1 + b / 2 ^ (8 - s.1)) % V) s.2.2.1) (fun s => 8 - s.1) (0, vo, os, M1) ⟨Nat.zero_le _, hpre, by simp only []; rw [show b / 2 ^ (8 - 0) = 0 by omega, Nat.pow_zero, Nat.mul_one, Nat.add_zero]; exact ho⟩ (.cons rfl (.cons rfl (.cons rfl (.cons rfl (.cons rfl (.cons (show _ = some (Value.int .i64 (bitOf 0)) by rw [show bitOf 0 = 128 from rfl]; rfl) .nil)))))) rfl ?_
    rintro ⟨t, vo, os, M1⟩ ⟨ht, hpre, ho⟩
    dsimp only at ht hpre ho ⊢
    have hMM : ∀ z ∈ M, z ∈ M1 := by obtain ⟨N, rfl⟩ := hpre; exact fun z hz => List.mem_append_right _ hz
    have hbd := bitOf_bd (t := t)
    refine WC.seq (WC.seq (WC.region (WL.q (LX.move rfl) rfl (WL.q (LX.bin rfl rfl rfl) rfl (WL.nil (thenK_normal ?_))))))
    refine WC.test rfl (fun hpos => ?_) (fun hpos => ?_)
    · have ht8 : t < 8 := bitOf_pos.1 hpos
      have hol := ho.len_of hm (Int.le_of_lt (Int.emod_lt_of_pos _ hV))
      refine WC.skip (thenK_normal (WC.seq (WC.block (WC.seq (WC.region (WL.q (LX.move rfl) rfl (WL.q (LX.move rfl) rfl (WL.callR (sprodX ho ho (by omega) (by omega)) rfl (fun _ => by kernel_rfl) rfl ?_))))))))
      rintro vp M2 ⟨ps, ⟨bp, fp, -, -, -, -, rfl⟩, hp⟩
      refine WL.q (LX.move rfl) rfl ?_
      have hpl : ps.length ≤ 120 := hp.len (by
        have h1 := ho.lt
        have h2 := Int.mul_le_mul (Int.le_of_lt h1) (Int.le_of_lt h1) ho.nonneg (Int.le_of_lt (dgB _))
        rw [← Int.pow_add] at h2
        have h3 := ho.nonneg
        have h4 : (B16 : Int) ^ (os.length + os.length) ≤ B16 ^ 119 ∨ os.length = 60 := by
          rcases Nat.lt_or_ge os.length 60 with h | h
          · left; rw [B16_two, B16_two]; exact pow2_le (by omega)
          · right; omega
        rcases h4 with h4 | h4
        · have : (B16 : Int) ^ 119 < B16 ^ 120 := by decide
          omega
        · rw [h4] at h1
          have h5 := Int.mul_lt_mul_of_pos_left h1 (show 0 < (B16 : Int) ^ 60 by decide)
          have h6 := Int.mul_le_mul_of_nonneg_right (Int.le_of_lt h1) h3
          have h7 : (B16 : Int) ^ 60 * B16 ^ 60 = B16 ^ 120 := by rw [← Int.pow_add]
          omega)
      refine WL.callR (squot hp (hm.mono fun _ hq => List.mem_cons_of_mem _ (hMM _ hq)) (by omega) (by omega) hV) rfl (fun _ => by kernel_rfl) rfl ?_
      rintro _ _ ⟨q, r, N2, fs, gs, rfl, rfl, -, hr⟩
      rw [pow_sq] at hr
      have hpre2 : ∃ N, N2 ++ (bp, ints fp) :: M1 = N ++ M := by obtain ⟨N, rfl⟩ := hpre; exact ⟨N2 ++ ((bp, ints fp) :: N), by simp⟩
      have hrl := hr.len_of hm (Int.le_of_lt (Int.emod_lt_of_pos _ hV))
      have hbit := bitOf_div (b := b) ht8
      have hsh := natpow_shift (E := b) (s := 7 - t)
      rw [show 7 - t + 1 = 8 - t by omega] at hsh
      refine WL.q (LX.move rfl) rfl (WL.q (LX.extract rfl rfl) rfl (WL.q (LX.extract rfl rfl) rfl (WL.q (LX.assign rfl) rfl (WL.nil (thenK_normal (WC.seq (WC.region (WL.q (LX.move rfl) rfl (WL.q (LX.move rfl) rfl (WL.q (LX.idxo rfl rfl rfl i rfl (by omega)) rfl (WL.q (LX.eq (LX.loadS rfl rfl (fun w hw => hmA w ⟨hw.below, fun p hp => hw.has p (List.mem_append_right _ (List.mem_cons_of_mem _ (hMM _ hp)))⟩) (Src.cell hoA hsl (by omega))) (by rw [hbe])) rfl ?_)))))))))))
      refine WL.q (LX.convI rfl rfl rfl (by omega)) rfl (WL.q (LX.move rfl) rfl (WL.q (LX.quoI rfl rfl (by omega) (by omega)) rfl (WL.q (LX.eq (LX.rem rfl rfl (Int.ediv_nonneg (by omega) (by omega)) (by omega)) (by rw [hbit])) rfl ?_)))
      refine WL.q (LX.bin rfl rfl rfl) rfl (WL.nil (thenK_normal ?_))
      refine WC.test rfl (fun hone => ?_) (fun hone => ?_)
      · refine WC.region (WL.q (LX.move rfl) rfl (WL.q (LX.move rfl) rfl (WL.callR (sprodX hr (hx.mono fun _ hq => List.mem_append_right _ (List.mem_cons_of_mem _ (hMM _ hq))) (by omega) (by omega)) rfl (fun _ => by kernel_rfl) rfl ?_)))
        rintro vp2 M2 ⟨ps2, ⟨bp2, fp2, -, -, -, -, rfl⟩, hp2⟩
        refine WL.q (LX.move rfl) rfl ?_
        have hpl2 : ps2.length ≤ 130 := hp2.len (by
          have h1 := hr.lt
          have h2 := hx.lt
          have h3 := Int.mul_le_mul (Int.le_of_lt h1) (Int.le_of_lt h2) hx.nonneg (Int.le_of_lt (dgB _))
          rw [← Int.pow_add] at h3
          have h4 : (B16 : Int) ^ (gs.length + xs.length) < B16 ^ 130 := by
            have h5 : (B16 : Int) ^ (gs.length + xs.length) ≤ B16 ^ 129 := by rw [B16_two, B16_two]; exact pow2_le (by omega)
            have h6 : (B16 : Int) ^ 129 < B16 ^ 130 := by decide
            omega
          omega)
        refine WL.callR (squot hp2 (hm.mono fun _ hq => List.mem_cons_of_mem _ (List.mem_append_right _ (List.mem_cons_of_mem _ (hMM _ hq)))) (by omega) (by omega) hV) rfl (fun _ => by kernel_rfl) rfl ?_
        rintro _ _ ⟨q2, r2, N3, fs2, gs2, rfl, rfl, -, hr2⟩
        rw [pow_mul1] at hr2
        refine WL.q (LX.move rfl) rfl (WL.q (LX.extract rfl rfl) rfl (WL.q (LX.extract rfl rfl) rfl (WL.q (LX.assign rfl) rfl (WL.nil (blockK_normal (thenK_normal (WC.region (WL.q (LX.move rfl) rfl (WL.q (LX.eq (LX.quoI rfl rfl (by omega) (by omega)) (by rw [bitOf_next])) rfl ?_)))))))))
        refine WL.q (LX.assign rfl) rfl (WL.nil ?_)
        refine loopS_next (t + 1, r2, gs2, _) ⟨by simp only []; omega, ?_, ?_⟩ (by simp only []; omega) (.cons rfl (.cons rfl (.cons rfl (.cons rfl (.cons rfl (.cons rfl .nil)))))) rfl
        · obtain ⟨N, hN⟩ := hpre2
          exact ⟨N3 ++ ((bp2, ints fp2) :: N), by simp only []; rw [hN]; simp⟩
        · simp only []
          rw [show evb (bs.take i) * 2 ^ (t + 1) + b / 2 ^ (8 - (t + 1)) = 2 * (evb (bs.take i) * 2 ^ t + b / 2 ^ (8 - t)) + 1 by rw [Nat.pow_succ, show 8 - (t + 1) = 7 - t by omega, hsh, ← Nat.mul_assoc]; omega]
          exact hr2
      · refine WC.skip (blockK_normal (thenK_normal (WC.region (WL.q (LX.move rfl) rfl (WL.q (LX.eq (LX.quoI rfl rfl (by omega) (by omega)) (by rw [bitOf_next])) rfl ?_)))))
        refine WL.q (LX.assign rfl) rfl (WL.nil ?_)
        refine loopS_next (t + 1, r, gs, _) ⟨by simp only []; omega, hpre2, ?_⟩ (by simp only []; omega) (.cons rfl (.cons rfl (.cons rfl (.cons rfl (.cons rfl (.cons rfl .nil)))))) rfl
        simp only []
        rw [show evb (bs.take i) * 2 ^ (t + 1) + b / 2 ^ (8 - (t + 1)) = 2 * (evb (bs.take i) * 2 ^ t + b / 2 ^ (8 - t)) by rw [Nat.pow_succ, show 8 - (t + 1) = 7 - t by omega, hsh, ← Nat.mul_assoc]; omega]
        exact hr
    · obtain rfl : t = 8 := by
        rcases Nat.lt_or_ge t 8 with h1 | h1
        · exact absurd (bitOf_pos.2 h1) hpos
        · omega
      refine WC.exit (thenK_exit (loopS_exit (blockK_same (blockK_normal (thenK_normal (WC.region (WL.q (LX.move rfl) rfl (WL.q (LX.addI rfl rfl (by omega)) rfl (WL.q (LX.assign rfl) rfl (WL.nil ?_))))))))))
      refine loopS_next (i + 1, vo, os, M1) ⟨by simp only []; omega, hpre, ?_⟩ (by simp only []; omega) (.cons rfl (.cons rfl (.cons rfl (.cons rfl (.cons rfl .nil))))) rfl
      simp only []
      rw [evb_take hi', hbe]
      simpa using ho
  · obtain rfl : i = bs.length := by omega
    refine WC.exit (thenK_exit (loopS_exit (blockK_same (thenK_normal (WC.seq (WC.region (WL.q (LX.move rfl) rfl (WL.q (LX.assign rfl) rfl (WL.nil (thenK_normal (WC.ret ?_)))))))))))
    rw [List.take_length] at ho
    obtain ⟨N, rfl⟩ := hpre
    exact KR.one (.inl rfl) rfl rfl ⟨N, os, rfl, ho⟩
end
end Go.Proofs.YtdnngppofbmpeaaGreatDoor.Bm
namespace Go.Proofs.YtdnngppofbmpeaaGreatDoor.Bm
open Go Go.RowKit

theorem Cd.comm {a b u v : Int} (h : Cd a b u v) : Cd b a u v := fun d => by rw [h d]; exact ⟨fun ⟨x, y⟩ => ⟨y, x⟩, fun ⟨x, y⟩ => ⟨y, x⟩⟩

section
variable {w0 : World} {M : Mem}
/-- divisor -/
theorem sdivisor {va vb : Value} {a b : Int} {das dbs : List Int} (ha : Num M va a das) (hb : Num M vb b dbs) (hLa : das.length ≤ 60) (hLb : dbs.length ≤ 60) :
    CS w0 71 [va, vb] M (fun u M' => ∃ N gs g, M' = N ++ M ∧ Num M' u g gs ∧ Cd a b g 0) := by
  refine CS.of Tryz.func71 Tryz.ntmps71 rfl rfl (WC.seq (WC.region (WL.q (LX.assign rfl) rfl (WL.nil (thenK_normal (WC.seq (WC.block ?_)))))))
  refine WC.loopS (fun s : Value × Int × List Int × Value × Int × List Int × Mem => [(0, s.1), (1, s.2.2.2.1)]) (fun s => s.2.2.2.2.2.2)
    (fun s => (∃ N, s.2.2.2.2.2.2 = N ++ M) ∧ Num s.2.2.2.2.2.2 s.1 s.2.1 s.2.2.1 ∧ Num s.2.2.2.2.2.2 s.2.2.2.1 s.2.2.2.2.1 s.2.2.2.2.2.1 ∧ s.2.2.1.length ≤ 60 ∧ s.2.2.2.2.2.1.length ≤ 60 ∧ Cd a b s.2.1 s.2.2.2.2.1) (fun s => s.2.2.2.2.1.toNat)
    (va, a, das, vb, b, dbs, M) ⟨⟨[], rfl⟩, ha, hb, hLa, hLb, Cd.refl⟩ (.cons rfl (.cons rfl .nil)) rfl ?_
  rintro ⟨vr, r, drs, vs, s, dss, M1⟩ ⟨hpre, hr, hs, hlr, hls, hcd⟩
  dsimp only at hpre hr hs hlr hls hcd ⊢
  have hs' := hs
  obtain ⟨A, cap, rfl, hA⟩ := hs.mem.form
  refine WC.seq (WC.seq (WC.region (WL.q (LX.move rfl) rfl (WL.q (LX.len rfl rfl rfl) rfl (WL.q (LX.bin rfl rfl rfl) rfl (WL.nil (thenK_normal ?_)))))))
  refine WC.test rfl (fun hlt => ?_) (fun hge => ?_)
  · have hs0 : 0 < s := by
      have h1 := hs.nonneg
      have h2 : s ≠ 0 := fun e => by rw [hs.zero.1 e] at hlt; simp at hlt
      omega
    refine WC.skip (thenK_normal (WC.block (WC.seq (WC.region (WL.q (LX.move rfl) rfl (WL.q (LX.move rfl) rfl (WL.callR (squot hr hs' (by omega) (by omega) hs0) rfl (fun _ => by kernel_rfl) rfl ?_)))))))
    rintro _ _ ⟨q, t, N2, fs, gs, rfl, rfl, -, ht⟩
    refine WL.q (LX.move rfl) rfl (WL.q (LX.extract rfl rfl) rfl (WL.q (LX.extract rfl rfl) rfl (WL.q (LX.assign rfl) rfl (WL.q (LX.assign rfl) rfl (WL.nil (thenK_normal (WC.region (WL.q (LX.move rfl) rfl (WL.q (LX.move rfl) rfl (WL.q (LX.assign rfl) rfl (WL.q (LX.assign rfl) rfl (WL.nil (blockK_normal ?_)))))))))))))
    have hm1 := Int.emod_lt_of_pos r hs0
    have hm2 := Int.emod_nonneg r (show s ≠ 0 by omega)
    refine loopS_next (_, s, dss, t, r % s, gs, _) ⟨pre_trans hpre ⟨N2, rfl⟩, hs'.mono fun _ hp => List.mem_append_right _ hp, ht, hls, ?_, hcd.step⟩ (by simp only []; omega) (.cons rfl (.cons rfl .nil)) rfl
    have := ht.len_of hs' (by omega)
    simp only []; omega
  · have hs0 : s = 0 := hs.zero.2 (List.length_eq_zero_iff.1 (by omega))
    subst hs0
    refine WC.exit (thenK_exit (loopS_exit (blockK_same (thenK_normal (WC.seq (WC.region (WL.q (LX.move rfl) rfl (WL.q (LX.assign rfl) rfl (WL.nil (thenK_normal (WC.ret ?_)))))))))))
    obtain ⟨N, rfl⟩ := hpre
    exact KR.one (.inl rfl) rfl rfl ⟨N, drs, r, rfl, hr, hcd⟩

/-- inverse -/
theorem sinverse {va vm : Value} {a m : Int} {das dms : List Int} (ha : Num M va a das) (hm : Num M vm m dms) (hLm : dms.length ≤ 60) (hm1 : 1 < m) (ham : a < m) :
    CS w0 70 [va, vm] M (fun u M' => ∃ N gs x X b, u = .tuple #[x, .bool b] ∧ M' = N ++ M ∧ Num M' x X gs ∧ X < m ∧ (b = true → ∃ B, X * a - B * m = 1) ∧ (b = false → ∀ x B : Int, x * a - B * m ≠ 1)) := by
  refine CS.of Tryz.func70 Tryz.ntmps70 rfl rfl (WC.seq (WC.region (WL.q (LX.assign rfl) rfl (WL.q (LX.assign rfl) rfl (WL.nil (thenK_normal (WC.seq (WC.region (WL.q (LX.move rfl) rfl (WL.q (LX.move rfl) rfl (WL.q (LX.assign rfl) rfl (WL.q (LX.assign rfl) rfl (WL.nil ?_)))))))))))))
  refine thenK_normal (WC.seq (WC.region (WL.step rfl (EX.bslice (e := 3) (cs := []) rfl (fun _ => by kernel_rfl)) ?_)))
  rintro _ _ ⟨b0, rfl, rfl⟩
  
  refine WL.callR (ssmall (x := 1) (by decide) (by decide)) rfl (fun _ => by kernel_rfl) rfl ?_
  rintro v1 _ ⟨N1, os, rfl, h1⟩
  refine WL.q (LX.assign rfl) rfl (WL.q (LX.assign rfl) rfl (WL.nil (thenK_normal (WC.seq (WC.block ?_)))))
  have hsub0 : ∀ z ∈ M, z ∈ N1 ++ (b0, Obj.cells #[] 3 (0, 0)) :: M := fun z hz => List.mem_append_right _ (List.mem_cons_of_mem _ hz)
  refine WC.loopS (fun s : (Value × Int × List Int) × (Value × Int × List Int) × (Value × Int × List Int) × (Value × Int × List Int) × Mem => [(1, vm), (6, s.1.1), (7, s.2.1.1), (8, s.2.2.1.1), (9, s.2.2.2.1.1)]) (fun s => s.2.2.2.2)
    (fun s => (∃ N, s.2.2.2.2 = N ++ M) ∧ (Num s.2.2.2.2 s.1.1 s.1.2.1 s.1.2.2 ∧ s.1.2.1 ≤ m) ∧ (Num s.2.2.2.2 s.2.1.1 s.2.1.2.1 s.2.1.2.2 ∧ s.2.1.2.1 ≤ m) ∧ (Num s.2.2.2.2 s.2.2.1.1 s.2.2.1.2.1 s.2.2.1.2.2 ∧ s.2.2.1.2.1 < m) ∧ (Num s.2.2.2.2 s.2.2.2.1.1 s.2.2.2.1.2.1 s.2.2.2.1.2.2 ∧ s.2.2.2.1.2.1 < m) ∧
      Cd m a s.1.2.1 s.2.1.2.1 ∧ Cg m (s.2.2.1.2.1 * a) s.1.2.1 ∧ Cg m (s.2.2.2.1.2.1 * a) s.2.1.2.1) (fun s => s.2.1.2.1.toNat)
    ((vm, m, dms), (va, a, das), (_, 0, []), (v1, 1, os), _) ⟨⟨N1 ++ [(b0, Obj.cells #[] 3 (0, 0))], by simp⟩, ⟨hm.mono hsub0, Int.le_refl _⟩, ⟨ha.mono hsub0, Int.le_of_lt ham⟩, ⟨Num.nil, by simp only []; omega⟩, ⟨h1, hm1⟩, Cd.refl, ⟨-1, by simp only []; omega⟩, ⟨0, by simp only []; omega⟩⟩ (.cons rfl (.cons rfl (.cons rfl (.cons rfl (.cons rfl .nil))))) rfl ?_
  rintro ⟨⟨vr, r, drs⟩, ⟨vs, s, dss⟩, ⟨vx, x, dxs⟩, ⟨vy, y, dys⟩, M1⟩ ⟨hpre, ⟨hr, hrm⟩, ⟨hs, hsm⟩, ⟨hx, hxm⟩, ⟨hy, hym⟩, hcd, hxr, hys⟩
  dsimp only at hpre hr hrm hs hsm hx hxm hy hym hcd hxr hys ⊢
  have hMM : ∀ z ∈ M, z ∈ M1 := by obtain ⟨N, rfl⟩ := hpre; exact fun z hz => List.mem_append_right _ hz
  have hlr := hr.len_of hm hrm
  have hls := hs.len_of hm hsm
  have hlx := hx.len_of hm (Int.le_of_lt hxm)
  have hly := hy.len_of hm (Int.le_of_lt hym)
  have hs' := hs
  obtain ⟨A, cap, rfl, hA⟩ := hs.mem.form
  refine WC.seq (WC.seq (WC.region (WL.q (LX.move rfl) rfl (WL.q (LX.len rfl rfl rfl) rfl (WL.q (LX.bin rfl rfl rfl) rfl (WL.nil (thenK_normal ?_)))))))
  refine WC.test rfl (fun hlt => ?_) (fun hge => ?_)
  · have hs0 : 0 < s := by
      have h1 := hs.nonneg
      have h2 : s ≠ 0 := fun e => by rw [hs.zero.1 e] at hlt; simp at hlt
      omega
    refine WC.skip (thenK_normal (WC.block (WC.seq (WC.region (WL.q (LX.move rfl) rfl (WL.q (LX.move rfl) rfl (WL.callR (squot hr hs' (by omega) (by omega) hs0) rfl (fun _ => by kernel_rfl) rfl ?_)))))))
    rintro _ _ ⟨q, t, N2, fs, gs, rfl, rfl, hq, ht⟩
    refine WL.q (LX.move rfl) rfl (WL.q (LX.extract rfl rfl) rfl (WL.q (LX.extract rfl rfl) rfl (WL.q (LX.assign rfl) rfl (WL.q (LX.assign rfl) rfl (WL.nil (thenK_normal (WC.seq (WC.region (WL.q (LX.move rfl) rfl (WL.q (LX.move rfl) rfl ?_))))))))))
    have hlq := hq.len_of hr (Int.ediv_le_self _ hr.nonneg)
    have hy2 := hy.mono (N := N2 ++ M1) fun _ hp => List.mem_append_right _ hp
    refine WL.callR (sprodX hq hy2 (by omega) (by omega)) rfl (fun _ => by kernel_rfl) rfl ?_
    rintro vp M2 ⟨ps, ⟨bp, fp, -, -, -, -, rfl⟩, hp⟩
    refine WL.q (LX.move rfl) rfl ?_
    have hpl : ps.length ≤ 120 := hp.len (by
      have l1 := hq.lt
      have l2 := hy.lt
      have l3 := Int.mul_le_mul (Int.le_of_lt l1) (Int.le_of_lt l2) hy.nonneg (Int.le_of_lt (dgB _))
      rw [← Int.pow_add] at l3
      have l5 : (B16 : Int) ^ (fs.length + dys.length) ≤ B16 ^ 120 := by rw [B16_two, B16_two]; exact pow2_le (by omega)
      have l6 := hq.nonneg
      have l7 := hy.nonneg
      rcases Int.lt_or_le (r / s * y) (B16 ^ 120) with h | h
      · exact h
      · exfalso
        have h5 := Int.mul_lt_mul_of_pos_left l2 (show 0 < (B16 : Int) ^ fs.length from dgB _)
        have h6 := Int.mul_le_mul_of_nonneg_right (Int.le_of_lt l1) l7
        rw [← Int.pow_add] at h5
        omega)
    have hm2 : Num ((bp, ints fp) :: (N2 ++ M1)) vm m dms := hm.mono fun _ hq => List.mem_cons_of_mem _ (List.mem_append_right _ (hMM _ hq))
    refine WL.callR (squot hp hm2 (by omega) (by omega) (by omega)) rfl (fun _ => by kernel_rfl) rfl ?_
    rintro _ _ ⟨q2, bk, N3, fs2, gs2, rfl, rfl, -, hbk⟩
    refine WL.q (LX.move rfl) rfl (WL.q (LX.extract rfl rfl) rfl (WL.q (LX.extract rfl rfl) rfl (WL.q (LX.assign rfl) rfl (WL.q (LX.assign rfl) rfl (WL.nil (thenK_normal (WC.seq (WC.region (WL.q (LX.move rfl) rfl (WL.q (LX.move rfl) rfl ?_))))))))))
    have hx3 : Num (N3 ++ (bp, ints fp) :: (N2 ++ M1)) vx x dxs := hx.mono fun _ hp => List.mem_append_right _ (List.mem_cons_of_mem _ (List.mem_append_right _ hp))
    have hm3 : Num (N3 ++ (bp, ints fp) :: (N2 ++ M1)) vm m dms := hm2.mono fun _ hp => List.mem_append_right _ hp
    refine WL.callR (ssum hx3 hm3 (by omega) (by omega)) rfl (fun _ => by kernel_rfl) rfl ?_
    rintro vz _ ⟨N4, zs, rfl, hz⟩
    refine WL.q (LX.move rfl) rfl ?_
    have hb0 := hbk.nonneg
    have hb1 := Int.emod_lt_of_pos (r / s * y) (show 0 < m by omega)
    have hx0 := hx.nonneg
    have hzl : zs.length ≤ 61 := hz.len (by
      have l1 := hm.lt
      have l2 : (B16 : Int) ^ dms.length ≤ B16 ^ 60 := by rw [B16_two, B16_two]; exact pow2_le (by omega)
      have l3 : (B16 : Int) ^ 61 = B16 ^ 60 * 65536 := by rw [Int.pow_succ]
      have l4 := dgB 60
      omega)
    refine WL.callR (sdiff hz (hbk.mono fun _ hp => List.mem_append_right _ hp) (by omega) (by omega)) rfl (fun _ => by kernel_rfl) rfl ?_
    rintro vd _ ⟨N5, dd, rfl, hd⟩
    refine WL.q (LX.assign rfl) rfl (WL.nil (thenK_normal (WC.seq (WC.region (WL.q (LX.move rfl) rfl (WL.q (LX.move rfl) rfl ?_))))))
    have hdl : dd.length ≤ 61 := by
      have := hd.len_of hz (by omega); omega
    have hm5 := hm3.mono (N := N5 ++ (N4 ++ (N3 ++ (bp, ints fp) :: (N2 ++ M1)))) fun _ hp => List.mem_append_right _ (List.mem_append_right _ hp)
    refine WL.callR (squot hd hm5 (by omega) (by omega) (by omega)) rfl (fun _ => by kernel_rfl) rfl ?_
    rintro _ _ ⟨q3, nx, N6, fs3, gs3, rfl, rfl, -, hn⟩
    refine WL.q (LX.move rfl) rfl (WL.q (LX.extract rfl rfl) rfl (WL.q (LX.extract rfl rfl) rfl (WL.q (LX.assign rfl) rfl (WL.nil (thenK_normal (WC.seq (WC.region (WL.q (LX.move rfl) rfl (WL.q (LX.move rfl) rfl (WL.q (LX.assign rfl) rfl (WL.q (LX.assign rfl) rfl (WL.nil (thenK_normal ?_)))))))))))))
    refine WC.region (WL.q (LX.move rfl) rfl (WL.q (LX.move rfl) rfl (WL.q (LX.assign rfl) rfl (WL.q (LX.assign rfl) rfl (WL.nil (blockK_normal ?_))))))
    have ht1 := Int.emod_lt_of_pos r hs0
    have ht2 := Int.emod_nonneg r (show s ≠ 0 by omega)
    have hn1 := Int.emod_lt_of_pos (x + m - r / s * y % m) (show 0 < m by omega)
    refine loopS_next ((_, s, dss), (t, r % s, gs), (vy, y, dys), (nx, (x + m - r / s * y % m) % m, gs3), _) ⟨?_, ⟨?_, hsm⟩, ⟨?_, by simp only []; omega⟩, ⟨?_, hym⟩, ⟨hn, hn1⟩, hcd.step, hys, ?_⟩ (by simp only []; omega) (.cons rfl (.cons rfl (.cons rfl (.cons rfl (.cons rfl .nil))))) rfl
    · obtain ⟨N, rfl⟩ := hpre
      exact ⟨N6 ++ (N5 ++ (N4 ++ (N3 ++ (bp, ints fp) :: (N2 ++ N)))), by simp⟩
    · exact hs'.mono fun _ hp => by simp [hp]
    · exact ht.mono fun _ hp => by simp only [List.mem_append, List.mem_cons] at hp ⊢; grind
    · exact hy.mono fun _ hp => by simp [hp]
    · have e1 : Cg m ((x + m - r / s * y % m) % m) (x - r / s * y) := by
        refine Cg.mod.trans ?_
        have e2 : Cg m (x + m) x := ⟨1, by omega⟩
        exact e2.sub Cg.mod
      have e3 : r % s = r - r / s * s := by
        have := Int.mul_ediv_add_emod r s
        rw [Int.mul_comm] at this; omega
      simp only []
      rw [e3]
      refine (e1.mul (Cg.refl (a := a))).trans ?_
      rw [show (x - r / s * y) * a = x * a - r / s * (y * a) by grind]
      exact hxr.sub (Cg.refl.mul hys)
  · have hs0 : s = 0 := hs.zero.2 (List.length_eq_zero_iff.1 (by omega))
    subst hs0
    have hr' := hr
    obtain ⟨A', cap', rfl, hA'⟩ := hr.mem.form
    have hdl : ∀ p : Prop, (drs.length = 1 ↔ p) → (((drs.length : Int) = 1) ↔ p) := fun p hp => by rw [← hp]; omega
    have hfin : r = 1 → ∃ B, x * a - B * m = 1 := by
      rintro rfl
      obtain ⟨t, ht⟩ := hxr
      exact ⟨t, by rw [ht, Int.mul_comm m t]; omega⟩
    have hno : r ≠ 1 → ∀ x B : Int, x * a - B * m ≠ 1 := by
      intro h1 x B he
      have h2 := (hcd r).1 ⟨Int.dvd_refl _, Int.dvd_zero _⟩
      have h3 : r ∣ x * a - B * m := Int.dvd_sub (Int.dvd_trans h2.2 (Int.dvd_mul_left _ _)) (Int.dvd_trans h2.1 (Int.dvd_mul_left _ _))
      rw [he] at h3
      exact h1 (Int.eq_one_of_dvd_one hr.nonneg h3)
    obtain ⟨N, hN⟩ := hpre
    by_cases h1 : drs.length = 1
    · obtain ⟨b1, o1, full1, rfl, hmm1, hl1, hs1, hc1⟩ := hA' (by omega)
      have hg1 : gt full1 (o1 + 0) = gt drs 0 := by rw [← sliceL_gt (k := drs.length) (by omega), hs1]
      have hr1 : r = gt drs 0 := by
        obtain ⟨z, rfl⟩ : ∃ z, drs = [z] := List.length_eq_one_iff.1 h1
        rw [← hr.val]; simp [gt]
      have hms : ∀ z ∈ [(b1, ints full1)], z ∈ M1 := by
        intro z hz
        simp only [List.mem_cons, List.not_mem_nil, or_false] at hz
        subst hz; exact hmm1
      refine WC.exit (thenK_exit (loopS_exit (blockK_same (thenK_normal (WC.seq (WC.draw [(0, 0), (0, 1), (0, 2), (0, 3), (0, 4), (0, 5), (0, 6), (0, 10), (1, 7), (0, 8), (0, 9), (0, 11)] [(b1, ints full1)] rfl (by kernel_rfl) rfl (by kernel_rfl) (DW.p rfl rfl (fun _ => LX.move rfl) rfl (DW.p rfl rfl (fun _ => LX.move rfl) rfl (DW.p rfl rfl (fun _ => LX.len rfl rfl rfl) rfl (DW.p rfl rfl (fun _ => LX.eq (LX.bin rfl rfl rfl) (tru ((hdl _ Iff.rfl).2 h1))) rfl (DW.p rfl rfl (fun _ => LX.move rfl) rfl (DW.p rfl rfl (fun _ => LX.move rfl) rfl (DW.p rfl rfl (fun _ => LX.idxo rfl rfl rfl 0 rfl (by omega)) rfl ?_)))))))))))))
      refine DW.p rfl rfl (fun _ => LX.assign rfl) rfl ?_
      refine DW.r rfl rfl (LX.eq (LX.loadRow rfl rfl (by repeat first | assumption | exact List.mem_cons_self | refine List.mem_cons_of_mem _ ?_) (by omega)) (by rw [hg1, ← hr1])) hms rfl ?_
      refine DW.p rfl rfl (fun _ => LX.bin rfl rfl rfl) rfl (DW.p rfl rfl (fun _ => LX.pickT rfl rfl) rfl (DW.p rfl rfl (fun _ => LX.assign rfl) rfl (DW.nil (thenK_normal (WC.ret ?_)))))
      refine KR.two (.inl rfl) rfl rfl rfl ⟨N, dxs, vx, x, decide (r = 1), rfl, hN, hx, hxm, fun h => hfin (of_decide_eq_true h), fun h => hno (of_decide_eq_false h)⟩
    · have hr1 : r ≠ 1 := by
        rintro rfl
        have h2 := hr.len (k := 1) (by decide)
        have h3 := hr.pos (by decide)
        exact h1 (Nat.le_antisymm h2 h3)
      refine WC.exit (thenK_exit (loopS_exit (blockK_same (thenK_normal (WC.seq (WC.draw [(0, 0), (0, 1), (0, 2), (0, 3), (0, 4), (0, 5), (0, 6), (0, 7), (0, 8), (0, 9), (0, 10), (0, 11)] [] rfl (by kernel_rfl) rfl (by kernel_rfl) (DW.p rfl rfl (fun _ => LX.move rfl) rfl (DW.p rfl rfl (fun _ => LX.move rfl) rfl (DW.p rfl rfl (fun _ => LX.len rfl rfl rfl) rfl (DW.p rfl rfl (fun _ => LX.eq (LX.bin rfl rfl rfl) (fls (fun h => h1 ((hdl _ Iff.rfl).1 h)))) rfl (DW.p rfl rfl (fun _ => LX.move rfl) rfl (DW.skip rfl rfl rfl (DW.skip rfl rfl rfl ?_)))))))))))))
      refine DW.skip rfl rfl rfl (DW.skip rfl rfl rfl (DW.p rfl rfl (fun _ => LX.pickF rfl rfl) rfl (DW.p rfl rfl (fun _ => LX.assign rfl) rfl (DW.p rfl rfl (fun _ => LX.assign rfl) rfl (DW.nil (thenK_normal (WC.ret ?_)))))))
      exact KR.two (.inl rfl) rfl rfl rfl ⟨N, dxs, vx, x, false, rfl, hN, hx, hxm, fun h => by simp at h, fun _ => hno hr1⟩
end
end Go.Proofs.YtdnngppofbmpeaaGreatDoor.Bm
