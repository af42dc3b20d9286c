/- Proved here: what add and sub of bigmod's numbers do, x and y apart or the same; what reset, set, cmpGeq, Equal, assign, expand and their kin do. Conditions: none but those that each theorem states. -/
import Derived.Test.YtdnngppofbmpeaaGreatDoorG5
import Derived.Laws.Bits64
import Derived.Laws.Bits64b
namespace Go.Proofs.YtdnngppofbmpeaaGreatDoor.Bm
open Go Go.RowKit

theorem dv_take_gt (b : Int) {xs : List Int} {i : Nat} (h : i < xs.length) : dv b (xs.take (i + 1)) = dv b (xs.take i) + b ^ i * gt xs i := by
  rw [dv_take_succ _ _ _ h, gt_eq h]
theorem drop_set_gt {xs : List Int} {i : Nat} {v : Int} : (xs.set i v).drop (i + 1) = xs.drop (i + 1) := by
  rw [List.drop_set_of_lt (by omega)]
theorem drop_next {xs ys : List Int} {i : Nat} (h : xs.drop i = ys.drop i) : xs.drop (i + 1) = ys.drop (i + 1) := by
  have := congrArg (List.drop 1) h
  simpa [List.drop_drop] using this
theorem gt_drop {xs ys : List Int} {i j : Nat} (h : xs.drop i = ys.drop i) (hj : i ≤ j) : gt xs j = gt ys j := by
  have := congrArg (fun l => l[j - i]?) h
  simp only [List.getElem?_drop] at this
  rw [show i + (j - i) = j by omega] at this
  unfold gt
  rw [List.getD_eq_getElem?_getD, List.getD_eq_getElem?_getD, this]

/-- a number of n words, c there, whose value is V -/
structure NV (n c : Nat) (V : Int) (xs : List Int) : Prop where
  len : xs.length = c
  le : n ≤ c
  small : c ≤ 1000
  dg : Dg W64 xs
  val : dv W64 (xs.take n) = V

theorem NV.nonneg {n c : Nat} {V : Int} {xs : List Int} (h : NV n c V xs) : 0 ≤ V := h.val ▸ dv_nonneg W64_pos (h.dg.take n)
theorem NV.lt {n c : Nat} {V : Int} {xs : List Int} (h : NV n c V xs) : V < W64 ^ n := by
  have := dv_lt W64_pos (h.dg.take n)
  rw [List.length_take, h.len, Nat.min_eq_left h.le, h.val] at this
  exact this

/-- what y reads as while x is written from below -/
structure Rd (n c cy : Nat) (rd : List Int → List Int) (xs : List Int) (Y : Int) : Prop where
  len : ∀ zs : List Int, zs.length = c → (rd zs).length = cy
  le : n ≤ cy
  gt : ∀ (i : Nat) (zs : List Int), zs.length = c → zs.drop i = xs.drop i → gt (rd zs) i = gt (rd xs) i
  dg : Dg W64 (rd xs)
  val : dv W64 ((rd xs).take n) = Y
theorem Rd.other {n c cy : Nat} {xs ys : List Int} {Y : Int} (h : NV n cy Y ys) : Rd n c cy (fun _ => ys) xs Y :=
  ⟨fun _ _ => h.len, h.le, fun _ _ _ _ => rfl, h.dg, h.val⟩
theorem Rd.same {n c : Nat} {xs : List Int} {X : Int} (h : NV n c X xs) : Rd n c c (fun zs => zs) xs X :=
  ⟨fun _ h => h, h.le, fun _ _ _ hd => gt_drop hd (Nat.le_refl _), h.dg, h.val⟩

/-- the state of a loop that writes x from below: the carry -/
structure St (c : Nat) (xs : List Int) (i : Nat) (zs : List Int) : Prop where
  len : zs.length = c
  dg : Dg W64 zs
  drop : zs.drop i = xs.drop i
theorem St.start {c : Nat} {xs : List Int} (h : xs.length = c) (hd : Dg W64 xs) : St c xs 0 xs := ⟨h, hd, rfl⟩
theorem St.next {c i : Nat} {xs zs : List Int} (h : St c xs i zs) {v : Int} (hv : wd v) : St c xs (i + 1) (zs.set i v) :=
  ⟨by rw [List.length_set]; exact h.len, h.dg.set hv.1 hv.2 i, by rw [drop_set_gt]; exact drop_next h.drop⟩
theorem St.gt {c i : Nat} {xs zs : List Int} (h : St c xs i zs) : gt zs i = gt xs i := gt_drop h.drop (Nat.le_refl _)

theorem add_step {Z A s W c' X x Y y k : Int} (h : Z + A * k = X + Y) (h2 : s + W * c' = x + y + k) : Z + A * s + (A * W) * c' = X + A * x + (Y + A * y) := by grind
theorem sub_step {Z A s W c' X x Y y k : Int} (h : Z - A * k = X - Y) (h2 : s - W * c' = x - y - k) : Z + A * s - (A * W) * c' = X + A * x - (Y + A * y) := by grind

section
variable {w0 : World} {M : Mem}
theorem addG {p l py ly n c cy : Nat} {X Y : Int} {xs : List Int} {rd : List Int → List Int} (hx : NV n c X xs) (hr : Rd n c cy rd xs Y)
    (hpy : ∀ zs, (py, natO ly n cy) ∈ (p, natO l n c) :: (l, words zs) :: M) (hly : ∀ zs, (ly, words (rd zs)) ∈ (p, natO l n c) :: (l, words zs) :: M) :
    CS w0 88 [ptr p, ptr py] ((p, natO l n c) :: (l, words xs) :: M)
      (fun u M' => ∃ zs k Z, bt k ∧ u = .int .u64 k ∧ NV n c Z zs ∧ Z + W64 ^ n * k = X + Y ∧ M' = (p, natO l n c) :: (l, words zs) :: M) := by
  obtain ⟨hxl, hxn, hxs, hxd, hxv⟩ := hx
  have hrn := hr.le
  refine CS.of Tryz.func88 Tryz.ntmps88 rfl rfl (WC.seq (WC.region (WL.q (LX.assign rfl) rfl (WL.nil (thenK_normal (WC.seq (WC.region (WL.q (LX.move rfl) rfl (WL.q (LX.nilCheck rfl) rfl (WL.q (LX.field0 rfl rfl) rfl (WL.q (LX.load rfl rfl List.mem_cons_self rfl) rfl (WL.q (LX.len rfl rfl rfl) rfl (WL.q (LX.assign rfl) rfl ?_)))))))))))))
  refine WL.nil (thenK_normal (WC.seq (WC.region (WL.q (LX.move rfl) rfl (WL.q (LX.nilCheck rfl) rfl (WL.q (LX.field0 rfl rfl) rfl (WL.q (LX.load rfl rfl List.mem_cons_self rfl) rfl (WL.q (LX.move rfl) rfl (WL.q (LX.sliceTo rfl rfl rfl _ rfl (by omega)) rfl (WL.q (LX.assign rfl) rfl (WL.nil (thenK_normal (WC.seq ?_)))))))))))))
  refine WC.region (WL.q (LX.move rfl) rfl (WL.q (LX.nilCheck rfl) rfl (WL.q (LX.field0 rfl rfl) rfl (WL.q (LX.load rfl rfl (hpy _) rfl) rfl (WL.q (LX.move rfl) rfl (WL.q (LX.sliceTo rfl rfl rfl _ rfl (by omega)) rfl (WL.q (LX.assign rfl) rfl (WL.nil (thenK_normal (WC.seq (WC.seq (WC.region (WL.q (LX.assign rfl) rfl ?_)))))))))))))
  refine WL.nil (thenK_normal (WC.block ?_))
  refine WC.loopS (fun s : Nat × List Int × Int => [(4, .int .u64 s.2.2), (5, .int .i64 n), (6, .slice (some ⟨l, 0, none⟩) n c), (7, .slice (some ⟨ly, 0, none⟩) n cy), (8, .int .i64 s.1)]) (fun s => (p, natO l n c) :: (l, words s.2.1) :: M)
    (fun s => s.1 ≤ n ∧ St c xs s.1 s.2.1 ∧ bt s.2.2 ∧ dv W64 (s.2.1.take s.1) + W64 ^ s.1 * s.2.2 = dv W64 (xs.take s.1) + dv W64 ((rd xs).take s.1)) (fun s => n - s.1) (0, xs, 0)
    ⟨Nat.zero_le _, St.start hxl hxd, bt_zero, by simp⟩ (.cons rfl (.cons rfl (.cons rfl (.cons rfl (.cons rfl .nil))))) rfl ?_
  rintro ⟨i, zs, k⟩ ⟨hi, hst, hk, hv⟩
  dsimp only at hi hst hk hv ⊢
  have hms : ∀ q ∈ [(l, words zs), (ly, words (rd zs))], q ∈ (p, natO l n c) :: (l, words zs) :: M := by
    intro q hq
    simp only [List.mem_cons, List.not_mem_nil, or_false] at hq
    rcases hq with rfl | rfl
    · exact List.mem_cons_of_mem _ List.mem_cons_self
    · exact hly _
  refine WC.seq (WC.seq (WC.region (WL.q (LX.move rfl) rfl (WL.q (LX.move rfl) rfl (WL.q (LX.bin rfl rfl rfl) rfl (WL.nil (thenK_normal ?_)))))))
  refine WC.test rfl (fun hlt => ?_) (fun hge => ?_)
  · have hzl := hst.len
    have hrl := hr.len zs hzl
    refine WC.skip (thenK_normal (WC.seq (WC.block (WC.draw [(0, 0), (0, 1), (0, 2), (0, 3), (0, 4), (0, 6), (0, 7), (0, 8), (0, 10), (1, 5), (1, 9), (2, 11), (0, 12), (0, 13), (0, 14), (0, 15), (2, 16), (0, 17)] [(l, words zs), (ly, words (rd zs))] rfl (by kernel_rfl) rfl (by kernel_rfl) (DW.p rfl rfl (fun _ => LX.move rfl) rfl (DW.p rfl rfl (fun _ => LX.move rfl) rfl (DW.p rfl rfl (fun _ => LX.move rfl) rfl (DW.p rfl rfl (fun _ => LX.move rfl) rfl (DW.p rfl rfl (fun _ => LX.idx1 rfl rfl rfl _ rfl (by omega)) rfl (DW.p rfl rfl (fun _ => LX.move rfl) rfl (DW.p rfl rfl (fun _ => LX.move rfl) rfl (DW.p rfl rfl (fun _ => LX.idx1 rfl rfl rfl _ rfl (by omega)) rfl (DW.p rfl rfl (fun _ => LX.move rfl) rfl ?_)))))))))))))
    refine DW.r rfl rfl (LX.loadRow rfl rfl (by repeat first | assumption | exact List.mem_cons_self | refine List.mem_cons_of_mem _ ?_) (by omega)) hms rfl ?_
    refine DW.r rfl rfl (LX.loadRow rfl rfl (by repeat first | assumption | exact List.mem_cons_self | refine List.mem_cons_of_mem _ ?_) (by omega)) hms rfl ?_
    have hx1 : wd (gt zs i) := dg_gt hst.dg i
    have hy1 : wd (gt (rd zs) i) := by rw [hr.gt i zs hzl hst.drop]; exact dg_gt hr.dg i
    refine DW.fval rfl rfl (EX.call rfl (fun _ => by kernel_rfl) (bitsAdd hx1 hy1 hk)) hms rfl (DW.p rfl rfl (fun _ => LX.move rfl) rfl (DW.p rfl rfl (fun _ => LX.extract rfl rfl) rfl (DW.p rfl rfl (fun _ => LX.extract rfl rfl) rfl (DW.p rfl rfl (fun _ => LX.idx1 rfl rfl rfl _ rfl (by omega)) rfl ?_))))
    refine DW.tput rfl rfl (EX.storeRow rfl rfl rfl (by repeat first | assumption | exact List.mem_cons_self | refine List.mem_cons_of_mem _ ?_) (by omega) (by repeat first | exact Upd.here | apply Upd.there)) (by kernel_rfl) ?_
    refine DW.p rfl rfl (fun _ => LX.assign rfl) rfl (DW.nil (blockK_normal (thenK_normal (WC.region (WL.q (LX.move rfl) rfl (WL.q (LX.addI rfl rfl (by omega)) rfl (WL.q (LX.assign rfl) rfl (WL.nil ?_))))))))
    refine loopS_next (i + 1, zs.set i (sumW (gt zs i) (gt (rd zs) i) k), sumC (gt zs i) (gt (rd zs) i) k) ⟨by omega, hst.next (sumW_wd _ _ _), sumC_bt hx1 hy1 hk, ?_⟩ (by simp; omega) (.cons rfl (.cons rfl (.cons rfl (.cons rfl (.cons rfl .nil))))) rfl
    have hrx := hr.len xs hxl
    dsimp only
    rw [dv_take_set (by omega), dv_take_gt W64 (xs := xs) (by omega), dv_take_gt W64 (xs := rd xs) (by omega), Int.pow_succ, hst.gt, hr.gt i zs hzl hst.drop]
    exact add_step hv (sum_eq _ _ _)
  · refine WC.exit (thenK_exit (loopS_exit (blockK_same (thenK_normal (WC.ret ?_)))))
    obtain rfl : i = n := by omega
    exact KR.one (.inl rfl) rfl rfl ⟨zs, k, _, hk, rfl, ⟨hst.len, hxn, hxs, hst.dg, rfl⟩, by rw [hv, hxv, hr.val], rfl⟩

theorem subG {p l py ly n c cy : Nat} {X Y : Int} {xs : List Int} {rd : List Int → List Int} (hx : NV n c X xs) (hr : Rd n c cy rd xs Y)
    (hpy : ∀ zs, (py, natO ly n cy) ∈ (p, natO l n c) :: (l, words zs) :: M) (hly : ∀ zs, (ly, words (rd zs)) ∈ (p, natO l n c) :: (l, words zs) :: M) :
    CS w0 89 [ptr p, ptr py] ((p, natO l n c) :: (l, words xs) :: M)
      (fun u M' => ∃ zs k Z, bt k ∧ u = .int .u64 k ∧ NV n c Z zs ∧ Z - W64 ^ n * k = X - Y ∧ M' = (p, natO l n c) :: (l, words zs) :: M) := by
  obtain ⟨hxl, hxn, hxs, hxd, hxv⟩ := hx
  have hrn := hr.le
  refine CS.of Tryz.func89 Tryz.ntmps89 rfl rfl (WC.seq (WC.region (WL.q (LX.assign rfl) rfl (WL.nil (thenK_normal (WC.seq (WC.region (WL.q (LX.move rfl) rfl (WL.q (LX.nilCheck rfl) rfl (WL.q (LX.field0 rfl rfl) rfl (WL.q (LX.load rfl rfl List.mem_cons_self rfl) rfl (WL.q (LX.len rfl rfl rfl) rfl (WL.q (LX.assign rfl) rfl ?_)))))))))))))
  refine WL.nil (thenK_normal (WC.seq (WC.region (WL.q (LX.move rfl) rfl (WL.q (LX.nilCheck rfl) rfl (WL.q (LX.field0 rfl rfl) rfl (WL.q (LX.load rfl rfl List.mem_cons_self rfl) rfl (WL.q (LX.move rfl) rfl (WL.q (LX.sliceTo rfl rfl rfl _ rfl (by omega)) rfl (WL.q (LX.assign rfl) rfl (WL.nil (thenK_normal (WC.seq ?_)))))))))))))
  refine WC.region (WL.q (LX.move rfl) rfl (WL.q (LX.nilCheck rfl) rfl (WL.q (LX.field0 rfl rfl) rfl (WL.q (LX.load rfl rfl (hpy _) rfl) rfl (WL.q (LX.move rfl) rfl (WL.q (LX.sliceTo rfl rfl rfl _ rfl (by omega)) rfl (WL.q (LX.assign rfl) rfl (WL.nil (thenK_normal (WC.seq (WC.seq (WC.region (WL.q (LX.assign rfl) rfl ?_)))))))))))))
  refine WL.nil (thenK_normal (WC.block ?_))
  refine WC.loopS (fun s : Nat × List Int × Int => [(4, .int .u64 s.2.2), (5, .int .i64 n), (6, .slice (some ⟨l, 0, none⟩) n c), (7, .slice (some ⟨ly, 0, none⟩) n cy), (8, .int .i64 s.1)]) (fun s => (p, natO l n c) :: (l, words s.2.1) :: M)
    (fun s => s.1 ≤ n ∧ St c xs s.1 s.2.1 ∧ bt s.2.2 ∧ dv W64 (s.2.1.take s.1) - W64 ^ s.1 * s.2.2 = dv W64 (xs.take s.1) - dv W64 ((rd xs).take s.1)) (fun s => n - s.1) (0, xs, 0)
    ⟨Nat.zero_le _, St.start hxl hxd, bt_zero, by simp⟩ (.cons rfl (.cons rfl (.cons rfl (.cons rfl (.cons rfl .nil))))) rfl ?_
  rintro ⟨i, zs, k⟩ ⟨hi, hst, hk, hv⟩
  dsimp only at hi hst hk hv ⊢
  have hms : ∀ q ∈ [(l, words zs), (ly, words (rd zs))], q ∈ (p, natO l n c) :: (l, words zs) :: M := by
    intro q hq
    simp only [List.mem_cons, List.not_mem_nil, or_false] at hq
    rcases hq with rfl | rfl
    · exact List.mem_cons_of_mem _ List.mem_cons_self
    · exact hly _
  refine WC.seq (WC.seq (WC.region (WL.q (LX.move rfl) rfl (WL.q (LX.move rfl) rfl (WL.q (LX.bin rfl rfl rfl) rfl (WL.nil (thenK_normal ?_)))))))
  refine WC.test rfl (fun hlt => ?_) (fun hge => ?_)
  · have hzl := hst.len
    have hrl := hr.len zs hzl
    refine WC.skip (thenK_normal (WC.seq (WC.block (WC.draw [(0, 0), (0, 1), (0, 2), (0, 3), (0, 4), (0, 6), (0, 7), (0, 8), (0, 10), (1, 5), (1, 9), (2, 11), (0, 12), (0, 13), (0, 14), (0, 15), (2, 16), (0, 17)] [(l, words zs), (ly, words (rd zs))] rfl (by kernel_rfl) rfl (by kernel_rfl) (DW.p rfl rfl (fun _ => LX.move rfl) rfl (DW.p rfl rfl (fun _ => LX.move rfl) rfl (DW.p rfl rfl (fun _ => LX.move rfl) rfl (DW.p rfl rfl (fun _ => LX.move rfl) rfl (DW.p rfl rfl (fun _ => LX.idx1 rfl rfl rfl _ rfl (by omega)) rfl (DW.p rfl rfl (fun _ => LX.move rfl) rfl (DW.p rfl rfl (fun _ => LX.move rfl) rfl (DW.p rfl rfl (fun _ => LX.idx1 rfl rfl rfl _ rfl (by omega)) rfl (DW.p rfl rfl (fun _ => LX.move rfl) rfl ?_)))))))))))))
    refine DW.r rfl rfl (LX.loadRow rfl rfl (by repeat first | assumption | exact List.mem_cons_self | refine List.mem_cons_of_mem _ ?_) (by omega)) hms rfl ?_
    refine DW.r rfl rfl (LX.loadRow rfl rfl (by repeat first | assumption | exact List.mem_cons_self | refine List.mem_cons_of_mem _ ?_) (by omega)) hms rfl ?_
    have hx1 : wd (gt zs i) := dg_gt hst.dg i
    have hy1 : wd (gt (rd zs) i) := by rw [hr.gt i zs hzl hst.drop]; exact dg_gt hr.dg i
    refine DW.fval rfl rfl (EX.call rfl (fun _ => by kernel_rfl) (bitsSub hx1 hy1 hk)) hms rfl (DW.p rfl rfl (fun _ => LX.move rfl) rfl (DW.p rfl rfl (fun _ => LX.extract rfl rfl) rfl (DW.p rfl rfl (fun _ => LX.extract rfl rfl) rfl (DW.p rfl rfl (fun _ => LX.idx1 rfl rfl rfl _ rfl (by omega)) rfl ?_))))
    refine DW.tput rfl rfl (EX.storeRow rfl rfl rfl (by repeat first | assumption | exact List.mem_cons_self | refine List.mem_cons_of_mem _ ?_) (by omega) (by repeat first | exact Upd.here | apply Upd.there)) (by kernel_rfl) ?_
    refine DW.p rfl rfl (fun _ => LX.assign rfl) rfl (DW.nil (blockK_normal (thenK_normal (WC.region (WL.q (LX.move rfl) rfl (WL.q (LX.addI rfl rfl (by omega)) rfl (WL.q (LX.assign rfl) rfl (WL.nil ?_))))))))
    refine loopS_next (i + 1, zs.set i (difW (gt zs i) (gt (rd zs) i) k), difC (gt zs i) (gt (rd zs) i) k) ⟨by omega, hst.next (difW_wd _ _ _), difC_bt _ _ _, ?_⟩ (by simp; omega) (.cons rfl (.cons rfl (.cons rfl (.cons rfl (.cons rfl .nil))))) rfl
    have hrx := hr.len xs hxl
    dsimp only
    rw [dv_take_set (by omega), dv_take_gt W64 (xs := xs) (by omega), dv_take_gt W64 (xs := rd xs) (by omega), Int.pow_succ, hst.gt, hr.gt i zs hzl hst.drop]
    exact sub_step hv (dif_eq (dg_gt hxd i) (dg_gt hr.dg i) hk)
  · refine WC.exit (thenK_exit (loopS_exit (blockK_same (thenK_normal (WC.ret ?_)))))
    obtain rfl : i = n := by omega
    exact KR.one (.inl rfl) rfl rfl ⟨zs, k, _, hk, rfl, ⟨hst.len, hxn, hxs, hst.dg, rfl⟩, by rw [hv, hxv, hr.val], rfl⟩

/-- add, x and y apart -/
theorem nadd {p l py ly n c cy : Nat} {X Y : Int} {xs ys : List Int} (hx : NV n c X xs) (hy : NV n cy Y ys) (hpy : (py, natO ly n cy) ∈ M) (hly : (ly, words ys) ∈ M) :
    CS w0 88 [ptr p, ptr py] ((p, natO l n c) :: (l, words xs) :: M)
      (fun u M' => ∃ zs k Z, bt k ∧ u = .int .u64 k ∧ NV n c Z zs ∧ Z + W64 ^ n * k = X + Y ∧ M' = (p, natO l n c) :: (l, words zs) :: M) :=
  addG (rd := fun _ => ys) hx (Rd.other hy) (fun _ => List.mem_cons_of_mem _ (List.mem_cons_of_mem _ hpy)) (fun _ => List.mem_cons_of_mem _ (List.mem_cons_of_mem _ hly))
/-- x added to itself -/
theorem naddSelf {p l n c : Nat} {X : Int} {xs : List Int} (hx : NV n c X xs) :
    CS w0 88 [ptr p, ptr p] ((p, natO l n c) :: (l, words xs) :: M)
      (fun u M' => ∃ zs k Z, bt k ∧ u = .int .u64 k ∧ NV n c Z zs ∧ Z + W64 ^ n * k = X + X ∧ M' = (p, natO l n c) :: (l, words zs) :: M) :=
  addG (rd := fun zs => zs) hx (Rd.same hx) (fun _ => List.mem_cons_self) (fun _ => List.mem_cons_of_mem _ List.mem_cons_self)

/-- sub, x and y apart -/
theorem nsub {p l py ly n c cy : Nat} {X Y : Int} {xs ys : List Int} (hx : NV n c X xs) (hy : NV n cy Y ys) (hpy : (py, natO ly n cy) ∈ M) (hly : (ly, words ys) ∈ M) :
    CS w0 89 [ptr p, ptr py] ((p, natO l n c) :: (l, words xs) :: M)
      (fun u M' => ∃ zs k Z, bt k ∧ u = .int .u64 k ∧ NV n c Z zs ∧ Z - W64 ^ n * k = X - Y ∧ M' = (p, natO l n c) :: (l, words zs) :: M) :=
  subG (rd := fun _ => ys) hx (Rd.other hy) (fun _ => List.mem_cons_of_mem _ (List.mem_cons_of_mem _ hpy)) (fun _ => List.mem_cons_of_mem _ (List.mem_cons_of_mem _ hly))
/-- x subtracted from itself -/
theorem nsubSelf {p l n c : Nat} {X : Int} {xs : List Int} (hx : NV n c X xs) :
    CS w0 89 [ptr p, ptr p] ((p, natO l n c) :: (l, words xs) :: M)
      (fun u M' => ∃ zs k Z, bt k ∧ u = .int .u64 k ∧ NV n c Z zs ∧ Z - W64 ^ n * k = X - X ∧ M' = (p, natO l n c) :: (l, words zs) :: M) :=
  subG (rd := fun zs => zs) hx (Rd.same hx) (fun _ => List.mem_cons_self) (fun _ => List.mem_cons_of_mem _ List.mem_cons_self)

end
end Go.Proofs.YtdnngppofbmpeaaGreatDoor.Bm
namespace Go.Proofs.YtdnngppofbmpeaaGreatDoor.Bm
open Go Go.RowKit

theorem wd_nat {x : Int} (h : wd x) : ∃ a : Nat, x = (a : Int) ∧ a < 18446744073709551616 := by
  have := wd_def h
  exact ⟨x.toNat, by omega, by omega⟩
def mask (k : Int) : Int := IntKind.u64.wrap (0 - k)
theorem mask0 : mask 0 = 0 := rfl
theorem mask1 : mask 1 = ((2 ^ 64 - 1 : Nat) : Int) := rfl
theorem mask_wd {k : Int} (hk : bt k) : wd (mask k) := by rcases hk with rfl | rfl <;> (unfold mask wd W64; decide)
/-- the choice of a word by a mask -/
theorem pickW {x y k : Int} (hx : wd x) (hy : wd y) (hk : bt k) : bits .xor .u64 x (bits .and .u64 (mask k) (bits .xor .u64 x y)) = if k = 1 then y else x := by
  obtain ⟨a, rfl, ha⟩ := wd_nat hx
  obtain ⟨b, rfl, hb⟩ := wd_nat hy
  have hab : a ^^^ b < 2 ^ 64 := Nat.xor_lt_two_pow (by omega) (by omega)
  rw [bits_xor_u64_nat a b ha hb]
  rcases hk with rfl | rfl
  · rw [mask0, show (0 : Int) = ((0 : Nat) : Int) from rfl, bits_and_u64_nat 0 _ (by omega) (by omega), Nat.zero_and, bits_xor_u64_nat a 0 ha (by omega), Nat.xor_zero]; simp
  · rw [mask1, bits_and_u64_nat (2 ^ 64 - 1) _ (by decide) (by omega), Nat.and_comm, Nat.and_two_pow_sub_one_of_lt_two_pow hab, bits_xor_u64_nat a _ ha (by omega), ← Nat.xor_assoc, Nat.xor_self, Nat.zero_xor]; simp

theorem or_bt {x y : Int} (hx : bt x) (hy : bt y) : bits .or .u64 x y = b1 (x = 1 ∨ y = 1) := by
  rcases hx with rfl | rfl <;> rcases hy with rfl | rfl <;> rfl

section
variable {w0 : World} {M : Mem}
theorem ctMask {k : Int} : CS w0 107 [.int .u64 k] M (fun v M' => v = .int .u64 (mask k) ∧ M' = M) := by
  refine CS.of Tryz.func107 Tryz.ntmps107 rfl rfl (WC.seq (WC.region (WL.q (LX.assign rfl) rfl (WL.nil (thenK_normal (WC.seq (WC.region (WL.q (LX.move rfl) rfl (WL.q (LX.neg rfl) rfl (WL.q (LX.assign rfl) rfl (WL.nil (thenK_normal (WC.ret ?_)))))))))))))
  exact KR.one (.inl rfl) rfl rfl ⟨rfl, rfl⟩

theorem NV.zero {n c : Nat} (hn : n ≤ c) (hc : c ≤ 1000) {xs : List Int} (hl : xs.length = c) (hd : Dg W64 xs) (h : ∀ i, i < n → gt xs i = 0) : NV n c 0 xs :=
  ⟨hl, hn, hc, hd, by rw [dv_take_zero (k := 0) (Nat.zero_le _) (by omega) (fun i _ hi => h i hi)]; rfl⟩

/-- reset, as a value -/
theorem nreset' {p l a n c : Nat} {xs : List Int} (hl : xs.length = c) (hn : n ≤ c) (ha : a ≤ c) (hc : c ≤ 1000) (hd : Dg W64 xs) :
    CS w0 76 [ptr p, .int .i64 n] ((p, natO l a c) :: (l, words xs) :: M)
      (fun u M' => ∃ zs, u = ptr p ∧ NV n c 0 zs ∧ M' = (p, natO l n c) :: (l, words zs) :: M) := by
  subst hl
  refine CS.post (nreset hn ha hc) ?_
  rintro v M' ⟨rfl, rfl⟩
  exact ⟨_, List.Sublist.refl _, _, rfl, NV.zero hn hc (by simp; omega) ((Dg.replicate W64_pos _).append (hd.drop _)) (fun i hi => gt_rep (by omega)), rfl⟩

theorem take_putL {xs ys : List Int} {n : Nat} (hx : n ≤ xs.length) (hy : n ≤ ys.length) : (putL xs 0 (sliceL ys 0 n)).take n = ys.take n := by
  unfold putL
  have h : (sliceL ys 0 n).length = n := sliceL_length _ _ _ (by omega)
  rw [List.take_zero, List.nil_append, List.take_append_of_le_length (by omega), List.take_of_length_le (by omega)]
  rfl
theorem putL_len {xs ys : List Int} {n : Nat} (hx : n ≤ xs.length) (hy : n ≤ ys.length) : (putL xs 0 (sliceL ys 0 n)).length = xs.length := by
  unfold putL sliceL
  simp; omega
theorem putL_dg {xs ys : List Int} {n : Nat} {b : Int} (hx : Dg b xs) (hy : Dg b ys) : Dg b (putL xs 0 (sliceL ys 0 n)) := by
  exact ((hx.take 0).append ((hy.drop 0).take n)).append (hx.drop _)
theorem NV.put {n c cy : Nat} {X Y : Int} {xs ys : List Int} (hx : NV n c X xs) (hy : NV n cy Y ys) : NV n c Y (putL xs 0 (sliceL ys 0 n)) := by
  have := hx.len; have := hx.le; have := hy.len; have := hy.le
  exact ⟨by rw [putL_len (by omega) (by omega)]; omega, hx.le, hx.small, putL_dg hx.dg hy.dg, by rw [take_putL (by omega) (by omega), hy.val]⟩

/-- set -/
theorem nset {p l a py ly n c cy : Nat} {Y : Int} {xs ys : List Int} (hl : xs.length = c) (ha : a ≤ c) (hn : n ≤ c) (hc : c ≤ 1000) (hd : Dg W64 xs) (hy : NV n cy Y ys) (hpy : (py, natO ly n cy) ∈ M) (hly : (ly, words ys) ∈ M) :
    CS w0 90 [ptr p, ptr py] ((p, natO l a c) :: (l, words xs) :: M)
      (fun u M' => ∃ zs, u = ptr p ∧ NV n c Y zs ∧ M' = (p, natO l n c) :: (l, words zs) :: M) := by
  have hyl := hy.len
  have hyn := hy.le
  refine CS.of Tryz.func90 Tryz.ntmps90 rfl rfl (WC.seq (WC.region (WL.q (LX.assign rfl) rfl (WL.nil (thenK_normal (WC.seq (WC.region (WL.q (LX.move rfl) rfl (WL.q (LX.move rfl) rfl (WL.q (LX.nilCheck rfl) rfl (WL.q (LX.field0 rfl rfl) rfl ?_)))))))))))
  refine WL.q (LX.load rfl rfl (by repeat first | assumption | exact List.mem_cons_self | refine List.mem_cons_of_mem _ ?_) rfl) rfl ?_
  refine WL.q (LX.len rfl rfl rfl) rfl (WL.callR (nreset' hl hn ha hc hd) rfl (fun _ => by kernel_rfl) rfl ?_)
  rintro _ _ ⟨zs, rfl, hz, rfl⟩
  have hzl := hz.len
  have hms : ∀ q ∈ [(p, natO l n c), (py, natO ly n cy)], q ∈ (p, natO l n c) :: (l, words zs) :: M := by
    intro q hq
    simp only [List.mem_cons, List.not_mem_nil, or_false] at hq
    rcases hq with rfl | rfl
    · exact List.mem_cons_self
    · exact List.mem_cons_of_mem _ (List.mem_cons_of_mem _ hpy)
  refine WL.nil (thenK_normal (WC.seq (WC.draw [(0, 0), (0, 1), (0, 2), (0, 4), (0, 5), (0, 6), (1, 3), (1, 7), (2, 8)] [(p, natO l n c), (py, natO ly n cy)] rfl (by kernel_rfl) rfl (by kernel_rfl) (DW.p rfl rfl (fun _ => LX.move rfl) rfl (DW.p rfl rfl (fun _ => LX.nilCheck rfl) rfl (DW.p rfl rfl (fun _ => LX.field0 rfl rfl) rfl (DW.p rfl rfl (fun _ => LX.move rfl) rfl (DW.p rfl rfl (fun _ => LX.nilCheck rfl) rfl (DW.p rfl rfl (fun _ => LX.field0 rfl rfl) rfl ?_)))))))))
  refine DW.r rfl rfl (LX.load rfl rfl (by repeat first | assumption | exact List.mem_cons_self | refine List.mem_cons_of_mem _ ?_) rfl) hms rfl ?_
  refine DW.r rfl rfl (LX.load rfl rfl (by repeat first | assumption | exact List.mem_cons_self | refine List.mem_cons_of_mem _ ?_) rfl) hms rfl ?_
  refine DW.tval rfl rfl (EX.copy (s := 0) (k := .u64) rfl rfl rfl rfl (by repeat first | assumption | exact List.mem_cons_self | refine List.mem_cons_of_mem _ ?_) (by repeat first | assumption | exact List.mem_cons_self | refine List.mem_cons_of_mem _ ?_) (by omega) (by omega) (Nat.min_self n).symm (by repeat first | exact Upd.here | apply Upd.there)) (by kernel_rfl) rfl ?_
  refine DW.nil (thenK_normal (WC.seq (WC.region (WL.q (LX.move rfl) rfl (WL.q (LX.assign rfl) rfl (WL.nil (thenK_normal (WC.ret ?_))))))))
  exact KR.one (.inl rfl) rfl rfl ⟨_, rfl, hz.put hy, rfl⟩

/-- cmpGeq -/
theorem cmpGeq {p l py ly n c cy : Nat} {X Y : Int} {xs ys : List Int} (hx : NV n c X xs) (hy : NV n cy Y ys) (hp : (p, natO l n c) ∈ M) (hl : (l, words xs) ∈ M) (hpy : (py, natO ly n cy) ∈ M) (hly : (ly, words ys) ∈ M) :
    CS w0 83 [ptr p, ptr py] M (fun u M' => u = .int .u64 (b1 (Y ≤ X)) ∧ M' = M) := by
  obtain ⟨hxl, hxn, hxs, hxd, hxv⟩ := id hx
  obtain ⟨hyl, hyn, hys, hyd, hyv⟩ := id hy
  refine CS.of Tryz.func83 Tryz.ntmps83 rfl rfl (WC.seq (WC.region (WL.q (LX.assign rfl) rfl (WL.nil (thenK_normal (WC.seq (WC.region (WL.q (LX.move rfl) rfl (WL.q (LX.nilCheck rfl) rfl (WL.q (LX.field0 rfl rfl) rfl ?_))))))))))
  refine WL.q (LX.load rfl rfl (by repeat first | assumption | exact List.mem_cons_self | refine List.mem_cons_of_mem _ ?_) rfl) rfl ?_
  refine WL.q (LX.len rfl rfl rfl) rfl (WL.q (LX.assign rfl) rfl (WL.nil (thenK_normal (WC.seq (WC.region (WL.q (LX.move rfl) rfl (WL.q (LX.nilCheck rfl) rfl (WL.q (LX.field0 rfl rfl) rfl ?_))))))))
  refine WL.q (LX.load rfl rfl (by repeat first | assumption | exact List.mem_cons_self | refine List.mem_cons_of_mem _ ?_) rfl) rfl ?_
  refine WL.q (LX.move rfl) rfl (WL.q (LX.sliceTo rfl rfl rfl _ rfl (by omega)) rfl (WL.q (LX.assign rfl) rfl (WL.nil (thenK_normal (WC.seq (WC.region (WL.q (LX.move rfl) rfl (WL.q (LX.nilCheck rfl) rfl (WL.q (LX.field0 rfl rfl) rfl ?_)))))))))
  refine WL.q (LX.load rfl rfl (by repeat first | assumption | exact List.mem_cons_self | refine List.mem_cons_of_mem _ ?_) rfl) rfl ?_
  refine WL.q (LX.move rfl) rfl (WL.q (LX.sliceTo rfl rfl rfl _ rfl (by omega)) rfl (WL.q (LX.assign rfl) rfl (WL.nil (thenK_normal (WC.seq (WC.region (WL.q (LX.assign rfl) rfl (WL.nil (thenK_normal (WC.seq (WC.seq (WC.region (WL.q (LX.assign rfl) rfl ?_)))))))))))))
  refine WL.nil (thenK_normal (WC.block ?_))
  refine WC.loopS (fun s : Nat × Int => [(5, .int .i64 n), (6, .slice (some ⟨l, 0, none⟩) n c), (7, .slice (some ⟨ly, 0, none⟩) n cy), (8, .int .u64 s.2), (9, .int .i64 s.1)]) (fun _ => M)
    (fun s => s.1 ≤ n ∧ bt s.2 ∧ ∃ D, 0 ≤ D ∧ D < W64 ^ s.1 ∧ D - W64 ^ s.1 * s.2 = dv W64 (xs.take s.1) - dv W64 (ys.take s.1)) (fun s => n - s.1) (0, 0)
    ⟨Nat.zero_le _, bt_zero, 0, by simp⟩ (.cons rfl (.cons rfl (.cons rfl (.cons rfl (.cons rfl .nil))))) rfl ?_
  rintro ⟨i, k⟩ ⟨hi, hk, D, hD0, hD1, hv⟩
  dsimp only at hi hk hD0 hD1 hv ⊢
  have hms : ∀ q ∈ [(l, words xs), (ly, words ys)], q ∈ M := by
    intro q hq
    simp only [List.mem_cons, List.not_mem_nil, or_false] at hq
    rcases hq with rfl | rfl <;> assumption
  refine WC.seq (WC.seq (WC.region (WL.q (LX.move rfl) rfl (WL.q (LX.move rfl) rfl (WL.q (LX.bin rfl rfl rfl) rfl (WL.nil (thenK_normal ?_)))))))
  refine WC.test rfl (fun hlt => ?_) (fun hge => ?_)
  · refine WC.skip (thenK_normal (WC.seq (WC.block (WC.draw [(0, 0), (0, 1), (0, 2), (0, 4), (0, 5), (0, 6), (0, 8), (1, 3), (1, 7), (2, 9), (0, 10), (0, 11), (0, 12), (0, 13)] [(l, words xs), (ly, words ys)] rfl (by kernel_rfl) rfl (by kernel_rfl) (DW.p rfl rfl (fun _ => LX.move rfl) rfl (DW.p rfl rfl (fun _ => LX.move rfl) rfl (DW.p rfl rfl (fun _ => LX.idx1 rfl rfl rfl _ rfl (by omega)) rfl (DW.p rfl rfl (fun _ => LX.move rfl) rfl (DW.p rfl rfl (fun _ => LX.move rfl) rfl (DW.p rfl rfl (fun _ => LX.idx1 rfl rfl rfl _ rfl (by omega)) rfl (DW.p rfl rfl (fun _ => LX.move rfl) rfl ?_)))))))))))
    refine DW.r rfl rfl (LX.loadRow rfl rfl (by repeat first | assumption | exact List.mem_cons_self | refine List.mem_cons_of_mem _ ?_) (by omega)) hms rfl ?_
    refine DW.r rfl rfl (LX.loadRow rfl rfl (by repeat first | assumption | exact List.mem_cons_self | refine List.mem_cons_of_mem _ ?_) (by omega)) hms rfl ?_
    have hx1 := dg_gt hxd i
    have hy1 := dg_gt hyd i
    refine DW.fval rfl rfl (EX.call rfl (fun _ => by kernel_rfl) (bitsSub hx1 hy1 hk)) hms rfl (DW.p rfl rfl (fun _ => LX.move rfl) rfl (DW.p rfl rfl (fun _ => LX.extract rfl rfl) rfl (DW.p rfl rfl (fun _ => LX.extract rfl rfl) rfl (DW.p rfl rfl (fun _ => LX.assign rfl) rfl (DW.nil (blockK_normal (thenK_normal (WC.region (WL.q (LX.move rfl) rfl (WL.q (LX.addI rfl rfl (by omega)) rfl (WL.q (LX.assign rfl) rfl (WL.nil ?_))))))))))))
    refine loopS_next (i + 1, difC (gt xs i) (gt ys i) k) ⟨by omega, difC_bt _ _ _, D + W64 ^ i * difW (gt xs i) (gt ys i) k, ?_, ?_, ?_⟩ (by simp; omega) (.cons rfl (.cons rfl (.cons rfl (.cons rfl (.cons rfl .nil))))) rfl
    · have := Int.mul_nonneg (Int.le_of_lt (pow_pos W64_pos i)) (difW_wd (gt xs i) (gt ys i) k).1; omega
    · have h1 := (difW_wd (gt xs i) (gt ys i) k).2
      have h2 : W64 ^ i * (difW (gt xs i) (gt ys i) k + 1) ≤ W64 ^ i * W64 := Int.mul_le_mul_of_nonneg_left (by omega) (Int.le_of_lt (pow_pos W64_pos i))
      rw [Int.mul_add, Int.mul_one] at h2
      dsimp only
      rw [Int.pow_succ]
      omega
    · dsimp only
      rw [dv_take_gt W64 (xs := xs) (by omega), dv_take_gt W64 (xs := ys) (by omega), Int.pow_succ]
      exact sub_step hv (dif_eq hx1 hy1 hk)
  · refine WC.exit (thenK_exit (loopS_exit (blockK_same (thenK_normal (WC.seq (WC.region (WL.q (LX.move rfl) rfl ?_)))))))
    obtain rfl : i = n := by omega
    refine WL.call (bnot hk) rfl (fun _ => by kernel_rfl) rfl (WL.q (LX.assign rfl) rfl (WL.nil (thenK_normal (WC.ret ?_))))
    refine KR.one (.inl rfl) rfl rfl ⟨?_, rfl⟩
    congr 1
    rw [hxv, hyv] at hv
    have := pow_pos W64_pos i
    rcases hk with rfl | rfl
    · rw [b1_is (by omega)]; rfl
    · rw [b1_not (by omega)]; rfl

theorem dv_take_eq {xs ys : List Int} {i : Nat} (hx : Dg W64 xs) (hy : Dg W64 ys) (hi : i < xs.length) (hj : i < ys.length) : (dv W64 (xs.take i) = dv W64 (ys.take i) ∧ gt xs i = gt ys i) ↔ dv W64 (xs.take (i + 1)) = dv W64 (ys.take (i + 1)) := by
  rw [dv_take_gt _ hi, dv_take_gt _ hj]
  constructor
  · rintro ⟨h1, h2⟩; rw [h1, h2]
  · intro h
    have h1 := dv_lt W64_pos (hx.take i); have h2 := dv_nonneg W64_pos (hx.take i)
    have h3 := dv_lt W64_pos (hy.take i); have h4 := dv_nonneg W64_pos (hy.take i)
    rw [List.length_take, Nat.min_eq_left (by omega)] at h1 h3
    have hp := pow_pos W64_pos i
    have h5 : gt xs i = gt ys i := by
      rcases Int.lt_trichotomy (gt xs i) (gt ys i) with h5 | h5 | h5
      · have h6 : W64 ^ i * (gt xs i + 1) ≤ W64 ^ i * gt ys i := Int.mul_le_mul_of_nonneg_left (by omega) (Int.le_of_lt hp)
        rw [Int.mul_add, Int.mul_one] at h6
        omega
      · exact h5
      · have h6 : W64 ^ i * (gt ys i + 1) ≤ W64 ^ i * gt xs i := Int.mul_le_mul_of_nonneg_left (by omega) (Int.le_of_lt hp)
        rw [Int.mul_add, Int.mul_one] at h6
        omega
    rw [h5] at h
    exact ⟨by omega, h5⟩

/-- Equal -/
theorem nequal {p l py ly n c cy : Nat} {X Y : Int} {xs ys : List Int} (hx : NV n c X xs) (hy : NV n cy Y ys) (hp : (p, natO l n c) ∈ M) (hl : (l, words xs) ∈ M) (hpy : (py, natO ly n cy) ∈ M) (hly : (ly, words ys) ∈ M) :
    CS w0 55 [ptr p, ptr py] M (fun u M' => u = .int .u64 (b1 (X = Y)) ∧ M' = M) := by
  obtain ⟨hxl, hxn, hxs, hxd, hxv⟩ := id hx
  obtain ⟨hyl, hyn, hys, hyd, hyv⟩ := id hy
  refine CS.of Tryz.func55 Tryz.ntmps55 rfl rfl (WC.seq (WC.region (WL.q (LX.assign rfl) rfl (WL.nil (thenK_normal (WC.seq (WC.region (WL.q (LX.move rfl) rfl (WL.q (LX.nilCheck rfl) rfl (WL.q (LX.field0 rfl rfl) rfl ?_))))))))))
  refine WL.q (LX.load rfl rfl (by repeat first | assumption | exact List.mem_cons_self | refine List.mem_cons_of_mem _ ?_) rfl) rfl ?_
  refine WL.q (LX.len rfl rfl rfl) rfl (WL.q (LX.assign rfl) rfl (WL.nil (thenK_normal (WC.seq (WC.region (WL.q (LX.move rfl) rfl (WL.q (LX.nilCheck rfl) rfl (WL.q (LX.field0 rfl rfl) rfl ?_))))))))
  refine WL.q (LX.load rfl rfl (by repeat first | assumption | exact List.mem_cons_self | refine List.mem_cons_of_mem _ ?_) rfl) rfl ?_
  refine WL.q (LX.move rfl) rfl (WL.q (LX.sliceTo rfl rfl rfl _ rfl (by omega)) rfl (WL.q (LX.assign rfl) rfl (WL.nil (thenK_normal (WC.seq (WC.region (WL.q (LX.move rfl) rfl (WL.q (LX.nilCheck rfl) rfl (WL.q (LX.field0 rfl rfl) rfl ?_)))))))))
  refine WL.q (LX.load rfl rfl (by repeat first | assumption | exact List.mem_cons_self | refine List.mem_cons_of_mem _ ?_) rfl) rfl ?_
  refine WL.q (LX.move rfl) rfl (WL.q (LX.sliceTo rfl rfl rfl _ rfl (by omega)) rfl (WL.q (LX.assign rfl) rfl (WL.nil (thenK_normal (WC.seq (WC.region (WL.q (LX.assign rfl) rfl (WL.nil (thenK_normal (WC.seq (WC.seq (WC.region (WL.q (LX.assign rfl) rfl ?_)))))))))))))
  refine WL.nil (thenK_normal (WC.block ?_))
  refine WC.loopS (fun s : Nat => [(5, .int .i64 n), (6, .slice (some ⟨l, 0, none⟩) n c), (7, .slice (some ⟨ly, 0, none⟩) n cy), (8, .int .u64 (b1 (dv W64 (xs.take s) = dv W64 (ys.take s)))), (9, .int .i64 s)]) (fun _ => M)
    (fun s => s ≤ n) (fun s => n - s) 0 (Nat.zero_le _) (.cons rfl (.cons rfl (.cons rfl (.cons rfl (.cons rfl .nil))))) rfl ?_
  rintro i hi
  have hms : ∀ q ∈ [(l, words xs), (ly, words ys)], q ∈ M := by
    intro q hq
    simp only [List.mem_cons, List.not_mem_nil, or_false] at hq
    rcases hq with rfl | rfl <;> assumption
  refine WC.seq (WC.seq (WC.region (WL.q (LX.move rfl) rfl (WL.q (LX.move rfl) rfl (WL.q (LX.bin rfl rfl rfl) rfl (WL.nil (thenK_normal ?_)))))))
  refine WC.test rfl (fun hlt => ?_) (fun hge => ?_)
  · refine WC.skip (thenK_normal (WC.seq (WC.block (WC.draw [(0, 0), (0, 1), (0, 2), (0, 3), (0, 5), (0, 6), (0, 7), (1, 4), (1, 8), (2, 9), (0, 10), (0, 11)] [(l, words xs), (ly, words ys)] rfl (by kernel_rfl) rfl (by kernel_rfl) (DW.p rfl rfl (fun _ => LX.move rfl) rfl (DW.p rfl rfl (fun _ => LX.move rfl) rfl (DW.p rfl rfl (fun _ => LX.move rfl) rfl (DW.p rfl rfl (fun _ => LX.idx1 rfl rfl rfl _ rfl (by omega)) rfl (DW.p rfl rfl (fun _ => LX.move rfl) rfl (DW.p rfl rfl (fun _ => LX.move rfl) rfl (DW.p rfl rfl (fun _ => LX.idx1 rfl rfl rfl _ rfl (by omega)) rfl ?_)))))))))))
    refine DW.r rfl rfl (LX.loadRow rfl rfl (by repeat first | assumption | exact List.mem_cons_self | refine List.mem_cons_of_mem _ ?_) (by omega)) hms rfl ?_
    refine DW.r rfl rfl (LX.loadRow rfl rfl (by repeat first | assumption | exact List.mem_cons_self | refine List.mem_cons_of_mem _ ?_) (by omega)) hms rfl ?_
    have hx1 := dg_gt hxd i
    have hy1 := dg_gt hyd i
    refine DW.fval rfl rfl (EX.call rfl (fun _ => by kernel_rfl) (ctEq hx1 hy1)) hms rfl (DW.p rfl rfl (fun _ => LX.eq (LX.bin rfl rfl rfl) (by rw [and_b1, b1_congr (dv_take_eq hxd hyd (by omega) (by omega))])) rfl ?_)
    refine DW.p rfl rfl (fun _ => LX.assign rfl) rfl (DW.nil (blockK_normal (thenK_normal (WC.region (WL.q (LX.move rfl) rfl (WL.q (LX.addI rfl rfl (by omega)) rfl (WL.q (LX.assign rfl) rfl (WL.nil ?_))))))))
    exact loopS_next (i + 1) (by omega) (by omega) (.cons rfl (.cons rfl (.cons rfl (.cons rfl (.cons rfl .nil))))) rfl
  · refine WC.exit (thenK_exit (loopS_exit (blockK_same (thenK_normal (WC.seq (WC.region (WL.q (LX.move rfl) rfl (WL.q (LX.assign rfl) rfl (WL.nil (thenK_normal (WC.ret ?_)))))))))))
    obtain rfl : i = n := by omega
    refine KR.one (.inl rfl) rfl rfl ⟨?_, rfl⟩
    rw [hxv, hyv]

/-- assign -/
theorem nassign {p l py ly n c cy : Nat} {X Y k : Int} {xs ys : List Int} (hk : bt k) (hx : NV n c X xs) (hy : NV n cy Y ys) (hpy : (py, natO ly n cy) ∈ M) (hly : (ly, words ys) ∈ M) :
    CS w0 91 [ptr p, .int .u64 k, ptr py] ((p, natO l n c) :: (l, words xs) :: M)
      (fun u M' => ∃ zs, u = ptr p ∧ NV n c (if k = 1 then Y else X) zs ∧ M' = (p, natO l n c) :: (l, words zs) :: M) := by
  obtain ⟨hxl, hxn, hxs, hxd, hxv⟩ := id hx
  obtain ⟨hyl, hyn, hys, hyd, hyv⟩ := id hy
  refine CS.of Tryz.func91 Tryz.ntmps91 rfl rfl (WC.seq (WC.region (WL.q (LX.assign rfl) rfl (WL.nil (thenK_normal (WC.seq (WC.region (WL.q (LX.move rfl) rfl (WL.q (LX.nilCheck rfl) rfl (WL.q (LX.field0 rfl rfl) rfl ?_))))))))))
  refine WL.q (LX.load rfl rfl (by repeat first | assumption | exact List.mem_cons_self | refine List.mem_cons_of_mem _ ?_) rfl) rfl ?_
  refine WL.q (LX.len rfl rfl rfl) rfl (WL.q (LX.assign rfl) rfl (WL.nil (thenK_normal (WC.seq (WC.region (WL.q (LX.move rfl) rfl (WL.q (LX.nilCheck rfl) rfl (WL.q (LX.field0 rfl rfl) rfl ?_))))))))
  refine WL.q (LX.load rfl rfl (by repeat first | assumption | exact List.mem_cons_self | refine List.mem_cons_of_mem _ ?_) rfl) rfl ?_
  refine WL.q (LX.move rfl) rfl (WL.q (LX.sliceTo rfl rfl rfl _ rfl (by omega)) rfl (WL.q (LX.assign rfl) rfl (WL.nil (thenK_normal (WC.seq (WC.region (WL.q (LX.move rfl) rfl (WL.q (LX.nilCheck rfl) rfl (WL.q (LX.field0 rfl rfl) rfl ?_)))))))))
  refine WL.q (LX.load rfl rfl (by repeat first | assumption | exact List.mem_cons_self | refine List.mem_cons_of_mem _ ?_) rfl) rfl ?_
  refine WL.q (LX.move rfl) rfl (WL.q (LX.sliceTo rfl rfl rfl _ rfl (by omega)) rfl (WL.q (LX.assign rfl) rfl (WL.nil (thenK_normal (WC.seq (WC.region (WL.q (LX.move rfl) rfl (WL.call ctMask rfl (fun _ => by kernel_rfl) rfl (WL.q (LX.assign rfl) rfl (WL.nil (thenK_normal (WC.seq (WC.seq ?_)))))))))))))
  refine WC.region (WL.q (LX.assign rfl) rfl (WL.nil (thenK_normal (WC.block ?_))))
  refine WC.loopS (fun s : Nat × List Int => [(0, ptr p), (7, .int .i64 n), (8, .slice (some ⟨l, 0, none⟩) n c), (9, .slice (some ⟨ly, 0, none⟩) n cy), (10, .int .u64 (mask k)), (11, .int .i64 s.1)]) (fun s => (p, natO l n c) :: (l, words s.2) :: M)
    (fun s => s.1 ≤ n ∧ St c xs s.1 s.2 ∧ dv W64 (s.2.take s.1) = if k = 1 then dv W64 (ys.take s.1) else dv W64 (xs.take s.1)) (fun s => n - s.1) (0, xs)
    ⟨Nat.zero_le _, St.start hxl hxd, by simp⟩ (.cons rfl (.cons rfl (.cons rfl (.cons rfl (.cons rfl (.cons rfl .nil)))))) rfl ?_
  rintro ⟨i, zs⟩ ⟨hi, hst, hv⟩
  dsimp only at hi hst hv ⊢
  have hzl := hst.len
  have hms : ∀ q ∈ [(l, words zs), (ly, words ys)], q ∈ (p, natO l n c) :: (l, words zs) :: M := by
    intro q hq
    simp only [List.mem_cons, List.not_mem_nil, or_false] at hq
    rcases hq with rfl | rfl
    · exact List.mem_cons_of_mem _ List.mem_cons_self
    · exact List.mem_cons_of_mem _ (List.mem_cons_of_mem _ hly)
  refine WC.seq (WC.seq (WC.region (WL.q (LX.move rfl) rfl (WL.q (LX.move rfl) rfl (WL.q (LX.bin rfl rfl rfl) rfl (WL.nil (thenK_normal ?_)))))))
  refine WC.test rfl (fun hlt => ?_) (fun hge => ?_)
  · have hx1 := dg_gt hst.dg i
    have hy1 := dg_gt hyd i
    refine WC.skip (thenK_normal (WC.seq (WC.block (WC.draw [(0, 0), (0, 1), (0, 2), (0, 4), (0, 5), (0, 6), (0, 7), (0, 9), (0, 10), (0, 11), (1, 3), (1, 8), (1, 12), (0, 13), (0, 14), (0, 15), (0, 16), (2, 17)] [(l, words zs), (ly, words ys)] rfl (by kernel_rfl) rfl (by kernel_rfl) (DW.p rfl rfl (fun _ => LX.move rfl) rfl (DW.p rfl rfl (fun _ => LX.move rfl) rfl (DW.p rfl rfl (fun _ => LX.idx1 rfl rfl rfl _ rfl (by omega)) rfl (DW.p rfl rfl (fun _ => LX.move rfl) rfl (DW.p rfl rfl (fun _ => LX.move rfl) rfl (DW.p rfl rfl (fun _ => LX.move rfl) rfl (DW.p rfl rfl (fun _ => LX.idx1 rfl rfl rfl _ rfl (by omega)) rfl (DW.p rfl rfl (fun _ => LX.move rfl) rfl (DW.p rfl rfl (fun _ => LX.move rfl) rfl ?_)))))))))))))
    refine DW.p rfl rfl (fun _ => LX.idx1 rfl rfl rfl _ rfl (by omega)) rfl ?_
    refine DW.r rfl rfl (LX.loadRow rfl rfl (by repeat first | assumption | exact List.mem_cons_self | refine List.mem_cons_of_mem _ ?_) (by omega)) hms rfl ?_
    refine DW.r rfl rfl (LX.loadRow rfl rfl (by repeat first | assumption | exact List.mem_cons_self | refine List.mem_cons_of_mem _ ?_) (by omega)) hms rfl ?_
    refine DW.r rfl rfl (LX.loadRow rfl rfl (by repeat first | assumption | exact List.mem_cons_self | refine List.mem_cons_of_mem _ ?_) (by omega)) hms rfl ?_
    refine DW.p rfl rfl (fun _ => LX.bin rfl rfl rfl) rfl (DW.p rfl rfl (fun _ => LX.bin rfl rfl rfl) rfl (DW.p rfl rfl (fun _ => LX.eq (LX.bin rfl rfl rfl) (by rw [pickW hx1 hy1 hk])) rfl ?_))
    refine DW.p rfl rfl (fun _ => LX.idx1 rfl rfl rfl _ rfl (by omega)) rfl ?_
    refine DW.tput rfl rfl (EX.storeRow rfl rfl rfl (by repeat first | assumption | exact List.mem_cons_self | refine List.mem_cons_of_mem _ ?_) (by omega) (by repeat first | exact Upd.here | apply Upd.there)) (by kernel_rfl) ?_
    refine DW.nil (blockK_normal (thenK_normal (WC.region (WL.q (LX.move rfl) rfl (WL.q (LX.addI rfl rfl (by omega)) rfl (WL.q (LX.assign rfl) rfl (WL.nil ?_)))))))
    refine loopS_next (i + 1, zs.set i (if k = 1 then gt ys i else gt zs i)) ⟨by omega, hst.next (by split <;> assumption), ?_⟩ (by simp; omega) (.cons rfl (.cons rfl (.cons rfl (.cons rfl (.cons rfl (.cons rfl .nil)))))) rfl
    dsimp only
    rw [dv_take_set (by omega), dv_take_gt W64 (xs := xs) (by omega), dv_take_gt W64 (xs := ys) (by omega), hst.gt, hv]
    split <;> rfl
  · refine WC.exit (thenK_exit (loopS_exit (blockK_same (thenK_normal (WC.seq (WC.region (WL.q (LX.move rfl) rfl (WL.q (LX.assign rfl) rfl (WL.nil (thenK_normal (WC.ret ?_)))))))))))
    obtain rfl : i = n := by omega
    refine KR.one (.inl rfl) rfl rfl ⟨zs, rfl, ⟨hst.len, hxn, hxs, hst.dg, ?_⟩, rfl⟩
    rw [hv, hxv, hyv]
end
end Go.Proofs.YtdnngppofbmpeaaGreatDoor.Bm
