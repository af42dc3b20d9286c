/- Proved here: what expand, ExpandFor, resetFor, SetUint, SetBits, Modulus.Nat, maybeSubtractModulus, Add, Sub and SubOne do; what Add, Sub, SubOne and IsMinusOne do; what rshift1, ShiftRightByOne, bitLen, BitLenVarTime, BitLen and Size do. Conditions: none but those that each theorem states. -/
import Derived.Test.YtdnngppofbmpeaaGreatDoorG6
namespace Go.Proofs.YtdnngppofbmpeaaGreatDoor.Bm
open Go Go.RowKit

/-- a modulus: its number, odd or not, and what is kept of it -/
def modO (pm : Nat) (odd : Bool) (m0 : Int) (rv : Value) : Obj := .cells #[ptr pm, .bool odd, .int .u64 m0, rv] 117

/-- the modulus at q: n words, of value V -/
structure MdR (M : Mem) (q pm lm n cm : Nat) (odd : Bool) (m0 : Int) (rv : Value) (ms : List Int) (V : Int) : Prop where
  hq : (q, modO pm odd m0 rv) ∈ M
  hp : (pm, natO lm n cm) ∈ M
  hl : (lm, words ms) ∈ M
  nv : NV n cm V ms
theorem MdR.mono {M N : Mem} {q pm lm n cm : Nat} {odd : Bool} {m0 : Int} {rv : Value} {ms : List Int} {V : Int} (h : MdR M q pm lm n cm odd m0 rv ms V) (hs : ∀ p ∈ M, p ∈ N) : MdR N q pm lm n cm odd m0 rv ms V :=
  ⟨hs _ h.hq, hs _ h.hp, hs _ h.hl, h.nv⟩

theorem putL_gt {xs : List Int} {o k i : Nat} (h : i < k) (ho : o + k ≤ xs.length) : gt (putL xs o (List.replicate k 0)) (o + i) = 0 := by
  unfold putL gt
  rw [List.getD_eq_getElem?_getD, List.append_assoc, List.getElem?_append_right (by simp; omega), List.length_take, Nat.min_eq_left (by omega), show o + i - o = i by omega, List.getElem?_append_left (by simpa using h), List.getElem?_replicate, if_pos h]
  rfl

/-- words set to zero from n to m -/
theorem NV.expand {n m c : Nat} {V : Int} {xs zs : List Int} (h : NV n c V xs) (hnm : n ≤ m) (hm : m ≤ c) (hl : zs.length = c) (hd : Dg W64 zs) (ht : zs.take n = xs.take n) (hz : ∀ i, n ≤ i → i < m → gt zs i = 0) : NV m c V zs :=
  ⟨hl, hm, h.small, hd, by rw [dv_take_zero hnm (by omega) hz, ht, h.val]⟩

section
variable {w0 : World} {M : Mem}
/-- clear, from a place on -/
theorem clear_zs {xs : List Int} {n m c : Nat} {V : Int} (h : NV n c V xs) (hnm : n ≤ m) (hm : m ≤ c) : NV m c V (putL xs n (List.replicate (m - n) 0)) := by
  have hl := h.len
  refine h.expand hnm hm ?_ ?_ ?_ (fun i h1 h2 => ?_)
  · unfold putL; simp; omega
  · exact (((h.dg.take n).append (Dg.replicate W64_pos _))).append (h.dg.drop _)
  · unfold putL
    rw [List.append_assoc, List.take_append_of_le_length (by simp; omega), List.take_take, Nat.min_self]
  · have := putL_gt (xs := xs) (o := n) (k := m - n) (i := i - n) (by omega) (by omega)
    rwa [show n + (i - n) = i by omega] at this

/-- clear(x[o:o+len]) over a row of whole numbers -/
theorem EX.clearO {n : Nat} {E : Env} {M M' : Mem} {dst : Option Nat} {ty : TypeId} {pos : String} {aft : Array Edge} {g : Option (Nat × Bool)} {t e s : Nat} {x : Operand} {ats : Array TypeId} {b o len cap : Nat} {k : IntKind} {xs : List Int} (hx : ev E x = some (.slice (some ⟨b, o, none⟩) len cap)) (ha : ats[0]? = some t) (ht : sl t = some (e, 1)) (he : el e = some (k, s))
    (hm : (b, row k e xs) ∈ M) (hl : o + len ≤ xs.length) (hu : Upd M b (row k e (putL xs o (List.replicate len 0))) M') :
    EX n w0 ⟨dst, .call ⟨.builtin .clear, #[x], ats⟩, ty, pos, aft, g⟩ E M (fun u M'' => u = .tuple #[] ∧ M'' = M') := by
  refine ⟨fun a w hr hw K Q hk => ?_⟩
  have e1 := hr.eval hx
  obtain ⟨h1, h2⟩ := sl_ok ht w
  obtain ⟨h3, _, _⟩ := el_ok he w
  by_cases h0 : len = 0
  · subst h0
    have hr2 : (execOp a.eval ⟨dst, .call ⟨.builtin .clear, #[x], ats⟩, ty, pos, aft, g⟩).run P w = .ok (.value (.tuple #[])) w := by
      simp [execOp, resolve, invoke, builtin, e1, Builtin.clear_, ha, h1]
    unfold Oper.wp
    rw [hr2, Oper.upon_value]
    refine hk _ M' _ ⟨rfl, rfl⟩ (hw.but hm hu (But.refl _ _) ?_)
    rw [List.replicate_zero, putL_nil]
    exact (hw.has _ hm).2
  · have hz : Builtin.zeroCells #[Value.int k 0] len = ((List.replicate len (0 : Int)).map (Value.int k)).toArray := by
      unfold Builtin.zeroCells
      apply Array.ext
      · simp
      · intro j hj hj'
        simp [Nat.mod_one]
    obtain ⟨w', h4, h5, h6⟩ := storeCells_run (b := b) (o := o) (T := e) ((List.replicate len (0 : Int)).map (Value.int k)) 0 (xs.map (Value.int k)) w (hw.has _ hm).2 (by simpa using hl) (fun v hv => by
      obtain ⟨q, _, rfl⟩ := List.mem_map.1 hv; rfl)
    have hr2 : (execOp a.eval ⟨dst, .call ⟨.builtin .clear, #[x], ats⟩, ty, pos, aft, g⟩).run P w = .ok (.value (.tuple #[])) w' := by
      have hcl : (Builtin.clear_ ats ty #[.slice (some ⟨b, o, none⟩) len cap]).run P w = .ok (.tuple #[]) w' := by
        cases len with
        | zero => exact absurd rfl h0
        | succ q =>
          unfold Builtin.clear_
          simp only [ha, List.getElem?_toArray, List.getElem?_cons_zero, Sem.run_bind, h1, Result.andThen_ok, h3, Value.cells, hz, Sem.run_pure]
          rw [h4]
          rfl
      simp only [execOp, resolve, invoke, builtin]
      simp [e1, hcl]
    unfold Oper.wp
    rw [hr2, Oper.upon_value]
    refine hk _ M' _ ⟨rfl, rfl⟩ (hw.but hm hu h6 ?_)
    rw [h5, putL_map]
    simp [row]

/-- expand, where there is room -/
theorem nexpand {p l n m c : Nat} {X : Int} {xs : List Int} (hx : NV n c X xs) (hnm : n ≤ m) (hm : m ≤ c) (hc : n < c) :
    CS w0 86 [ptr p, .int .i64 m] ((p, natO l n c) :: (l, words xs) :: M)
      (fun u M' => ∃ zs, u = ptr p ∧ NV m c X zs ∧ M' = (p, natO l m c) :: (l, words zs) :: M) := by
  have hxl := hx.len
  have hxs := hx.small
  refine CS.of Tryz.func86 Tryz.ntmps86 rfl rfl (WC.seq (WC.region (WL.q (LX.assign rfl) rfl (WL.nil (thenK_normal (WC.seq (WC.seq (WC.region (WL.q (LX.move rfl) rfl (WL.q (LX.nilCheck rfl) rfl (WL.q (LX.field0 rfl rfl) rfl ?_)))))))))))
  refine WL.q (LX.load rfl rfl (by repeat first | assumption | exact List.mem_cons_self | refine List.mem_cons_of_mem _ ?_) rfl) rfl ?_
  refine WL.q (LX.len rfl rfl rfl) rfl (WL.q (LX.move rfl) rfl (WL.q (LX.bin rfl rfl rfl) rfl (WL.nil (thenK_normal ?_))))
  refine WC.test rfl (fun h => absurd h (by omega)) (fun _ => ?_)
  refine WC.skip (thenK_normal (WC.seq (WC.seq (WC.region (WL.q (LX.move rfl) rfl (WL.q (LX.nilCheck rfl) rfl (WL.q (LX.field0 rfl rfl) rfl ?_)))))))
  refine WL.q (LX.load rfl rfl (by repeat first | assumption | exact List.mem_cons_self | refine List.mem_cons_of_mem _ ?_) rfl) rfl ?_
  refine WL.q (LX.cap rfl rfl rfl) rfl (WL.q (LX.move rfl) rfl (WL.q (LX.bin rfl rfl rfl) rfl (WL.nil (thenK_normal ?_))))
  refine WC.test rfl (fun h => absurd h (by omega)) (fun _ => ?_)
  refine WC.skip (thenK_normal (WC.seq (WC.draw [(0, 0), (0, 1), (0, 2), (0, 4), (0, 5), (0, 6), (0, 9), (1, 3), (1, 7), (0, 8), (0, 10), (0, 11)] [(p, natO l n c)] rfl (by kernel_rfl) rfl (by kernel_rfl) (DW.p rfl rfl (fun _ => LX.move rfl) rfl (DW.p rfl rfl (fun _ => LX.nilCheck rfl) rfl (DW.p rfl rfl (fun _ => LX.field0 rfl rfl) rfl (DW.p rfl rfl (fun _ => LX.move rfl) rfl (DW.p rfl rfl (fun _ => LX.nilCheck rfl) rfl (DW.p rfl rfl (fun _ => LX.field0 rfl rfl) rfl (DW.p rfl rfl (fun _ => LX.move rfl) rfl ?_))))))))))
  refine DW.r rfl rfl (LX.load rfl rfl (by repeat first | assumption | exact List.mem_cons_self | refine List.mem_cons_of_mem _ ?_) rfl) (fun q hq => by simp at hq; subst hq; exact List.mem_cons_self) rfl ?_
  refine DW.r rfl rfl (LX.load rfl rfl (by repeat first | assumption | exact List.mem_cons_self | refine List.mem_cons_of_mem _ ?_) rfl) (fun q hq => by simp at hq; subst hq; exact List.mem_cons_self) rfl ?_
  refine DW.p rfl rfl (fun _ => LX.len rfl rfl rfl) rfl (DW.p rfl rfl (fun _ => LX.eq (LX.sliceLH rfl rfl rfl rfl n m rfl rfl (by omega) (by omega) (by omega)) (by rw [Nat.zero_add])) rfl ?_)
  refine DW.p rfl rfl (fun _ => LX.assign rfl) rfl (DW.nil (thenK_normal (WC.seq (WC.region (WL.q (LX.move rfl) rfl ?_)))))
  refine WL.put (EX.clearO rfl rfl rfl rfl (by repeat first | assumption | exact List.mem_cons_self | refine List.mem_cons_of_mem _ ?_) (by omega) (by repeat first | exact Upd.here | apply Upd.there)) ?_
  refine WL.nil (thenK_normal (WC.seq (WC.region (WL.q (LX.move rfl) rfl (WL.q (LX.move rfl) rfl (WL.q (LX.nilCheck rfl) rfl (WL.q (LX.field0 rfl rfl) rfl ?_)))))))
  refine WL.q (LX.load rfl rfl (by repeat first | assumption | exact List.mem_cons_self | refine List.mem_cons_of_mem _ ?_) rfl) rfl ?_
  refine WL.q (LX.move rfl) rfl (WL.q (LX.sliceTo rfl rfl rfl _ rfl (by omega)) rfl (WL.q (LX.nilCheck rfl) rfl (WL.q (LX.field0 rfl rfl) rfl ?_)))
  refine WL.put (EX.storeC rfl rfl rfl (by repeat first | assumption | exact List.mem_cons_self | refine List.mem_cons_of_mem _ ?_) rfl rfl (by repeat first | exact Upd.here | apply Upd.there)) ?_
  refine WL.nil (thenK_normal (WC.seq (WC.region (WL.q (LX.move rfl) rfl (WL.q (LX.assign rfl) rfl (WL.nil (thenK_normal (WC.ret ?_))))))))
  exact KR.one (.inl rfl) rfl rfl ⟨_, rfl, clear_zs hx hnm hm, rfl⟩

theorem nexpandFor {p l n m c q pm lm cm : Nat} {odd : Bool} {m0 X V : Int} {rv : Value} {xs ms : List Int} (hx : NV n c X xs) (hnm : n ≤ m) (hm : m ≤ c) (hc : n < c) (hM : MdR M q pm lm m cm odd m0 rv ms V) :
    CS w0 37 [ptr p, ptr q] ((p, natO l n c) :: (l, words xs) :: M)
      (fun u M' => ∃ zs, u = ptr p ∧ NV m c X zs ∧ M' = (p, natO l m c) :: (l, words zs) :: M) := by
  obtain ⟨hq, hp, hl, _⟩ := hM
  refine CS.of Tryz.func37 Tryz.ntmps37 rfl rfl (WC.seq (WC.region (WL.q (LX.assign rfl) rfl (WL.nil (thenK_normal (WC.seq (WC.region (WL.q (LX.move rfl) rfl (WL.q (LX.move rfl) rfl (WL.q (LX.nilCheck rfl) rfl (WL.q (LX.field0 rfl rfl) rfl ?_)))))))))))
  refine WL.q (LX.load rfl rfl (by repeat first | assumption | exact List.mem_cons_self | refine List.mem_cons_of_mem _ ?_) rfl) rfl ?_
  refine WL.q (LX.nilCheck rfl) rfl (WL.q (LX.field0 rfl rfl) rfl ?_)
  refine WL.q (LX.load rfl rfl (by repeat first | assumption | exact List.mem_cons_self | refine List.mem_cons_of_mem _ ?_) rfl) rfl ?_
  refine WL.q (LX.len rfl rfl rfl) rfl (WL.callR (nexpand hx hnm hm hc) rfl (fun _ => by kernel_rfl) rfl ?_)
  rintro _ _ ⟨zs, rfl, hz, rfl⟩
  refine WL.q (LX.assign rfl) rfl (WL.nil (thenK_normal (WC.ret ?_)))
  exact KR.one (.inl rfl) rfl rfl ⟨_, rfl, hz, rfl⟩

theorem nresetFor {p l a m c q pm lm cm : Nat} {odd : Bool} {m0 V : Int} {rv : Value} {xs ms : List Int} (hxl : xs.length = c) (ha : a ≤ c) (hm : m ≤ c) (hc : c ≤ 1000) (hd : Dg W64 xs) (hM : MdR M q pm lm m cm odd m0 rv ms V) :
    CS w0 82 [ptr p, ptr q] ((p, natO l a c) :: (l, words xs) :: M)
      (fun u M' => ∃ zs, u = ptr p ∧ NV m c 0 zs ∧ M' = (p, natO l m c) :: (l, words zs) :: M) := by
  obtain ⟨hq, hp, hl, _⟩ := hM
  refine CS.of Tryz.func82 Tryz.ntmps82 rfl rfl (WC.seq (WC.region (WL.q (LX.assign rfl) rfl (WL.nil (thenK_normal (WC.seq (WC.region (WL.q (LX.move rfl) rfl (WL.q (LX.move rfl) rfl (WL.q (LX.nilCheck rfl) rfl (WL.q (LX.field0 rfl rfl) rfl ?_)))))))))))
  refine WL.q (LX.load rfl rfl (by repeat first | assumption | exact List.mem_cons_self | refine List.mem_cons_of_mem _ ?_) rfl) rfl ?_
  refine WL.q (LX.nilCheck rfl) rfl (WL.q (LX.field0 rfl rfl) rfl ?_)
  refine WL.q (LX.load rfl rfl (by repeat first | assumption | exact List.mem_cons_self | refine List.mem_cons_of_mem _ ?_) rfl) rfl ?_
  refine WL.q (LX.len rfl rfl rfl) rfl (WL.callR (nreset' hxl hm ha hc hd) rfl (fun _ => by kernel_rfl) rfl ?_)
  rintro _ _ ⟨zs, rfl, hz, rfl⟩
  refine WL.q (LX.assign rfl) rfl (WL.nil (thenK_normal (WC.ret ?_)))
  exact KR.one (.inl rfl) rfl rfl ⟨_, rfl, hz, rfl⟩

theorem NV.set0 {n c : Nat} {V v : Int} {xs : List Int} (h : NV n c V xs) (h0 : 0 < n) (hv : wd v) : NV n c (V - gt xs 0 + v) (xs.set 0 v) := by
  have h1 := h.len; have h2 := h.le
  refine ⟨by simpa using h.len, h.le, h.small, h.dg.set hv.1 hv.2 0, ?_⟩
  rw [← h.val]
  cases xs with
  | nil => simp at h1; omega
  | cons x r =>
    obtain ⟨k, rfl⟩ : ∃ k, n = k + 1 := ⟨n - 1, by omega⟩
    simp only [List.set_cons_zero, List.take_succ_cons, dv_cons, gt, List.getD_cons_zero]
    omega
theorem NV.gt0 {n c : Nat} {xs : List Int} (h : NV n c 0 xs) {i : Nat} (hi : i < n) : gt xs i = 0 := by
  have h1 := h.len; have h2 := h.le
  have h3 := (dv_eq_zero W64_pos (h.dg.take n)).1 h.val
  rw [gt_eq (by omega)]
  exact h3 _ (List.mem_take_iff_getElem.2 ⟨i, by omega, rfl⟩)

theorem NV.one {n c : Nat} {v : Int} {xs : List Int} (h : NV n c 0 xs) (h0 : 0 < n) (hv : wd v) : NV n c v (xs.set 0 v) := by
  have := h.set0 h0 hv
  rw [h.gt0 h0] at this
  simpa using this

/-- SetUint -/
theorem nsetUint {p l a c : Nat} {v : Int} {xs : List Int} (hxl : xs.length = c) (ha : a ≤ c) (h1 : 1 ≤ c) (hc : c ≤ 1000) (hd : Dg W64 xs) (hv : wd v) :
    CS w0 36 [ptr p, .int .u64 v] ((p, natO l a c) :: (l, words xs) :: M)
      (fun u M' => ∃ zs, u = ptr p ∧ NV 1 c v zs ∧ M' = (p, natO l 1 c) :: (l, words zs) :: M) := by
  refine CS.of Tryz.func36 Tryz.ntmps36 rfl rfl (WC.seq (WC.region (WL.q (LX.assign rfl) rfl (WL.nil (thenK_normal (WC.seq (WC.region (WL.q (LX.move rfl) rfl (WL.callR (nreset' (n := 1) hxl h1 ha hc hd) rfl (fun _ => by kernel_rfl) rfl ?_)))))))))
  rintro _ _ ⟨zs, rfl, hz, rfl⟩
  have hzl := hz.len
  refine WL.nil (thenK_normal (WC.seq (WC.region (WL.q (LX.move rfl) rfl (WL.q (LX.nilCheck rfl) rfl (WL.q (LX.field0 rfl rfl) rfl ?_))))))
  refine WL.q (LX.load rfl rfl (by repeat first | assumption | exact List.mem_cons_self | refine List.mem_cons_of_mem _ ?_) rfl) rfl ?_
  refine WL.q (LX.move rfl) rfl (WL.q (LX.idx1 rfl rfl rfl 0 rfl (by omega)) rfl ?_)
  refine WL.put (EX.storeRow rfl rfl rfl (by repeat first | assumption | exact List.mem_cons_self | refine List.mem_cons_of_mem _ ?_) (by omega) (by repeat first | exact Upd.here | apply Upd.there)) ?_
  refine WL.nil (thenK_normal (WC.seq (WC.region (WL.q (LX.move rfl) rfl (WL.q (LX.assign rfl) rfl (WL.nil (thenK_normal (WC.ret ?_))))))))
  exact KR.one (.inl rfl) rfl rfl ⟨_, rfl, hz.one (by omega) hv, rfl⟩

/-- SetBits, out of words of another block -/
theorem nsetBits {p l a n c ly ny cy : Nat} {Y : Int} {xs ys : List Int} (hxl : xs.length = c) (ha : a ≤ c) (hn : n ≤ c) (hc : c ≤ 1000) (hd : Dg W64 xs) (hy : NV n ny Y ys) (hly : (ly, words ys) ∈ M) :
    CS w0 49 [ptr p, .slice (some ⟨ly, 0, none⟩) n cy] ((p, natO l a c) :: (l, words xs) :: M)
      (fun u M' => ∃ zs, u = ptr p ∧ NV n c Y zs ∧ M' = (p, natO l n c) :: (l, words zs) :: M) := by
  have hyl := hy.len
  have hyn := hy.le
  refine CS.of Tryz.func49 Tryz.ntmps49 rfl rfl (WC.seq (WC.region (WL.q (LX.assign rfl) rfl (WL.nil (thenK_normal (WC.seq (WC.region (WL.q (LX.move rfl) rfl (WL.q (LX.move rfl) rfl (WL.q (LX.len rfl rfl rfl) rfl (WL.callR (nreset' hxl hn ha hc hd) rfl (fun _ => by kernel_rfl) rfl ?_)))))))))))
  rintro _ _ ⟨zs, rfl, hz, rfl⟩
  have hzl := hz.len
  refine WL.nil (thenK_normal (WC.seq (WC.region (WL.q (LX.move rfl) rfl (WL.q (LX.nilCheck rfl) rfl (WL.q (LX.field0 rfl rfl) rfl ?_))))))
  refine WL.q (LX.load rfl rfl (by repeat first | assumption | exact List.mem_cons_self | refine List.mem_cons_of_mem _ ?_) rfl) rfl ?_
  refine WL.q (LX.move rfl) rfl ?_
  refine WL.val (EX.copy (s := 0) (k := .u64) rfl rfl rfl rfl (by repeat first | assumption | exact List.mem_cons_self | refine List.mem_cons_of_mem _ ?_) (by repeat first | assumption | exact List.mem_cons_self | refine List.mem_cons_of_mem _ ?_) (by omega) (by omega) (Nat.min_self n).symm (by repeat first | exact Upd.here | apply Upd.there)) rfl ?_
  refine WL.nil (thenK_normal (WC.seq (WC.region (WL.q (LX.move rfl) rfl (WL.q (LX.assign rfl) rfl (WL.nil (thenK_normal (WC.ret ?_))))))))
  exact KR.one (.inl rfl) rfl rfl ⟨_, rfl, hz.put hy, rfl⟩

/-- Modulus.Nat -/
theorem modNat {q pm lm n cm : Nat} {odd : Bool} {m0 V : Int} {rv : Value} {ms : List Int} (hM : MdR M q pm lm n cm odd m0 rv ms V) (hn : n ≤ 32) :
    CS w0 58 [ptr q] M (fun u M' => ∃ p l zs, u = ptr p ∧ NV n 32 V zs ∧ M' = (p, natO l n 32) :: (l, words zs) :: M) := by
  obtain ⟨hq, hp, hl, hv⟩ := hM
  refine CS.of Tryz.func58 Tryz.ntmps58 rfl rfl (WC.seq (WC.region (WL.q (LX.assign rfl) rfl (WL.nil (thenK_normal (WC.seq (WC.region (WL.callR newNat rfl (fun _ => by kernel_rfl) rfl ?_))))))))
  rintro _ _ ⟨p, l, rfl, rfl⟩
  refine WL.q (LX.assign rfl) rfl (WL.nil (thenK_normal (WC.seq (WC.region (WL.q (LX.move rfl) rfl (WL.q (LX.move rfl) rfl (WL.q (LX.nilCheck rfl) rfl (WL.q (LX.field0 rfl rfl) rfl ?_))))))))
  refine WL.q (LX.load rfl rfl (by repeat first | assumption | exact List.mem_cons_self | refine List.mem_cons_of_mem _ ?_) rfl) rfl ?_
  refine WL.callR (nset (by simp) (by omega) hn (by omega) (Dg.replicate W64_pos 32) hv hp hl) rfl (fun _ => by kernel_rfl) rfl ?_
  rintro _ _ ⟨zs, rfl, hz, rfl⟩
  refine WL.nil (thenK_normal (WC.seq (WC.region (WL.q (LX.move rfl) rfl (WL.q (LX.assign rfl) rfl (WL.nil (thenK_normal (WC.ret ?_))))))))
  exact KR.one (.inl rfl) rfl rfl ⟨_, _, _, rfl, hz, rfl⟩

/-- maybeSubtractModulus -/
theorem maybeSub {p l n c q pm lm cm : Nat} {odd : Bool} {m0 X V k : Int} {rv : Value} {xs ms : List Int} (hk : bt k) (hx : NV n c X xs) (hn : n ≤ 32) (hM : MdR M q pm lm n cm odd m0 rv ms V) (hlt : X + W64 ^ n * k < 2 * V) :
    CS w0 85 [ptr p, .int .u64 k, ptr q] ((p, natO l n c) :: (l, words xs) :: M)
      (fun u M' => ∃ zs, u = .tuple #[] ∧ NV n c (if X + W64 ^ n * k < V then X + W64 ^ n * k else X + W64 ^ n * k - V) zs ∧ M' = (p, natO l n c) :: (l, words zs) :: M) := by
  refine CS.post (R := fun u M' => ∃ zs a b, u = .tuple #[] ∧ NV n c (if X + W64 ^ n * k < V then X + W64 ^ n * k else X + W64 ^ n * k - V) zs ∧ M' = (p, natO l n c) :: (l, words zs) :: a :: b :: M) ?_
    (fun v M' ⟨zs, a, b, h1, h2, h3⟩ => ⟨(p, natO l n c) :: (l, words zs) :: M, h3 ▸ .cons_cons _ (.cons_cons _ (.cons _ (.cons _ (List.Sublist.refl _)))), zs, h1, h2, rfl⟩)
  obtain ⟨hq, hp, hl, hv⟩ := hM
  refine CS.of Tryz.func85 Tryz.ntmps85 rfl rfl (WC.seq (WC.region (WL.callR newNat rfl (fun _ => by kernel_rfl) rfl ?_)))
  rintro _ _ ⟨pt, lt, rfl, rfl⟩
  refine WL.q (LX.move rfl) rfl ?_
  refine WL.callR (nset (by simp) (by omega) hn (by omega) (Dg.replicate W64_pos 32) hx (by repeat first | assumption | exact List.mem_cons_self | refine List.mem_cons_of_mem _ ?_) (by repeat first | assumption | exact List.mem_cons_self | refine List.mem_cons_of_mem _ ?_)) rfl (fun _ => by kernel_rfl) rfl ?_
  rintro _ _ ⟨zs, rfl, hz, rfl⟩
  refine WL.q (LX.assign rfl) rfl (WL.nil (thenK_normal (WC.seq (WC.region (WL.q (LX.move rfl) rfl (WL.q (LX.move rfl) rfl (WL.q (LX.nilCheck rfl) rfl (WL.q (LX.field0 rfl rfl) rfl ?_))))))))
  refine WL.q (LX.load rfl rfl (by repeat first | assumption | exact List.mem_cons_self | refine List.mem_cons_of_mem _ ?_) rfl) rfl ?_
  refine WL.callR (nsub hz hv (by repeat first | assumption | exact List.mem_cons_self | refine List.mem_cons_of_mem _ ?_) (by repeat first | assumption | exact List.mem_cons_self | refine List.mem_cons_of_mem _ ?_)) rfl (fun _ => by kernel_rfl) rfl ?_
  rintro _ _ ⟨ts, b, Z, hb, rfl, ht, hZ, rfl⟩
  refine WL.q (LX.assign rfl) rfl (WL.nil (thenK_normal (WC.seq (WC.region (WL.q (LX.move rfl) rfl (WL.call (bnot hb) rfl (fun _ => by kernel_rfl) rfl (WL.q (LX.move rfl) rfl (WL.q (LX.eq (LX.bin rfl rfl rfl) (by rw [or_bt (show bt (1 - b) by rcases hb with rfl | rfl <;> simp [bt]) hk])) rfl ?_))))))))
  refine WL.q (LX.assign rfl) rfl (WL.nil (thenK_normal (WC.region (WL.q (LX.move rfl) rfl (WL.q (LX.move rfl) rfl (WL.q (LX.move rfl) rfl ?_))))))
  refine WL.callR (CS.pm (by repeat first | exact Pm.done | (apply Pm.step; repeat first | exact Rem.here | apply Rem.there)) (nassign (b1_bt _) hx ht (by repeat first | assumption | exact List.mem_cons_self | refine List.mem_cons_of_mem _ ?_) (by repeat first | assumption | exact List.mem_cons_self | refine List.mem_cons_of_mem _ ?_))) rfl (fun _ => by kernel_rfl) rfl ?_
  rintro _ _ ⟨us, rfl, hu, rfl⟩
  refine WL.nil ?_
  refine KR.none (.inr rfl) rfl ⟨us, _, _, rfl, ?_, rfl⟩
  have h1 := hx.lt; have h2 := hx.nonneg; have h3 := hv.lt; have h4 := hv.nonneg; have h5 := ht.lt; have h6 := ht.nonneg
  rcases hk with rfl | rfl <;> rcases hb with rfl | rfl
  · rw [b1_is (by simp)] at hu
    rw [if_neg (by omega)]; rw [if_pos rfl] at hu
    rwa [show X + W64 ^ n * 0 - V = Z by omega]
  · rw [b1_not (by simp)] at hu
    rw [if_pos (by omega)]; rw [if_neg (by omega)] at hu
    rwa [show X + W64 ^ n * 0 = X by omega]
  · omega
  · rw [b1_is (by simp)] at hu
    rw [if_neg (by omega)]; rw [if_pos rfl] at hu
    rwa [show X + W64 ^ n * 1 - V = Z by omega]
end
end Go.Proofs.YtdnngppofbmpeaaGreatDoor.Bm
namespace Go.Proofs.YtdnngppofbmpeaaGreatDoor.Bm
open Go Go.RowKit

section
variable {w0 : World} {M : Mem}
/-- Add, out of what add does -/
theorem nAddG {p l py n c q pm lm cm : Nat} {odd : Bool} {m0 X Y V : Int} {rv : Value} {xs ms : List Int} (hn : n ≤ 32) (hM : MdR M q pm lm n cm odd m0 rv ms V) (hlt : X + Y < 2 * V) (h0 : 0 ≤ X + Y) (hxy : X + Y < 2 * W64 ^ n)
    (hadd : CS w0 88 [ptr p, ptr py] ((p, natO l n c) :: (l, words xs) :: M) (fun u M' => ∃ zs k Z, bt k ∧ u = .int .u64 k ∧ NV n c Z zs ∧ Z + W64 ^ n * k = X + Y ∧ M' = (p, natO l n c) :: (l, words zs) :: M)) :
    CS w0 39 [ptr p, ptr py, ptr q] ((p, natO l n c) :: (l, words xs) :: M)
      (fun u M' => ∃ zs, u = ptr p ∧ NV n c (if X + Y < V then X + Y else X + Y - V) zs ∧ M' = (p, natO l n c) :: (l, words zs) :: M) := by
  refine CS.of Tryz.func39 Tryz.ntmps39 rfl rfl (WC.seq (WC.region (WL.q (LX.assign rfl) rfl (WL.nil (thenK_normal (WC.seq (WC.region (WL.q (LX.move rfl) rfl (WL.q (LX.move rfl) rfl (WL.callR hadd rfl (fun _ => by kernel_rfl) rfl ?_))))))))))
  rintro _ _ ⟨zs, k, Z, hk, rfl, hz, hZ, rfl⟩
  refine WL.q (LX.assign rfl) rfl (WL.nil (thenK_normal (WC.seq (WC.region (WL.q (LX.move rfl) rfl (WL.q (LX.move rfl) rfl (WL.q (LX.move rfl) rfl (WL.callR (maybeSub hk hz hn hM (by rw [hZ]; exact hlt)) rfl (fun _ => by kernel_rfl) rfl ?_))))))))
  rintro _ _ ⟨us, rfl, hu, rfl⟩
  refine WL.nil (thenK_normal (WC.seq (WC.region (WL.q (LX.move rfl) rfl (WL.q (LX.assign rfl) rfl (WL.nil (thenK_normal (WC.ret ?_))))))))
  rw [hZ] at hu
  exact KR.one (.inl rfl) rfl rfl ⟨us, rfl, hu, rfl⟩
theorem nAdd {p l py ly n c cy q pm lm cm : Nat} {odd : Bool} {m0 X Y V : Int} {rv : Value} {xs ys ms : List Int} (hn : n ≤ 32) (hx : NV n c X xs) (hy : NV n cy Y ys) (hpy : (py, natO ly n cy) ∈ M) (hly : (ly, words ys) ∈ M) (hM : MdR M q pm lm n cm odd m0 rv ms V) (hlt : X + Y < 2 * V) :
    CS w0 39 [ptr p, ptr py, ptr q] ((p, natO l n c) :: (l, words xs) :: M)
      (fun u M' => ∃ zs, u = ptr p ∧ NV n c (if X + Y < V then X + Y else X + Y - V) zs ∧ M' = (p, natO l n c) :: (l, words zs) :: M) :=
  nAddG hn hM hlt (by have := hx.nonneg; have := hy.nonneg; omega) (by have := hx.lt; have := hy.lt; omega) (nadd hx hy hpy hly)
theorem nAddSelf {p l n c q pm lm cm : Nat} {odd : Bool} {m0 X V : Int} {rv : Value} {xs ms : List Int} (hn : n ≤ 32) (hx : NV n c X xs) (hM : MdR M q pm lm n cm odd m0 rv ms V) (hlt : X < V) :
    CS w0 39 [ptr p, ptr p, ptr q] ((p, natO l n c) :: (l, words xs) :: M)
      (fun u M' => ∃ zs, u = ptr p ∧ NV n c (if X + X < V then X + X else X + X - V) zs ∧ M' = (p, natO l n c) :: (l, words zs) :: M) :=
  nAddG hn hM (by omega) (by have := hx.nonneg; omega) (by have := hx.lt; omega) (naddSelf hx)

/-- Sub, out of what sub does -/
theorem nSubG {p l py n c q pm lm cm : Nat} {odd : Bool} {m0 X Y V : Int} {rv : Value} {xs ms : List Int} (hn : n ≤ 32) (hM : MdR M q pm lm n cm odd m0 rv ms V) (hlt : 0 ≤ X - Y + V)
    (hsub : CS w0 89 [ptr p, ptr py] ((p, natO l n c) :: (l, words xs) :: M) (fun u M' => ∃ zs k Z, bt k ∧ u = .int .u64 k ∧ NV n c Z zs ∧ Z - W64 ^ n * k = X - Y ∧ M' = (p, natO l n c) :: (l, words zs) :: M)) :
    CS w0 40 [ptr p, ptr py, ptr q] ((p, natO l n c) :: (l, words xs) :: M)
      (fun u M' => ∃ zs, u = ptr p ∧ NV n c (if Y ≤ X then X - Y else X - Y + V) zs ∧ M' = (p, natO l n c) :: (l, words zs) :: M) := by
  refine CS.post (R := fun u M' => ∃ zs a b, u = ptr p ∧ NV n c (if Y ≤ X then X - Y else X - Y + V) zs ∧ M' = (p, natO l n c) :: (l, words zs) :: a :: b :: M) ?_
    (fun v M' ⟨zs, a, b, h1, h2, h3⟩ => ⟨(p, natO l n c) :: (l, words zs) :: M, h3 ▸ .cons_cons _ (.cons_cons _ (.cons _ (.cons _ (List.Sublist.refl _)))), zs, h1, h2, rfl⟩)
  obtain ⟨hq, hp, hl, hv⟩ := hM
  refine CS.of Tryz.func40 Tryz.ntmps40 rfl rfl (WC.seq (WC.region (WL.q (LX.assign rfl) rfl (WL.nil (thenK_normal (WC.seq (WC.region (WL.q (LX.move rfl) rfl (WL.q (LX.move rfl) rfl (WL.callR hsub rfl (fun _ => by kernel_rfl) rfl ?_))))))))))
  rintro _ _ ⟨zs, k, Z, hk, rfl, hz, hZ, rfl⟩
  refine WL.q (LX.assign rfl) rfl (WL.nil (thenK_normal (WC.seq (WC.region (WL.callR newNat rfl (fun _ => by kernel_rfl) rfl ?_)))))
  rintro _ _ ⟨pt, lt, rfl, rfl⟩
  refine WL.q (LX.move rfl) rfl ?_
  refine WL.callR (nset (by simp) (by omega) hn (by omega) (Dg.replicate W64_pos 32) hz (by repeat first | assumption | exact List.mem_cons_self | refine List.mem_cons_of_mem _ ?_) (by repeat first | assumption | exact List.mem_cons_self | refine List.mem_cons_of_mem _ ?_)) rfl (fun _ => by kernel_rfl) rfl ?_
  rintro _ _ ⟨ts, rfl, ht, rfl⟩
  refine WL.q (LX.assign rfl) rfl (WL.nil (thenK_normal (WC.seq (WC.region (WL.q (LX.move rfl) rfl (WL.q (LX.move rfl) rfl (WL.q (LX.nilCheck rfl) rfl (WL.q (LX.field0 rfl rfl) rfl ?_))))))))
  refine WL.q (LX.load rfl rfl (by repeat first | assumption | exact List.mem_cons_self | refine List.mem_cons_of_mem _ ?_) rfl) rfl ?_
  refine WL.callR (nadd ht hv (by repeat first | assumption | exact List.mem_cons_self | refine List.mem_cons_of_mem _ ?_) (by repeat first | assumption | exact List.mem_cons_self | refine List.mem_cons_of_mem _ ?_)) rfl (fun _ => by kernel_rfl) rfl ?_
  rintro _ _ ⟨us, b, U, hb, rfl, hu, hU, rfl⟩
  refine WL.nil (thenK_normal (WC.seq (WC.region (WL.q (LX.move rfl) rfl (WL.q (LX.move rfl) rfl (WL.q (LX.move rfl) rfl ?_))))))
  refine WL.callR (CS.pm (by repeat first | exact Pm.done | (apply Pm.step; repeat first | exact Rem.here | apply Rem.there)) (nassign hk hz hu (by repeat first | assumption | exact List.mem_cons_self | refine List.mem_cons_of_mem _ ?_) (by repeat first | assumption | exact List.mem_cons_self | refine List.mem_cons_of_mem _ ?_))) rfl (fun _ => by kernel_rfl) rfl ?_
  rintro _ _ ⟨vs, rfl, hvs, rfl⟩
  refine WL.nil (thenK_normal (WC.seq (WC.region (WL.q (LX.move rfl) rfl (WL.q (LX.assign rfl) rfl (WL.nil (thenK_normal (WC.ret ?_))))))))
  refine KR.one (.inl rfl) rfl rfl ⟨vs, _, _, rfl, ?_, rfl⟩
  have h1 := hz.lt; have h2 := hz.nonneg; have h3 := hv.lt; have h4 := hv.nonneg; have h5 := hu.lt; have h6 := hu.nonneg
  rcases hk with rfl | rfl <;> rcases hb with rfl | rfl
  · rw [if_pos (by omega)]; rw [if_neg (by omega)] at hvs
    rwa [show X - Y = Z by omega]
  · rw [if_pos (by omega)]; rw [if_neg (by omega)] at hvs
    rwa [show X - Y = Z by omega]
  · omega
  · rw [if_neg (by omega)]; rw [if_pos rfl] at hvs
    rwa [show X - Y + V = U by omega]
theorem nSub {p l py ly n c cy q pm lm cm : Nat} {odd : Bool} {m0 X Y V : Int} {rv : Value} {xs ys ms : List Int} (hn : n ≤ 32) (hx : NV n c X xs) (hy : NV n cy Y ys) (hpy : (py, natO ly n cy) ∈ M) (hly : (ly, words ys) ∈ M) (hM : MdR M q pm lm n cm odd m0 rv ms V) (hlt : 0 ≤ X - Y + V) :
    CS w0 40 [ptr p, ptr py, ptr q] ((p, natO l n c) :: (l, words xs) :: M)
      (fun u M' => ∃ zs, u = ptr p ∧ NV n c (if Y ≤ X then X - Y else X - Y + V) zs ∧ M' = (p, natO l n c) :: (l, words zs) :: M) :=
  nSubG hn hM hlt (nsub hx hy hpy hly)
theorem nSubSelf {p l n c q pm lm cm : Nat} {odd : Bool} {m0 X V : Int} {rv : Value} {xs ms : List Int} (hn : n ≤ 32) (hx : NV n c X xs) (hM : MdR M q pm lm n cm odd m0 rv ms V) :
    CS w0 40 [ptr p, ptr p, ptr q] ((p, natO l n c) :: (l, words xs) :: M)
      (fun u M' => ∃ zs, u = ptr p ∧ NV n c (if X ≤ X then X - X else X - X + V) zs ∧ M' = (p, natO l n c) :: (l, words zs) :: M) :=
  nSubG hn hM (by have := hM.nv.nonneg; omega) (nsubSelf hx)

theorem wd_one : wd 1 := by unfold wd W64; omega

/-- SubOne -/
theorem nSubOne {p l n c q pm lm cm : Nat} {odd : Bool} {m0 X V : Int} {rv : Value} {xs ms : List Int} (hn0 : 0 < n) (hn : n ≤ 32) (hx : NV n c X xs) (hM : MdR M q pm lm n cm odd m0 rv ms V) (hV : 1 ≤ V) :
    CS w0 44 [ptr p, ptr q] ((p, natO l n c) :: (l, words xs) :: M)
      (fun u M' => ∃ zs, u = ptr p ∧ NV n c (if 1 ≤ X then X - 1 else X - 1 + V) zs ∧ M' = (p, natO l n c) :: (l, words zs) :: M) := by
  refine CS.post (R := fun u M' => ∃ zs a b, u = ptr p ∧ NV n c (if 1 ≤ X then X - 1 else X - 1 + V) zs ∧ M' = (p, natO l n c) :: (l, words zs) :: a :: b :: M) ?_
    (fun v M' ⟨zs, a, b, h1, h2, h3⟩ => ⟨(p, natO l n c) :: (l, words zs) :: M, h3 ▸ .cons_cons _ (.cons_cons _ (.cons _ (.cons _ (List.Sublist.refl _)))), zs, h1, h2, rfl⟩)
  have h0 := hx.nonneg
  refine CS.of Tryz.func44 Tryz.ntmps44 rfl rfl (WC.seq (WC.region (WL.q (LX.assign rfl) rfl (WL.nil (thenK_normal (WC.seq (WC.region (WL.callR newNat rfl (fun _ => by kernel_rfl) rfl ?_))))))))
  rintro _ _ ⟨pt, lt, rfl, rfl⟩
  refine WL.q (LX.move rfl) rfl ?_
  have hz0 : NV 0 32 0 (List.replicate 32 0) := NV.zero (Nat.zero_le _) (by omega) (by simp) (Dg.replicate W64_pos 32) (by intro i hi; omega)
  refine WL.callR (nexpandFor hz0 (Nat.zero_le _) hn (by omega) (hM.mono fun _ h => List.mem_cons_of_mem _ (List.mem_cons_of_mem _ h))) rfl (fun _ => by kernel_rfl) rfl ?_
  rintro _ _ ⟨ts, rfl, ht, rfl⟩
  have htl := ht.len
  refine WL.q (LX.assign rfl) rfl (WL.nil (thenK_normal (WC.seq (WC.region (WL.q (LX.move rfl) rfl (WL.q (LX.nilCheck rfl) rfl (WL.q (LX.field0 rfl rfl) rfl ?_)))))))
  refine WL.q (LX.load rfl rfl (by repeat first | assumption | exact List.mem_cons_self | refine List.mem_cons_of_mem _ ?_) rfl) rfl ?_
  refine WL.q (LX.idx1 rfl rfl rfl 0 rfl (by omega)) rfl ?_
  refine WL.put (EX.storeRow rfl rfl rfl (by repeat first | assumption | exact List.mem_cons_self | refine List.mem_cons_of_mem _ ?_) (by omega) (by repeat first | exact Upd.here | apply Upd.there)) ?_
  refine WL.nil (thenK_normal (WC.seq (WC.region (WL.q (LX.move rfl) rfl (WL.q (LX.move rfl) rfl (WL.q (LX.move rfl) rfl ?_))))))
  refine WL.callR (CS.pm (by repeat first | exact Pm.done | (apply Pm.step; repeat first | exact Rem.here | apply Rem.there)) (nSub hn hx (ht.one hn0 wd_one) (by repeat first | assumption | exact List.mem_cons_self | refine List.mem_cons_of_mem _ ?_) (by repeat first | assumption | exact List.mem_cons_self | refine List.mem_cons_of_mem _ ?_) (hM.mono fun _ h => List.mem_cons_of_mem _ (List.mem_cons_of_mem _ h)) (by omega))) rfl (fun _ => by kernel_rfl) rfl ?_
  rintro _ _ ⟨vs, rfl, hvs, rfl⟩
  refine WL.q (LX.assign rfl) rfl (WL.nil (thenK_normal (WC.ret ?_)))
  exact KR.one (.inl rfl) rfl rfl ⟨vs, _, _, rfl, hvs, rfl⟩

/-- IsMinusOne -/
theorem isMinusOne {p l n c q pm lm cm : Nat} {odd : Bool} {m0 X V : Int} {rv : Value} {xs ms : List Int} (hn0 : 0 < n) (hn : n ≤ 32) (hx : NV n c X xs) (hp : (p, natO l n c) ∈ M) (hl : (l, words xs) ∈ M) (hM : MdR M q pm lm n cm odd m0 rv ms V) (hV : 1 ≤ V) :
    CS w0 56 [ptr p, ptr q] M (fun u M' => u = .int .u64 (b1 (X = V - 1)) ∧ M' = M) := by
  refine CS.post (R := fun u M' => ∃ a b, u = .int .u64 (b1 (X = V - 1)) ∧ M' = a :: b :: M) ?_
    (fun v M' ⟨a, b, h1, h3⟩ => ⟨M, h3 ▸ .cons _ (.cons _ (List.Sublist.refl _)), h1, rfl⟩)
  refine CS.of Tryz.func56 Tryz.ntmps56 rfl rfl (WC.seq (WC.region (WL.q (LX.assign rfl) rfl (WL.nil (thenK_normal (WC.seq (WC.region (WL.q (LX.move rfl) rfl (WL.callR (modNat hM hn) rfl (fun _ => by kernel_rfl) rfl ?_)))))))))
  rintro _ _ ⟨pt, lt, ts, rfl, ht, rfl⟩
  refine WL.q (LX.assign rfl) rfl (WL.nil (thenK_normal (WC.seq (WC.region (WL.q (LX.move rfl) rfl (WL.q (LX.move rfl) rfl (WL.callR (nSubOne hn0 hn ht hM hV) rfl (fun _ => by kernel_rfl) rfl ?_)))))))
  rintro _ _ ⟨us, rfl, hu, rfl⟩
  refine WL.nil (thenK_normal (WC.seq (WC.region (WL.q (LX.move rfl) rfl (WL.q (LX.move rfl) rfl ?_)))))
  rw [if_pos hV] at hu
  refine WL.call (nequal hx hu (by repeat first | assumption | exact List.mem_cons_self | refine List.mem_cons_of_mem _ ?_) (by repeat first | assumption | exact List.mem_cons_self | refine List.mem_cons_of_mem _ ?_) (by repeat first | assumption | exact List.mem_cons_self | refine List.mem_cons_of_mem _ ?_) (by repeat first | assumption | exact List.mem_cons_self | refine List.mem_cons_of_mem _ ?_)) rfl (fun _ => by kernel_rfl) rfl ?_
  refine WL.q (LX.assign rfl) rfl (WL.nil (thenK_normal (WC.ret ?_)))
  exact KR.one (.inl rfl) rfl rfl ⟨_, _, rfl, rfl⟩
end
end Go.Proofs.YtdnngppofbmpeaaGreatDoor.Bm
namespace Go.Proofs.YtdnngppofbmpeaaGreatDoor.Bm
open Go Go.RowKit

/-- the bits of rshift1: what comes in at word i -/
def bb (n : Nat) (k : Int) (xs : List Int) (i : Nat) : Int := if i < n then gt xs i % 2 else k

theorem half_or {x y : Int} (hx : wd x) (hy : 0 ≤ y) : bits .or .u64 (x / 2 ^ (min (1 : Int).toNat IntKind.u64.bits)) (IntKind.u64.wrap (y * 2 ^ (min (63 : Int).toNat IntKind.u64.bits))) = x / 2 + 9223372036854775808 * (y % 2) := by
  have h1 : min (1 : Int).toNat IntKind.u64.bits = 1 := by decide
  have h2 : min (63 : Int).toNat IntKind.u64.bits = 63 := by decide
  have h3 : (2 : Int) ^ 63 = 9223372036854775808 := by decide
  have hx := wd_def hx
  rw [h1, h2, h3, Int.pow_one]
  have h4 : IntKind.u64.wrap (y * 9223372036854775808) = 9223372036854775808 * (y % 2) := by
    have : IntKind.u64.wrap (y * 9223372036854775808) = (y * 9223372036854775808) % 18446744073709551616 := IntKind.wrap_u64 _
    rw [this]; omega
  rw [h4]
  exact or64 63 (by omega) (by rw [h3]; omega) (by omega) (by omega) (by rw [h3]; omega) (by omega)

theorem shr_step {D r X A b x y W H : Int} (h : 2 * D + r = X + A * b) (hb : b = x % 2) (hW : W = 2 * H) : 2 * (D + A * (x / 2 + H * y)) + r = X + A * x + (A * W) * y := by
  have hx : x = 2 * (x / 2) + x % 2 := by omega
  grind

section
variable {w0 : World} {M : Mem}
/-- rshift1 -/
theorem rshift1 {p l n c : Nat} {X k : Int} {xs : List Int} (hk : bt k) (hx : NV n c X xs) :
    CS w0 100 [ptr p, .int .u64 k] ((p, natO l n c) :: (l, words xs) :: M)
      (fun u M' => ∃ zs, u = .tuple #[] ∧ NV n c ((X + W64 ^ n * k) / 2) zs ∧ M' = (p, natO l n c) :: (l, words zs) :: M) := by
  obtain ⟨hxl, hxn, hxs, hxd, hxv⟩ := id hx
  refine CS.of Tryz.func100 Tryz.ntmps100 rfl rfl (WC.seq (WC.region (WL.q (LX.move rfl) rfl (WL.q (LX.nilCheck rfl) rfl (WL.q (LX.field0 rfl rfl) rfl ?_)))))
  refine WL.q (LX.load rfl rfl (by repeat first | assumption | exact List.mem_cons_self | refine List.mem_cons_of_mem _ ?_) rfl) rfl ?_
  refine WL.q (LX.len rfl rfl rfl) rfl (WL.q (LX.assign rfl) rfl (WL.nil (thenK_normal (WC.seq (WC.region (WL.q (LX.move rfl) rfl (WL.q (LX.nilCheck rfl) rfl (WL.q (LX.field0 rfl rfl) rfl ?_))))))))
  refine WL.q (LX.load rfl rfl (by repeat first | assumption | exact List.mem_cons_self | refine List.mem_cons_of_mem _ ?_) rfl) rfl ?_
  refine WL.q (LX.move rfl) rfl (WL.q (LX.sliceTo rfl rfl rfl _ rfl (by omega)) rfl (WL.q (LX.assign rfl) rfl (WL.nil (thenK_normal (WC.seq (WC.region (WL.q (LX.move rfl) rfl (WL.q (LX.move rfl) rfl (WL.nil (thenK_normal (WC.block ?_)))))))))))
  refine WC.loopS (fun s : Nat × List Int => [(1, .int .u64 k), (4, .int .i64 n), (5, .slice (some ⟨l, 0, none⟩) n c), (18, .int .i64 n), (19, .int .i64 s.1)]) (fun s => (p, natO l n c) :: (l, words s.2) :: M)
    (fun s => s.1 ≤ n ∧ St c xs s.1 s.2 ∧ 2 * dv W64 (s.2.take s.1) + bb n k xs 0 = dv W64 (xs.take s.1) + W64 ^ s.1 * bb n k xs s.1) (fun s => n - s.1) (0, xs)
    ⟨Nat.zero_le _, St.start hxl hxd, by simp⟩ (.cons rfl (.cons rfl (.cons rfl (.cons rfl (.cons rfl .nil))))) rfl ?_
  rintro ⟨i, zs⟩ ⟨hi, hst, hv⟩
  dsimp only at hi hst hv ⊢
  have hzl := hst.len
  have hx1 := dg_gt hst.dg i
  have hx1' := wd_def hx1
  refine WC.seq (WC.region (WL.q (LX.bin rfl rfl rfl) rfl (WL.nil (thenK_normal (WC.seq ?_)))))
  refine WC.test rfl (fun hlt => ?_) (fun hge => ?_)
  · refine WC.skip (thenK_normal (WC.seq (WC.block (WC.seq (WC.region (WL.q (LX.move rfl) rfl (WL.q (LX.assign rfl) rfl (WL.nil (thenK_normal (WC.seq (WC.region (WL.q (LX.move rfl) rfl (WL.q (LX.move rfl) rfl ?_)))))))))))))
    refine WL.q (LX.idx1 rfl rfl rfl _ rfl (by omega)) rfl ?_
    refine WL.q (LX.loadRow rfl rfl (by repeat first | assumption | exact List.mem_cons_self | refine List.mem_cons_of_mem _ ?_) (by omega)) rfl ?_
    refine WL.q (LX.shr rfl rfl (by omega) (by omega)) rfl (WL.q (LX.idx1 rfl rfl rfl _ rfl (by omega)) rfl ?_)
    refine WL.put (EX.storeRow rfl rfl rfl (by repeat first | assumption | exact List.mem_cons_self | refine List.mem_cons_of_mem _ ?_) (by omega) (by repeat first | exact Upd.here | apply Upd.there)) ?_
    refine WL.nil (thenK_normal (WC.seq (WC.region (WL.q (LX.move rfl) rfl (WL.q (LX.addI rfl rfl (by omega)) rfl (WL.q (LX.move rfl) rfl (WL.q (LX.bin rfl rfl rfl) rfl (WL.nil (thenK_normal ?_)))))))))
    have hlen2 : (zs.set i (gt zs i / 2 ^ (min (1 : Int).toNat IntKind.u64.bits))).length = c := by simpa using hzl
    have hb : bb n k xs i = gt zs i % 2 := by unfold bb; rw [if_pos (by omega), hst.gt]
    have hyw : ∀ y : Int, 0 ≤ y → wd (gt zs i / 2 + 9223372036854775808 * (y % 2)) := by intro y hy; unfold wd W64; omega
    refine WC.test rfl (fun hlt2 => ?_) (fun hge2 => ?_)
    · have hy1 := wd_def (dg_gt hst.dg (i + 1))
      refine WC.draw [(0, 0), (0, 1), (0, 2), (0, 4), (0, 5), (0, 6), (0, 7), (1, 3), (1, 8), (0, 9), (0, 10), (0, 11), (2, 12)] [(l, words (zs.set i (gt zs i / 2 ^ (min (1 : Int).toNat IntKind.u64.bits))))] rfl (by kernel_rfl) rfl (by kernel_rfl) (DW.p rfl rfl (fun _ => LX.move rfl) rfl (DW.p rfl rfl (fun _ => LX.move rfl) rfl (DW.p rfl rfl (fun _ => LX.idx1 rfl rfl rfl _ rfl (by omega)) rfl (DW.p rfl rfl (fun _ => LX.move rfl) rfl (DW.p rfl rfl (fun _ => LX.move rfl) rfl (DW.p rfl rfl (fun _ => LX.addI rfl rfl (by omega)) rfl (DW.p rfl rfl (fun _ => LX.idx1 rfl rfl rfl (i + 1) rfl (by omega)) rfl ?_)))))))
      refine DW.r rfl rfl (LX.loadRow rfl rfl (by repeat first | assumption | exact List.mem_cons_self | refine List.mem_cons_of_mem _ ?_) (by omega)) (fun q hq => by simp at hq; subst hq; exact List.mem_cons_of_mem _ List.mem_cons_self) rfl ?_
      refine DW.r rfl rfl (LX.loadRow rfl rfl (by repeat first | assumption | exact List.mem_cons_self | refine List.mem_cons_of_mem _ ?_) (by omega)) (fun q hq => by simp at hq; subst hq; exact List.mem_cons_of_mem _ List.mem_cons_self) rfl ?_
      refine DW.p rfl rfl (fun _ => LX.shl rfl rfl (by omega)) rfl (DW.p rfl rfl (fun _ => LX.eq (LX.bin rfl rfl rfl) (by rw [gt_set_eq (by omega), gt_set_ne (by omega), half_or hx1 hy1.1])) rfl ?_)
      refine DW.p rfl rfl (fun _ => LX.idx1 rfl rfl rfl _ rfl (by omega)) rfl ?_
      refine DW.tput rfl rfl (EX.storeRow rfl rfl rfl (by repeat first | assumption | exact List.mem_cons_self | refine List.mem_cons_of_mem _ ?_) (by omega) (by repeat first | exact Upd.here | apply Upd.there)) (by kernel_rfl) ?_
      refine DW.nil (blockK_normal (thenK_normal (WC.region (WL.q (LX.addI rfl rfl (by omega)) rfl (WL.q (LX.move rfl) rfl (WL.nil ?_))))))
      rw [List.set_set]
      refine loopS_next (i + 1, zs.set i (gt zs i / 2 + 9223372036854775808 * (gt zs (i + 1) % 2))) ⟨by omega, hst.next (hyw _ hy1.1), ?_⟩ (by simp; omega) (.cons rfl (.cons rfl (.cons rfl (.cons rfl (.cons rfl .nil))))) rfl
      dsimp only
      have hb' : bb n k xs (i + 1) = gt zs (i + 1) % 2 := by unfold bb; rw [if_pos (by omega), gt_drop hst.drop (by omega)]
      rw [dv_take_set (by omega), dv_take_gt W64 (xs := xs) (by omega), Int.pow_succ, hb', ← hst.gt]
      exact shr_step hv hb (by unfold W64; decide)
    · refine WC.region (WL.q (LX.move rfl) rfl (WL.q (LX.move rfl) rfl (WL.q (LX.idx1 rfl rfl rfl _ rfl (by omega)) rfl ?_)))
      refine WL.q (LX.loadRow rfl rfl (by repeat first | assumption | exact List.mem_cons_self | refine List.mem_cons_of_mem _ ?_) (by omega)) rfl ?_
      refine WL.q (LX.move rfl) rfl (WL.q (LX.shl rfl rfl (by omega)) rfl (WL.q (LX.eq (LX.bin rfl rfl rfl) (by rw [gt_set_eq (by omega), half_or hx1 (by rcases hk with rfl | rfl <;> omega)])) rfl ?_))
      refine WL.q (LX.idx1 rfl rfl rfl _ rfl (by omega)) rfl ?_
      refine WL.put (EX.storeRow rfl rfl rfl (by repeat first | assumption | exact List.mem_cons_self | refine List.mem_cons_of_mem _ ?_) (by omega) (by repeat first | exact Upd.here | apply Upd.there)) ?_
      refine WL.nil (blockK_normal (thenK_normal (WC.region (WL.q (LX.addI rfl rfl (by omega)) rfl (WL.q (LX.move rfl) rfl (WL.nil ?_))))))
      rw [List.set_set]
      have hk2 : k % 2 = k := by rcases hk with rfl | rfl <;> rfl
      refine loopS_next (i + 1, zs.set i (gt zs i / 2 + 9223372036854775808 * (k % 2))) ⟨by omega, hst.next (hyw _ (by rcases hk with rfl | rfl <;> omega)), ?_⟩ (by simp; omega) (.cons rfl (.cons rfl (.cons rfl (.cons rfl (.cons rfl .nil))))) rfl
      dsimp only
      have hb' : bb n k xs (i + 1) = k % 2 := by unfold bb; rw [if_neg (by omega), hk2]
      rw [dv_take_set (by omega), dv_take_gt W64 (xs := xs) (by omega), Int.pow_succ, hb', ← hst.gt]
      exact shr_step hv hb (by unfold W64; decide)
  · refine WC.exit (thenK_exit (loopS_exit (blockK_same ?_)))
    obtain rfl : i = n := by omega
    refine KR.none (.inr rfl) rfl ⟨zs, rfl, ⟨hst.len, hxn, hxs, hst.dg, ?_⟩, rfl⟩
    have h1 : bb i k xs i = k := by unfold bb; rw [if_neg (by omega)]
    rw [h1, hxv] at hv
    have h2 : 0 ≤ bb i k xs 0 ∧ bb i k xs 0 < 2 := by
      unfold bb
      split
      · omega
      · rcases hk with rfl | rfl <;> omega
    omega
end
end Go.Proofs.YtdnngppofbmpeaaGreatDoor.Bm
