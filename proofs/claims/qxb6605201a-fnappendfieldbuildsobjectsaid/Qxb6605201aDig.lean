import Derived.Test.Qxb6605201aBuf
namespace Go.Proofs.Qxb6605201a.Fld
open Go.RowKit

/-- n without its last k digits. -/
def q (n : Nat) : Nat → Nat
  | 0 => n
  | k + 1 => q n k / 10
/-- The k-th digit of n from the right, as a byte. -/
def dig (n k : Nat) : Int := 48 + ((q n k % 10 : Nat) : Int)
/-- How many digits n has (at most five). -/
def ndig (n : Nat) : Nat := if q n 1 = 0 then 1 else if q n 2 = 0 then 2 else if q n 3 = 0 then 3 else if q n 4 = 0 then 4 else 5
/-- The first m digits, the greatest first. -/
def digs (n : Nat) : Nat → List Int
  | 0 => []
  | m + 1 => digs n m ++ [dig n (ndig n - (m + 1))]
def dec (n : Nat) : List Int := digs n (ndig n)

theorem digs_length (n m : Nat) : (digs n m).length = m := by
  induction m with
  | zero => rfl
  | succ m ih => simp [digs, ih]
theorem ndig_pos (n : Nat) : 1 ≤ ndig n ∧ ndig n ≤ 5 := by
  unfold ndig
  split
  · omega
  · split
    · omega
    · split
      · omega
      · split <;> omega
theorem dec_length (n : Nat) : (dec n).length ≤ 5 := by rw [dec, digs_length]; exact (ndig_pos n).2
/-- It ends in a digit. -/
theorem dec_last (n : Nat) : ∃ t x, dec n = t ++ [x] ∧ x ≠ 123 := by
  obtain ⟨m, hm⟩ : ∃ m, ndig n = m + 1 := ⟨ndig n - 1, by have := (ndig_pos n).1; omega⟩
  refine ⟨digs n m, dig n (ndig n - (m + 1)), by rw [dec, hm, digs, ← hm], ?_⟩
  unfold dig
  omega
theorem ndig_of (n k : Nat) (hk : k ≤ 4) (h : ∀ j, 1 ≤ j → j ≤ k → q n j ≠ 0) (h0 : q n (k + 1) = 0) : ndig n = k + 1 := by
  unfold ndig
  rcases (show k = 0 ∨ k = 1 ∨ k = 2 ∨ k = 3 ∨ k = 4 by omega) with rfl | rfl | rfl | rfl | rfl
  · rw [if_pos h0]
  · rw [if_neg (h 1 (by omega) (by omega)), if_pos h0]
  · rw [if_neg (h 1 (by omega) (by omega)), if_neg (h 2 (by omega) (by omega)), if_pos h0]
  · rw [if_neg (h 1 (by omega) (by omega)), if_neg (h 2 (by omega) (by omega)), if_neg (h 3 (by omega) (by omega)), if_pos h0]
  · rw [if_neg (h 1 (by omega) (by omega)), if_neg (h 2 (by omega) (by omega)), if_neg (h 3 (by omega) (by omega)), if_neg (h 4 (by omega) (by omega))]
theorem q_le (n k : Nat) : q n k ≤ n := by
  induction k with
  | zero => exact Nat.le_refl _
  | succ k ih => exact Nat.le_trans (Nat.div_le_self _ _) ih
theorem q_five (n : Nat) (h : n < 100000) : q n 5 = 0 := by simp [q]; omega

/-- Block g holds just the cells cs, of type t. -/
def RowIs (wr : World) (g : Nat) (t : TypeId) (cs : List Value) : Prop := wr.heap[g]? = some (.cells cs.toArray t (0, 0))
theorem RowIs.lt {wr : World} {g : Nat} {e : TypeId} {cs : List Value} (h : RowIs wr g e cs) : g < wr.heap.size := by
  unfold RowIs at h
  rcases Nat.lt_or_ge g wr.heap.size with h1 | h1
  · exact h1
  · rw [Array.getElem?_eq_none h1] at h; cases h
theorem RowIs.cell {wr : World} {g : Nat} {e : TypeId} {cs : List Value} (h : RowIs wr g e cs) (j : Nat) : wr.cell? ⟨g, j, none⟩ = cs[j]? := by
  rw [cell_of_row wr g j _ e (0, 0) h]; simp
theorem RowIs.frozen {wr : World} {g : Nat} {e : TypeId} {cs : List Value} (h : RowIs wr g e cs) (j : Nat) : wr.frozen? ⟨g, j, none⟩ = false := frozen_of_row wr g j _ e h
theorem RowIs.set {wr : World} {g : Nat} {e : TypeId} {cs : List Value} (h : RowIs wr g e cs) (j : Nat) (u : Value) : RowIs (wr.setCell ⟨g, j, none⟩ u) g e (cs.set j u) := by
  have := heap_setCell_same wr g j _ e u h
  simpa [RowIs] using this
theorem RowIs.alloc {wr : World} {g : Nat} {e : TypeId} {cs : List Value} (h : RowIs wr g e cs) (o : Obj) : RowIs (wr.alloc o) g e cs := (Below.heap_alloc wr o g h.lt).trans h

theorem fill_step {α : Type} (L : List α) (z : α) (k : Nat) (h : k < L.length) : (L.take k ++ List.replicate (L.length - k) z).set k L[k] = L.take (k + 1) ++ List.replicate (L.length - (k + 1)) z := by
  have e : L.length - k = (L.length - (k + 1)) + 1 := by omega
  rw [List.set_append_right _ _ (by rw [List.length_take]; omega), e, List.replicate_succ, List.take_succ_eq_append_getElem h]
  have e2 : k - (L.take k).length = 0 := by rw [List.length_take]; omega
  rw [e2, List.set_cons_zero, List.append_assoc]
  rfl
theorem fill_at {α : Type} (L : List α) (z : α) (k : Nat) (h : k < L.length) : (L.take k ++ List.replicate (L.length - k) z)[k]? = some z := by
  rw [List.getElem?_append_right (by rw [List.length_take]; omega), List.length_take, List.getElem?_replicate, if_pos (by omega)]

/-- The array when k digits are laid. -/
def allDigs (n : Nat) : List Value := (List.range 20).map fun j => Value.int .u8 (dig n j)
def laid (n k : Nat) : List Value := (allDigs n).take k ++ List.replicate ((allDigs n).length - k) (.int .u8 0)
theorem allDigs_length (n : Nat) : (allDigs n).length = 20 := by simp [allDigs]
theorem laid_at (n k j : Nat) (hj : j < k) (hk : k ≤ 20) : (laid n k)[j]? = some (.int .u8 (dig n j)) := by
  unfold laid
  rw [List.getElem?_append_left (by rw [List.length_take, allDigs_length]; omega), List.getElem?_take_of_lt hj]
  simp [allDigs, show j < 20 by omega]

/-- append of one byte beside the digits' array, which stays. -/
theorem append_keep (w : World) {ops : Array Oper} {rest : List Oper} {o : Oper} {a : Act} {Q : Exit → Act → World → Prop} (hgd : o.guard = none) (sl x : Operand)
    (ho : o.op = .call { callee := .builtin .append, args := #[sl, x], argTypes := #[47, 47] }) (B : Nat) (v : Value) (l : List Int) (hs : a.eval sl = v) (hbuf : Buf B w v l) (gx c : Nat) (y : Int) (hx : a.eval x = .slice (some ⟨gx, 0, none⟩) 1 c)
    (hc : w.cell? ⟨gx, 0, none⟩ = some (.int .u8 y)) (hl : l.length + 1 ≤ 140737488355328) (w0 : World) (hb : Below B w0 w) (hB : B ≤ w.heap.size) (gd : Nat) (cs : List Value) (hrow : RowIs w gd 68 cs)
    (h : ∀ v' w', Buf B w' v' (l ++ [y]) → Below B w0 w' → B ≤ w'.heap.size → RowIs w' gd 68 cs → wpList Try.prog ops Q rest (a.put o.dst v') w') : wpList Try.prog ops Q (o :: rest) a w := by
  obtain ⟨i0, hi, hz0, hz1, hz2⟩ := info_parts Try.info5
  refine wpList_append_own w hgd sl x 47 ho B 5 i0 (.int .u8 0) 1 1 Try.underlying47 hi hz0 hz1 hz2 rfl (by decide) v l.length (vals l) hs hbuf.1 ⟨gx, 0, none⟩ 1 c (vals [y]) hx (by simp [vals]) ?_ ?_ (by unfold maxLen; omega) (by omega) hB ?_
  · intro j u hu
    have hj : j = 0 := by have := (List.getElem?_eq_some_iff.1 hu).1; simp [vals] at this; omega
    subst hj
    have e : (⟨gx, 0, none⟩ : Addr).add 0 = ⟨gx, 0, none⟩ := by unfold Addr.add; split <;> simp_all
    rw [e, hc]
    simpa [vals] using hu
  · intro u hu
    obtain ⟨n, _, rfl⟩ := List.mem_map.1 hu
    rfl
  · intro v' w' h1 h2 h3
    refine h v' w' ⟨?_, fun e => hbuf.2 (h3.1 e).1⟩ (hb.grown h2 hB (fun k hk => (hbuf.1.lt k hk).1)) (Nat.le_trans hB h2.size) ?_
    · rw [vals_append, List.length_append]
      exact h1
    · refine (h2.block gd hrow.lt ?_).trans hrow
      intro e
      rcases hbuf.1.2 with ⟨hv, _⟩ | ⟨g, cap, cur, hv, _, hh, _⟩
      · rw [hv] at e; cases e
      · rw [hv] at e
        cases e
        have := hrow
        unfold RowIs at this
        rw [this] at hh
        cases hh

set_option maxHeartbeats 800000 in
theorem appendInt19 (B : Nat) (v : Value) (l : List Int) (n : Nat) (w : World) (hbuf : Buf B w v l) (hll : l.length ≤ 1000000000) (hn : n < 100000) (hB : B ≤ w.heap.size) :
    Calls Try.prog 19 #[v, .int .i64 n] w fun e w' => RetBuf B e w' (l ++ dec n) ∧ Below B w w' := by
  have HBf : Hid (Buf B w v l) := hbuf
  clear hbuf
  have HR0 : Hid (RowIs (w.alloc (.cells #[.int .u8 0, .int .u8 0, .int .u8 0, .int .u8 0, .int .u8 0, .int .u8 0, .int .u8 0, .int .u8 0, .int .u8 0, .int .u8 0, .int .u8 0, .int .u8 0, .int .u8 0, .int .u8 0, .int .u8 0, .int .u8 0, .int .u8 0, .int .u8 0, .int .u8 0, .int .u8 0] 68)) w.heap.size 68 (laid n 0)) := heap_alloc_new w _
  have HB0 : Hid (Below w.heap.size w (w.alloc (.cells #[.int .u8 0, .int .u8 0, .int .u8 0, .int .u8 0, .int .u8 0, .int .u8 0, .int .u8 0, .int .u8 0, .int .u8 0, .int .u8 0, .int .u8 0, .int .u8 0, .int .u8 0, .int .u8 0, .int .u8 0, .int .u8 0, .int .u8 0, .int .u8 0, .int .u8 0, .int .u8 0] 68))) := (Below.refl _ _).alloc (Nat.le_refl _) _
  go_enter Try.func19, Try.ntmps19
  go_wp2
  generalize w.alloc (.cells #[.int .u8 0, .int .u8 0, .int .u8 0, .int .u8 0, .int .u8 0, .int .u8 0, .int .u8 0, .int .u8 0, .int .u8 0, .int .u8 0, .int .u8 0, .int .u8 0, .int .u8 0, .int .u8 0, .int .u8 0, .int .u8 0, .int .u8 0, .int .u8 0, .int .u8 0, .int .u8 0] 68) = w1 at *
  generalize hg : w.heap.size = g at *
  have HG : Hid (w.heap.size = g) := hg
  clear hg
  go_loopw [1, 6] (fun iv nv wr => ∃ k : Nat, k ≤ 4 ∧ nv = .int .i64 k ∧ iv = .int .i64 (q n k : Nat) ∧ Hid (∀ j, 1 ≤ j → j ≤ k → q n j ≠ 0) ∧ Hid (RowIs wr g 68 (laid n k)) ∧ Hid (Below g w wr)) (fun _ nv _ => 5 - (intOf nv).toNat)
  case atStart => exact ⟨0, by omega, rfl, rfl, fun j h1 h2 => by omega, HR0, HB0⟩
  case round =>
    obtain ⟨k, hk, rfl, rfl, HQ, HR, HBe⟩ := hrel
    have hlen := allDigs_length n
    have hold : wr.cell? ⟨g, k, none⟩ = some (.int .u8 0) := by rw [HR.out.cell]; exact fill_at _ _ _ (by omega)
    have hfr : wr.frozen? ⟨g, k, none⟩ = false := HR.out.frozen k
    have hset := HR.out.set k ((allDigs n)[k]'(by omega))
    unfold laid at hset
    rw [fill_step _ _ _ (by omega)] at hset
    have hv : (allDigs n)[k]'(by omega) = .int .u8 (48 + ((q n k : Int) % 10)) := by simp [allDigs, dig]
    rw [hv] at hset
    have HR2 : Hid (RowIs (wr.setCell ⟨g, k, none⟩ (.int .u8 (48 + ((q n k : Int) % 10)))) g 68 (laid n (k + 1))) := hset
    have HB2 : Hid (Below g w (wr.setCell ⟨g, k, none⟩ (.int .u8 (48 + ((q n k : Int) % 10))))) := HBe.out.setCell (p := ⟨g, k, none⟩) (Nat.le_refl _) _
    have hq1 : q n (k + 1) = q n k / 10 := rfl
    have HQ1 : Hid (q n (k + 1) = q n k / 10) := hq1
    have hqn := q_le n k
    have H5 : Hid (q n 5 = 0) := q_five n hn
    clear hset hv hlen hq1 HR HBe HR0 HB0
    generalize hx : q n k = x at *
    have HX : Hid (q n k = x) := hx
    clear hx
    by_cases hz : x / 10 = 0
    · have hbz : ((x : Int) / 10 == 0) = true := by simp; omega
      have HN : Hid (ndig n = k + 1) := ndig_of n k hk HQ.out (by rw [HQ1.out]; exact hz)
      have hbw : Buf B (wr.setCell ⟨g, k, none⟩ (.int .u8 (48 + ((x : Int) % 10)))) v l := HBf.out.below HB2.out (by rw [HG.out]; exact Nat.le_refl _)
      have hbl : Below B w (wr.setCell ⟨g, k, none⟩ (.int .u8 (48 + ((x : Int) % 10)))) := HB2.out.mono hB
      have HBw : Hid (Buf B (wr.setCell ⟨g, k, none⟩ (.int .u8 (48 + ((x : Int) % 10)))) v l) := hbw
      have HBl : Hid (Below B w (wr.setCell ⟨g, k, none⟩ (.int .u8 (48 + ((x : Int) % 10))))) := hbl
      have hsz : B ≤ (wr.setCell ⟨g, k, none⟩ (.int .u8 (48 + ((x : Int) % 10)))).heap.size := Nat.le_trans (by rw [HG.out]; exact hB) hbl.size
      clear hbw hbl HBf HQ HQ1 H5 HX HB2
      go_wp2
      generalize wr.setCell ⟨g, k, none⟩ (.int .u8 (48 + ((x : Int) % 10))) = w2 at *
      go_loopw [0, 6] (fun bv nv wx => ∃ m : Nat, m ≤ k + 1 ∧ nv = .int .i64 ((k : Int) + 1 - m) ∧ Hid (Buf B wx bv (l ++ digs n m)) ∧ Hid (RowIs wx g 68 (laid n (k + 1))) ∧ Hid (Below B w wx) ∧ B ≤ wx.heap.size) (fun _ nv _ => (intOf nv).toNat)
      case atStart => exact ⟨0, by omega, by simp, by simpa [digs] using HBw, HR2, HBl, hsz⟩
      case round =>
        obtain ⟨m, hm, rfl, HBm, HRm, HBem, hsm⟩ := hrel
        by_cases hlt : m < k + 1
        · have hcell : wr.cell? ⟨g, k + 1 - m - 1, none⟩ = some (.int .u8 (dig n (k + 1 - m - 1))) := by rw [HRm.out.cell]; exact laid_at n (k + 1) _ (by omega) (by omega)
          have HD : Hid (digs n (m + 1) = digs n m ++ [dig n (k + 1 - m - 1)]) := by show _ = _; rw [digs, HN.out, show k + 1 - (m + 1) = k + 1 - m - 1 by omega]
          have hdl := digs_length n m
          have HY : Hid (l ++ digs n m ++ [dig n (k + 1 - m - 1)] = l ++ digs n (m + 1)) := by show _ = _; rw [HD.out, List.append_assoc]
          have hll2 : (l ++ digs n m).length ≤ 1000000005 := by rw [List.length_append, hdl]; omega
          clear hdl HD HBw HR2 HBl
          generalize dig n (k + 1 - m - 1) = y at *
          generalize l ++ digs n m = L at *
          go_wp2_with (first | (at_builtin; refine append_keep _ rfl (.tmp 23) (.tmp 27) rfl B _ L rfl (HBm.out.alloc _) _ 1 y rfl ?_ ?_ w (HBem.out.alloc hsm _) ?_ g _ (HRm.out.alloc _) ?_; exact (lit_one _ _ 0 (by simp)); omega; (simp; omega); intro v3 w3 hb3 he3 hB3 hr3))
          go_roundw
          case rel => exact ⟨m + 1, by omega, congrArg (Value.int IntKind.i64) (by omega), by show Buf _ _ _ _; rw [← HY.out]; exact hb3, hr3, he3, hB3⟩
          case measure => simp [intOf]; omega
        · obtain rfl : m = k + 1 := by omega
          have HE : Hid (l ++ digs n (k + 1) = l ++ dec n) := by show _ = _; rw [dec, HN.out]
          clear HBw HR2 HBl
          go_wp2
          go_ret
          exact ⟨retBuf (by rw [← HE.out]; exact HBm), HBem⟩
    · have hbz : ((x : Int) / 10 == 0) = false := by simp; omega
      go_wp2
      go_roundw
      case rel =>
        refine ⟨k + 1, ?_, by go_num, ?_, ?_, HR2, HB2⟩
        · rcases (show k = 4 ∨ k < 4 by omega) with h | h
          · subst h
            have h5 := H5.out
            rw [HQ1.out] at h5
            exact absurd h5 hz
          · omega
        · rw [HQ1.out]; go_num
        · intro j h1 h2
          rcases (show j = k + 1 ∨ j ≤ k by omega) with h | h
          · subst h; rw [HQ1.out]; exact hz
          · exact HQ.out j h1 h
      case measure => simp [intOf]; omega
end Go.Proofs.Qxb6605201a.Fld
