import Derived.Test.Qxb6604097aRows
import Derived.Test.Qxb6604097aPlain
import Derived.WalkKit
import Derived.WalkSpells
import Derived.WalkLawsBesides
import Derived.BigQuiet
import Derived.Deep.QuietTactic
namespace Go.Proofs.Qxb6604097a
open Go.RowKit

/-- What the walks are told of a []byte: its bytes T lie in the cells at its address. -/
def IsBytes (w : World) (a : Option Addr) (T : List Int) : Prop :=
  T = [] ∨ ∃ b off, a = some ⟨b, off, none⟩ ∧ b < w.heap.size ∧ ∀ j x, T[j]? = some x → w.cell? ⟨b, off + j, none⟩ = some (.int .u8 x)

/-- It returned a bool of which p holds. -/
def RetB (e : Ending) (p : Bool → Prop) : Prop := ∃ b, e = .returned (.bool b) ∧ p b
theorem retB {b : Bool} {p : Bool → Prop} (h : p b) : RetB (.returned (.bool b)) p := ⟨b, rfl, h⟩

def Known (q : ByteArray) : Prop := q = ⟨#[39]⟩ ∨ q = ⟨#[34]⟩ ∨ q = ⟨#[92, 34]⟩

theorem eq_of_list {q : ByteArray} {l : List UInt8} (h : q.toList = l) : q = ⟨l.toArray⟩ := by
  rw [ByteArray.toList_eq] at h
  apply ByteArray.ext
  rw [← h]

set_option maxHeartbeats 400000 in
theorem zzBytes4 (a : Option Addr) (len cap : Nat) (i : Int) (q : ByteArray) (w : World) (hl : len ≤ 9223372036854775807) (hq : q.size ≤ 9223372036854775807) :
    Calls Try.prog 4 #[.slice a len cap, .int .i64 i, .string q] w fun e w' => RetB e (fun b => b = true → len ≤ 1048576 ∧ q.size ≤ 1048576) ∧ w = w' := by
  go_enter Try.func4, Try.ntmps4
  go_wp2
  all_goals go_ret
  all_goals exact ⟨retB (by first | (intro h; cases h; done) | (intro _; exact ⟨by omega, by omega⟩)), rfl⟩

set_option maxHeartbeats 400000 in
theorem known5 (q : ByteArray) (w : World) :
    Calls Try.prog 5 #[.string q] w fun e w' => RetB e (fun b => b = true → Known q) ∧ w = w' := by
  go_enter Try.func5, Try.ntmps5
  go_wp2
  all_goals go_ret
  · exact ⟨retB fun _ => .inl (eq_of_list ‹_›), rfl⟩
  · exact ⟨retB fun _ => .inr (.inl (eq_of_list ‹_›)), rfl⟩
  · refine ⟨retB fun h => ?_, rfl⟩
    simp at h
    rcases h with (h | h) | h
    · exact .inl (eq_of_list h)
    · exact .inr (.inl (eq_of_list h))
    · exact .inr (.inr (eq_of_list h))

theorem Try.info5 : (Try.prog.info? 5).map (fun i => (i.zero, i.size, i.bytes)) = some (some (.int .u8 0), 1, 1) := by kernel_rfl

/-- Block g of the world holds just the cells cs, of elements e. -/
def RowIs (wr : World) (g : Nat) (e : TypeId) (cs : List Value) : Prop := wr.heap[g]? = some (.cells cs.toArray e (0, 0))

theorem RowIs.lt {wr : World} {g : Nat} {e : TypeId} {cs : List Value} (h : RowIs wr g e cs) : g < wr.heap.size := by
  unfold RowIs at h
  rcases Nat.lt_or_ge g wr.heap.size with h1 | h1
  · exact h1
  · rw [Array.getElem?_eq_none h1] at h; cases h
theorem RowIs.cell {wr : World} {g : Nat} {e : TypeId} {cs : List Value} (h : RowIs wr g e cs) (j : Nat) : wr.cell? ⟨g, j, none⟩ = cs[j]? := by
  rw [cell_of_row wr g j _ e (0, 0) h]; simp
theorem RowIs.frozen {wr : World} {g : Nat} {e : TypeId} {cs : List Value} (h : RowIs wr g e cs) (j : Nat) : wr.frozen? ⟨g, j, none⟩ = false := frozen_of_row wr g j _ e h
theorem RowIs.set {wr : World} {g : Nat} {e : TypeId} {cs : List Value} (h : RowIs wr g e cs) (j : Nat) (u : Value) : RowIs (wr.setCell ⟨g, j, none⟩ u) g e (cs.set j u) := by
  have := heap_setCell_same wr g j _ e u h
  simpa [RowIs] using this
theorem RowIs.made {w1 : World} {B g n : Nat} {e : TypeId} {z : Value} (hown : w1.ownsRow B e 1 (.slice (some ⟨g, 0, none⟩) n n) n (madeCells #[z] n).toList) : RowIs w1 g e (List.replicate n z) := by
  obtain ⟨_, h | ⟨g', cap, cur, hv, _, hh, _, _, hsz, ht⟩⟩ := hown
  · cases h.1
  · cases hv
    rw [Nat.mul_one, toList_madeCells_one] at ht
    rw [List.take_of_length_le (by rw [Array.length_toList, hsz]; simp)] at ht
    unfold RowIs
    rw [hh, ← ht]

theorem fill_step {α : Type} (L : List α) (z : α) (k : Nat) (h : k < L.length) : (L.take k ++ List.replicate (L.length - k) z).set k L[k] = L.take (k + 1) ++ List.replicate (L.length - (k + 1)) z := by
  have e : L.length - k = (L.length - (k + 1)) + 1 := by omega
  rw [List.set_append_right _ _ (by rw [List.length_take]; omega), e, List.replicate_succ, List.take_succ_eq_append_getElem h]
  have e2 : k - (L.take k).length = 0 := by rw [List.length_take]; omega
  rw [e2, List.set_cons_zero, List.append_assoc]
  rfl

theorem fill_at {α : Type} (L : List α) (z : α) (k : Nat) (h : k < L.length) : (L.take k ++ List.replicate (L.length - k) z)[k]? = some z := by
  rw [List.getElem?_append_right (by rw [List.length_take]; omega), List.length_take, List.getElem?_replicate, if_pos (by omega)]

/-- The bytes as values. -/
def vals (T : List Int) : List Value := T.map (Value.int .u8)
theorem vals_length (T : List Int) : (vals T).length = T.length := by simp [vals]

set_option maxHeartbeats 400000 in
theorem clone_nil (n cap : Nat) (w : World) : Calls Try.prog 6 #[.slice none n cap] w fun e w' => e = .returned (.slice none 0 0) ∧ w = w' := by
  have heq := fun wx n c => Lib.run_eql_slice_nil (P := Try.prog) wx 22 5 none n c 0 0 Try.underlying22
  go_enter Try.func6, Try.ntmps6
  go_wp2
  go_ret
  exact ⟨rfl, rfl⟩

set_option maxHeartbeats 400000 in
theorem clone_some (x : Addr) (cap : Nat) (T : List Int) (w : World) (hs : IsBytes w (some x) T) (hm : T.length ≤ 1048576) :
    Calls Try.prog 6 #[.slice (some x) T.length cap] w fun e w' => e = .returned (.slice (some ⟨w.heap.size, 0, none⟩) T.length T.length) ∧ RowIs w' w.heap.size 5 (vals T) ∧ Below w.heap.size w w' := by
  have heq := fun wx n c => Lib.run_eql_slice_nil (P := Try.prog) wx 22 5 (some x) n c 0 0 Try.underlying22
  have HS : Hid (IsBytes w (some x) T) := hs
  clear hs
  obtain ⟨i0, hi, hz0, hz1, hz2⟩ := info_parts Try.info5
  go_enter Try.func6, Try.ntmps6
  go_wp2_with (at_make; refine wpList_make_full _ rfl (.tmp 8) (.tmp 8) 22 rfl w.heap.size 5 i0 (.int .u8 0) 1 Try.underlying22 hi hz0 hz1 .i64 .i64 _ _ T.length rfl rfl rfl rfl ?c1 ?c2 ?c3 ?_)
  case c1 => first | omega | (rw [hz2]; omega)
  case c2 => unfold maxLen; omega
  case c3 => exact Nat.le_refl _
  intro w1 hown hgrow
  have HR : Hid (RowIs w1 w.heap.size 5 (List.replicate T.length (.int .u8 0))) := RowIs.made hown
  have HB1 : Hid (Below w.heap.size w w1) := (Below.refl _ _).grown hgrow (Nat.le_refl _) (by simp)
  clear hown hgrow hi hz0 hz1 hz2 heq
  generalize hg : w.heap.size = g at *
  have HG : Hid (w.heap.size = g) := hg
  clear hg
  go_wp2
  go_loopw [4] (fun i wr => ∃ k : Nat, k ≤ T.length ∧ i = .int .i64 k ∧ Hid (RowIs wr g 5 ((vals T).take k ++ List.replicate ((vals T).length - k) (.int .u8 0))) ∧ Hid (Below g w wr)) (fun i _ => T.length - (intOf i).toNat)
  case atStart => exact ⟨0, Nat.zero_le _, rfl, by simpa [vals] using HR, HB1⟩
  case round =>
    obtain ⟨k, hk, rfl, HRk, HBk⟩ := hrel
    by_cases hlt : k < T.length
    · obtain ⟨b, off, hx, hb, hc⟩ : ∃ b off, x = ⟨b, off, none⟩ ∧ b < g ∧ wr.cell? ⟨b, off + k, none⟩ = some (.int .u8 T[k]) := by
        rcases HS.out with h | ⟨b, off, hx, hb, hc⟩
        · subst h; simp at hlt
        · refine ⟨b, off, by simpa using hx, by rw [← HG.out]; exact hb, ?_⟩
          rw [HBk.out.cell (p := ⟨b, off + k, none⟩) (by rw [← HG.out]; exact hb)]
          exact hc k _ (List.getElem?_eq_getElem hlt)
      subst hx
      have hvl : k < (vals T).length := by simpa [vals] using hlt
      have hold : wr.cell? ⟨g, k, none⟩ = some (.int .u8 0) := by rw [HRk.out.cell]; exact fill_at _ _ _ hvl
      have hfr : wr.frozen? ⟨g, k, none⟩ = false := HRk.out.frozen k
      have hset := HRk.out.set k (vals T)[k]
      rw [fill_step _ _ _ hvl] at hset
      have hv : (vals T)[k] = .int .u8 T[k] := by simp [vals]
      rw [hv] at hset
      have HS2 : Hid (RowIs (wr.setCell ⟨g, k, none⟩ (.int .u8 T[k])) g 5 ((vals T).take (k + 1) ++ List.replicate ((vals T).length - (k + 1)) (.int .u8 0))) := hset
      have HB2 : Hid (Below g w (wr.setCell ⟨g, k, none⟩ (.int .u8 T[k]))) := HBk.out.setCell (p := ⟨g, k, none⟩) (Nat.le_refl _) _
      clear hset hv HRk HBk HS hvl HR HB1
      generalize T[k] = y at *
      go_wp2
      go_roundw
      case rel => exact ⟨k + 1, by omega, by go_num, HS2, HB2⟩
      case measure => simp [intOf]; omega
    · obtain rfl : k = T.length := by omega
      have hr := HRk.out
      rw [show T.length = (vals T).length by simp [vals], Nat.sub_self, List.take_length, List.replicate_zero, List.append_nil] at hr
      have HR2 : Hid (RowIs wr g 5 (vals T)) := hr
      clear hr HRk
      go_wp2
      go_ret
      rw [HG.out]
      exact ⟨rfl, HR2, HBk⟩
end Go.Proofs.Qxb6604097a
