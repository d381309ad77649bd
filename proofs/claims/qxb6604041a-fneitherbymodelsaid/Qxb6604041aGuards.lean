import Derived.Test.Qxb6604041aRows
import Derived.WalkKit
import Derived.WalkSpells
import Derived.WalkLawsBesides
namespace Go.Proofs.Qxb6604041a
open Go.RowKit

/-- What the walks are told of a slice of strings: its elements 'ss' lie in the cells at its address. -/
def IsStrs (w : World) (a : Option Addr) (ss : List ByteArray) : Prop :=
  ss = [] ∨ ∃ b off, a = some ⟨b, off, none⟩ ∧ b < w.heap.size ∧ ∀ j x, ss[j]? = some x → w.cell? ⟨b, off + j, none⟩ = some (.string x)

theorem IsStrs.at {w : World} {a : Option Addr} {ss : List ByteArray} (h : IsStrs w a ss) {k : Nat} (hk : k < ss.length) :
    ∃ b off, a = some ⟨b, off, none⟩ ∧ b < w.heap.size ∧ w.cell? ⟨b, off + k, none⟩ = some (.string ss[k]) := by
  rcases h with h | ⟨b, off, ha, hb, hc⟩
  · subst h; simp at hk
  · exact ⟨b, off, ha, hb, hc k _ (List.getElem?_eq_getElem hk)⟩

/-- the bytes of all names together -/
def total (ss : List ByteArray) : Nat := (ss.map (·.size)).sum

theorem sum_snoc : ∀ (l : List Nat) (x : Nat), (l ++ [x]).sum = l.sum + x := by
  intro l x; simp

theorem total_take (ss : List ByteArray) (k : Nat) (h : k < ss.length) : total (ss.take (k + 1)) = total (ss.take k) + ss[k].size := by
  unfold total
  rw [List.take_succ_eq_append_getElem h, List.map_append, List.map_cons, List.map_nil, sum_snoc]

/-- It returned a bool of which p holds. -/
def RetB (e : Ending) (p : Bool → Prop) : Prop := ∃ b, e = .returned (.bool b) ∧ p b

theorem retB {b : Bool} {p : Bool → Prop} (h : p b) : RetB (.returned (.bool b)) p := ⟨b, rfl, h⟩

set_option maxHeartbeats 400000 in
theorem zzBytes5 (a : Option Addr) (cap : Nat) (ss : List ByteArray) (w : World) (hs : IsStrs w a ss) (hm : ss.length ≤ 9223372036854775807) :
    Calls Try.prog 5 #[.slice a ss.length cap] w fun e w' => RetB e (fun _ => True) ∧ w' = w := by
  have HS : Hid (IsStrs w a ss) := hs
  clear hs
  go_enter Try.func5, Try.ntmps5
  go_wp2
  · go_ret; exact ⟨retB trivial, rfl⟩
  · go_loop [3, 4] (fun n i => ∃ (z : Nat) (k : Nat), z ≤ 1048576 ∧ k ≤ ss.length ∧ i = .int .i64 k ∧ n = .int .i64 z) (fun _ i => ss.length - (intOf i).toNat)
    case atStart => exact ⟨ss.length, 0, by omega, Nat.zero_le _, rfl, rfl⟩
    case round =>
      obtain ⟨z, k, hz, hk, rfl, rfl⟩ := hrel
      by_cases hlt : k < ss.length
      · obtain ⟨b, off, rfl, hb, hc⟩ := HS.out.at hlt
        clear HS
        generalize ss[k] = x at hc
        go_wp2
        · go_ret; exact ⟨retB trivial, rfl⟩
        · go_ret; exact ⟨retB trivial, rfl⟩
        · go_round
          case rel => exact ⟨z + x.size, k + 1, by omega, by omega, by go_num, by go_num⟩
          case measure => simp [intOf]; omega
      · go_wp2
        go_ret
        exact ⟨retB trivial, rfl⟩

set_option maxHeartbeats 400000 in
theorem zzBytes9 (a : Option Addr) (cap : Nat) (ss : List ByteArray) (w : World) (hs : IsStrs w a ss) (hm : ss.length ≤ 9223372036854775807) :
    Calls Try.prog 9 #[.slice a ss.length cap] w fun e w' => RetB e (fun _ => True) ∧ w' = w := by
  have HS : Hid (IsStrs w a ss) := hs
  clear hs
  go_enter Try.func9, Try.ntmps9
  go_wp2
  · go_ret; exact ⟨retB trivial, rfl⟩
  · go_loop [3, 4] (fun n i => ∃ (z : Nat) (k : Nat), z ≤ 1048576 ∧ k ≤ ss.length ∧ i = .int .i64 k ∧ n = .int .i64 z) (fun _ i => ss.length - (intOf i).toNat)
    case atStart => exact ⟨ss.length, 0, by omega, Nat.zero_le _, rfl, rfl⟩
    case round =>
      obtain ⟨z, k, hz, hk, rfl, rfl⟩ := hrel
      by_cases hlt : k < ss.length
      · obtain ⟨b, off, rfl, hb, hc⟩ := HS.out.at hlt
        clear HS
        generalize ss[k] = x at hc
        go_wp2
        · go_ret; exact ⟨retB trivial, rfl⟩
        · go_ret; exact ⟨retB trivial, rfl⟩
        · go_round
          case rel => exact ⟨z + x.size, k + 1, by omega, by omega, by go_num, by go_num⟩
          case measure => simp [intOf]; omega
      · go_wp2
        go_ret
        exact ⟨retB trivial, rfl⟩

set_option maxHeartbeats 400000 in
/-- namesFit: where it says true, the names are few and short. -/
theorem namesFit6 (a : Option Addr) (cap : Nat) (ss : List ByteArray) (w : World) (hs : IsStrs w a ss) (hm : ss.length ≤ 9223372036854775807) :
    Calls Try.prog 6 #[.slice a ss.length cap] w fun e w' => RetB e (fun b => b = true → 16 * ss.length + total ss ≤ 1048576) ∧ w' = w := by
  have HS : Hid (IsStrs w a ss) := hs
  clear hs
  go_enter Try.func6, Try.ntmps6
  go_wp2
  go_loop [3, 4] (fun n i => ∃ (z : Nat) (k : Nat), z ≤ 1048576 ∧ k ≤ ss.length ∧ Hid (z = 16 * k + total (ss.take k)) ∧ i = .int .i64 k ∧ n = .int .i64 z) (fun _ i => ss.length - (intOf i).toNat)
  case atStart => exact ⟨0, 0, by omega, Nat.zero_le _, rfl, rfl, rfl⟩
  case round =>
    obtain ⟨z, k, hz, hk, HZ, rfl, rfl⟩ := hrel
    by_cases hlt : k < ss.length
    · obtain ⟨b, off, rfl, hb, hc⟩ := HS.out.at hlt
      clear HS
      have HT : Hid (total (ss.take (k + 1)) = total (ss.take k) + ss[k].size) := total_take ss k hlt
      generalize ss[k] = x at hc HT
      go_wp2
      · go_ret; exact ⟨retB (by simp), rfl⟩
      · go_ret; exact ⟨retB (by simp), rfl⟩
      · go_round
        case rel => exact ⟨z + (16 + x.size), k + 1, by omega, by omega, by have h1 := HZ.out; have h2 := HT.out; show _ = _; omega, by go_num, by go_num⟩
        case measure => simp [intOf]; omega
    · go_wp2
      go_ret
      refine ⟨retB fun _ => ?_, rfl⟩
      have h1 := HZ.out
      rw [List.take_of_length_le (by omega)] at h1
      omega
end Go.Proofs.Qxb6604041a
