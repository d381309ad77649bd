import Derived.Test.Qxb6605201aHold
namespace Go.Proofs.Qxb6605201a.Rul
open Go.RowKit Go.Sort Go.Lib

/-- bitLen's ending. -/
def RetL (n : Nat) (e : Ending) : Prop := ∃ c : Nat, e = .returned (.int .i64 c) ∧ n < 2 ^ c ∧ c ≤ n

set_option maxHeartbeats 1000000 in
theorem bitLen15 (n : Nat) (w : World) (hn : n ≤ 4096) : Calls Try.prog 15 #[.int .i64 n] w fun e w' => RetL n e ∧ w = w' := by
  go_enter Try.func15, Try.ntmps15
  go_wp2
  go_loop [0, 3] (fun m c => ∃ (x y : Nat), m = .int .i64 x ∧ c = .int .i64 y ∧ y + x ≤ n ∧ Hid (n < (x + 1) * 2 ^ y)) (fun m _ => (intOf m).toNat)
  case atStart => exact ⟨n, 0, rfl, rfl, by omega, by show _ < _; omega⟩
  case round =>
    obtain ⟨x, y, rfl, rfl, hxy, HN⟩ := hrel
    by_cases hx : 0 < x
    · have HN2 : Hid (n < (x / 2 + 1) * 2 ^ (y + 1)) := by
        show _ < _
        have h1 := HN.out
        have h2 : x + 1 ≤ (x / 2 + 1) * 2 := by omega
        calc n < (x + 1) * 2 ^ y := h1
          _ ≤ ((x / 2 + 1) * 2) * 2 ^ y := Nat.mul_le_mul_right _ h2
          _ = (x / 2 + 1) * 2 ^ (y + 1) := by rw [Nat.pow_succ, Nat.mul_assoc, Nat.mul_comm 2]
      go_wp2
      go_round
      case rel => exact ⟨x / 2, y + 1, by go_num, by go_num, by omega, HN2⟩
      case measure => simp [intOf]; omega
    · obtain rfl : x = 0 := by omega
      have HR : Hid (n < 2 ^ y) := by show n < 2 ^ y; have := HN.out; simpa using this
      go_wp2
      go_ret
      exact ⟨⟨y, rfl, HR.out, by omega⟩, rfl⟩

end Go.Proofs.Qxb6605201a.Rul
