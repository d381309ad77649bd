import Derived.Test.Qxb6605178aRows
import Derived.Test.Qxb6605178aPlain
import Derived.WalkKit
import Derived.WalkSpells
import Derived.WalkLawsBesides
import Derived.BigQuiet
import Derived.Deep.QuietTactic
import Derived.Deep.RegionHeld3
namespace Go.Proofs.Qxb6605178a
open Go.RowKit

/-- What the walks are told of a slice of uses. -/
def IsUses (w : World) (a : Option Addr) (U : List Use) : Prop :=
  U = [] ∨ ∃ b off, a = some ⟨b, off, none⟩ ∧ b < w.heap.size ∧ ∀ j u, U[j]? = some u →
    w.cell? ⟨b, off + j * 3, none⟩ = some (.string u.name) ∧ w.cell? ⟨b, off + j * 3 + 1, none⟩ = some (.string u.file) ∧ w.cell? ⟨b, off + j * 3 + 2, none⟩ = some (.int .i64 u.line)

theorem IsUses.at {w : World} {a : Option Addr} {U : List Use} (h : IsUses w a U) {k : Nat} (hk : k < U.length) :
    ∃ b off, a = some ⟨b, off, none⟩ ∧ b < w.heap.size ∧ w.cell? ⟨b, off + k * 3, none⟩ = some (.string U[k].name) ∧ w.cell? ⟨b, off + k * 3 + 1, none⟩ = some (.string U[k].file) ∧ w.cell? ⟨b, off + k * 3 + 2, none⟩ = some (.int .i64 U[k].line) := by
  rcases h with h | ⟨b, off, ha, hb, hc⟩
  · subst h; simp at hk
  · exact ⟨b, off, ha, hb, hc k _ (List.getElem?_eq_getElem hk)⟩

/-- It returned a bool of which p holds. -/
def RetB (e : Ending) (p : Bool → Prop) : Prop := ∃ b, e = .returned (.bool b) ∧ p b
theorem retB {b : Bool} {p : Bool → Prop} (h : p b) : RetB (.returned (.bool b)) p := ⟨b, rfl, h⟩

set_option maxHeartbeats 400000 in
theorem zzBytes5 (a : Option Addr) (cap : Nat) (U : List Use) (w : World) (hs : IsUses w a U) (hm : U.length ≤ 9223372036854775807) :
    Calls Try.prog 5 #[.slice a U.length cap] w fun e w' => RetB e (fun _ => True) ∧ w = w' := by
  have HS : Hid (IsUses w a U) := hs
  clear hs
  go_enter Try.func5, Try.ntmps5
  go_wp2
  · go_ret; exact ⟨retB trivial, rfl⟩
  · go_loop [3, 4] (fun n i => ∃ (z : Nat) (k : Nat), z ≤ 1048576 ∧ k ≤ U.length ∧ i = .int .i64 k ∧ n = .int .i64 z) (fun _ i => U.length - (intOf i).toNat)
    case atStart => exact ⟨U.length, 0, by omega, Nat.zero_le _, rfl, rfl⟩
    case round =>
      obtain ⟨z, k, hz, hk, rfl, rfl⟩ := hrel
      by_cases hlt : k < U.length
      · obtain ⟨b, off, rfl, hb, h0, h1, h2⟩ := HS.out.at hlt
        clear HS
        generalize U[k].name = x at *
        generalize U[k].file = y at *
        go_wp2
        all_goals try (go_ret; exact ⟨retB trivial, rfl⟩)
        go_round
        case rel => exact ⟨z + x.size + y.size, k + 1, by omega, by omega, by go_num, by go_num⟩
        case measure => simp [intOf]; omega
      · go_wp2
        go_ret
        exact ⟨retB trivial, rfl⟩
end Go.Proofs.Qxb6605178a
