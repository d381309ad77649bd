import Derived.Test.Qxb6604041aGuards
import Derived.ProofKit
import Derived.OpenShut
import Derived.ShutString
import Derived.ChangeOld
import Derived.Below
import Derived.SliceStrings
namespace Go.Proofs.Qxb6604041a
open Go.ChangeShapes Go.WideShapes Go.ChangeAt Go.RowKit
set_option linter.unusedVariables false

theorem own : ownKnob Try.prog.godebug = none := by kernel_rfl
theorem laidOut : laidOutB Try.prog = true := by kernel_rfl
theorem Try.cells9 : Try.prog.cellsOf 9 = 1 := by kernel_rfl

/-- A slice of strings that came in, opened: its elements. -/
theorem isStrs_of {H : Type} {enc : TypeId × Value → H} {W : World} {a0 : Option Addr} {len0 cap0 : Nat} {d0 : DataW H} {p0 : List MemPlace}
    (h0 : DataW.Trod enc Try.prog W 0 (fun _ => true) true 22 (.slice a0 len0 cap0) d0 p0) :
    ∃ ss : List ByteArray, ss.length = len0 ∧ ss.length ≤ cap0 ∧ ss.length ≤ 9223372036854775807 ∧ IsStrs W a0 ss := by
  have lt0 : ∀ x ∈ p0, x.block < W.heap.size := by obtain ⟨m, hm⟩ := h0; exact DataW.trod_lt m _ _ _ hm
  obtain ⟨fuel, hf⟩ := h0
  rcases open_strings Try.underlying22 Try.underlying9 Try.cells9 hf with ⟨hcs, hx⟩ | ⟨a, len', cap', ss, hcs, _, hl, hm, hz, hx, hcell, hws⟩
  · simp [Value.cells] at hcs
    obtain ⟨rfl, rfl, rfl⟩ := hcs
    exact ⟨[], rfl, Nat.le_refl _, by simp, .inl rfl⟩
  · simp [Value.cells] at hcs
    obtain ⟨rfl, rfl, rfl⟩ := hcs
    simp only [Prod.mk.injEq] at hx
    obtain ⟨rfl, rfl⟩ := hx
    simp only [if_true] at hz
    unfold maxLen at hm
    have hlen : (ss.take len0).length = len0 := by rw [List.length_take]; omega
    refine ⟨ss.take len0, hlen, by omega, by omega, ?_⟩
    by_cases h0 : len0 = 0
    · subst h0; exact .inl rfl
    · right
      obtain ⟨b, off, spot⟩ := a
      have hspot : spot = none := by simpa [Addr.add] using World.cell?_spot (hcell 0 (by omega))
      subst hspot
      refine ⟨b, off, rfl, lt0 (.cell b off) (MemPlace.mem_row.2 ⟨0, by omega, by simp⟩), fun j x hx => ?_⟩
      rw [List.getElem?_take] at hx
      split at hx
      · have := hcell j (by omega)
        rw [add_plain] at this
        rw [this]
        simp [List.getD, hx]
      · cases hx
end Go.Proofs.Qxb6604041a
