import Derived.Test.Qxb6605178aBase
import Derived.ProofKit
import Derived.OpenShut
import Derived.ShutString
import Derived.ChangeOld
import Derived.Below
import Derived.Deep.Slices
import Derived.Deep.Strs
namespace Go.Proofs.Qxb6605178a
open Go.ChangeShapes Go.WideShapes Go.ChangeAt Go.RowKit
set_option linter.unusedVariables false

theorem own : ownKnob Try.prog.godebug = none := by kernel_rfl
theorem laidOut : laidOutB Try.prog = true := by kernel_rfl
theorem Try.cells9 : Try.prog.cellsOf 9 = 1 := by kernel_rfl
theorem Try.cells3 : Try.prog.cellsOf 3 = 1 := by kernel_rfl
theorem Try.cells25 : Try.prog.cellsOf 25 = 3 := by kernel_rfl

/-- A list of what is there at each index. -/
theorem list_of {α : Type} {p : Nat → α → Prop} : ∀ n, (∀ i, i < n → ∃ x, p i x) → ∃ l : List α, l.length = n ∧ ∀ j x, l[j]? = some x → p j x
  | 0, _ => ⟨[], rfl, by simp⟩
  | n + 1, h => by
    obtain ⟨l, hl, hp⟩ := list_of n (fun i hi => h i (by omega))
    obtain ⟨x, hx⟩ := h n (by omega)
    refine ⟨l ++ [x], by simp [hl], fun j y hy => ?_⟩
    rcases Nat.lt_or_ge j n with hj | hj
    · rw [List.getElem?_append_left (by omega)] at hy
      exact hp j y hy
    · rw [List.getElem?_append_right (by omega), List.getElem?_singleton] at hy
      split at hy
      · cases hy
        rw [show j = n by omega]
        exact hx
      · cases hy

theorem three {α : Type} (l : List α) (h : l.length = 3) : ∃ a b c, l = [a, b, c] := by
  match l, h with
  | [a, b, c], _ => exact ⟨a, b, c, rfl⟩

theorem spot_of {w : World} {a : Addr} {v : Value} (h : w.cell? a = some v) : a.spot = none := World.cell?_spot h

/-- One use, out of its reading. -/
theorem use_of {H : Type} {enc : TypeId × Value → H} {W : World} {n : Nat} {cs : List Value} {x : DataW H × List MemPlace} (h : DataW.trod enc Try.prog W 0 (fun _ => true) true n 25 cs = some x) :
    ∃ u : Use, cs = [.string u.name, .string u.file, .int .i64 u.line] ∧ u.name.size ≤ maxLen := by
  obtain ⟨y0, y1, y2, m, _, hl, h0, h1, h2⟩ := Deep.trod_struct3 Try.underlying25 h
  rw [Try.cells25] at hl
  obtain ⟨c0, c1, c2, rfl⟩ := three cs hl
  obtain ⟨s0, e0, _, hs0⟩ := DataW.trod_string Try.underlying9 h0
  obtain ⟨s1, e1, _, hs1⟩ := DataW.trod_string Try.underlying9 h1
  obtain ⟨z2, e2, _, hz2⟩ := DataW.trod_int Try.underlying3 h2
  simp [Try.cells9, Try.cells3] at e0 e1 e2
  subst e0 e1 e2
  exact ⟨⟨s0, s1, z2⟩, rfl, hs0⟩

/-- A slice of uses that came in, opened. -/
theorem isUses_of {H : Type} {enc : TypeId × Value → H} {W : World} {a0 : Option Addr} {len0 cap0 : Nat} {d0 : DataW H} {p0 : List MemPlace}
    (h0 : DataW.Trod enc Try.prog W 0 (fun _ => true) true 22 (.slice a0 len0 cap0) d0 p0) :
    ∃ U : List Use, U.length = len0 ∧ U.length ≤ cap0 ∧ U.length ≤ 9223372036854775807 ∧ IsUses W a0 U ∧ (∀ u ∈ U, u.name.size ≤ 9223372036854775807) ∧ (a0 = none → U = []) := by
  have lt0 : ∀ x ∈ p0, x.block < W.heap.size := by obtain ⟨m, hm⟩ := h0; exact DataW.trod_lt m _ _ _ hm
  obtain ⟨fuel, hf⟩ := h0
  rcases Deep.open_slice Try.underlying22 hf with ⟨hcs, hx⟩ | ⟨a, len', cap', m, n, D, Pl, hcs, _, hl, hm, hmm, hx, hel⟩
  · simp [Value.cells] at hcs
    obtain ⟨rfl, rfl, rfl⟩ := hcs
    exact ⟨[], rfl, Nat.le_refl _, by simp, .inl rfl, by simp, fun _ => rfl⟩
  · simp [Value.cells] at hcs
    obtain ⟨rfl, rfl, rfl⟩ := hcs
    simp only [if_true] at hmm
    subst hmm
    unfold maxLen at hm
    simp only [Prod.mk.injEq] at hx
    obtain ⟨_, hp⟩ := hx
    rw [Try.cells25] at hel hp
    obtain ⟨U, hU, hP⟩ := list_of (p := fun i (u : Use) => (W.cell? ((a.add (i * 3)).add 0) = some (.string u.name) ∧ W.cell? ((a.add (i * 3)).add 1) = some (.string u.file) ∧ W.cell? ((a.add (i * 3)).add 2) = some (.int .i64 u.line)) ∧ u.name.size ≤ maxLen) len0 (fun i hi => by
      obtain ⟨cs', hc, ht⟩ := hel i (by omega)
      obtain ⟨u, rfl, hu⟩ := use_of ht
      obtain ⟨_, _, hcc⟩ := World.cells?_some hc
      exact ⟨u, ⟨hcc 0 (by omega), hcc 1 (by omega), hcc 2 (by omega)⟩, hu⟩)
    refine ⟨U, hU, by omega, by omega, ?_, fun u hu => ?_, fun h => by cases h⟩
    · by_cases h0 : len0 = 0
      · left; exact List.eq_nil_of_length_eq_zero (by omega)
      · right
        obtain ⟨b, off, spot⟩ := a
        have hspot : spot = none := by
          have := hP 0 _ (List.getElem?_eq_getElem (by omega))
          simpa [Addr.add] using World.cell?_spot this.1.1
        subst hspot
        refine ⟨b, off, rfl, lt0 (.cell b off) (by rw [hp]; exact List.mem_append_left _ (MemPlace.mem_row.2 ⟨0, by omega, by simp⟩)), fun j u hj => ?_⟩
        have := (hP j u hj).1
        simpa only [add_plain, Nat.add_zero] using this
    · obtain ⟨j, hj, rfl⟩ := List.getElem_of_mem hu
      exact (hP j _ (List.getElem?_eq_getElem hj)).2
end Go.Proofs.Qxb6605178a
