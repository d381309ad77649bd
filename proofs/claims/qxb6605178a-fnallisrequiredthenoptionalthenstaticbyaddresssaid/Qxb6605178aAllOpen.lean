import Derived.Test.Qxb6605178aDecls
import Derived.ProofKit
import Derived.OpenShut
import Derived.ShutString
import Derived.ChangeOld
import Derived.Below
import Derived.Deep.Slices
namespace Go.Proofs.Qxb6605178a.All
open Go.ChangeShapes Go.WideShapes Go.ChangeAt Go.RowKit
set_option linter.unusedVariables false

theorem own : ownKnob Try.prog.godebug = none := by kernel_rfl
theorem laidOut : laidOutB Try.prog = true := by kernel_rfl
theorem Try.cells9 : Try.prog.cellsOf 9 = 1 := by kernel_rfl
theorem Try.cells3 : Try.prog.cellsOf 3 = 1 := by kernel_rfl
theorem Try.cells51 : Try.prog.cellsOf 51 = 5 := by kernel_rfl

/-- A list of what is there at each index. -/
theorem list_of {α : Type} {p : Nat → α → Prop} : ∀ n, (∀ i, i < n → ∃ x, p i x) → ∃ l : List α, l.length = n ∧ ∀ j x, l[j]? = some x → p j x
  | 0, _ => ⟨[], rfl, by simp⟩
  | n + 1, h => by
    obtain ⟨l, hl, hp⟩ := list_of n (fun i hi => h i (by omega))
    obtain ⟨x, hx⟩ := h n (by omega)
    refine ⟨l ++ [x], by simp [hl], fun j y hy => ?_⟩
    rcases Nat.lt_or_ge j n with hj | hj
    · rw [List.getElem?_append_left (by omega)] at hy
      exact hp j y hy
    · rw [List.getElem?_append_right (by omega), List.getElem?_singleton] at hy
      split at hy
      · cases hy
        rw [show j = n by omega]
        exact hx
      · cases hy

theorem five {α : Type} (l : List α) (h : l.length = 5) : ∃ a b c d e, l = [a, b, c, d, e] := by
  match l, h with
  | [a, b, c, d, e], _ => exact ⟨a, b, c, d, e, rfl⟩

/-- One declaration, out of its reading. -/
theorem decl_of {H : Type} {enc : TypeId × Value → H} {W : World} {n : Nat} {cs : List Value} {x : DataW H × List MemPlace} (h : DataW.trod enc Try.prog W 0 (fun _ => true) true n 51 cs = some x) :
    ∃ d : Decl, cs = [.string d.name, .string d.desc, .string d.dflt, .string d.file, .int .i64 d.line] := by
  obtain ⟨xs, m, _, _, hl, hlen, hf⟩ := DataW.trod_struct Try.underlying51 h
  rw [Try.cells51] at hl
  obtain ⟨c0, c1, c2, c3, c4, rfl⟩ := five cs hl
  obtain ⟨x0, x1, x2, x3, x4, rfl⟩ := five xs hlen
  have h0 := hf 0 _ rfl
  have h1 := hf 1 _ rfl
  have h2 := hf 2 _ rfl
  have h3 := hf 3 _ rfl
  have h4 := hf 4 _ rfl
  obtain ⟨s0, e0, _, _⟩ := DataW.trod_string Try.underlying9 h0
  obtain ⟨s1, e1, _, _⟩ := DataW.trod_string Try.underlying9 h1
  obtain ⟨s2, e2, _, _⟩ := DataW.trod_string Try.underlying9 h2
  obtain ⟨s3, e3, _, _⟩ := DataW.trod_string Try.underlying9 h3
  obtain ⟨z4, e4, _, _⟩ := DataW.trod_int Try.underlying3 h4
  simp [Try.cells9, Try.cells3] at e0 e1 e2 e3 e4
  subst e0 e1 e2 e3 e4
  exact ⟨⟨s0, s1, s2, s3, z4⟩, rfl⟩

/-- A slice of declarations that came in, opened. -/
theorem isDecls_of {H : Type} {enc : TypeId × Value → H} {W : World} {a0 : Option Addr} {len0 cap0 : Nat} {d0 : DataW H} {p0 : List MemPlace}
    (h0 : DataW.Trod enc Try.prog W 0 (fun _ => true) true 35 (.slice a0 len0 cap0) d0 p0) :
    ∃ D : List Decl, D.length = len0 ∧ D.length ≤ 9223372036854775807 ∧ IsDecls W a0 D ∧ (a0 = none → D = []) := by
  have lt0 : ∀ x ∈ p0, x.block < W.heap.size := by obtain ⟨m, hm⟩ := h0; exact DataW.trod_lt m _ _ _ hm
  obtain ⟨fuel, hf⟩ := h0
  rcases Deep.open_slice Try.underlying35 hf with ⟨hcs, hx⟩ | ⟨a, len', cap', m, n, Dd, Pl, hcs, _, hl, hm, hmm, hx, hel⟩
  · simp [Value.cells] at hcs
    obtain ⟨rfl, rfl, rfl⟩ := hcs
    exact ⟨[], rfl, by simp, .inl rfl, fun _ => rfl⟩
  · simp [Value.cells] at hcs
    obtain ⟨rfl, rfl, rfl⟩ := hcs
    simp only [if_true] at hmm
    subst hmm
    unfold maxLen at hm
    simp only [Prod.mk.injEq] at hx
    obtain ⟨_, hp⟩ := hx
    rw [Try.cells51] at hel hp
    obtain ⟨D, hD, hP⟩ := list_of (p := fun i (d : Decl) => W.cell? ((a.add (i * 5)).add 0) = some (.string d.name) ∧ W.cell? ((a.add (i * 5)).add 1) = some (.string d.desc) ∧ W.cell? ((a.add (i * 5)).add 2) = some (.string d.dflt) ∧ W.cell? ((a.add (i * 5)).add 3) = some (.string d.file) ∧ W.cell? ((a.add (i * 5)).add 4) = some (.int .i64 d.line)) len0 (fun i hi => by
      obtain ⟨cs', hc, ht⟩ := hel i (by omega)
      obtain ⟨d, rfl⟩ := decl_of ht
      obtain ⟨_, _, hcc⟩ := World.cells?_some hc
      exact ⟨d, hcc 0 (by omega), hcc 1 (by omega), hcc 2 (by omega), hcc 3 (by omega), hcc 4 (by omega)⟩)
    refine ⟨D, hD, by omega, ?_, fun h => by cases h⟩
    by_cases h0 : len0 = 0
    · left; exact List.eq_nil_of_length_eq_zero (by omega)
    · right
      obtain ⟨b, off, spot⟩ := a
      have hspot : spot = none := by
        have := hP 0 _ (List.getElem?_eq_getElem (by omega))
        simpa [Addr.add] using World.cell?_spot this.1
      subst hspot
      refine ⟨b, off, rfl, lt0 (.cell b off) (by rw [hp]; exact List.mem_append_left _ (MemPlace.mem_row.2 ⟨0, by omega, by simp⟩)), fun j d hj => ?_⟩
      have := hP j d hj
      simpa only [add_plain, Nat.add_zero] using this
end Go.Proofs.Qxb6605178a.All
