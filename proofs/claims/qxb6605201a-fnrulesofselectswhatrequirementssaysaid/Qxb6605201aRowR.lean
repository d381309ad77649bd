import Derived.Test.Qxb6605201aRS
namespace Go.Proofs.Qxb6605201a.Rul
open Go.RowKit Go.Sort Go.Lib

/-- A rule as it lies in a row: its two slices written out. -/
structure RV where
  k : Str
  th : Bool
  ab : Bool
  va : Option Addr
  vn : Nat
  vc : Nat
  ea : Option Addr
  en : Nat
  ec : Nat

def RV.zero : RV := ⟨[], false, false, none, 0, 0, none, 0, 0⟩

def RV.vv (r : RV) : Value := .slice r.va r.vn r.vc
def RV.ev (r : RV) : Value := .slice r.ea r.en r.ec
def encRV (r : RV) : List Value := [encStr r.k, .bool r.th, .bool r.ab, r.vv, r.ev]
theorem encRV_length (r : RV) : (encRV r).length = 5 := rfl
theorem encRV_one (r : RV) : ∀ v ∈ encRV r, v.oneCell' = true := by
  intro v hv
  simp [encRV, RV.vv, RV.ev] at hv
  rcases hv with rfl | rfl | rfl | rfl | rfl <;> rfl

/-- The five cells of the rule at place i. -/
def RuleCells (w : World) (g i : Nat) (r : RV) : Prop := ∀ f, f < 5 → w.cell? ⟨g, i * 5 + f, none⟩ = (encRV r)[f]?

/-- The row of m rules: F at its front, Bk at its back (the last place first). -/
def RowR (w : World) (g m : Nat) (F Bk : List RV) : Prop :=
  F.length + Bk.length ≤ m ∧ ∃ cur : Array Value, w.heap[g]? = some (.cells cur 39 (0, 0)) ∧ cur.size = m * 5 ∧
    (∀ i r, F[i]? = some r → ∀ f, f < 5 → cur[i * 5 + f]? = (encRV r)[f]?) ∧ (∀ j r, Bk[j]? = some r → ∀ f, f < 5 → cur[(m - 1 - j) * 5 + f]? = (encRV r)[f]?)

theorem RowR.kept {w w' : World} {g m : Nat} {F Bk : List RV} (h : RowR w g m F Bk) (hb : w'.heap[g]? = w.heap[g]?) : RowR w' g m F Bk := by
  obtain ⟨h1, cur, h2, r⟩ := h
  exact ⟨h1, cur, hb.trans h2, r⟩

theorem RowR.lt {w : World} {g m : Nat} {F Bk : List RV} (h : RowR w g m F Bk) : g < w.heap.size := by
  obtain ⟨_, cur, h2, _⟩ := h
  rcases Nat.lt_or_ge g w.heap.size with h1 | h1
  · exact h1
  · rw [Array.getElem?_eq_none h1] at h2; cases h2

/-- Every cell is there and may be written. -/
theorem RowR.at {w : World} {g m : Nat} {F Bk : List RV} (h : RowR w g m F Bk) (p : Nat) (hp : p < m * 5) : (∃ x, w.cell? ⟨g, p, none⟩ = some x) ∧ w.frozen? ⟨g, p, none⟩ = false := by
  obtain ⟨_, cur, h2, h3, _⟩ := h
  refine ⟨⟨cur[p]'(by omega), ?_⟩, frozen_of_row w g p cur 39 h2⟩
  simp [World.cell?, h2]

/-- The five stores of a rule into a row. -/
def put5 (w : World) (g p : Nat) (r : RV) : World :=
  ((((w.setCell ⟨g, p, none⟩ (encStr r.k)).setCell ⟨g, p + 1, none⟩ (.bool r.th)).setCell ⟨g, p + 2, none⟩ (.bool r.ab)).setCell ⟨g, p + 3, none⟩ r.vv).setCell ⟨g, p + 4, none⟩ r.ev

theorem put5_heap {w : World} {g p : Nat} {r : RV} {cur : Array Value} (h : w.heap[g]? = some (.cells cur 39 (0, 0))) (hp : p + 5 ≤ cur.size) :
    ∃ cur', (put5 w g p r).heap[g]? = some (.cells cur' 39 (0, 0)) ∧ cur'.size = cur.size ∧ (∀ f, f < 5 → cur'[p + f]? = (encRV r)[f]?) ∧ ∀ x, (x < p ∨ p + 5 ≤ x) → cur'[x]? = cur[x]? := by
  refine ⟨((((cur.setIfInBounds p (encStr r.k)).setIfInBounds (p + 1) (.bool r.th)).setIfInBounds (p + 2) (.bool r.ab)).setIfInBounds (p + 3) r.vv).setIfInBounds (p + 4) r.ev, ?_, by simp, ?_, ?_⟩
  · unfold put5
    rw [Sort.setCell_eq, Sort.setCell_eq, Sort.setCell_eq, Sort.setCell_eq, Sort.setCell_eq, mapBlock_mapBlock, mapBlock_mapBlock, mapBlock_mapBlock, mapBlock_mapBlock]
    show (w.heap.modify g (onCells _))[g]? = _
    rw [Array.getElem?_modify, if_pos rfl, h]; rfl
  · intro f hf
    rcases (show f = 0 ∨ f = 1 ∨ f = 2 ∨ f = 3 ∨ f = 4 by omega) with rfl | rfl | rfl | rfl | rfl <;>
      simp [Array.getElem?_setIfInBounds, encRV] <;> omega
  · intro x hx
    simp only [Array.getElem?_setIfInBounds]
    rw [if_neg (by omega), if_neg (by omega), if_neg (by omega), if_neg (by omega), if_neg (by omega)]

theorem put5_kept (w : World) (g p : Nat) (r : RV) : Kept (fun j => j = g) w (put5 w g p r) :=
  ((((kept_set w g p _).trans (kept_set _ g (p + 1) _)).trans (kept_set _ g (p + 2) _)).trans (kept_set _ g (p + 3) _)).trans (kept_set _ g (p + 4) _)

theorem RowR.front {w : World} {g m : Nat} {F Bk : List RV} (h : RowR w g m F Bk) (hlt : F.length + Bk.length < m) (r : RV) : RowR (put5 w g (F.length * 5) r) g m (F ++ [r]) Bk := by
  obtain ⟨_, cur, h2, h3, h4, h5⟩ := h
  obtain ⟨cur', k1, k2, k3, k4⟩ := put5_heap (r := r) (p := F.length * 5) h2 (by omega)
  refine ⟨by simp; omega, cur', k1, by omega, ?_, ?_⟩
  · intro i r' hi f hf
    rcases Nat.lt_or_ge i F.length with hlt' | hge
    · rw [List.getElem?_append_left hlt'] at hi
      rw [k4 _ (.inl (by omega))]
      exact h4 i r' hi f hf
    · rw [List.getElem?_append_right hge] at hi
      have e0 : i - F.length = 0 := by
        have := (List.getElem?_eq_some_iff.1 hi).1; simp at this; omega
      rw [e0] at hi
      simp at hi
      subst hi
      rw [show i = F.length by omega]
      exact k3 f hf
  · intro j r' hj f hf
    have hj' := (List.getElem?_eq_some_iff.1 hj).1
    rw [k4 _ (.inr (by omega))]
    exact h5 j r' hj f hf

theorem RowR.back {w : World} {g m : Nat} {F Bk : List RV} (h : RowR w g m F Bk) (hlt : F.length + Bk.length < m) (r : RV) : RowR (put5 w g ((m - 1 - Bk.length) * 5) r) g m F (Bk ++ [r]) := by
  obtain ⟨_, cur, h2, h3, h4, h5⟩ := h
  obtain ⟨cur', k1, k2, k3, k4⟩ := put5_heap (r := r) (p := (m - 1 - Bk.length) * 5) h2 (by omega)
  refine ⟨by simp; omega, cur', k1, by omega, ?_, ?_⟩
  · intro i r' hi f hf
    have hi' := (List.getElem?_eq_some_iff.1 hi).1
    rw [k4 _ (.inl (by omega))]
    exact h4 i r' hi f hf
  · intro j r' hj f hf
    rcases Nat.lt_or_ge j Bk.length with hlt' | hge
    · rw [List.getElem?_append_left hlt'] at hj
      rw [k4 _ (.inr (by omega))]
      exact h5 j r' hj f hf
    · rw [List.getElem?_append_right hge] at hj
      have e0 : j - Bk.length = 0 := by
        have := (List.getElem?_eq_some_iff.1 hj).1; simp at this; omega
      rw [e0] at hj
      simp at hj
      subst hj
      rw [show j = Bk.length by omega]
      exact k3 f hf

end Go.Proofs.Qxb6605201a.Rul
