import Derived.Test.Qxb6605201aRPlain
import Derived.Test.Qxb6605201aRows
import Derived.WalkKit
import Derived.WalkSpells
import Derived.WalkLawsBesides
import Derived.BigQuiet
import Derived.Deep.QuietTactic
import Derived.Deep.RegionHeld3
namespace Go.Proofs.Qxb6605201a.Rul
open Go.RowKit Go.Sort Go.Lib

/-- The slice v, nil or the call's own (block B or later), holds the strings l. -/
def OwnS (B : Nat) (w : World) (v : Value) (l : List Str) : Prop := w.ownsRow B 9 1 v l.length (l.map encStr)

theorem OwnS.nil (B : Nat) (w : World) : OwnS B w (.slice none 0 0) [] := World.ownsRow_nil w B 9 1

theorem OwnS.lt {B : Nat} {w : World} {v : Value} {l : List Str} (h : OwnS B w v l) : ∀ k, v.ownBlock = some k → B ≤ k ∧ k < w.heap.size := World.ownsRow.lt h

theorem OwnS.kept {B : Nat} {w w' : World} {v : Value} {l : List Str} (h : OwnS B w v l) (hb : ∀ k, v.ownBlock = some k → w'.heap[k]? = w.heap[k]?) : OwnS B w' v l := by
  obtain ⟨h1, h2⟩ := h
  refine ⟨h1, ?_⟩
  rcases h2 with h2 | ⟨g, cap, cur, hv, hg, hh, r⟩
  · exact .inl h2
  · exact .inr ⟨g, cap, cur, hv, hg, (hb g (by rw [hv]; rfl)).trans hh, r⟩

theorem OwnS.mono {B B' : Nat} {w : World} {v : Value} {l : List Str} (h : OwnS B w v l) (hB : B' ≤ B) : OwnS B' w v l := by
  obtain ⟨h1, h2⟩ := h
  refine ⟨h1, ?_⟩
  rcases h2 with h2 | ⟨g, cap, cur, hv, hg, r⟩
  · exact .inl h2
  · exact .inr ⟨g, cap, cur, hv, Nat.le_trans hB hg, r⟩

theorem OwnS.cases {B : Nat} {w : World} {v : Value} {l : List Str} (h : OwnS B w v l) :
    (v = .slice none 0 0 ∧ l = []) ∨ ∃ g cap, v = .slice (some ⟨g, 0, none⟩) l.length cap ∧ B ≤ g ∧ g < w.heap.size ∧ l.length ≤ cap ∧ Holds encStr w g 0 l.toArray := by
  rcases id h with ⟨_, h3 | ⟨g, cap, cur, hv, hb, hh, hc, _⟩⟩
  · exact .inl ⟨h3.1, List.eq_nil_of_length_eq_zero h3.2⟩
  · have hlt := h.lt g (by rw [hv]; rfl)
    subst hv
    refine .inr ⟨g, cap, rfl, hb, hlt.2, hc, fun j hj => ⟨?_, ?_⟩⟩
    · have hj' : j < l.length := by simpa using hj
      rw [Nat.zero_add, World.ownsRow.cellAt h j (by omega), List.getElem?_map, List.getElem?_eq_getElem hj', get_list l j hj']
      rfl
    · rw [Nat.zero_add]; exact World.ownsRow.frozenAt h j

/-- The row of such a slice rewritten from its start, and the slice cut. -/
theorem OwnS.put {B g cap : Nat} {w : World} {l : List Str} (h : OwnS B w (.slice (some ⟨g, 0, none⟩) l.length cap) l) (l' : List Str) (m n : Nat) (os : Array Obj) (hl : l'.length = l.length) (hm : m ≤ l'.length) :
    OwnS B (grow (putRow encStr (Sort.ahead w n) g 0 l'.toArray) os) (.slice (some ⟨g, 0, none⟩) (l'.take m).length cap) (l'.take m) := by
  have hlt := h.lt g rfl
  rcases id h with ⟨_, h3 | ⟨g', cap', cur, hv, hb, hh, hc, hM, hsz, ht⟩⟩
  · exact absurd h3.1 (by simp)
  · obtain ⟨rfl, rfl⟩ : g' = g ∧ cap' = cap := by
      have := hv; simp only [Value.slice.injEq, Option.some.injEq, Addr.mk.injEq] at this; exact ⟨this.1.1.symm, this.2.2.symm⟩
    refine ⟨by simp, .inr ⟨g', cap', putCells encStr 0 l'.toArray cur, rfl, hb, ?_, by simp; omega, hM, by simp [putCells, hsz], ?_⟩⟩
    · rw [heap_grow_old _ _ (by rw [size_putRow]; exact hlt.2)]
      show (w.heap.modify g' (onCells _))[g']? = _
      rw [Array.getElem?_modify, if_pos rfl, hh]; rfl
    · apply List.ext_getElem?
      intro k
      rw [List.getElem?_take, List.getElem?_map, List.getElem?_take]
      have hle : (l'.take m).length = m := by rw [List.length_take]; omega
      by_cases hk : k < (l'.take m).length * 1
      · rw [if_pos hk, if_pos (by omega), Array.getElem?_toList]
        have hkc : k < cur.size := by omega
        have hkl : k < l'.length := by omega
        simp only [putCells, Array.getElem?_mapIdx, Array.getElem?_eq_getElem hkc, Option.map_some]
        rw [if_pos ⟨by omega, by simp; omega⟩, Nat.sub_zero, get_list l' k hkl, List.getElem?_eq_getElem hkl]; rfl
      · rw [if_neg hk, if_neg (by omega)]; rfl

theorem grownBy_put (w : World) (n g : Nat) (l' : List Str) (os : Array Obj) : w.grownBy (grow (putRow encStr (Sort.ahead w n) g 0 l'.toArray) os) (some g) := by
  refine ⟨rfl, rfl, rfl, ?_, ?_⟩
  · rw [size_grow, size_putRow]; exact Nat.le_add_right _ _
  · intro k hk hne
    rw [heap_grow_old _ _ (by rw [size_putRow]; exact hk)]
    show (w.heap.modify g (onCells _))[k]? = _
    rw [Array.getElem?_modify, if_neg (fun e => hne (by rw [e]))]

theorem grownBy_refl (w : World) (row : Option Nat) : w.grownBy w row := ⟨rfl, rfl, rfl, Nat.le_refl _, fun _ _ _ => rfl⟩

/-- slices.Sort. -/
theorem sort41 (B : Nat) (v : Value) (l : List Str) (w : World) (h : OwnS B w v l) (hl : l.length < 4611686018427387904) :
    Calls Try.prog 41 #[v] w fun e w' => e = .returned (.tuple #[]) ∧ OwnS B w' v (l.mergeSort fun x y => decide (x ≤ y)) ∧ w.grownBy w' v.ownBlock := by
  rcases h.cases with ⟨rfl, rfl⟩ | ⟨g, cap, rfl, hb, hlt, hc, hH⟩
  · exact (Try.slices_Sort_string_none none 0 w).mono fun e w' ⟨he, hw⟩ => ⟨he, by subst hw; simpa using h, by subst hw; exact grownBy_refl _ _⟩
  · refine (Try.slices_Sort_string g 0 cap l w hH hlt hl).mono fun e w' ⟨he, n, os, hw⟩ => ⟨he, ?_, ?_⟩
    · subst hw
      have hp := List.length_mergeSort (le := fun x y : Str => decide (x ≤ y)) l
      have := h.put (l.mergeSort fun x y => decide (x ≤ y)) (l.mergeSort fun x y => decide (x ≤ y)).length n os hp (Nat.le_refl _)
      rw [List.take_length, hp] at this
      exact this
    · subst hw; exact grownBy_put w n g _ os

theorem compact_len (l : List Str) : (compact l).length ≤ l.length := by
  have := List.length_filter_le (keeps l.toArray) (List.range l.length)
  simpa [compact, compactUpTo] using this

/-- slices.Compact: the slice cut to each once. -/
theorem compact42 (B : Nat) (v : Value) (l : List Str) (w : World) (h : OwnS B w v l) (hl : l.length < 4611686018427387904) :
    Calls Try.prog 42 #[v] w fun e w' => ∃ v', e = .returned v' ∧ OwnS B w' v' (compact l) ∧ v'.ownBlock = v.ownBlock ∧ w.grownBy w' v.ownBlock := by
  rcases h.cases with ⟨rfl, rfl⟩ | ⟨g, cap, rfl, hb, hlt, hc, hH⟩
  · exact (Try.slices_Compact_string_empty none 0 w).mono fun e w' ⟨he, hw⟩ => ⟨_, he, by subst hw; simpa [compact, compactUpTo] using h, rfl, by subst hw; exact grownBy_refl _ _⟩
  · refine (Try.slices_Compact_string g 0 cap l w hH (by omega) hc).mono fun e w' ⟨he, q, hw⟩ => ⟨_, he, ?_, rfl, ?_⟩
    · subst hw
      have hp := compact_len l
      have := h.put (compact l ++ List.replicate (l.length - (compact l).length) []) (compact l).length q #[] (by simp; omega) (by simp)
      rw [List.take_left, grow_empty] at this
      exact this
    · subst hw
      have := grownBy_put w q g (compact l ++ List.replicate (l.length - (compact l).length) []) #[]
      rw [grow_empty] at this
      exact this

end Go.Proofs.Qxb6605201a.Rul
