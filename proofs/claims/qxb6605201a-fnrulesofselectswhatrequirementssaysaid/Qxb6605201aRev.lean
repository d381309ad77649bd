import Derived.Test.Qxb6605201aRulesPre
namespace Go.Proofs.Qxb6605201a.Rul
open Go.RowKit Go.Sort Go.Lib Go.Shelf

theorem RowR.cellF {w : World} {g m : Nat} {F Bk : List RV} (h : RowR w g m F Bk) {i : Nat} {r : RV} (hi : F[i]? = some r) : RuleCells w g i r := by
  obtain ⟨_, cur, h2, h3, h4, h5⟩ := h
  intro f hf
  rw [← h4 i r hi f hf]
  simp [World.cell?, h2]
theorem RowR.cellB {w : World} {g m : Nat} {F Bk : List RV} (h : RowR w g m F Bk) {j : Nat} {r : RV} (hj : Bk[j]? = some r) : RuleCells w g (m - 1 - j) r := by
  obtain ⟨_, cur, h2, h3, h4, h5⟩ := h
  intro f hf
  rw [← h5 j r hj f hf]
  simp [World.cell?, h2]

/-- The others turned round. -/
theorem rev35 (gr m cap : Nat) (F Bk : List RV) (w : World) (h : RowR w gr m F Bk) (hm : F.length + Bk.length = m) (hsm : m ≤ 4096) :
    Calls Try.prog 35 #[.slice (some ⟨gr, F.length * 5, none⟩) Bk.length cap] w fun e w' => e = .returned (.tuple #[]) ∧ (∀ i r, (F ++ Bk)[i]? = some r → RuleCells w' gr i r) ∧ Kept (fun j => j = gr) w w' := by
  haveI : Inhabited RV := ⟨RV.zero⟩
  have hget : ∀ j, j < Bk.length → (Bk.reverse.toArray)[j]! = (Bk[Bk.length - 1 - j]?).getD RV.zero := by
    intro j hj
    rw [getElem!_pos _ j (by simpa using hj)]
    simp only [List.getElem_toArray, List.getElem_reverse]
    rw [List.getElem?_eq_getElem (by omega)]; rfl
  have hget2 : ∀ j, j < Bk.length → (Bk.reverse.toArray.reverse)[j]! = (Bk[j]?).getD RV.zero := by
    intro j hj
    rw [List.reverse_toArray, List.reverse_reverse, getElem!_pos _ j (by simpa using hj)]
    simp only [List.getElem_toArray]
    rw [List.getElem?_eq_getElem hj]; rfl
  have hH : HoldsK encRV 5 w gr (F.length * 5) Bk.reverse.toArray := by
    intro j hj
    have hj' : j < Bk.length * 5 := by simpa using hj
    have hq : j / 5 < Bk.length := by omega
    rw [get_flatK _ _ _ j (by simpa using hj'), hget _ hq]
    have hr := h.cellB (j := Bk.length - 1 - j / 5) (r := (Bk[Bk.length - 1 - j / 5]?).getD RV.zero) (by rw [List.getElem?_eq_getElem (by omega)]; rfl) (j % 5) (by omega)
    rw [show (m - 1 - (Bk.length - 1 - j / 5)) * 5 + j % 5 = F.length * 5 + j by omega] at hr
    refine ⟨?_, (h.at (F.length * 5 + j) (by omega)).2⟩
    rw [hr, id]
    rw [getElem!_pos _ (j % 5) (by rw [encRV_length]; omega), List.getElem?_eq_getElem (by rw [encRV_length]; omega)]
  have hcon := AnyQ.slices_Reverse Try.revRule 5 Try.isAgg39 Try.sizeOf39 encRV encRV_length encRV_one gr (F.length * 5) cap Bk.reverse.toArray w hH (by simp; omega)
  rw [show Bk.reverse.toArray.size = Bk.length by simp] at hcon
  refine Calls.mono hcon ?_
  rintro e w' ⟨he, n, rfl⟩
  have hK : Kept (fun j => j = gr) w (putRowK encRV 5 (Sort.ahead w n) gr (F.length * 5) Bk.reverse.toArray.reverse) := by
    refine ⟨rfl, rfl, rfl, by unfold putRowK; rw [size_putRow]; exact Nat.le_refl _, ?_⟩
    intro k hk hk2
    unfold putRowK
    show (w.heap.modify gr (onCells _))[k]? = _
    rw [Array.getElem?_modify, if_neg (fun e => hk2 e.symm)]
  refine ⟨he, ?_, hK⟩
  intro i r hi f hf
  unfold putRowK
  rcases Nat.lt_or_ge i F.length with h1 | h1
  · rw [cell?_putRow_other _ _ _ _ _ _ (.inr (.inl (by show i * 5 + f < F.length * 5; omega)))]
    rw [List.getElem?_append_left h1] at hi
    exact h.cellF hi f hf
  · rw [List.getElem?_append_right h1] at hi
    have hi2 := (List.getElem?_eq_some_iff.1 hi).1
    have := (holds_putRow id (Sort.ahead w n) gr (F.length * 5) _ (flatK encRV 5 Bk.reverse.toArray.reverse) hH (by simp) ((i - F.length) * 5 + f) (by simp; omega)).1
    rw [show F.length * 5 + ((i - F.length) * 5 + f) = i * 5 + f by omega] at this
    rw [this, get_flatK _ _ _ _ (by simp; omega), show ((i - F.length) * 5 + f) / 5 = i - F.length by omega, show ((i - F.length) * 5 + f) % 5 = f by omega, hget2 _ hi2, hi, id]
    simp only [Option.getD_some]
    rw [getElem!_pos _ f (by rw [encRV_length]; omega), List.getElem?_eq_getElem (by rw [encRV_length]; omega)]

end Go.Proofs.Qxb6605201a.Rul
