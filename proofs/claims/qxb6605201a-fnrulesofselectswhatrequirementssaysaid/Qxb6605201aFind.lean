import Derived.Test.Qxb6605201aOwn
import Derived.Sort.Walk0
namespace Go.Proofs.Qxb6605201a.Rul
open Go.RowKit Go.Sort Go.Lib

theorem toList_mk (l : Str) : (⟨l.toArray⟩ : ByteArray).toList = l := by rw [Lib.toList_data]
theorem mk_inj {a b : Str} : (⟨a.toArray⟩ : ByteArray) = ⟨b.toArray⟩ ↔ a = b := by
  constructor
  · intro h
    have := congrArg ByteArray.toList h
    rwa [toList_mk, toList_mk] at this
  · rintro rfl; rfl

theorem takeWhile_lt (x : Str) : ∀ (l : List Str), Strict l → ∀ t (ht : t < l.length), (t < (l.takeWhile fun y => decide (y < x)).length → l[t] < x) ∧ ((l.takeWhile fun y => decide (y < x)).length ≤ t → ¬ l[t] < x)
  | [], _, t, ht => absurd ht (by simp)
  | a :: l, h, t, ht => by
    have hp := List.pairwise_cons.1 h
    by_cases ha : a < x
    · rw [List.takeWhile_cons, if_pos (by simpa using ha), List.length_cons]
      cases t with
      | zero => simpa using ha
      | succ t =>
        have := takeWhile_lt x l hp.2 t (by simpa using ht)
        simpa using this
    · rw [List.takeWhile_cons, if_neg (by simpa using ha), List.length_nil]
      refine ⟨fun h => absurd h (by omega), fun _ => ?_⟩
      cases t with
      | zero => simpa using ha
      | succ t =>
        have ht' : t < l.length := by simpa using ht
        have h1 := hp.1 (l[t]'ht') (List.getElem_mem _)
        intro h2
        exact ha (lt_tr h1 (by simpa using h2))

/-- slices.BinarySearch in a list in order: is x there? -/
theorem search45 (g cap : Nat) (l : List Str) (x : Str) (w : World) (hs : Strict l) (hH : Holds encStr w g 0 l.toArray) (hbig : l.length < 4611686018427387904) :
    Calls Try.prog 45 #[.slice (some ⟨g, 0, none⟩) l.length cap, encStr x] w fun e w' => (∃ i : Int, e = .returned (.tuple #[.int .i64 i, .bool (decide (x ∈ l))])) ∧ ∃ q, w' = w.drewN q := by
  have hsx : ∀ j, j < l.length → (if j < l.length then l.toArray[j]! else x) = l.toArray[j]! := fun j hj => if_pos hj
  have hc := Any2.slices_BinarySearch_string Try.bs26 g 0 l.length cap (fun j => ⟨(if j < l.length then l.toArray[j]! else x).toArray⟩) ⟨x.toArray⟩ w hbig (fun j hj => by
    rw [(hH j (by simpa using hj)).1]
    show _ = some (Value.string ⟨(if j < l.length then l.toArray[j]! else x).toArray⟩)
    rw [hsx j hj])
  refine Calls.mono hc ?_
  rintro e w' ⟨rfl, hq⟩
  refine ⟨⟨_, congrArg (fun b => Ending.returned (.tuple #[.int .i64 _, .bool b])) (decide_eq_decide.2 ?_)⟩, hq⟩
  generalize hk : (l.takeWhile fun y => decide (y < x)).length = k
  have hkl : k ≤ l.length := by rw [← hk]; exact (List.takeWhile_prefix _).length_le
  have hless : ∀ t, Op.bytesLess (⟨(if t < l.length then l.toArray[t]! else x).toArray⟩ : ByteArray).toList (⟨x.toArray⟩ : ByteArray).toList = decide (t < k) := by
    intro t
    rw [toList_mk, toList_mk, bytesLess_eq, decide_eq_decide]
    by_cases ht : t < l.length
    · rw [if_pos ht, get_list l t ht]
      have := takeWhile_lt x l hs t ht
      rw [hk] at this
      constructor
      · intro h1
        rcases Nat.lt_or_ge t k with h2 | h2
        · exact h2
        · exact absurd h1 (this.2 h2)
      · exact this.1
    · rw [if_neg ht]
      exact ⟨fun h => absurd h (lt_irr x), fun h => by omega⟩
  have hspec := Lib.bsGo_spec (fun t => Op.bytesLess (⟨(if t < l.length then l.toArray[t]! else x).toArray⟩ : ByteArray).toList (⟨x.toArray⟩ : ByteArray).toList) k (fun t ht => by simp only [hless]; simpa using ht) (fun t ht => by simp only [hless]; simpa using ht) l.length 0 l.length (by omega) (by omega) hkl
  rw [hspec, mk_inj]
  constructor
  · rintro ⟨h1, h2⟩
    rw [if_pos h1, get_list l k h1] at h2
    rw [← h2]; exact List.getElem_mem h1
  · intro hx
    obtain ⟨t, ht, rfl⟩ := List.getElem_of_mem hx
    have h1 : k = t := by
      have a1 := takeWhile_lt l[t] l hs t ht
      rw [hk] at a1
      rcases Nat.lt_trichotomy t k with h | h | h
      · exact absurd (a1.1 h) (lt_irr _)
      · exact h.symm
      · have a2 := takeWhile_lt l[t] l hs k (by omega)
        rw [hk] at a2
        exact absurd (List.pairwise_iff_getElem.1 hs k t (by omega) ht h) (a2.2 (Nat.le_refl _))
    subst h1
    exact ⟨ht, by rw [if_pos ht, get_list l k ht]⟩

end Go.Proofs.Qxb6605201a.Rul
