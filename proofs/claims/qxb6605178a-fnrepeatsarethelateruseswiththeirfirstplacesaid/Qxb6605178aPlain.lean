import Derived.Maps.OwnSet
namespace Go.Proofs.Qxb6605178a

/-- One use, as its three cells hold it. -/
structure Use where
  name : ByteArray
  file : ByteArray
  line : Int

/-- The place of the earliest of the uses that names nm. -/
def first (U : List Use) (nm : ByteArray) : Option (ByteArray × Int) := (U.find? fun u => decide (u.name = nm)).map fun u => (u.file, u.line)

/-- One repeat: the use, and where its name stands first. -/
structure Rep where
  use : Use
  ffile : ByteArray
  fline : Int

/-- What round k adds. -/
def repAt (U : List Use) (k : Nat) : List Rep :=
  match U[k]? with
  | some u => (match first (U.take k) u.name with | some p => [⟨u, p.1, p.2⟩] | none => [])
  | none => []

/-- The repeats among the first k uses. -/
def reps (U : List Use) : Nat → List Rep
  | 0 => []
  | k + 1 => reps U k ++ repAt U k

theorem reps_le (U : List Use) (k : Nat) : (reps U k).length ≤ k := by
  induction k with
  | zero => simp [reps]
  | succ k ih =>
    have : (repAt U k).length ≤ 1 := by unfold repAt; split <;> (try split) <;> simp
    simp only [reps, List.length_append]
    omega

theorem reps_prefix (U : List Use) (k m : Nat) : ∃ t, reps U (k + m) = reps U k ++ t := by
  induction m with
  | zero => exact ⟨[], by simp⟩
  | succ m ih =>
    obtain ⟨t, ht⟩ := ih
    exact ⟨t ++ repAt U (k + m), by rw [← Nat.add_assoc, reps, ht, List.append_assoc]⟩

theorem first_snoc (U : List Use) (k : Nat) (hk : k < U.length) (nm : ByteArray) :
    first (U.take (k + 1)) nm = match first (U.take k) nm with
      | some p => some p
      | none => if U[k].name = nm then some (U[k].file, U[k].line) else none := by
  unfold first
  rw [List.take_succ_eq_append_getElem hk, List.find?_append]
  cases h : List.find? (fun u => decide (u.name = nm)) (U.take k) with
  | some u => simp
  | none =>
    by_cases hn : U[k].name = nm
    · simp [List.find?, hn]
    · simp [List.find?, hn]

/-- The least j at which a use of that name stands, as the law's inner loop finds it. -/
theorem first_of_least (U : List Use) (i j : Nat) (nm : ByteArray) (hj : j < i) (hi : i ≤ U.length) (he : (U[j]'(by omega)).name = nm) (hn : ∀ m (hm : m < j), (U[m]'(by omega)).name ≠ nm) :
    first (U.take i) nm = some ((U[j]'(by omega)).file, (U[j]'(by omega)).line) := by
  unfold first
  have hf : (U.take i).find? (fun u => decide (u.name = nm)) = some (U[j]'(by omega)) := by
    rw [List.find?_eq_some_iff_getElem]
    refine ⟨by simpa using he, j, by rw [List.length_take]; omega, by simp, fun m hm => ?_⟩
    simpa using hn m hm
  rw [hf]
  rfl
theorem first_none (U : List Use) (i : Nat) (nm : ByteArray) (hi : i ≤ U.length) (hn : ∀ m (hm : m < i), (U[m]'(by omega)).name ≠ nm) : first (U.take i) nm = none := by
  unfold first
  have hf : (U.take i).find? (fun u => decide (u.name = nm)) = none := by
    rw [List.find?_eq_none]
    intro u hu
    obtain ⟨m, hm, rfl⟩ := List.getElem_of_mem hu
    rw [List.length_take] at hm
    simpa using hn m (by omega)
  rw [hf]
  rfl

theorem repAt_some (U : List Use) (k : Nat) (hk : k < U.length) (p : ByteArray × Int) (h : first (U.take k) U[k].name = some p) : repAt U k = [⟨U[k], p.1, p.2⟩] := by
  unfold repAt
  rw [List.getElem?_eq_getElem hk]
  simp [h]
theorem repAt_none (U : List Use) (k : Nat) (hk : k < U.length) (h : first (U.take k) U[k].name = none) : repAt U k = [] := by
  unfold repAt
  rw [List.getElem?_eq_getElem hk]
  simp [h]

/-! ### the map as the call holds it -/
open Go.Maps

/-- A place's datum. -/
def pd (p : ByteArray × Int) : DataW Unit := .agg [.lit (.string p.1.data.toList), .lit (.int .i64 p.2)]

theorem bytes_inj {a b : ByteArray} (h : a.data.toList = b.data.toList) : a = b := by
  apply ByteArray.ext
  exact Array.toList_inj.1 h

theorem pd_inj {p q : ByteArray × Int} (h : pd p = pd q) : p = q := by
  obtain ⟨a, b⟩ := p
  obtain ⟨c, d⟩ := q
  simp only [pd, DataW.agg.injEq, List.cons.injEq, DataW.lit.injEq, Lit.string.injEq, Lit.int.injEq, and_true, true_and] at h
  rw [bytes_inj h.1, h.2]

/-- How a place reads as a map's element. -/
def placeElem : Value → Option (DataW Unit × List MemPlace)
  | .agg cs => match cs.toList with
    | [.string f, .int .i64 n] => some (pd (f, n), [])
    | _ => none
  | _ => none

theorem placeElem_mk (f : ByteArray) (n : Int) : placeElem (.agg #[.string f, .int .i64 n]) = some (pd (f, n), []) := rfl
theorem placeElem_inv {v : Value} {z : DataW Unit × List MemPlace} (h : placeElem v = some z) : ∃ f n, v = .agg #[.string f, .int .i64 n] ∧ z = (pd (f, n), []) := by
  unfold placeElem at h
  split at h
  · rename_i cs
    split at h
    · rename_i f n hcs
      cases h
      refine ⟨f, n, ?_, rfl⟩
      congr 1
      rw [← hcs]
    · cases h
  · cases h

/-- A name as a map's key. -/
def kl (nm : ByteArray) : Lit := .string nm.data.toList
theorem kl_inj {a b : ByteArray} (h : kl a = kl b) : a = b := bytes_inj (by simpa [kl] using h)
def zp : ByteArray × Int := (⟨#[]⟩, 0)

/-- The map D holds just the first places of the names of U. -/
def Holds (D : DataW Unit) (U : List Use) : Prop :=
  IsMap D ∧ ∀ nm, has D (kl nm) = (first U nm).isSome ∧ D.atKey (kl nm) (pd zp) = pd ((first U nm).getD zp)

theorem holds_start : Holds (.map []) [] := ⟨isMap_empty, fun _ => ⟨rfl, rfl⟩⟩
theorem kl_key (nm : ByteArray) : WideAt.IsKeyLit (kl nm) := trivial

theorem holds_old {D : DataW Unit} {U : List Use} {k : Nat} (h : Holds D (U.take k)) (hk : k < U.length) {p : ByteArray × Int} (hf : first (U.take k) U[k].name = some p) : Holds D (U.take (k + 1)) := by
  refine ⟨h.1, fun nm => ?_⟩
  have e : first (U.take (k + 1)) nm = first (U.take k) nm := by
    rw [first_snoc U k hk]
    cases hn : first (U.take k) nm with
    | some q => rfl
    | none =>
      by_cases he : U[k].name = nm
      · rw [he, hn] at hf; cases hf
      · simp [he]
  rw [e]
  exact h.2 nm

theorem holds_new {D : DataW Unit} {U : List Use} {k : Nat} (h : Holds D (U.take k)) (hk : k < U.length) (hf : first (U.take k) U[k].name = none) : Holds (D.put (kl U[k].name) (pd (U[k].file, U[k].line))) (U.take (k + 1)) := by
  refine ⟨h.1.put _ _, fun nm => ?_⟩
  by_cases he : U[k].name = nm
  · subst he
    rw [has_put_same h.1 (kl_key _), atKey_put_same h.1 (kl_key _), first_snoc U k hk, hf]
    simp
  · have hne : kl nm ≠ kl U[k].name := fun h => he (kl_inj h).symm
    rw [has_put_other hne, atKey_put_other hne, first_snoc U k hk]
    have := h.2 nm
    cases hn : first (U.take k) nm with
    | some q => rw [hn] at this; simpa using this
    | none => rw [hn] at this; simpa [he] using this
end Go.Proofs.Qxb6605178a
