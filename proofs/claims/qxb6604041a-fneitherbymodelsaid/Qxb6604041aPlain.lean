import Derived.Lib.Join
namespace Go.Proofs.Qxb6604041a

def orB : List UInt8 := [32, 111, 114, 32]
def commaB : List UInt8 := [44, 32]

/-- 'either', as its Go text reads. -/
def eitherL (L : List (List UInt8)) : List UInt8 :=
  if L.length < 2 then Lib.join L [] else Lib.join (L.take (L.length - 1)) commaB ++ orB ++ L.getD (L.length - 1) []

def sepOf (n k : Nat) : List UInt8 := if k = 0 then [] else if k = n - 1 then orB else commaB

/-- What the model has built after k rounds. -/
def modelTo (L : List (List UInt8)) : Nat → List UInt8
  | 0 => []
  | k + 1 => modelTo L k ++ sepOf L.length k ++ L.getD k []

theorem join_snoc (L : List (List UInt8)) (hL : L ≠ []) (s y : List UInt8) : Lib.join (L ++ [y]) s = Lib.join L s ++ s ++ y := by
  cases L with
  | nil => exact absurd rfl hL
  | cons x r =>
    rw [List.cons_append, Lib.join_cons, Lib.join_cons]
    simp [Lib.joinTail]

theorem join_take (L : List (List UInt8)) (s : List UInt8) (k : Nat) (h0 : 0 < k) (hk : k < L.length) : Lib.join (L.take (k + 1)) s = Lib.join (L.take k) s ++ s ++ L.getD k [] := by
  rw [List.take_succ_eq_append_getElem hk, join_snoc _ (by intro h; have := congrArg List.length h; simp at this; rcases this with h | h <;> simp_all)]
  simp [List.getD, List.getElem?_eq_getElem hk]

theorem modelTo_join (L : List (List UInt8)) (k : Nat) (hk : k ≤ L.length - 1) : modelTo L k = Lib.join (L.take k) commaB := by
  induction k with
  | zero => rfl
  | succ k ih =>
    rw [modelTo, ih (by omega)]
    by_cases h0 : k = 0
    · subst h0
      cases L with
      | nil => simp at hk
      | cons x r => simp [sepOf, Lib.join_nil, Lib.join_one]
    · rw [join_take L commaB k (by omega) (by omega), sepOf, if_neg h0, if_neg (by omega)]

theorem model_is (L : List (List UInt8)) : modelTo L L.length = eitherL L := by
  unfold eitherL
  by_cases h : L.length < 2
  · rw [if_pos h]
    match L, h with
    | [], _ => rfl
    | [x], _ => simp [modelTo, sepOf, Lib.join_one]
  · rw [if_neg h]
    obtain ⟨m, hm⟩ : ∃ m, L.length = m + 1 := ⟨L.length - 1, by omega⟩
    rw [hm, modelTo, modelTo_join L m (by omega), sepOf, if_neg (by omega), hm, if_pos (by omega)]
    rfl

theorem join_peel (x y : List UInt8) (r : List (List UInt8)) (s : List UInt8) : Lib.join (x :: y :: r) s = x ++ s ++ Lib.join (y :: r) s := by
  rw [Lib.join_cons, Lib.join_cons]
  simp [Lib.joinTail]

theorem peel (x : List UInt8) (L : List (List UInt8)) (h : 2 ≤ L.length) : eitherL (x :: L) = (x ++ commaB) ++ eitherL L := by
  unfold eitherL
  rw [if_neg (by simp; omega), if_neg (by omega)]
  obtain ⟨m, hm⟩ : ∃ m, L.length = m + 2 := ⟨L.length - 2, by omega⟩
  match L, hm with
  | y :: r, hm =>
    have hr : r.length = m + 1 := by simpa using hm
    simp only [List.length_cons, hr, Nat.add_sub_cancel, List.take_succ_cons, join_peel, List.getD_cons_succ, List.append_assoc]

theorem modelTo_len (L : List (List UInt8)) (k : Nat) (hk : k ≤ L.length) : (modelTo L k).length ≤ 4 * k + Lib.lens (L.take k) := by
  induction k with
  | zero => simp [modelTo]
  | succ k ih =>
    have hk' : k < L.length := by omega
    have hs : (sepOf L.length k).length ≤ 4 := by unfold sepOf; split <;> (try split) <;> simp [orB, commaB]
    rw [modelTo, Lib.lens_take_succ L k (L.getD k []) (by simp [List.getD, List.getElem?_eq_getElem hk'])]
    have := ih (by omega)
    simp only [List.length_append]
    omega

theorem either_len (L : List (List UInt8)) : (eitherL L).length ≤ 4 * L.length + Lib.lens L := by
  have := modelTo_len L L.length (Nat.le_refl _)
  rw [model_is, List.take_length] at this
  exact this

theorem join_len (L : List (List UInt8)) (s : List UInt8) (hs : s.length ≤ 2) : (Lib.join L s).length ≤ 2 * L.length + Lib.lens L := by
  cases L with
  | nil => simp [Lib.join_nil]
  | cons x r =>
    rw [Lib.join_cons, List.length_append, Lib.joinTail_length]
    simp only [Lib.lens, List.map_cons, List.sum_cons, List.length_cons]
    have : s.length * r.length ≤ 2 * r.length := Nat.mul_le_mul_right _ hs
    omega
end Go.Proofs.Qxb6604041a
