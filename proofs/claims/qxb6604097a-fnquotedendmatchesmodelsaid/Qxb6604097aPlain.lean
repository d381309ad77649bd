namespace Go.Proofs.Qxb6604097a

/-- A closing quote ends at e: the bytes of Q end there, and (but for the plain single quote) no backslash stands ahead of them. -/
def hit (T Q : List Int) (e : Nat) : Prop := (T.drop (e + 1 - Q.length)).take Q.length = Q ∧ (Q = [39] ∨ T.getD (e - Q.length) 0 ≠ 92)

/-- The first event at or behind i: a closing quote, an LF, or the text's end. -/
structure First (T Q : List Int) (i e : Nat) : Prop where
  lo : i ≤ e
  hi : e ≤ T.length
  none : ∀ e', i ≤ e' → e' < e → ¬ hit T Q e' ∧ T.getD e' 0 ≠ 10
  at' : e < T.length → hit T Q e ∨ T.getD e 0 = 10

/-- What is answered at the first event. -/
def Ans (T Q : List Int) (i e r : Nat) : Prop :=
  (e = T.length ∧ r = T.length) ∨ (e < T.length ∧ hit T Q e ∧ r = e + 1 - Q.length) ∨
  (e < T.length ∧ ¬ hit T Q e ∧ T.getD e 0 = 10 ∧ ((i < e ∧ T.getD (e - 1) 0 = 13 ∧ r = e - 1) ∨ (¬ (i < e ∧ T.getD (e - 1) 0 = 13) ∧ r = e)))

def Res (T Q : List Int) (i r : Nat) : Prop := ∃ e, First T Q i e ∧ Ans T Q i e r

theorem first_one {T Q : List Int} {i e e' : Nat} (h : First T Q i e) (h' : First T Q i e') : e = e' := by
  rcases Nat.lt_trichotomy e e' with hl | he | hg
  · have hn := h'.none e h.lo hl
    rcases h.at' (Nat.lt_of_lt_of_le hl h'.hi) with hh | hh
    · exact absurd hh hn.1
    · exact absurd hh hn.2
  · exact he
  · have hn := h.none e' h'.lo hg
    rcases h'.at' (Nat.lt_of_lt_of_le hg h.hi) with hh | hh
    · exact absurd hh hn.1
    · exact absurd hh hn.2

theorem res_one {T Q : List Int} {i r r' : Nat} (h : Res T Q i r) (h' : Res T Q i r') : r = r' := by
  obtain ⟨e, hf, ha⟩ := h
  obtain ⟨e', hf', ha'⟩ := h'
  obtain rfl := first_one hf hf'
  rcases ha with ⟨h1, h2⟩ | ⟨h1, h2, h3⟩ | ⟨h1, h2, h3, h4⟩ <;> rcases ha' with ⟨k1, k2⟩ | ⟨k1, k2, k3⟩ | ⟨k1, k2, k3, k4⟩
  · omega
  · omega
  · omega
  · omega
  · omega
  · exact absurd h2 k2
  · omega
  · exact absurd k2 h2
  · rcases h4 with ⟨a, b, c⟩ | ⟨a, c⟩ <;> rcases k4 with ⟨a', b', c'⟩ | ⟨a', c'⟩
    · omega
    · exact absurd ⟨a, b⟩ a'
    · exact absurd ⟨a', b'⟩ a
    · omega

theorem getD_at (T : List Int) (k : Nat) (h : k < T.length) : T.getD k 0 = T[k] := by simp [List.getD, List.getElem?_eq_getElem h]

theorem win_one (T : List Int) (k : Nat) (h : k < T.length) : (T.drop k).take 1 = [T[k]] := by
  rw [List.drop_eq_getElem_cons h, List.take_succ_cons, List.take_zero]

theorem win_two (T : List Int) (k : Nat) (h : k + 1 < T.length) : (T.drop k).take 2 = [T[k], T[k + 1]] := by
  rw [List.drop_eq_getElem_cons (by omega), List.drop_eq_getElem_cons h, List.take_succ_cons, List.take_succ_cons, List.take_zero]

/-! the three quotes -/
theorem hit_apos (T : List Int) (k : Nat) (h : k < T.length) : hit T [39] k ↔ T[k] = 39 := by
  unfold hit
  simp [win_one T k h]

theorem hit_quot (T : List Int) (k : Nat) (h1 : 1 ≤ k) (h : k < T.length) : hit T [34] k ↔ T[k] = 34 ∧ T[k - 1] ≠ 92 := by
  unfold hit
  have e := getD_at T (k - 1) (by omega)
  simp [win_one T k h, List.getElem?_eq_getElem (show k - 1 < T.length by omega)]

theorem hit_esc (T : List Int) (k : Nat) (h1 : 2 ≤ k) (h : k < T.length) : hit T [92, 34] k ↔ (T[k - 1] = 92 ∧ T[k] = 34) ∧ T[k - 2] ≠ 92 := by
  unfold hit
  have hw := win_two T (k - 1) (by omega)
  have e1 : k - 1 + 1 = k := by omega
  simp only [e1] at hw
  simp [hw, List.getElem?_eq_getElem (show k - 2 < T.length by omega)]

end Go.Proofs.Qxb6604097a
