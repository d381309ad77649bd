import Derived.Test.Qxb6605201aSPre
namespace Go.Proofs.Qxb6605201a.Rul
open Go.RowKit Go.Sort Go.Lib
open Go.ChangeMaps (setBlock)

theorem setBlock_same {w : World} {b : Nat} {o o' : Obj} (h : w.heap[b]? = some o') : (setBlock w b o).heap[b]? = some o := by
  have hlt : b < w.heap.size := by
    rcases Nat.lt_or_ge b w.heap.size with h1 | h1
    · exact h1
    · rw [Array.getElem?_eq_none h1] at h; cases h
  show (w.heap.setIfInBounds b o)[b]? = _
  rw [Array.getElem?_setIfInBounds, if_pos rfl, if_pos hlt]
theorem setBlock_other {w : World} {b : Nat} {o : Obj} {k : Nat} (h : k ≠ b) : (setBlock w b o).heap[k]? = w.heap[k]? := by
  show (w.heap.setIfInBounds b o)[k]? = _
  rw [Array.getElem?_setIfInBounds, if_neg (Ne.symm h)]
theorem Below.setBlock {B : Nat} {a w : World} (h : Below B a w) {b : Nat} (hb : B ≤ b) (o : Obj) : Below B a (setBlock w b o) :=
  ⟨h.os, h.tape, h.output, by show _ ≤ (w.heap.setIfInBounds b o).size; rw [Array.size_setIfInBounds]; exact h.size, fun k hk => (setBlock_other (by omega)).trans (h.block k hk)⟩

theorem filter_one {l : List MapEntry} (hn : (l.map (·.born)).Nodup) {e : MapEntry} (he : e ∈ l) : (l.filter fun x => !(x.born == e.born)).length + 1 = l.length := by
  induction l with
  | nil => cases he
  | cons y l ih =>
    have hn' : y.born ∉ l.map (·.born) ∧ (l.map (·.born)).Nodup := List.nodup_cons.1 hn
    by_cases hy : y.born = e.born
    · have hall : l.filter (fun x => !(x.born == e.born)) = l := List.filter_eq_self.2 fun x hx => by
        have : x.born ≠ e.born := fun h => hn'.1 (by rw [hy, ← h]; exact List.mem_map.2 ⟨x, hx, rfl⟩)
        simpa using this
      rw [List.filter_cons_of_neg (by simp [hy]), hall]; rfl
    · have he' : e ∈ l := by
        rcases List.mem_cons.1 he with h | h
        · exact absurd (by rw [h]) hy
        · exact h
      rw [List.filter_cons_of_pos (by simpa using hy), List.length_cons, List.length_cons, ih hn'.2 he']

theorem left_count {es : Array MapEntry} (hn : (es.toList.map (·.born)).Nodup) (seen : Array Nat) {e : MapEntry} (he : e ∈ (leftOf es seen).toList) : (leftOf es (seen.push e.born)).size + 1 = (leftOf es seen).size := by
  have h1 : (leftOf es (seen.push e.born)).toList = (leftOf es seen).toList.filter fun x => !(x.born == e.born) := by
    unfold leftOf
    rw [Array.toList_filter, Array.toList_filter, List.filter_filter]
    congr 1
    funext x
    rw [contains_push, Bool.not_or, Bool.and_comm]
  have hsub : ((leftOf es seen).toList.map (·.born)).Nodup := by
    unfold leftOf
    rw [Array.toList_filter]
    exact hn.sublist (List.Sublist.map _ List.filter_sublist)
  have h2 := filter_one hsub he
  rw [← h1] at h2
  simpa using h2

/-- Inside the range over the labels. -/
structure RSt (w1 wr : World) (it bm : Nat) (es : Array MapEntry) (clock : Nat) (P : List Pq) (R2 : List RV) (seen : Array Nat) (cm : Nat) : Prop where
  iter : wr.heap[it]? = some (.mapIter (some bm) clock seen clock)
  bel : Below w1.heap.size w1 wr
  low : it = w1.heap.size
  says : ∀ e ∈ es.toList, seen.contains e.born = true → ∀ k v, e.key = encStr k → e.val = encStr v → ∀ r ∈ R2, r.k = k → holdR (rsOf P r.k) v = true
  cnt : seen.size + (leftOf es seen).size = es.size
  m1 : seen.size ≤ cm
  m2 : ∀ b, R2.length < 2 ^ b → cm ≤ seen.size * (b + 1)

theorem RSt.step {w1 wr w' : World} {it bm : Nat} {es : Array MapEntry} {clock : Nat} {P : List Pq} {R2 : List RV} {seen : Array Nat} {cm c : Nat} (h : RSt w1 wr it bm es clock P R2 seen cm) (hn : (es.toList.map (·.born)).Nodup) {e : MapEntry} (he : e ∈ (leftOf es seen).toList)
    (hi : w'.heap[it]? = some (.mapIter (some bm) clock (seen.push e.born) clock)) (hb : Below w1.heap.size w1 w') (c1 : 1 ≤ c) (c2 : ∀ b, R2.length < 2 ^ b → c ≤ b + 1) (hsay : ∀ k v, e.key = encStr k → e.val = encStr v → ∀ r ∈ R2, r.k = k → holdR (rsOf P r.k) v = true) :
    RSt w1 w' it bm es clock P R2 (seen.push e.born) (cm + c) := by
  refine ⟨hi, hb, h.low, fun x hx hc => ?_, ?_, ?_, fun b hb' => ?_⟩
  · rw [contains_push] at hc
    rcases Bool.or_eq_true _ _ ▸ hc with h1 | h1
    · exact h.says x hx h1
    · have : x = e := born_inj hn hx (mem_left he).1 (beq_iff_eq.1 h1)
      subst this
      exact hsay
  · have h1 := left_count hn seen he
    have h2 := h.cnt
    rw [Array.size_push]
    omega
  · have := h.m1
    rw [Array.size_push]; omega
  · have h1 := h.m2 b hb'
    have h2 := c2 b hb'
    rw [Array.size_push, Nat.succ_mul]
    omega

theorem iterSeen_of {w : World} {it : Nat} {m : Option Nat} {a c : Nat} {s : Array Nat} (h : w.heap[it]? = some (.mapIter m a s c)) : w.iterSeen it = s := by
  unfold World.iterSeen
  rw [h]

/-- At the range's end: every rule holds of its label. -/
theorem RSt.all {w1 wr w0 : World} {it bm : Nat} {es : Array MapEntry} {clock : Nat} {P : List Pq} {R2 : List RV} {seen : Array Nat} {cm : Nat} {ls : List (Str × Str)} (h : RSt w1 wr it bm es clock P R2 seen cm) (hl : LabAt w0 bm es clock ls) (h0 : (leftOf es seen).size = 0) (ht : ∀ r ∈ R2, (rsOf P r.k).th = false) :
    AllSay P (labOf ls) R2 ∧ seen.size = ls.length := by
  refine ⟨fun r hr => ?_, by have := h.cnt; have := hl.len; omega⟩
  cases hv : labOf ls r.k with
  | none => rw [says_none rfl, ht r hr]; rfl
  | some v =>
    rw [says_some rfl]
    have hm := (labOf_some hl.keys).1 hv
    obtain ⟨j, hj, e2⟩ := List.mem_iff_getElem.1 hm
    have hje : j < es.toList.length := by have := hl.len; simp; omega
    obtain ⟨p', hp', e3, e4⟩ := hl.get (j := j) (List.getElem?_eq_getElem hje)
    rw [List.getElem?_eq_getElem hj, e2] at hp'
    cases hp'
    exact h.says _ (List.getElem_mem hje) (all_seen es seen h0 _ (List.getElem_mem hje)) r.k v e3 e4 r hr rfl

theorem strict_inj {R : List RV} (hs : Strict (R.map fun r => r.k)) {r r' : RV} (h1 : r ∈ R) (h2 : r' ∈ R) (h : r.k = r'.k) : r = r' := by
  obtain ⟨i, hi, rfl⟩ := List.mem_iff_getElem.1 h1
  obtain ⟨j, hj, rfl⟩ := List.mem_iff_getElem.1 h2
  rcases Nat.lt_trichotomy i j with h3 | h3 | h3
  · have := strict_at hs hi hj h3
    rw [h] at this; exact absurd this (lt_irr _)
  · subst h3; rfl
  · have := strict_at hs hj hi h3
    rw [h] at this; exact absurd this (lt_irr _)

end Go.Proofs.Qxb6605201a.Rul
