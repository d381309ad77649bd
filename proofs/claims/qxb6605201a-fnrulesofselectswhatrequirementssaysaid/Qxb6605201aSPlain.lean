import Derived.Test.Qxb6605201aRS
namespace Go.Proofs.Qxb6605201a.Rul
open Go.Lib

/-- Does a rule hold of a value? -/
def holdR (r : RS) (x : Str) : Bool := !decide (x ∈ r.es) && !r.ab && (match r.vs with | none => true | some l => decide (x ∈ l))

/-- What a rule says of a label. -/
def ruleSays (r : RS) : Option Str → Bool
  | none => !r.th
  | some v => holdR r v

/-- What one requirement says of a label. -/
def reqSays (q : Pq) : Option Str → Bool
  | none => !q.isTh
  | some v => if q.isEq then decide (v ∈ q.l) else if q.isNe then !decide (v ∈ q.l) else !q.isAb

theorem holdR_iff (r : RS) (x : Str) : holdR r x = true ↔ x ∉ r.es ∧ r.ab = false ∧ ∀ l, r.vs = some l → x ∈ l := by
  unfold holdR
  rw [Bool.and_eq_true, Bool.and_eq_true]
  constructor
  · rintro ⟨⟨h1, h2⟩, h3⟩
    refine ⟨by simpa using h1, by simpa using h2, fun l hl => ?_⟩
    rw [hl] at h3
    simpa using h3
  · rintro ⟨h1, h2, h3⟩
    refine ⟨⟨by simpa using h1, by simpa using h2⟩, ?_⟩
    cases hv : r.vs with
    | none => rfl
    | some l => simpa using h3 l hv

theorem says_one {G : List Pq} {r : RS} (h : RSOk G r) (o : Option Str) : ruleSays r o = true ↔ ∀ q ∈ G, reqSays q o = true := by
  cases o with
  | none =>
    show (!r.th) = true ↔ ∀ q ∈ G, (!q.isTh) = true
    rw [Bool.not_eq_true', ← Bool.not_eq_true, h.th]
    constructor
    · intro h1 q hq
      rw [Bool.not_eq_true', ← Bool.not_eq_true]
      exact fun h2 => h1 ⟨q, hq, h2⟩
    · rintro h1 ⟨q, hq, h2⟩
      have := h1 q hq
      rw [h2] at this
      cases this
  | some v =>
    show holdR r v = true ↔ _
    rw [holdR_iff]
    constructor
    · rintro ⟨h1, h2, h3⟩ q hq
      show (if q.isEq = true then decide (v ∈ q.l) else if q.isNe = true then !decide (v ∈ q.l) else !q.isAb) = true
      by_cases he : q.isEq = true
      · rw [if_pos he]
        cases hv : r.vs with
        | none => have := h.vn.1 hv q hq; rw [he] at this; cases this
        | some l => exact decide_eq_true (((h.vs l hv).2 v).1 (h3 l hv) q hq he)
      · rw [if_neg he]
        by_cases hn : q.isNe = true
        · rw [if_pos hn, Bool.not_eq_true', decide_eq_false_iff_not]
          exact fun h4 => h1 ((h.es v).2 ⟨q, hq, hn, h4⟩)
        · rw [if_neg hn, Bool.not_eq_true', ← Bool.not_eq_true]
          intro h4
          have := h.ab.2 ⟨q, hq, h4⟩
          rw [h2] at this; cases this
    · intro hall
      have hq : ∀ q ∈ G, (if q.isEq = true then decide (v ∈ q.l) else if q.isNe = true then !decide (v ∈ q.l) else !q.isAb) = true := hall
      refine ⟨fun h1 => ?_, ?_, fun l hl => ?_⟩
      · obtain ⟨q, hm, hn, hv⟩ := (h.es v).1 h1
        have := hq q hm
        have he : q.isEq = false := by simp [Pq.isEq, Pq.isNe] at *; omega
        rw [he, hn] at this
        simp [hv] at this
      · rw [← Bool.not_eq_true, h.ab]
        rintro ⟨q, hm, ha⟩
        have := hq q hm
        have he : q.isEq = false := by simp [Pq.isEq, Pq.isAb] at *; omega
        have hn : q.isNe = false := by simp [Pq.isNe, Pq.isAb] at *; omega
        rw [he, hn, ha] at this
        simp at this
      · rw [(h.vs l hl).2]
        intro q hm he
        have := hq q hm
        rw [if_pos he] at this
        exact of_decide_eq_true this

/-- All requirements hold, read one by one, just when all rules say so. -/
theorem says_all {P : List Pq} (hf : ∀ q ∈ P, q.Fit) (lab : Str → Option Str) : (∀ q ∈ P, reqSays q (lab q.key) = true) ↔ ∀ k ∈ sortC (P.map fun q => q.key), ruleSays (rsOf P k) (lab k) = true := by
  constructor
  · intro h k hk
    rw [says_one (rsOf_ok P k hf)]
    intro q hq
    obtain ⟨h1, h2⟩ := List.mem_filter.1 hq
    have h3 : q.key = k := of_decide_eq_true h2
    rw [← h3]
    exact h q h1
  · intro h q hq
    have hk : q.key ∈ sortC (P.map fun q => q.key) := ((sortC_law _).2 _).2 (List.mem_map.2 ⟨q, hq, rfl⟩)
    exact (says_one (rsOf_ok P q.key hf) _).1 (h _ hk) q (List.mem_filter.2 ⟨hq, decide_eq_true rfl⟩)

end Go.Proofs.Qxb6605201a.Rul
