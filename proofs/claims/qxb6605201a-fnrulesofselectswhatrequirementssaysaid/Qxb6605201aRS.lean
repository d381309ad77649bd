import Derived.Test.Qxb6605201aSortF
namespace Go.Proofs.Qxb6605201a.Rul
open Go.Lib

/-- A requirement, as data. -/
structure Pq where
  key : Str
  op : Int
  l : List Str

def Rq.p (q : Rq) : Pq := ⟨q.key, q.op, q.l⟩
def Pq.isEq (q : Pq) : Bool := decide (q.op = 0 ∨ q.op = 2)
def Pq.isNe (q : Pq) : Bool := decide (q.op = 1 ∨ q.op = 3)
def Pq.isTh (q : Pq) : Bool := decide (q.op = 0 ∨ q.op = 2 ∨ q.op = 4)
def Pq.isAb (q : Pq) : Bool := decide (q.op = 5)
/-- The documented domain. -/
def Pq.Fit (q : Pq) : Prop := 0 ≤ q.op ∧ q.op ≤ 5 ∧ (q.op ≤ 3 → q.l ≠ [])

/-- What a rule says of the requirements G (all of them on its key). -/
structure RSOk (G : List Pq) (r : RS) : Prop where
  th : r.th = true ↔ ∃ q ∈ G, q.isTh = true
  ab : r.ab = true ↔ ∃ q ∈ G, q.isAb = true
  vn : r.vs = none ↔ ∀ q ∈ G, q.isEq = false
  vs : ∀ l, r.vs = some l → Strict l ∧ ∀ s, s ∈ l ↔ ∀ q ∈ G, q.isEq = true → s ∈ q.l
  es : ∀ s, s ∈ r.es ↔ ∃ q ∈ G, q.isNe = true ∧ s ∈ q.l

def RS.init : RS := ⟨false, false, none, []⟩
theorem RSOk.init : RSOk [] RS.init := ⟨by simp [RS.init], by simp [RS.init], by simp [RS.init], by simp [RS.init], by simp [RS.init]⟩

theorem RSOk.step {G : List Pq} {r : RS} (h : RSOk G r) (q : Pq) (hf : q.Fit) : RSOk (G ++ [q]) (r.step q.op q.l) := by
  obtain ⟨f1, f2, f3⟩ := hf
  by_cases h02 : q.op = 0 ∨ q.op = 2
  · have e1 : q.isEq = true := by simp [Pq.isEq, h02]
    have e2 : q.isNe = false := by simp [Pq.isNe]; omega
    have e3 : q.isTh = true := by simp [Pq.isTh]; omega
    have e4 : q.isAb = false := by simp [Pq.isAb]; omega
    have hs : r.step q.op q.l = { r with th := true, vs := some (match r.vs with | none => sortC q.l | some l => (sortC q.l).filter fun x => decide (x ∈ l)) } := if_pos h02
    rw [hs]
    refine ⟨?_, ?_, ?_, ?_, ?_⟩
    · simp [e3]
    · show r.ab = true ↔ _
      rw [h.ab]; simp [e4]
    · simp [e1]
    · intro l hl
      simp only [Option.some.injEq] at hl
      cases hv : r.vs with
      | none =>
        rw [hv] at hl
        simp only at hl
        subst hl
        refine ⟨(sortC_law q.l).1, fun s => ?_⟩
        rw [(sortC_law q.l).2]
        have := h.vn.1 hv
        constructor
        · intro hs q' hq' he
          rcases List.mem_append.1 hq' with h1 | h1
          · rw [this q' h1] at he; exact absurd he (by simp)
          · rw [List.mem_singleton.1 h1]; exact hs
        · intro hs; exact hs q (by simp) e1
      | some lp =>
        rw [hv] at hl
        simp only at hl
        subst hl
        obtain ⟨h1, h2⟩ := h.vs lp hv
        refine ⟨strict_filter (sortC_law q.l).1 _, fun s => ?_⟩
        rw [List.mem_filter, (sortC_law q.l).2, decide_eq_true_eq, h2]
        constructor
        · rintro ⟨a1, a2⟩ q' hq' he
          rcases List.mem_append.1 hq' with h3 | h3
          · exact a2 q' h3 he
          · rw [List.mem_singleton.1 h3]; exact a1
        · intro hs
          exact ⟨hs q (by simp) e1, fun q' hq' he => hs q' (List.mem_append_left _ hq') he⟩
    · intro s
      show s ∈ r.es ↔ _
      rw [h.es]; simp [e2]
  · by_cases h13 : q.op = 1 ∨ q.op = 3
    · have e1 : q.isEq = false := by simp [Pq.isEq]; omega
      have e2 : q.isNe = true := by simp [Pq.isNe, h13]
      have e3 : q.isTh = false := by simp [Pq.isTh]; omega
      have e4 : q.isAb = false := by simp [Pq.isAb]; omega
      have hs : r.step q.op q.l = { r with es := r.es ++ q.l } := by unfold RS.step; rw [if_neg h02, if_pos h13]
      rw [hs]
      refine ⟨?_, ?_, ?_, ?_, ?_⟩
      · show r.th = true ↔ _
        rw [h.th]; simp [e3]
      · show r.ab = true ↔ _
        rw [h.ab]; simp [e4]
      · show r.vs = none ↔ _
        rw [h.vn]
        constructor
        · intro hh q' hq'
          rcases List.mem_append.1 hq' with h1 | h1
          · exact hh q' h1
          · rw [List.mem_singleton.1 h1]; exact e1
        · intro hh q' hq'; exact hh q' (List.mem_append_left _ hq')
      · intro l hl
        obtain ⟨a1, a2⟩ := h.vs l hl
        refine ⟨a1, fun s => ?_⟩
        rw [a2]
        constructor
        · intro hh q' hq' he
          rcases List.mem_append.1 hq' with h1 | h1
          · exact hh q' h1 he
          · rw [List.mem_singleton.1 h1, e1] at he; exact absurd he (by simp)
        · intro hh q' hq' he; exact hh q' (List.mem_append_left _ hq') he
      · intro s
        show s ∈ r.es ++ q.l ↔ _
        rw [List.mem_append, h.es]
        constructor
        · rintro (⟨q', a1, a2⟩ | a1)
          · exact ⟨q', List.mem_append_left _ a1, a2⟩
          · exact ⟨q, by simp, e2, a1⟩
        · rintro ⟨q', a1, a2, a3⟩
          rcases List.mem_append.1 a1 with h1 | h1
          · exact .inl ⟨q', h1, a2, a3⟩
          · rw [List.mem_singleton.1 h1] at a3; exact .inr a3
    · have e1 : q.isEq = false := by simp [Pq.isEq]; omega
      have e2 : q.isNe = false := by simp [Pq.isNe]; omega
      have hv : ∀ r' : RS, r'.vs = r.vs → (r'.vs = none ↔ ∀ q' ∈ G ++ [q], q'.isEq = false) := by
        intro r' hr
        rw [hr, h.vn]
        constructor
        · intro hh q' hq'
          rcases List.mem_append.1 hq' with h1 | h1
          · exact hh q' h1
          · rw [List.mem_singleton.1 h1]; exact e1
        · intro hh q' hq'; exact hh q' (List.mem_append_left _ hq')
      have hw : ∀ r' : RS, r'.vs = r.vs → ∀ l, r'.vs = some l → Strict l ∧ ∀ s, s ∈ l ↔ ∀ q' ∈ G ++ [q], q'.isEq = true → s ∈ q'.l := by
        intro r' hr l hl
        rw [hr] at hl
        obtain ⟨a1, a2⟩ := h.vs l hl
        refine ⟨a1, fun s => ?_⟩
        rw [a2]
        constructor
        · intro hh q' hq' he
          rcases List.mem_append.1 hq' with h1 | h1
          · exact hh q' h1 he
          · rw [List.mem_singleton.1 h1, e1] at he; exact absurd he (by simp)
        · intro hh q' hq' he; exact hh q' (List.mem_append_left _ hq') he
      have he : ∀ r' : RS, r'.es = r.es → ∀ s, s ∈ r'.es ↔ ∃ q' ∈ G ++ [q], q'.isNe = true ∧ s ∈ q'.l := by
        intro r' hr s
        rw [hr, h.es]; simp [e2]
      by_cases h4 : q.op = 4
      · have e3 : q.isTh = true := by simp [Pq.isTh]; omega
        have e4 : q.isAb = false := by simp [Pq.isAb]; omega
        have hs : r.step q.op q.l = { r with th := true } := by unfold RS.step; rw [if_neg h02, if_neg h13, if_pos h4]
        rw [hs]
        refine ⟨by simp [e3], ?_, hv _ rfl, hw _ rfl, he _ rfl⟩
        show r.ab = true ↔ _
        rw [h.ab]; simp [e4]
      · have e3 : q.isTh = false := by simp [Pq.isTh]; omega
        have e4 : q.isAb = true := by simp [Pq.isAb]; omega
        have hs : r.step q.op q.l = { r with ab := true } := by unfold RS.step; rw [if_neg h02, if_neg h13, if_neg h4]
        rw [hs]
        refine ⟨?_, by simp [e4], hv _ rfl, hw _ rfl, he _ rfl⟩
        show r.th = true ↔ _
        rw [h.th]; simp [e3]

theorem RSOk.sorted {G : List Pq} {r : RS} (h : RSOk G r) : RSOk G { r with es := sortC r.es } :=
  ⟨h.th, h.ab, h.vn, h.vs, fun s => by rw [(sortC_law r.es).2]; exact h.es s⟩

theorem RSOk.same {G G' : List Pq} {r : RS} (h : RSOk G r) (hm : ∀ q, q ∈ G ↔ q ∈ G') : RSOk G' r := by
  refine ⟨?_, ?_, ?_, fun l hl => ⟨(h.vs l hl).1, fun s => ?_⟩, fun s => ?_⟩
  · rw [h.th]; exact ⟨fun ⟨q, a, b⟩ => ⟨q, (hm q).1 a, b⟩, fun ⟨q, a, b⟩ => ⟨q, (hm q).2 a, b⟩⟩
  · rw [h.ab]; exact ⟨fun ⟨q, a, b⟩ => ⟨q, (hm q).1 a, b⟩, fun ⟨q, a, b⟩ => ⟨q, (hm q).2 a, b⟩⟩
  · rw [h.vn]; exact ⟨fun hh q a => hh q ((hm q).2 a), fun hh q a => hh q ((hm q).1 a)⟩
  · rw [(h.vs l hl).2]; exact ⟨fun hh q a => hh q ((hm q).2 a), fun hh q a => hh q ((hm q).1 a)⟩
  · rw [h.es]; exact ⟨fun ⟨q, a, b⟩ => ⟨q, (hm q).1 a, b⟩, fun ⟨q, a, b⟩ => ⟨q, (hm q).2 a, b⟩⟩

theorem RSOk.unique {G : List Pq} {r r' : RS} (h : RSOk G r) (h' : RSOk G r') (s : Strict r.es) (s' : Strict r'.es) : r = r' := by
  have e1 : r.th = r'.th := Bool.eq_iff_iff.2 (h.th.trans h'.th.symm)
  have e2 : r.ab = r'.ab := Bool.eq_iff_iff.2 (h.ab.trans h'.ab.symm)
  have e3 : r.vs = r'.vs := by
    cases hv : r.vs with
    | none => rw [h'.vn.2 (h.vn.1 hv)]
    | some l =>
      cases hv' : r'.vs with
      | none => rw [h.vn.2 (h'.vn.1 hv')] at hv; exact absurd hv (by simp)
      | some l' =>
        obtain ⟨a1, a2⟩ := h.vs l hv
        obtain ⟨b1, b2⟩ := h'.vs l' hv'
        rw [strict_unique a1 b1 fun s => (a2 s).trans (b2 s).symm]
  have e4 : r.es = r'.es := strict_unique s s' fun x => (h.es x).trans (h'.es x).symm
  cases r; cases r'; simp_all

/-- The requirements on one key. -/
def onKey (P : List Pq) (k : Str) : List Pq := P.filter fun q => decide (q.key = k)

/-- What the requirements on k ask, taken together. -/
def rsOf (P : List Pq) (k : Str) : RS :=
  let r := (onKey P k).foldl (fun r q => r.step q.op q.l) RS.init
  { r with es := sortC r.es }

theorem fold_ok : ∀ (G G0 : List Pq) (r : RS), RSOk G0 r → (∀ q ∈ G, q.Fit) → RSOk (G0 ++ G) (G.foldl (fun r q => r.step q.op q.l) r)
  | [], G0, r, h, _ => by simpa using h
  | q :: G, G0, r, h, hf => by
    have := fold_ok G (G0 ++ [q]) _ (h.step q (hf q (by simp))) (fun q' hq' => hf q' (by simp [hq']))
    simpa using this

theorem rsOf_ok (P : List Pq) (k : Str) (hf : ∀ q ∈ P, q.Fit) : RSOk (onKey P k) (rsOf P k) := by
  have := (fold_ok (onKey P k) [] RS.init RSOk.init (fun q hq => hf q (List.mem_filter.1 hq).1)).sorted
  rw [List.nil_append] at this
  exact this

theorem rsOf_strict (P : List Pq) (k : Str) : Strict (rsOf P k).es := (sortC_law _).1

end Go.Proofs.Qxb6605201a.Rul
