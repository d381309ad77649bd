import Derived.Test.Qxb6605201aRPre
import Derived.StringKeys
import Derived.Maps.RangeRun
namespace Go.Proofs.Qxb6605201a.Rul
open Go.RowKit Go.Sort Go.Lib Go.MapKept

/-- What the labels say of a key. -/
def labOf (ls : List (Str × Str)) (k : Str) : Option Str := (ls.find? fun p => decide (p.1 = k)).map fun p => p.2

/-- A map of strings by strings, in block b. -/
structure LabAt (w : World) (b : Nat) (es : Array MapEntry) (clock : Nat) (ls : List (Str × Str)) : Prop where
  hb : w.heap[b]? = some (.map es clock)
  st : Stamped es clock
  kv : es.toList.map (fun e => (e.key, e.val)) = ls.map fun p => (encStr p.1, encStr p.2)

theorem encStr_inj {a b : Str} (h : encStr a = encStr b) : a = b := by
  have : (⟨a.toArray⟩ : ByteArray) = ⟨b.toArray⟩ := by
    simp only [encStr, Value.string.injEq] at h
    exact h
  exact mk_inj.1 this

theorem LabAt.lt {w : World} {b : Nat} {es : Array MapEntry} {clock : Nat} {ls : List (Str × Str)} (h : LabAt w b es clock ls) : b < w.heap.size := by
  have h2 := h.hb
  rcases Nat.lt_or_ge b w.heap.size with h1 | h1
  · exact h1
  · rw [Array.getElem?_eq_none h1] at h2; cases h2
theorem LabAt.kept {w w' : World} {b : Nat} {es : Array MapEntry} {clock : Nat} {ls : List (Str × Str)} (h : LabAt w b es clock ls) (hb : w'.heap[b]? = w.heap[b]?) : LabAt w' b es clock ls := ⟨hb.trans h.hb, h.st, h.kv⟩
theorem LabAt.len {w : World} {b : Nat} {es : Array MapEntry} {clock : Nat} {ls : List (Str × Str)} (h : LabAt w b es clock ls) : es.size = ls.length := by
  have := congrArg List.length h.kv
  simpa using this
theorem LabAt.get {w : World} {b : Nat} {es : Array MapEntry} {clock : Nat} {ls : List (Str × Str)} (h : LabAt w b es clock ls) {j : Nat} {e : MapEntry} (he : es.toList[j]? = some e) : ∃ p, ls[j]? = some p ∧ e.key = encStr p.1 ∧ e.val = encStr p.2 := by
  have h1 : (es.toList.map (fun e => (e.key, e.val)))[j]? = some (e.key, e.val) := by rw [List.getElem?_map, he]; rfl
  rw [h.kv, List.getElem?_map] at h1
  cases hp : ls[j]? with
  | none => rw [hp] at h1; cases h1
  | some p =>
    rw [hp] at h1
    simp at h1
    exact ⟨p, rfl, h1.1.symm, h1.2.symm⟩
theorem LabAt.keys {w : World} {b : Nat} {es : Array MapEntry} {clock : Nat} {ls : List (Str × Str)} (h : LabAt w b es clock ls) : (ls.map fun p => p.1).Nodup := by
  have h1 := h.st.2.2
  have h2 : es.toList.map (fun e => e.key) = (ls.map fun p => p.1).map encStr := by
    have := congrArg (List.map Prod.fst) h.kv
    rw [List.map_map, List.map_map] at this
    rw [List.map_map]; exact this
  rw [show es.toList.map (·.key) = es.toList.map (fun e => e.key) from rfl, h2] at h1
  exact List.Pairwise.of_map encStr (fun a b hab e => hab (by rw [e])) h1

theorem labOf_some {ls : List (Str × Str)} (hn : (ls.map fun p => p.1).Nodup) {k v : Str} : labOf ls k = some v ↔ (k, v) ∈ ls := by
  induction ls with
  | nil => simp [labOf]
  | cons p ls ih =>
    rw [List.map_cons, List.nodup_cons] at hn
    have ih := ih hn.2
    unfold labOf at ih ⊢
    rw [List.find?_cons]
    by_cases hp : p.1 = k
    · rw [decide_eq_true hp]
      simp only [Option.map_some, Option.some.injEq, List.mem_cons]
      constructor
      · intro h; left; rw [← hp, ← h]
      · rintro (h | h)
        · rw [← h]
        · exact absurd (List.mem_map.2 ⟨(k, v), h, rfl⟩) (by rw [← hp]; exact hn.1)
    · rw [decide_eq_false hp]
      simp only [List.mem_cons]
      rw [ih]
      constructor
      · exact .inr
      · rintro (h | h)
        · exact absurd (by rw [← h]) hp
        · exact h

theorem labOf_none {ls : List (Str × Str)} {k : Str} (h : ∀ p ∈ ls, p.1 ≠ k) : labOf ls k = none := by
  unfold labOf
  rw [List.find?_eq_none.2 fun p hp => by simpa using h p hp]; rfl


/-- labels[k]. -/
theorem look_at {w : World} {b : Nat} {es : Array MapEntry} {clock : Nat} {ls : List (Str × Str)} (h : LabAt w b es clock ls) (k : Str) :
    (Instr.lookup 40 (.map (some b)) (encStr k) true).run Try.prog w = .ok (.tuple #[encStr ((labOf ls k).getD []), .bool (labOf ls k).isSome]) w := by
  have hk : IsKey .string (encStr k) := trivial
  have hks : ∀ x ∈ es.toList, IsKey .string x.key := fun x hx => by
    obtain ⟨j, hj, e⟩ := List.mem_iff_getElem.1 hx
    obtain ⟨p, _, e1, _⟩ := h.get (j := j) (e := x) (by rw [List.getElem?_eq_getElem hj, e])
    rw [e1]; trivial
  rcases findNow_spec (d := .string) (k := encStr k) hk es.toList 0 hks with ⟨h1, h2⟩ | ⟨j, e0, h1, h2, h3⟩
  · have hn : labOf ls k = none := labOf_none fun p hp e => by
      obtain ⟨j, hj, e2⟩ := List.mem_iff_getElem.1 hp
      have hje : j < es.toList.length := by have := h.len; simp; omega
      obtain ⟨p', hp', e3, _⟩ := h.get (j := j) (List.getElem?_eq_getElem hje)
      rw [List.getElem?_eq_getElem hj, e2] at hp'
      cases hp'
      exact h2 _ (List.getElem_mem hje) (by rw [e3, e])
    rw [hn]
    simp [Instr.lookup, run_underlying Try.underlying40, MapKept.run_getObj_map h.hb, run_checkKey Try.underlying9 hk es.isEmpty 9999, run_findKey Try.underlying9 h1, Result.andThen, encStr]
  · obtain ⟨p, hp, e1, e2⟩ := h.get h2
    have hpk : p.1 = k := encStr_inj (e1.symm.trans h3)
    have hs : labOf ls k = some p.2 := (labOf_some h.keys).2 (by rw [← hpk]; exact List.mem_of_getElem? hp)
    rw [hs]
    simp [Instr.lookup, run_underlying Try.underlying40, MapKept.run_getObj_map h.hb, run_checkKey Try.underlying9 hk es.isEmpty 9999, run_findKey Try.underlying9 h1, Result.andThen, e2]

theorem look_nil (w : World) (k : Str) : (Instr.lookup 40 (.map none) (encStr k) true).run Try.prog w = .ok (.tuple #[encStr [], .bool false]) w := by
  have hk : IsKey .string (encStr k) := trivial
  rcases findNow_spec (d := .string) (k := encStr k) hk [] 0 (by simp) with ⟨h1, h2⟩ | ⟨j, e0, h1, h2, h3⟩
  · simp [Instr.lookup, run_underlying Try.underlying40, run_checkKey Try.underlying9 hk true 9999, run_findKey Try.underlying9 h1, Result.andThen, encStr]
  · simp at h2

/-- The labels: nil, or a map in a block. -/
def Labels (w : World) (m : Value) (ls : List (Str × Str)) : Prop := (m = .map none ∧ ls = []) ∨ ∃ b es clock, m = .map (some b) ∧ LabAt w b es clock ls

theorem Labels.below {w w' : World} {m : Value} {ls : List (Str × Str)} (h : Labels w m ls) (hb : Below w.heap.size w w') : Labels w' m ls := by
  rcases h with h | ⟨b, es, clock, rfl, h⟩
  · exact .inl h
  · exact .inr ⟨b, es, clock, rfl, h.kept (hb.block b h.lt)⟩
theorem Labels.look {w : World} {m : Value} {ls : List (Str × Str)} (h : Labels w m ls) (k : Str) :
    (Instr.lookup 40 m (encStr k) true).run Try.prog w = .ok (.tuple #[encStr ((labOf ls k).getD []), .bool (labOf ls k).isSome]) w := by
  rcases h with ⟨rfl, rfl⟩ | ⟨b, es, clock, rfl, h⟩
  · exact look_nil w k
  · exact look_at h k
theorem Labels.nodup {w : World} {m : Value} {ls : List (Str × Str)} (h : Labels w m ls) : (ls.map fun p => p.1).Nodup := by
  rcases h with ⟨rfl, rfl⟩ | ⟨b, es, clock, rfl, h⟩
  · simp
  · exact h.keys
theorem Labels.lenRun {w : World} {m : Value} {ls : List (Str × Str)} (h : Labels w m ls) (ty : TypeId) : (Builtin.len_ #[40] ty #[m]).run Try.prog w = .ok (.int .i64 ls.length) w := by
  rcases h with ⟨rfl, rfl⟩ | ⟨b, es, clock, rfl, h⟩
  · simp [Builtin.len_, run_underlying Try.underlying40, goInt]
  · simp [Builtin.len_, run_underlying Try.underlying40, MapKept.run_getObj_map h.hb, goInt, h.len]

end Go.Proofs.Qxb6605201a.Rul
