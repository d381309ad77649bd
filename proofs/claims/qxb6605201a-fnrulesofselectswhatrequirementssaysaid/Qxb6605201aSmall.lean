import Derived.Test.Qxb6605201aRulesOf
namespace Go.Proofs.Qxb6605201a.Rul
open Go.RowKit Go.Sort Go.Lib

/-- The slice v holds the strings l, wherever it lies. -/
def Strs (w : World) (v : Value) (l : List Str) : Prop := ∃ a c, v = .slice a l.length c ∧ (l = [] ∨ ∃ b off, a = some ⟨b, off, none⟩ ∧ b < w.heap.size ∧ ∀ j (hj : j < l.length), w.cell? ⟨b, off + j, none⟩ = some (encStr l[j]))

theorem OwnS.strs {B : Nat} {w : World} {v : Value} {l : List Str} (h : OwnS B w v l) : Strs w v l := by
  rcases h.cases with ⟨rfl, rfl⟩ | ⟨g, c, rfl, _, hlt, _, hH⟩
  · exact ⟨none, 0, rfl, .inl rfl⟩
  · refine ⟨_, c, rfl, .inr ⟨g, 0, rfl, hlt, fun j hj => ?_⟩⟩
    rw [(hH j (by simpa using hj)).1, get_list l j hj]

theorem Strs.below {w w' : World} {v : Value} {l : List Str} (h : Strs w v l) (hb : Below w.heap.size w w') : Strs w' v l := by
  obtain ⟨a, c, rfl, h1 | ⟨b, off, rfl, hlt, hc⟩⟩ := h
  · exact ⟨a, c, rfl, .inl h1⟩
  · exact ⟨_, c, rfl, .inr ⟨b, off, rfl, Nat.lt_of_lt_of_le hlt hb.size, fun j hj => (World.cell?_of_block (a := ⟨b, off + j, none⟩) (hb.block b hlt)).trans (hc j hj)⟩⟩

set_option maxHeartbeats 1000000 in
/-- containsStr. -/
theorem contains28 (v : Value) (l : List Str) (x : Str) (w : World) (h : Strs w v l) (hm : l.length ≤ 4611686018427387904) :
    Calls Try.prog 28 #[v, encStr x] w fun e w' => e = .returned (.bool (decide (x ∈ l))) ∧ w = w' := by
  obtain ⟨a, c, rfl, h1⟩ := h
  obtain ⟨r, hr⟩ : ∃ r, decide (x ∈ l) = r := ⟨_, rfl⟩
  rw [hr]
  have HRR : Hid (decide (x ∈ l) = r) := hr
  clear hr
  have HH : Hid (l = [] ∨ ∃ b off, a = some ⟨b, off, none⟩ ∧ b < w.heap.size ∧ ∀ j (hj : j < l.length), w.cell? ⟨b, off + j, none⟩ = some (encStr l[j])) := h1
  clear h1
  go_enter Try.func28, Try.ntmps28
  go_wp2
  go_loopw [8] (fun i wr => ∃ k : Nat, k ≤ l.length ∧ i = .int .i64 k ∧ wr = w ∧ Hid (x ∉ l.take k)) (fun i _ => l.length - (intOf i).toNat)
  case atStart => exact ⟨0, Nat.zero_le _, rfl, rfl, by simp [Hid]⟩
  case round =>
    obtain ⟨k, hk, rfl, rfl, HN⟩ := hrel
    by_cases hlt : k < l.length
    · rcases HH.out with h0 | ⟨b, off, rfl, hb, hc⟩
      · subst h0; exact absurd hlt (by simp)
      · have c0 := hc k hlt
        clear hc
        have i1 : (0 : Int) ≤ (k : Int) := by omega
        have i2 : (k : Int) < (l.length : Int) := by omega
        by_cases hx : l[k] = x
        · obtain rfl : r = true := by rw [← HRR.out]; exact decide_eq_true (hx ▸ List.getElem_mem hlt)
          rw [hx] at c0
          clear hx
          go_wp2
          go_ret
          exact ⟨rfl, rfl⟩
        · have hb0 : (l[k] == x) = false := beq_false_of_ne hx
          have HN2 : Hid (x ∉ l.take (k + 1)) := by
            intro e
            rw [List.take_succ_eq_append_getElem hlt] at e
            rcases List.mem_append.1 e with e | e
            · exact HN.out e
            · exact hx (List.mem_singleton.1 e).symm
          clear hx
          generalize l[k] = y at *
          go_wp2
          go_roundw
          case rel => exact ⟨k + 1, by omega, by go_num, trivial, HN2⟩
          case measure => simp [intOf]; omega
    · obtain rfl : k = l.length := by omega
      obtain rfl : r = false := by rw [← HRR.out]; exact decide_eq_false (by have := HN.out; rwa [List.take_length] at this)
      go_wp2
      go_ret
      exact ⟨rfl, rfl⟩

end Go.Proofs.Qxb6605201a.Rul
