import Derived.Test.Qxb6605201aSmall
namespace Go.Proofs.Qxb6605201a.Rul
open Go.RowKit Go.Sort Go.Lib

/-- A bool with a property, as an ending. -/
def RetB (e : Ending) (p : Bool → Prop) : Prop := ∃ r, e = .returned (.bool r) ∧ p r
theorem retB {r : Bool} {p : Bool → Prop} (h : p r) : RetB (.returned (.bool r)) p := ⟨r, rfl, h⟩

/-- The law's own requirements, wherever they lie. -/
def IsReqs (w : World) (a : Option Addr) (Q : List Rq) : Prop := Q = [] ∨ ∃ b off, a = some ⟨b, off, none⟩ ∧ b < w.heap.size ∧ ∀ j q, Q[j]? = some q →
  w.cell? ⟨b, off + j * 3, none⟩ = some (encStr q.key) ∧ w.cell? ⟨b, off + j * 3 + 1, none⟩ = some (.int .i64 q.op) ∧ w.cell? ⟨b, off + j * 3 + 2, none⟩ = some q.v ∧ Strs w q.v q.l

theorem IsReqs.at {w : World} {a : Option Addr} {Q : List Rq} (h : IsReqs w a Q) {k : Nat} (hk : k < Q.length) : ∃ b off, a = some ⟨b, off, none⟩ ∧
    w.cell? ⟨b, off + k * 3, none⟩ = some (encStr Q[k].key) ∧ w.cell? ⟨b, off + k * 3 + 1, none⟩ = some (.int .i64 Q[k].op) ∧ w.cell? ⟨b, off + k * 3 + 2, none⟩ = some Q[k].v ∧ Strs w Q[k].v Q[k].l := by
  rcases h with rfl | ⟨b, off, ha, _, h⟩
  · simp at hk
  · exact ⟨b, off, ha, h k _ (List.getElem?_eq_getElem hk)⟩

theorem IsReqs.below {w w' : World} {a : Option Addr} {Q : List Rq} (h : IsReqs w a Q) (hb : Below w.heap.size w w') : IsReqs w' a Q := by
  rcases h with h | ⟨b, off, ha, hlt, hc⟩
  · exact .inl h
  · refine .inr ⟨b, off, ha, Nat.lt_of_lt_of_le hlt hb.size, fun j q hq => ?_⟩
    obtain ⟨h1, h2, h3, h4⟩ := hc j q hq
    exact ⟨(hb.cell (p := ⟨b, off + j * 3, none⟩) hlt).trans h1, (hb.cell (p := ⟨b, off + j * 3 + 1, none⟩) hlt).trans h2, (hb.cell (p := ⟨b, off + j * 3 + 2, none⟩) hlt).trans h3, h4.below hb⟩

/-- The slice's address and capacity, and where its strings lie. -/
theorem Strs.at {w : World} {v : Value} {l : List Str} (h : Strs w v l) : ∃ a c, v = .slice a l.length c ∧ ∀ j (hj : j < l.length), ∃ b off, a = some ⟨b, off, none⟩ ∧ w.cell? ⟨b, off + j, none⟩ = some (encStr l[j]) := by
  obtain ⟨a, c, rfl, h1 | ⟨b, off, rfl, hlt, hc⟩⟩ := h
  · exact ⟨a, c, rfl, fun j hj => by rw [h1] at hj; simp at hj⟩
  · exact ⟨_, c, rfl, fun j hj => ⟨b, off, rfl, hc j hj⟩⟩

set_option maxRecDepth 100000 in
set_option maxHeartbeats 1000000 in
theorem zzBytes6 (a : Option Addr) (cap : Nat) (Q : List Rq) (w : World) (hs : IsReqs w a Q) (hm : Q.length ≤ 9223372036854775807) :
    Calls Try.prog 6 #[.slice a Q.length cap] w fun e w' => RetB e (fun _ => True) ∧ w = w' := by
  have HS : Hid (IsReqs w a Q) := hs
  clear hs
  go_enter Try.func6, Try.ntmps6
  go_wp2
  all_goals try (go_ret; exact ⟨retB trivial, rfl⟩)
  go_loop [3, 4] (fun n i => ∃ (z : Nat) (k : Nat), z ≤ 1048576 ∧ k ≤ Q.length ∧ i = .int .i64 k ∧ n = .int .i64 z) (fun _ i => Q.length - (intOf i).toNat)
  case atStart => exact ⟨Q.length, 0, by omega, Nat.zero_le _, rfl, by go_num⟩
  case round =>
    obtain ⟨z, k, hz, hk, rfl, rfl⟩ := hrel
    by_cases hlt : k < Q.length
    · obtain ⟨b, off, rfl, c0, c1, c2, hst⟩ := HS.out.at hlt
      obtain ⟨av, cv, hv, hst⟩ := hst.at
      rw [hv] at c2
      have HST : Hid (∀ j (hj : j < Q[k].l.length), ∃ b off, av = some ⟨b, off, none⟩ ∧ w.cell? ⟨b, off + j, none⟩ = some (encStr Q[k].l[j])) := hst
      clear hv hst HS c1
      generalize Q[k].l = l at *
      generalize Q[k].key = x at *
      go_wp2
      all_goals try (go_ret; exact ⟨retB trivial, rfl⟩)
      go_loop [3, 5] (fun n i => ∃ (z : Nat) (j : Nat), z ≤ 1048576 ∧ j ≤ l.length ∧ i = .int .i64 j ∧ n = .int .i64 z) (fun _ i => l.length - (intOf i).toNat)
      case atStart => exact ⟨z + x.length + l.length, 0, by omega, Nat.zero_le _, rfl, by go_num⟩
      case round =>
        obtain ⟨z', j, hz', hj, rfl, rfl⟩ := hrel
        by_cases hjl : j < l.length
        · obtain ⟨b', off', rfl, cj⟩ := HST.out j hjl
          generalize l[j] = y at *
          go_wp2
          all_goals try (go_ret; exact ⟨retB trivial, rfl⟩)
          go_round
          case rel => exact ⟨z' + y.length, j + 1, by omega, by omega, by go_num, by go_num⟩
          case measure => simp [intOf]; omega
        · go_wp2
          go_round
          case rel => exact ⟨z', k + 1, by omega, by omega, by go_num, by go_num⟩
          case measure => simp [intOf]; omega
    · go_wp2
      go_ret
      exact ⟨retB trivial, rfl⟩

/-- The documented domain, as the law checks it. -/
def Pq.Fit1 (q : Pq) : Prop := (q.op = 0 ∧ q.l.length = 1) ∨ (q.op = 1 ∧ q.l.length = 1) ∨ (q.op = 2 ∧ 0 < q.l.length) ∨ (q.op = 3 ∧ 0 < q.l.length) ∨ (q.op = 4 ∧ q.l.length = 0) ∨ (q.op = 5 ∧ q.l.length = 0)

theorem Pq.Fit1.fit {q : Pq} (h : q.Fit1) : q.Fit := by
  have hl : q.l = [] → q.l.length = 0 := fun h => by rw [h]; rfl
  refine ⟨?_, ?_, fun h1 h2 => ?_⟩
  · rcases h with h | h | h | h | h | h <;> omega
  · rcases h with h | h | h | h | h | h <;> omega
  · have := hl h2
    rcases h with h | h | h | h | h | h <;> omega

def sumL (Q : List Rq) : Nat := (Q.map fun q => q.l.length).sum
theorem sumL_take {Q : List Rq} {k : Nat} (h : k < Q.length) : sumL (Q.take (k + 1)) = sumL (Q.take k) + Q[k].l.length := by
  unfold sumL
  rw [List.take_succ_eq_append_getElem h, List.map_append]
  simp

/-- What reqsFit says yes to, of the first k. -/
def FitTo (Q : List Rq) (k : Nat) : Prop := sumL (Q.take k) ≤ 4096 ∧ ∀ q ∈ Q.take k, q.p.Fit1
theorem FitTo.next {Q : List Rq} {k : Nat} (h : FitTo Q k) (hk : k < Q.length) (hs : sumL (Q.take k) + Q[k].l.length ≤ 4096) (hf : Q[k].p.Fit1) : FitTo Q (k + 1) := by
  refine ⟨by rw [sumL_take hk]; exact hs, fun q hq => ?_⟩
  rw [List.take_succ_eq_append_getElem hk] at hq
  rcases List.mem_append.1 hq with h1 | h1
  · exact h.2 q h1
  · rw [List.mem_singleton.1 h1]; exact hf

set_option maxRecDepth 100000 in
set_option maxHeartbeats 4000000 in
theorem reqsFit7 (a : Option Addr) (cap : Nat) (Q : List Rq) (w : World) (hs : IsReqs w a Q) (hm : Q.length ≤ 9223372036854775807) :
    Calls Try.prog 7 #[.slice a Q.length cap] w fun e w' => RetB e (fun r => r = true → Q.length ≤ 4096 ∧ FitTo Q Q.length) ∧ w = w' := by
  have HS : Hid (IsReqs w a Q) := hs
  clear hs
  go_enter Try.func7, Try.ntmps7
  go_wp2
  all_goals try (go_ret; exact ⟨retB (fun h => by cases h), rfl⟩)
  go_loop [3, 4, 12] (fun n c i => ∃ (z s : Nat) (k : Nat), z ≤ 1048576 ∧ s ≤ 4096 ∧ k ≤ Q.length ∧ i = .int .i64 k ∧ n = .int .i64 z ∧ c = .int .i64 s ∧ Hid (s = sumL (Q.take k) ∧ FitTo Q k)) (fun _ _ i => Q.length - (intOf i).toNat)
  case atStart => exact ⟨0, 0, 0, by omega, by omega, Nat.zero_le _, rfl, rfl, rfl, rfl, Nat.zero_le _, fun q hq => by simp at hq⟩
  case round =>
    obtain ⟨z, s, k, hz, hs, hk, rfl, rfl, rfl, HF⟩ := hrel
    by_cases hlt : k < Q.length
    · obtain ⟨b, off, rfl, c0, c1, c2, hst⟩ := HS.out.at hlt
      obtain ⟨av, cv, hv, hst⟩ := hst.at
      rw [hv] at c2
      have HST : Hid (∀ j (hj : j < Q[k].l.length), ∃ b off, av = some ⟨b, off, none⟩ ∧ w.cell? ⟨b, off + j, none⟩ = some (encStr Q[k].l[j])) := hst
      have HN : Hid (s + Q[k].l.length ≤ 4096 → Q[k].p.Fit1 → s + Q[k].l.length = sumL (Q.take (k + 1)) ∧ FitTo Q (k + 1)) := fun h1 h2 => ⟨by rw [sumL_take hlt, ← HF.out.1], HF.out.2.next hlt (by rw [← HF.out.1]; exact h1) h2⟩
      have HQ : Hid (Q[k].p.Fit1 ↔ (Q[k].op = 0 ∧ Q[k].l.length = 1) ∨ (Q[k].op = 1 ∧ Q[k].l.length = 1) ∨ (Q[k].op = 2 ∧ 0 < Q[k].l.length) ∨ (Q[k].op = 3 ∧ 0 < Q[k].l.length) ∨ (Q[k].op = 4 ∧ Q[k].l.length = 0) ∨ (Q[k].op = 5 ∧ Q[k].l.length = 0)) := Iff.rfl
      clear hv hst HS HF
      generalize Q[k].p.Fit1 = pf at *
      generalize Q[k].l = l at *
      generalize Q[k].key = x at *
      generalize Q[k].op = op at *
      by_cases q1 : 1048576 < x.length
      · have d1 : decide ((1048576 : Int) < (x.length : Int)) = true := by simp; omega
        go_wp2
        go_ret
        exact ⟨retB (fun h => by cases h), rfl⟩
      have d1 : decide ((1048576 : Int) < (x.length : Int)) = false := by simp; omega
      by_cases q2 : 4096 < l.length
      · have d2 : decide ((4096 : Int) < (l.length : Int)) = true := by simp; omega
        go_wp2
        go_ret
        exact ⟨retB (fun h => by cases h), rfl⟩
      have d2 : decide ((4096 : Int) < (l.length : Int)) = false := by simp; omega
      by_cases q3 : 1048576 < z + (x.length + 48)
      · have d3 : decide ((1048576 : Int) < (z : Int) + ((x.length : Int) + 48)) = true := by simp; omega
        go_wp2
        go_ret
        exact ⟨retB (fun h => by cases h), rfl⟩
      have d3 : decide ((1048576 : Int) < (z : Int) + ((x.length : Int) + 48)) = false := by simp; omega
      by_cases q4 : 4096 < s + l.length
      · have d4 : decide ((4096 : Int) < (s : Int) + (l.length : Int)) = true := by simp; omega
        go_wp2
        go_ret
        exact ⟨retB (fun h => by cases h), rfl⟩
      have d4 : decide ((4096 : Int) < (s : Int) + (l.length : Int)) = false := by simp; omega
      go_wp2
      go_loop [3, 60] (fun n i => ∃ (z : Nat) (j : Nat), z ≤ 1048576 ∧ j ≤ l.length ∧ i = .int .i64 j ∧ n = .int .i64 z) (fun _ i => l.length - (intOf i).toNat)
      case atStart => exact ⟨z + (x.length + 48), 0, by omega, Nat.zero_le _, rfl, by go_num⟩
      case round =>
        obtain ⟨z', j, hz', hj, rfl, rfl⟩ := hrel
        by_cases hjl : j < l.length
        · obtain ⟨b', off', rfl, cj⟩ := HST.out j hjl
          generalize l[j] = y at *
          by_cases q5 : 1048576 < y.length
          · have d5 : decide ((1048576 : Int) < (y.length : Int)) = true := by simp; omega
            go_wp2
            go_ret
            exact ⟨retB (fun h => by cases h), rfl⟩
          have d5 : decide ((1048576 : Int) < (y.length : Int)) = false := by simp; omega
          by_cases q6 : 1048576 < z' + (y.length + 16)
          · have d6 : decide ((1048576 : Int) < (z' : Int) + ((y.length : Int) + 16)) = true := by simp; omega
            go_wp2
            go_ret
            exact ⟨retB (fun h => by cases h), rfl⟩
          have d6 : decide ((1048576 : Int) < (z' : Int) + ((y.length : Int) + 16)) = false := by simp; omega
          go_wp2
          go_round
          case rel => exact ⟨z' + (y.length + 16), j + 1, by omega, by omega, by go_num, by go_num⟩
          case measure => simp [intOf]; omega
        · clear d1 d2 d3 d4 q1 q2 q3 HST hj
          have hs4 : s + l.length ≤ 4096 := by omega
          clear q4
          have g5 : ∀ m : Int, op ≠ m → (op == m) = false := fun m h => beq_false_of_ne h
          generalize hn : l.length = n at *
          clear hn
          by_cases o0 : op = 0
          · subst o0
            clear g5
            by_cases hl : n = 1
            · subst hl
              go_wp2
              go_round
              case rel => exact ⟨z', s + 1, k + 1, by omega, by omega, by omega, by go_num, rfl, by go_num, HN.out hs4 (HQ.out.2 (by omega))⟩
              case measure => simp [intOf]; omega
            · have e1 : ((n : Int) == 1) = false := beq_false_of_ne (by omega)
              go_wp2
              go_ret
              exact ⟨retB (fun h => by cases h), rfl⟩
          have e0 := g5 0 o0
          by_cases o1 : op = 1
          · subst o1
            clear g5 e0
            by_cases hl : n = 1
            · subst hl
              go_wp2
              go_round
              case rel => exact ⟨z', s + 1, k + 1, by omega, by omega, by omega, by go_num, rfl, by go_num, HN.out hs4 (HQ.out.2 (by omega))⟩
              case measure => simp [intOf]; omega
            · have e1 : ((n : Int) == 1) = false := beq_false_of_ne (by omega)
              go_wp2
              go_ret
              exact ⟨retB (fun h => by cases h), rfl⟩
          have e1 := g5 1 o1
          by_cases o2 : op = 2
          · subst o2
            clear g5 e0 e1
            by_cases hl : n = 0
            · subst hl
              go_wp2
              go_ret
              exact ⟨retB (fun h => by cases h), rfl⟩
            · have e9 : ((n : Int) == 0) = false := beq_false_of_ne (by omega)
              go_wp2
              go_round
              case rel => exact ⟨z', s + n, k + 1, by omega, by omega, by omega, by go_num, rfl, by go_num, HN.out hs4 (HQ.out.2 (by omega))⟩
              case measure => simp [intOf]; omega
          have e2 := g5 2 o2
          by_cases o3 : op = 3
          · subst o3
            clear g5 e0 e1 e2
            by_cases hl : n = 0
            · subst hl
              go_wp2
              go_ret
              exact ⟨retB (fun h => by cases h), rfl⟩
            · have e9 : ((n : Int) == 0) = false := beq_false_of_ne (by omega)
              go_wp2
              go_round
              case rel => exact ⟨z', s + n, k + 1, by omega, by omega, by omega, by go_num, rfl, by go_num, HN.out hs4 (HQ.out.2 (by omega))⟩
              case measure => simp [intOf]; omega
          have e3 := g5 3 o3
          by_cases o4 : op = 4
          · subst o4
            clear g5 e0 e1 e2 e3
            by_cases hl : n = 0
            · subst hl
              go_wp2
              go_round
              case rel => exact ⟨z', s, k + 1, by omega, by omega, by omega, by go_num, rfl, by go_num, HN.out hs4 (HQ.out.2 (by omega))⟩
              case measure => simp [intOf]; omega
            · have e9 : ((n : Int) == 0) = false := beq_false_of_ne (by omega)
              go_wp2
              go_ret
              exact ⟨retB (fun h => by cases h), rfl⟩
          have e4 := g5 4 o4
          by_cases o5 : op = 5
          · subst o5
            clear g5 e0 e1 e2 e3 e4
            by_cases hl : n = 0
            · subst hl
              go_wp2
              go_round
              case rel => exact ⟨z', s, k + 1, by omega, by omega, by omega, by go_num, rfl, by go_num, HN.out hs4 (HQ.out.2 (by omega))⟩
              case measure => simp [intOf]; omega
            · have e9 : ((n : Int) == 0) = false := beq_false_of_ne (by omega)
              go_wp2
              go_ret
              exact ⟨retB (fun h => by cases h), rfl⟩
          have e5 := g5 5 o5
          clear g5
          go_wp2
          go_ret
          exact ⟨retB (fun h => by cases h), rfl⟩
    · obtain rfl : k = Q.length := by omega
      go_wp2
      go_ret
      exact ⟨retB (fun _ => ⟨by omega, HF.out.2⟩), rfl⟩

end Go.Proofs.Qxb6605201a.Rul
