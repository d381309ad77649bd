import Derived.Test.Qxb6605201aIn
namespace Go.Proofs.Qxb6605201a.Rul
open Go.RowKit Go.Sort Go.Lib

set_option maxHeartbeats 1000000 in
/-- sameStrings, at two slices that hold the same strings. -/
theorem same26 (v1 v2 : Value) (l : List Str) (w : World) (h1 : Strs w v1 l) (h2 : Strs w v2 l) (hm : l.length ≤ 4611686018427387904) :
    Calls Try.prog 26 #[v1, v2] w fun e w' => e = .returned (.bool true) ∧ ∃ q, w' = w.drewN q := by
  obtain ⟨a1, c1, rfl, k1⟩ := h1.at
  obtain ⟨a2, c2, rfl, k2⟩ := h2.at
  have H1 : Hid (∀ j (hj : j < l.length), ∃ b off, a1 = some ⟨b, off, none⟩ ∧ w.cell? ⟨b, off + j, none⟩ = some (encStr l[j])) := k1
  have H2 : Hid (∀ j (hj : j < l.length), ∃ b off, a2 = some ⟨b, off, none⟩ ∧ w.cell? ⟨b, off + j, none⟩ = some (encStr l[j])) := k2
  clear h1 h2 k1 k2
  go_enter Try.func26, Try.ntmps26
  go_wp2
  go_loopw [13] (fun i wr => ∃ (k q : Nat), k ≤ l.length ∧ i = .int .i64 k ∧ wr = w.drewN q) (fun i _ => l.length - (intOf i).toNat)
  case atStart => exact ⟨0, 0, Nat.zero_le _, rfl, rfl⟩
  case round =>
    obtain ⟨k, q, hk, rfl, hw⟩ := hrel
    have HW : Hid (wr = w.drewN q) := hw
    clear hw
    by_cases hlt : k < l.length
    · obtain ⟨b1, o1, rfl, x1⟩ := H1.out k hlt
      obtain ⟨b2, o2, rfl, x2⟩ := H2.out k hlt
      have y1 : wr.cell? ⟨b1, o1 + k, none⟩ = some (encStr l[k]) := by rw [HW.out]; exact x1
      have y2 : wr.cell? ⟨b2, o2 + k, none⟩ = some (encStr l[k]) := by rw [HW.out]; exact x2
      clear x1 x2
      have i1 : (0 : Int) ≤ (k : Int) := by omega
      have i2 : (k : Int) < (l.length : Int) := by omega
      generalize l[k] = y at *
      go_wp2_with fail
      go_quiet (fail)
      go_wp2
      go_roundw
      case rel => exact ⟨k + 1, q + nq, by omega, by go_num, by rw [HW.out, World.drewN_drewN]⟩
      case measure => simp [intOf]; omega
    · obtain rfl : k = l.length := by omega
      go_wp2
      go_ret
      exact ⟨rfl, q, HW.out⟩

theorem Try.size56 : (Try.prog.info? 56).map (fun i => i.size) = some 3 := by kernel_rfl
theorem Try.size35 : (Try.prog.info? 35).map (fun i => i.size) = some 5 := by kernel_rfl

/-- ZZMakeRequirement. -/
theorem make22 (k : Str) (op : Int) (v : Value) (w : World) (hv : ∃ a n c, v = .slice a n c) :
    Calls Try.prog 22 #[encStr k, .int .i64 op, v] w fun e w' => e = .returned (.agg #[encStr k, .int .i64 op, v]) ∧ Below w.heap.size w w' := by
  obtain ⟨a, n, c, rfl⟩ := hv
  go_enter Try.func22, Try.ntmps22
  go_wp2
  (try simp only [Exit.inBlock, Exit.then])
  refine bodyPost_ret (v := .agg #[encStr k, .int .i64 op, .slice a n c]) (results_cell_row rfl _ _ w.heap.size 56 #[encStr k, .int .i64 op, .slice a n c] (0, 0) _ rfl ?_ Try.underlying56 rfl Try.size56) rfl ⟨rfl, ?_⟩
  · exact heap_alloc_new w _
  · exact (Below.refl _ _).alloc (Nat.le_refl _) _

/-- Every equals or in requirement on key names x. -/
def NamedBy (Q : List Rq) (key x : Str) : Prop := ∀ q ∈ Q, q.key = key → q.p.isEq = true → x ∈ q.l

/-- What namedByEvery asks of one. -/
def Says (key x : Str) (q : Rq) : Prop := q.key = key → q.p.isEq = true → x ∈ q.l

theorem named_snoc {Q : List Rq} {key x : Str} {k : Nat} (h : NamedBy (Q.take k) key x) (hk : k < Q.length) (hs : Says key x Q[k]) : NamedBy (Q.take (k + 1)) key x := by
  intro q hq
  rw [List.take_succ_eq_append_getElem hk] at hq
  rcases List.mem_append.1 hq with h1 | h1
  · exact h q h1
  · rw [List.mem_singleton.1 h1]; exact hs

set_option maxRecDepth 100000 in
set_option maxHeartbeats 2000000 in
/-- namedByEvery. -/
theorem named24 (a : Option Addr) (cap : Nat) (Q : List Rq) (key x : Str) (w : World) (hs : IsReqs w a Q) (hm : Q.length ≤ 4096) (hl : ∀ q ∈ Q, q.l.length ≤ 4096) :
    Calls Try.prog 24 #[.slice a Q.length cap, encStr key, encStr x] w fun e w' => RetB e (fun r => r = true ↔ NamedBy Q key x) ∧ w = w' := by
  have HS : Hid (IsReqs w a Q) := hs
  have HL : Hid (∀ q ∈ Q, q.l.length ≤ 4096) := hl
  clear hs hl
  go_enter Try.func24, Try.ntmps24
  go_wp2
  go_loop [10] (fun i => ∃ k : Nat, k ≤ Q.length ∧ i = .int .i64 k ∧ Hid (NamedBy (Q.take k) key x)) (fun i => Q.length - (intOf i).toNat)
  case atStart => exact ⟨0, Nat.zero_le _, rfl, fun q hq => by simp at hq⟩
  case round =>
    obtain ⟨k, hk, rfl, HN⟩ := hrel
    by_cases hlt : k < Q.length
    · obtain ⟨b, off, rfl, c0, c1, c2, hst⟩ := HS.out.at hlt
      have HX : Hid (Says key x Q[k] → NamedBy (Q.take (k + 1)) key x) := named_snoc HN.out hlt
      have HY : Hid (¬ Says key x Q[k] → ¬ NamedBy Q key x) := fun h1 h2 => h1 (h2 _ (List.getElem_mem hlt))
      have hlk := HL.out _ (List.getElem_mem hlt)
      have hcon := contains28 Q[k].v Q[k].l x w hst (by omega)
      have HZ : Hid (Says key x Q[k] ↔ (Q[k].key = key → (Q[k].op = 0 ∨ Q[k].op = 2) → x ∈ Q[k].l)) := by
        show _ ↔ _
        unfold Says Pq.isEq Rq.p
        simp
      obtain ⟨av, cv, hv, _⟩ := hst.at
      rw [hv] at c2 hcon
      clear hst hv HS HN
      generalize Says key x Q[k] = sy at *
      generalize Q[k].l = l at *
      generalize Q[k].key = y at *
      generalize Q[k].op = op at *
      have g5 : ∀ m : Int, op ≠ m → (op == m) = false := fun m h => beq_false_of_ne h
      by_cases hky : y = key
      · subst hky
        by_cases hop : op = 0 ∨ op = 2
        · by_cases hx : x ∈ l
          · rw [decide_eq_true hx] at hcon
            have HR : Hid (NamedBy (Q.take (k + 1)) y x) := HX.out (HZ.out.2 fun _ _ => hx)
            clear hx
            rcases hop with rfl | rfl
            all_goals
              go_wp2_with (first | (go_at_call 28; refine hcon.mono ?_; rintro e w' ⟨rfl, rfl⟩))
              go_round
              case rel => exact ⟨k + 1, by omega, by go_num, HR⟩
              case measure => simp [intOf]; omega
          · rw [decide_eq_false hx] at hcon
            have HR : Hid (¬ NamedBy Q y x) := HY.out (fun h => hx (HZ.out.1 h rfl hop))
            clear hx
            rcases hop with rfl | rfl
            all_goals
              go_wp2_with (first | (go_at_call 28; refine hcon.mono ?_; rintro e w' ⟨rfl, rfl⟩))
              go_ret
              exact ⟨retB ⟨(fun h => by cases h), fun h => absurd h HR.out⟩, rfl⟩
        · have e0 := g5 0 (fun h => hop (.inl h))
          have e2 := g5 2 (fun h => hop (.inr h))
          have HR : Hid (NamedBy (Q.take (k + 1)) y x) := HX.out (HZ.out.2 fun _ h => absurd h hop)
          clear hcon hop
          go_wp2
          go_round
          case rel => exact ⟨k + 1, by omega, by go_num, HR⟩
          case measure => simp [intOf]; omega
      · have hb0 : (y == key) = false := beq_false_of_ne hky
        have HR : Hid (NamedBy (Q.take (k + 1)) key x) := HX.out (HZ.out.2 fun h => absurd h hky)
        clear hcon hky
        go_wp2
        go_round
        case rel => exact ⟨k + 1, by omega, by go_num, HR⟩
        case measure => simp [intOf]; omega
    · obtain rfl : k = Q.length := by omega
      have HR : Hid (NamedBy Q key x) := by have := HN.out; rwa [List.take_length] at this
      go_wp2
      go_ret
      exact ⟨retB ⟨fun _ => HR.out, fun _ => rfl⟩, rfl⟩

end Go.Proofs.Qxb6605201a.Rul
