import Derived.Test.Qxb6605201aBit
namespace Go.Proofs.Qxb6605201a.Rul
open Go.RowKit Go.Sort Go.Lib

set_option maxRecDepth 100000 in
set_option maxHeartbeats 4000000 in
/-- reqHolds. -/
theorem reqHolds14 (q : Rq) (o : Option Str) (w : World) (hf : q.p.Fit1) (hs : Strs w q.v q.l) (hl : q.l.length ≤ 4096) :
    Calls Try.prog 14 #[.agg #[encStr q.key, .int .i64 q.op, q.v], encStr (o.getD []), .bool o.isSome] w fun e w' => e = .returned (.bool (reqSays q.p o)) ∧ Below w.heap.size w w' := by
  obtain ⟨key, op, v, l⟩ := q
  simp only [Rq.p] at *
  have HBel : ∀ o : Obj, Hid (Below w.heap.size w (w.alloc o)) := fun o => (Below.refl _ _).alloc (Nat.le_refl _) o
  have hcon : ∀ (ob : Obj) (x : Str), Calls Try.prog 28 #[v, encStr x] (w.alloc ob) fun e w' => e = .returned (.bool (decide (x ∈ l))) ∧ w.alloc ob = w' := fun ob x => contains28 v l x (w.alloc ob) (hs.below (HBel ob).out) (by omega)
  rcases hf with ⟨h1, h2⟩ | ⟨h1, h2⟩ | ⟨h1, h2⟩ | ⟨h1, h2⟩ | ⟨h1, h2⟩ | ⟨h1, h2⟩
  all_goals simp only at h1 h2
  · obtain ⟨y, rfl⟩ := List.length_eq_one_iff.1 h2
    obtain ⟨av, cv, rfl, h3 | ⟨b, off, rfl, hlt, hc⟩⟩ := hs
    · cases h3
    have c0 : w.cell? ⟨b, off, none⟩ = some (encStr y) := hc 0 (by simp)
    have hbn : ¬ b = w.heap.size := by omega
    subst h1
    clear hc hcon h2
    cases o with
    | none =>
      have hr : reqSays ⟨key, 0, [y]⟩ none = false := by simp [reqSays, Pq.isTh]
      rw [hr]
      clear hr
      go_enter Try.func14, Try.ntmps14
      go_wp2
      go_ret
      exact ⟨rfl, (HBel _).out⟩
    | some x =>
      by_cases hx : x = y
      · have hr : reqSays ⟨key, 0, [y]⟩ (some x) = true := by simp [reqSays, Pq.isEq, hx]
        rw [hr]
        clear hr
        subst hx
        go_enter Try.func14, Try.ntmps14
        go_wp2
        go_ret
        exact ⟨rfl, (HBel _).out⟩
      · have hr : reqSays ⟨key, 0, [y]⟩ (some x) = false := by simp [reqSays, Pq.isEq, hx]
        rw [hr]
        clear hr
        have hb0 : (x == y) = false := beq_false_of_ne hx
        clear hx
        go_enter Try.func14, Try.ntmps14
        go_wp2
        go_ret
        exact ⟨rfl, (HBel _).out⟩
  · obtain ⟨y, rfl⟩ := List.length_eq_one_iff.1 h2
    obtain ⟨av, cv, rfl, h3 | ⟨b, off, rfl, hlt, hc⟩⟩ := hs
    · cases h3
    have c0 : w.cell? ⟨b, off, none⟩ = some (encStr y) := hc 0 (by simp)
    have hbn : ¬ b = w.heap.size := by omega
    subst h1
    clear hc hcon h2
    cases o with
    | none =>
      have hr : reqSays ⟨key, 1, [y]⟩ none = true := by simp [reqSays, Pq.isTh]
      rw [hr]
      clear hr
      go_enter Try.func14, Try.ntmps14
      go_wp2
      go_ret
      exact ⟨rfl, (HBel _).out⟩
    | some x =>
      by_cases hx : x = y
      · have hr : reqSays ⟨key, 1, [y]⟩ (some x) = false := by simp [reqSays, Pq.isEq, Pq.isNe, hx]
        rw [hr]
        clear hr
        subst hx
        go_enter Try.func14, Try.ntmps14
        go_wp2
        go_ret
        exact ⟨rfl, (HBel _).out⟩
      · have hr : reqSays ⟨key, 1, [y]⟩ (some x) = true := by simp [reqSays, Pq.isEq, Pq.isNe, hx]
        rw [hr]
        clear hr
        have hb0 : (x == y) = false := beq_false_of_ne hx
        clear hx
        go_enter Try.func14, Try.ntmps14
        go_wp2
        go_ret
        exact ⟨rfl, (HBel _).out⟩
  · obtain ⟨av, cv, rfl, _⟩ := hs
    subst h1
    cases o with
    | none =>
      have hr : reqSays ⟨key, 2, l⟩ none = false := by simp [reqSays, Pq.isTh]
      rw [hr]
      clear hr hcon
      go_enter Try.func14, Try.ntmps14
      go_wp2
      go_ret
      exact ⟨rfl, (HBel _).out⟩
    | some x =>
      have hr : reqSays ⟨key, 2, l⟩ (some x) = decide (x ∈ l) := by simp [reqSays, Pq.isEq]
      rw [hr]
      clear hr
      have hcon2 := fun ob => hcon ob x
      clear hcon
      generalize decide (x ∈ l) = r at *
      go_enter Try.func14, Try.ntmps14
      go_wp2_with (first | (go_at_call 28; refine (hcon2 _).mono ?_; rintro e w2 ⟨rfl, rfl⟩))
      go_ret
      exact ⟨rfl, (HBel _).out⟩
  · obtain ⟨av, cv, rfl, _⟩ := hs
    subst h1
    cases o with
    | none =>
      have hr : reqSays ⟨key, 3, l⟩ none = true := by simp [reqSays, Pq.isTh]
      rw [hr]
      clear hr hcon
      go_enter Try.func14, Try.ntmps14
      go_wp2
      go_ret
      exact ⟨rfl, (HBel _).out⟩
    | some x =>
      have hr : reqSays ⟨key, 3, l⟩ (some x) = !decide (x ∈ l) := by simp [reqSays, Pq.isEq, Pq.isNe]
      rw [hr]
      clear hr
      have hcon2 := fun ob => hcon ob x
      clear hcon
      generalize decide (x ∈ l) = r at *
      go_enter Try.func14, Try.ntmps14
      go_wp2_with (first | (go_at_call 28; refine (hcon2 _).mono ?_; rintro e w2 ⟨rfl, rfl⟩))
      go_ret
      exact ⟨rfl, (HBel _).out⟩
  · obtain ⟨av, cv, rfl, _⟩ := hs
    subst h1
    have hr : reqSays ⟨key, 4, l⟩ o = o.isSome := by cases o <;> simp [reqSays, Pq.isTh, Pq.isEq, Pq.isNe, Pq.isAb]
    rw [hr]
    clear hr hcon
    generalize o.isSome = r at *
    go_enter Try.func14, Try.ntmps14
    go_wp2
    go_ret
    exact ⟨rfl, (HBel _).out⟩
  · obtain ⟨av, cv, rfl, _⟩ := hs
    subst h1
    have hr : reqSays ⟨key, 5, l⟩ o = !o.isSome := by cases o <;> simp [reqSays, Pq.isTh, Pq.isEq, Pq.isNe, Pq.isAb]
    rw [hr]
    clear hr hcon
    generalize o.isSome = r at *
    go_enter Try.func14, Try.ntmps14
    go_wp2
    go_ret
    exact ⟨rfl, (HBel _).out⟩

end Go.Proofs.Qxb6605201a.Rul
