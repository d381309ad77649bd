import Derived.Test.Qxb6605201aLab
import Derived.Test.Qxb6605201aSPlain
namespace Go.Proofs.Qxb6605201a.Rul
open Go.RowKit Go.Sort Go.Lib

set_option maxHeartbeats 1000000 in
/-- slices.BinarySearch at a nil slice. -/
theorem search45_nil (x : Str) (w : World) : Calls Try.prog 45 #[.slice none 0 0, encStr x] w fun e w' => RetT e false ∧ ∃ q, w' = w.drewN q := by
  go_enter Try.func45, Try.ntmps45
  go_wp2
  go_loop [7, 8] (fun i j => i = .int .i64 0 ∧ j = .int .i64 0) (fun _ _ => 0)
  case atStart => exact ⟨rfl, rfl⟩
  case round =>
    obtain ⟨rfl, rfl⟩ := hrel
    go_wp2
    go_ret2
    exact ⟨⟨0, rfl⟩, 0, rfl⟩

/-- slices.BinarySearch in a slice of the call's own. -/
theorem searchS (B : Nat) (v : Value) (l : List Str) (x : Str) (w : World) (h : OwnS B w v l) (hs : Strict l) (hbig : l.length < 4611686018427387904) :
    Calls Try.prog 45 #[v, encStr x] w fun e w' => RetT e (decide (x ∈ l)) ∧ ∃ q, w' = w.drewN q := by
  rcases h.cases with ⟨rfl, rfl⟩ | ⟨g, cap, rfl, _, _, _, hH⟩
  · exact search45_nil x w
  · exact search45 g cap l x w hs hH hbig

set_option maxHeartbeats 2000000 in
/-- holds. -/
theorem holds36 (B g off : Nat) (r : RS) (av ae : Option Addr) (nv cv ne ce : Nat) (x : Str) (w : World)
    (c2 : w.cell? ⟨g, off + 2, none⟩ = some (.bool r.ab)) (c3 : w.cell? ⟨g, off + 3, none⟩ = some (.slice av nv cv)) (c4 : w.cell? ⟨g, off + 4, none⟩ = some (.slice ae ne ce))
    (hv : OwnS B w (.slice av nv cv) (r.vs.getD [])) (hn : (Value.slice av nv cv) = .slice none 0 0 ↔ r.vs = none) (he : OwnS B w (.slice ae ne ce) r.es) (sv : Strict (r.vs.getD [])) (se : Strict r.es)
    (lv : (r.vs.getD []).length < 4611686018427387904) (le : r.es.length < 4611686018427387904) :
    Calls Try.prog 36 #[.pointer (some ⟨g, off, none⟩), encStr x] w fun e w' => e = .returned (.bool (holdR r x)) ∧ ∃ q, w' = w.drewN q := by
  have h1 := searchS B _ r.es x w he se le
  have h2 : ∀ q, Calls Try.prog 45 #[.slice av nv cv, encStr x] (w.drewN q) fun e w' => RetT e (decide (x ∈ r.vs.getD [])) ∧ ∃ q', w' = (w.drewN q).drewN q' := fun q => searchS B _ (r.vs.getD []) x (w.drewN q) hv sv lv
  have hnil : (av = none ∧ r.vs = none) ∨ ∃ ad l, av = some ad ∧ r.vs = some l := by
    cases hr : r.vs with
    | none => have := hn.2 hr; simp only [Value.slice.injEq] at this; exact .inl ⟨this.1, rfl⟩
    | some l =>
      rw [hr] at hv
      obtain ⟨g', c', e, _⟩ := hv.some_of (fun e => by rw [hn.1 e] at hr; cases hr)
      simp only [Value.slice.injEq] at e
      exact .inr ⟨_, l, e.1, rfl⟩
  have hh : holdR r x = (!decide (x ∈ r.es) && !r.ab && (match r.vs with | none => true | some l => decide (x ∈ l))) := rfl
  obtain ⟨b, hb⟩ : ∃ b, holdR r x = b := ⟨_, rfl⟩
  rw [hb]
  rw [hb] at hh
  clear hv he sv se lv le hn hb
  generalize decide (x ∈ r.es) = d1 at *
  generalize r.ab = ab at *
  cases d1 with
  | true =>
    simp only [Bool.not_true, Bool.false_and] at hh
    subst hh
    clear h2
    go_enter Try.func36, Try.ntmps36
    go_wp2_with fail
    refine h1.mono ?_
    rintro e w' ⟨⟨i, rfl⟩, q, rfl⟩
    go_wp2
    go_ret
    exact ⟨rfl, q, rfl⟩
  | false =>
    cases ab with
    | true =>
      simp only [Bool.not_true, Bool.and_false, Bool.false_and] at hh
      subst hh
      clear h2
      go_enter Try.func36, Try.ntmps36
      go_wp2_with fail
      refine h1.mono ?_
      rintro e w' ⟨⟨i, rfl⟩, q, rfl⟩
      have c2' : (w.drewN q).cell? ⟨g, off + 2, none⟩ = some (.bool true) := c2
      go_wp2
      go_ret
      exact ⟨rfl, q, rfl⟩
    | false =>
      rcases hnil with ⟨rfl, hr⟩ | ⟨ad, l, rfl, hr⟩
      · rw [hr] at hh
        simp at hh
        subst hh
        clear h2 hr
        have heq := fun wx n c => Lib.run_eql_slice_nil (P := Try.prog) wx 29 9 none n c 0 0 Try.underlying29
        go_enter Try.func36, Try.ntmps36
        go_wp2_with fail
        refine h1.mono ?_
        rintro e w' ⟨⟨i, rfl⟩, q, rfl⟩
        have c2' : (w.drewN q).cell? ⟨g, off + 2, none⟩ = some (.bool false) := c2
        have c3' : (w.drewN q).cell? ⟨g, off + 3, none⟩ = some (.slice none nv cv) := c3
        go_wp2
        go_ret
        exact ⟨rfl, q, rfl⟩
      · rw [hr] at hh h2
        simp at hh
        simp only [Option.getD_some] at h2
        rw [← hh] at h2
        clear hr hh
        have heq := fun wx n c => Lib.run_eql_slice_nil (P := Try.prog) wx 29 9 (some ad) n c 0 0 Try.underlying29
        go_enter Try.func36, Try.ntmps36
        go_wp2_with fail
        refine h1.mono ?_
        rintro e w' ⟨⟨i, rfl⟩, q, rfl⟩
        have c2' : (w.drewN q).cell? ⟨g, off + 2, none⟩ = some (.bool false) := c2
        have c3' : (w.drewN q).cell? ⟨g, off + 3, none⟩ = some (.slice (some ad) nv cv) := c3
        go_wp2_with fail
        refine (h2 q).mono ?_
        rintro e w' ⟨⟨i', rfl⟩, q', rfl⟩
        go_wp2
        go_ret
        exact ⟨rfl, _, rfl⟩

end Go.Proofs.Qxb6605201a.Rul
