import Derived.Test.Qxb6605201aDel
namespace Go.Proofs.Qxb6605201a.Rul
open Go.RowKit Go.Sort Go.Lib

/-- A rule in a block of its own. -/
def RuleAt (w : World) (rb : Nat) (k : Str) (th ab : Bool) (vv ev : Value) : Prop := w.heap[rb]? = some (.cells #[encStr k, .bool th, .bool ab, vv, ev] 39 (0, 0))

theorem RuleAt.lt {w : World} {rb : Nat} {k : Str} {th ab : Bool} {vv ev : Value} (h : RuleAt w rb k th ab vv ev) : rb < w.heap.size := by
  unfold RuleAt at h
  rcases Nat.lt_or_ge rb w.heap.size with h1 | h1
  · exact h1
  · rw [Array.getElem?_eq_none h1] at h; exact absurd h (by simp)

theorem RuleAt.cell {w : World} {rb : Nat} {k : Str} {th ab : Bool} {vv ev : Value} (h : RuleAt w rb k th ab vv ev) (j : Nat) : w.cell? ⟨rb, j, none⟩ = #[encStr k, .bool th, .bool ab, vv, ev][j]? := by
  unfold RuleAt at h
  simp [World.cell?, h]
theorem RuleAt.frozen {w : World} {rb : Nat} {k : Str} {th ab : Bool} {vv ev : Value} (h : RuleAt w rb k th ab vv ev) (j : Nat) : w.frozen? ⟨rb, j, none⟩ = false := frozen_of_row w rb j _ 39 h
theorem RuleAt.kept {w w' : World} {rb : Nat} {k : Str} {th ab : Bool} {vv ev : Value} (h : RuleAt w rb k th ab vv ev) (hb : w'.heap[rb]? = w.heap[rb]?) : RuleAt w' rb k th ab vv ev := hb.trans h

/-- Untouched but where S says. -/
structure Kept (S : Nat → Prop) (w w' : World) : Prop where
  os : w'.os = w.os
  tape : w'.tape = w.tape
  output : w'.output = w.output
  size : w.heap.size ≤ w'.heap.size
  block : ∀ k, k < w.heap.size → ¬ S k → w'.heap[k]? = w.heap[k]?

theorem Kept.refl (S : Nat → Prop) (w : World) : Kept S w w := ⟨rfl, rfl, rfl, Nat.le_refl _, fun _ _ _ => rfl⟩
theorem Kept.trans {S : Nat → Prop} {a b c : World} (h : Kept S a b) (k : Kept S b c) : Kept S a c :=
  ⟨k.os.trans h.os, k.tape.trans h.tape, k.output.trans h.output, Nat.le_trans h.size k.size, fun i hi hn => (k.block i (Nat.lt_of_lt_of_le hi h.size) hn).trans (h.block i hi hn)⟩
theorem Kept.mono {S T : Nat → Prop} {a b : World} (h : Kept S a b) (hs : ∀ k, k < a.heap.size → S k → T k) : Kept T a b := ⟨h.os, h.tape, h.output, h.size, fun i hi hn => h.block i hi (fun e => hn (hs i hi e))⟩
theorem kept_of_grown {w w' : World} {row : Option Nat} (h : w.grownBy w' row) : Kept (fun k => some k = row) w w' := ⟨h.os, h.tape, h.output, h.size, h.block⟩
theorem kept_of_below {w w' : World} (h : Below w.heap.size w w') : Kept (fun _ => False) w w' := ⟨h.os, h.tape, h.output, h.size, fun k hk _ => h.block k hk⟩

theorem kept_set (w : World) (rb j : Nat) (u : Value) : Kept (fun k => k = rb) w (w.setCell ⟨rb, j, none⟩ u) := by
  refine ⟨rfl, rfl, rfl, by simp, ?_⟩
  intro k _ hn
  rw [Sort.setCell_eq]
  show (w.heap.modify rb (onCells _))[k]? = _
  rw [Array.getElem?_modify, if_neg (fun e => hn e.symm)]

theorem RuleAt.th {w : World} {rb : Nat} {k : Str} {th ab : Bool} {vv ev : Value} (h : RuleAt w rb k th ab vv ev) (b : Bool) : RuleAt (w.setCell ⟨rb, 1, none⟩ (.bool b)) rb k b ab vv ev := by
  rw [Sort.setCell_eq]
  show (w.heap.modify rb (onCells _))[rb]? = _
  rw [Array.getElem?_modify, if_pos rfl, show w.heap[rb]? = _ from h]; rfl
theorem RuleAt.ab {w : World} {rb : Nat} {k : Str} {th ab : Bool} {vv ev : Value} (h : RuleAt w rb k th ab vv ev) (b : Bool) : RuleAt (w.setCell ⟨rb, 2, none⟩ (.bool b)) rb k th b vv ev := by
  rw [Sort.setCell_eq]
  show (w.heap.modify rb (onCells _))[rb]? = _
  rw [Array.getElem?_modify, if_pos rfl, show w.heap[rb]? = _ from h]; rfl
theorem RuleAt.vv {w : World} {rb : Nat} {k : Str} {th ab : Bool} {vv ev : Value} (h : RuleAt w rb k th ab vv ev) (u : Value) : RuleAt (w.setCell ⟨rb, 3, none⟩ u) rb k th ab u ev := by
  rw [Sort.setCell_eq]
  show (w.heap.modify rb (onCells _))[rb]? = _
  rw [Array.getElem?_modify, if_pos rfl, show w.heap[rb]? = _ from h]; rfl
theorem RuleAt.ev {w : World} {rb : Nat} {k : Str} {th ab : Bool} {vv ev : Value} (h : RuleAt w rb k th ab vv ev) (u : Value) : RuleAt (w.setCell ⟨rb, 4, none⟩ u) rb k th ab vv u := by
  rw [Sort.setCell_eq]
  show (w.heap.modify rb (onCells _))[rb]? = _
  rw [Array.getElem?_modify, if_pos rfl, show w.heap[rb]? = _ from h]; rfl

/-- Inside add: the two boxes, the rule, and what is untouched. -/
structure Env (w W : World) (s rb gq : Nat) (k qk : Str) (th ab : Bool) (vv ev qv : Value) (op : Int) : Prop where
  rule : RuleAt W rb k th ab vv ev
  bx : W.heap[s]? = some (.cells #[.pointer (some ⟨rb, 0, none⟩)] 77 (0, 0))
  bq : W.heap[s + 1]? = some (.cells #[encStr qk, .int .i64 op, qv] 56 (0, 0))
  kept : Kept (fun j => j = gq) w W
  two : w.heap.size + 2 ≤ W.heap.size

theorem Env.start {w : World} {rb : Nat} {k : Str} {th ab : Bool} {vv ev : Value} (hr : RuleAt w rb k th ab vv ev) (gq : Nat) (qk : Str) (qv : Value) (op : Int) :
    Env w ((w.alloc (.cells #[.pointer (some ⟨rb, 0, none⟩)] 77)).alloc (.cells #[encStr qk, .int .i64 op, qv] 56)) w.heap.size rb gq k qk th ab vv ev qv op := by
  have hlt := hr.lt
  refine ⟨?_, ?_, ?_, ⟨rfl, rfl, rfl, by simp; omega, ?_⟩, by simp⟩
  · refine hr.kept ?_
    simp only [World.alloc, Array.getElem?_push, Array.size_push]
    rw [if_neg (by omega), if_neg (by omega)]
  · simp only [World.alloc, Array.getElem?_push, Array.size_push]
    rw [if_neg (by omega)]; simp
  · simp only [World.alloc, Array.getElem?_push, Array.size_push]
    rw [if_pos trivial]
  · intro j hj _
    simp only [World.alloc, Array.getElem?_push, Array.size_push]
    rw [if_neg (by omega), if_neg (by omega)]

theorem Env.grown {w W W' : World} {rb gq : Nat} {k qk : Str} {th ab : Bool} {vv ev qv : Value} {op : Int} (h : Env w W w.heap.size rb gq k qk th ab vv ev qv op) (hg : W.grownBy W' (some gq)) (n1 : rb ≠ gq) (hlt : gq < w.heap.size) :
    Env w W' w.heap.size rb gq k qk th ab vv ev qv op := by
  have h2 := h.two
  have hb : ∀ j, j < W.heap.size → j ≠ gq → W'.heap[j]? = W.heap[j]? := fun j hj hn => hg.block j hj (fun e => hn (by simpa using e))
  exact ⟨h.rule.kept (hb rb h.rule.lt n1), (hb _ (by omega) (by omega)).trans h.bx, (hb _ (by omega) (by omega)).trans h.bq,
    h.kept.trans ((kept_of_grown hg).mono fun j _ e => by simpa using e), Nat.le_trans h2 hg.size⟩

theorem Env.own {w W : World} {s rb gq B : Nat} {k qk : Str} {th ab : Bool} {vv ev qv : Value} {op : Int} (h : Env w W s rb gq k qk th ab vv ev qv op) {v : Value} {l : List Str} (hv : OwnS B w v l) (hne : v.ownBlock ≠ some gq) : OwnS B W v l :=
  hv.kept fun j hj => h.kept.block j (hv.lt j hj).2 (fun e => hne (by rw [hj, e]))

theorem OwnS.shape {B g : Nat} {w : World} {v : Value} {l : List Str} (h : OwnS B w v l) (hg : v.ownBlock = some g) : ∃ c, v = .slice (some ⟨g, 0, none⟩) l.length c := by
  rcases h.cases with ⟨rfl, _⟩ | ⟨g', c, rfl, _⟩
  · exact absurd hg (by simp [Value.ownBlock])
  · simp only [Value.ownBlock, Option.some.injEq] at hg
    exact ⟨c, by rw [hg]⟩

theorem OwnS.setOther {B rb j : Nat} {w : World} {v u : Value} {l : List Str} (h : OwnS B w v l) (hne : v.ownBlock ≠ some rb) : OwnS B (w.setCell ⟨rb, j, none⟩ u) v l :=
  h.kept fun i hi => (kept_set w rb j u).block i (h.lt i hi).2 (fun e => hne (by rw [hi, e]))

theorem Env.fin {w W : World} {s rb gq B : Nat} {k qk : Str} {th ab : Bool} {vv ev qv : Value} {op : Int} (h : Env w W s rb gq k qk th ab vv ev qv op) {v : Value} {l : List Str} (hv : OwnS B W v l) (hob : v.ownBlock = some gq) (n1 : rb ≠ gq) :
    ∃ v', RuleAt ((W.setCell ⟨rb, 1, none⟩ (.bool true)).setCell ⟨rb, 3, none⟩ v).drew rb k true ab v' ev ∧ OwnS B ((W.setCell ⟨rb, 1, none⟩ (.bool true)).setCell ⟨rb, 3, none⟩ v).drew v' l ∧ v'.ownBlock = some gq ∧
      Kept (fun j => j = rb ∨ j = gq) w ((W.setCell ⟨rb, 1, none⟩ (.bool true)).setCell ⟨rb, 3, none⟩ v).drew := by
  have hne : v.ownBlock ≠ some rb := by rw [hob]; intro e; exact n1 (by simpa using e.symm)
  refine ⟨v, (h.rule.th true).vv v, (hv.setOther hne).setOther hne, hob, ?_⟩
  have a1 : Kept (fun j => j = rb ∨ j = gq) w W := h.kept.mono fun _ _ e => .inr e
  have a2 : Kept (fun j => j = rb ∨ j = gq) W (W.setCell ⟨rb, 1, none⟩ (.bool true)) := (kept_set W rb 1 _).mono fun _ _ e => .inl e
  have a3 : Kept (fun j => j = rb ∨ j = gq) (W.setCell ⟨rb, 1, none⟩ (.bool true)) ((W.setCell ⟨rb, 1, none⟩ (.bool true)).setCell ⟨rb, 3, none⟩ v) := (kept_set _ rb 3 _).mono fun _ _ e => .inl e
  have := (a1.trans a2).trans a3
  exact ⟨this.os, this.tape, this.output, this.size, this.block⟩

set_option maxHeartbeats 2000000 in
/-- "=", "==" and "in" at a rule that has no values yet. -/
theorem add_eq_nil (B rb gq cq : Nat) (k qk : Str) (th ab : Bool) (ev : Value) (ql : List Str) (op : Int) (w : World) (hop : op = 0 ∨ op = 2)
    (hr : RuleAt w rb k th ab (.slice none 0 0) ev) (hq : OwnS B w (.slice (some ⟨gq, 0, none⟩) ql.length cq) ql) (hql : ql.length < 4611686018427387904) (n1 : rb ≠ gq) :
    Calls Try.prog 33 #[.pointer (some ⟨rb, 0, none⟩), .agg #[encStr qk, .int .i64 op, .slice (some ⟨gq, 0, none⟩) ql.length cq]] w fun e w' => e = .returned (.tuple #[]) ∧
      ∃ v', RuleAt w' rb k true ab v' ev ∧ OwnS B w' v' (sortC ql) ∧ v'.ownBlock = some gq ∧ Kept (fun j => j = rb ∨ j = gq) w w' := by
  have hlt := (hq.lt gq rfl).2
  have E0 := Env.start hr gq qk (.slice (some ⟨gq, 0, none⟩) ql.length cq) op
  have HQ0 : Hid (OwnS B ((w.alloc (.cells #[.pointer (some ⟨rb, 0, none⟩)] 77)).alloc (.cells #[encStr qk, .int .i64 op, .slice (some ⟨gq, 0, none⟩) ql.length cq] 56)) (.slice (some ⟨gq, 0, none⟩) ql.length cq) ql) := World.ownsRow.alloc (World.ownsRow.alloc hq _) _
  have HE0 : Hid (Env w _ w.heap.size rb gq k qk th ab (.slice none 0 0) ev (.slice (some ⟨gq, 0, none⟩) ql.length cq) op) := E0
  clear E0 hr hq
  rcases hop with rfl | rfl
  all_goals
    go_enter Try.func33, Try.ntmps33
    go_wp2_with fail
    refine (sort41 B _ ql _ HQ0.out hql).mono ?_
    rintro e w1 ⟨rfl, hq1, hg1⟩
    have HE1 := HE0.out.grown hg1 n1 hlt
    have c1 : w1.cell? ⟨w.heap.size + 1, 2, none⟩ = some (.slice (some ⟨gq, 0, none⟩) ql.length cq) := by simp [World.cell?, HE1.bq]
    have HE1' : Hid (Env w w1 w.heap.size rb gq k qk th ab (.slice none 0 0) ev (.slice (some ⟨gq, 0, none⟩) ql.length cq) _) := HE1
    have HQ1 : Hid (OwnS B w1 (.slice (some ⟨gq, 0, none⟩) ql.length cq) (ql.mergeSort fun x y => decide (x ≤ y))) := hq1
    clear HE1 hq1 hg1 HE0 HQ0
    go_wp2_with fail
    refine (compact42 B _ _ w1 HQ1.out (by rw [List.length_mergeSort]; exact hql)).mono ?_
    rintro e w2 ⟨v2, rfl, hq2, hob, hg2⟩
    have HE2 := HE1'.out.grown hg2 n1 hlt
    have c2 : w2.cell? ⟨w.heap.size, 0, none⟩ = some (.pointer (some ⟨rb, 0, none⟩)) := by simp [World.cell?, HE2.bx]
    have r1 : w2.cell? ⟨rb, 1, none⟩ = some (.bool th) := HE2.rule.cell 1
    have r3 : w2.cell? ⟨rb, 3, none⟩ = some (.slice none 0 0) := HE2.rule.cell 3
    have f1 : w2.frozen? ⟨rb, 1, none⟩ = false := HE2.rule.frozen 1
    have f3 : w2.frozen? ⟨rb, 3, none⟩ = false := HE2.rule.frozen 3
    have hx : ¬ rb = w.heap.size := by intro e; have h1 := HE2.rule; rw [e] at h1; have h2 := HE2.bx; unfold RuleAt at h1; rw [h1] at h2; exact absurd h2 (by simp)
    have HE2' : Hid (Env w w2 w.heap.size rb gq k qk th ab (.slice none 0 0) ev (.slice (some ⟨gq, 0, none⟩) ql.length cq) _) := HE2
    obtain ⟨cc, rfl⟩ := hq2.shape hob
    have HQ2 : Hid (OwnS B w2 (.slice (some ⟨gq, 0, none⟩) (sortC ql).length cc) (sortC ql)) := hq2
    clear HE2 hq2 hob hg2 HE1' HQ1 c1
    go_wp2
    go_region_held3 (fun w' => w'.cell? ⟨w.heap.size, 0, none⟩ = some (.pointer (some ⟨rb, 0, none⟩))) (go_keep) (fail)
    go_end0
    exact ⟨rfl, HE2'.out.fin HQ2.out rfl n1⟩

set_option maxHeartbeats 2000000 in
/-- "=", "==" and "in" at a rule that has values. -/
theorem add_eq_some (B rb gq cq gp cp : Nat) (k qk : Str) (th ab : Bool) (ev : Value) (lp ql : List Str) (op : Int) (w : World) (hop : op = 0 ∨ op = 2)
    (hr : RuleAt w rb k th ab (.slice (some ⟨gp, 0, none⟩) lp.length cp) ev) (hv : OwnS B w (.slice (some ⟨gp, 0, none⟩) lp.length cp) lp) (hs : Strict lp) (hlp : lp.length < 4611686018427387904)
    (hq : OwnS B w (.slice (some ⟨gq, 0, none⟩) ql.length cq) ql) (hql : ql.length < 4611686018427387904) (n1 : rb ≠ gq) (n2 : gp ≠ gq) :
    Calls Try.prog 33 #[.pointer (some ⟨rb, 0, none⟩), .agg #[encStr qk, .int .i64 op, .slice (some ⟨gq, 0, none⟩) ql.length cq]] w fun e w' => e = .returned (.tuple #[]) ∧
      ∃ v', RuleAt w' rb k true ab v' ev ∧ OwnS B w' v' ((sortC ql).filter fun x => decide (x ∈ lp)) ∧ v'.ownBlock = some gq ∧ Kept (fun j => j = rb ∨ j = gq) w w' := by
  have hlt := (hq.lt gq rfl).2
  have E0 := Env.start hr gq qk (.slice (some ⟨gq, 0, none⟩) ql.length cq) op
  have HQ0 : Hid (OwnS B ((w.alloc (.cells #[.pointer (some ⟨rb, 0, none⟩)] 77)).alloc (.cells #[encStr qk, .int .i64 op, .slice (some ⟨gq, 0, none⟩) ql.length cq] 56)) (.slice (some ⟨gq, 0, none⟩) ql.length cq) ql) := World.ownsRow.alloc (World.ownsRow.alloc hq _) _
  have HE0 : Hid (Env w _ w.heap.size rb gq k qk th ab (.slice (some ⟨gp, 0, none⟩) lp.length cp) ev (.slice (some ⟨gq, 0, none⟩) ql.length cq) op) := E0
  have HV : Hid (OwnS B w (.slice (some ⟨gp, 0, none⟩) lp.length cp) lp) := hv
  have HS : Hid (Strict lp) := hs
  clear E0 hr hq hv hs
  rcases hop with rfl | rfl
  all_goals
    go_enter Try.func33, Try.ntmps33
    go_wp2_with fail
    refine (sort41 B _ ql _ HQ0.out hql).mono ?_
    rintro e w1 ⟨rfl, hq1, hg1⟩
    have HE1 := HE0.out.grown hg1 n1 hlt
    have c1 : w1.cell? ⟨w.heap.size + 1, 2, none⟩ = some (.slice (some ⟨gq, 0, none⟩) ql.length cq) := by simp [World.cell?, HE1.bq]
    have HE1' : Hid (Env w w1 w.heap.size rb gq k qk th ab (.slice (some ⟨gp, 0, none⟩) lp.length cp) ev (.slice (some ⟨gq, 0, none⟩) ql.length cq) _) := HE1
    have HQ1 : Hid (OwnS B w1 (.slice (some ⟨gq, 0, none⟩) ql.length cq) (ql.mergeSort fun x y => decide (x ≤ y))) := hq1
    clear HE1 hq1 hg1 HE0 HQ0
    go_wp2_with fail
    refine (compact42 B _ _ w1 HQ1.out (by rw [List.length_mergeSort]; exact hql)).mono ?_
    rintro e w2 ⟨v2, rfl, hq2, hob, hg2⟩
    have HE2 := HE1'.out.grown hg2 n1 hlt
    have c2 : w2.cell? ⟨w.heap.size, 0, none⟩ = some (.pointer (some ⟨rb, 0, none⟩)) := by simp [World.cell?, HE2.bx]
    have r3 : w2.cell? ⟨rb, 3, none⟩ = some (.slice (some ⟨gp, 0, none⟩) lp.length cp) := HE2.rule.cell 3
    have HE2' : Hid (Env w w2 w.heap.size rb gq k qk th ab (.slice (some ⟨gp, 0, none⟩) lp.length cp) ev (.slice (some ⟨gq, 0, none⟩) ql.length cq) _) := HE2
    obtain ⟨cc, rfl⟩ := hq2.shape hob
    have hlc : (sortC ql).length < 4611686018427387904 := by have := compact_len (ql.mergeSort fun x y => decide (x ≤ y)); rw [List.length_mergeSort] at this; exact Nat.lt_of_le_of_lt this hql
    have HQ2 : Hid (OwnS B w2 (.slice (some ⟨gq, 0, none⟩) (sortC ql).length cc) (sortC ql)) := hq2
    have hV2 := HE2.own HV.out (by simp [Value.ownBlock]; exact n2)
    have hHp : Holds encStr w2 gp 0 lp.toArray := by
      rcases hV2.cases with ⟨h0, _⟩ | ⟨g', c', h1, _, _, _, h5⟩
      · exact absurd h0 (by simp)
      · simp only [Value.slice.injEq, Option.some.injEq, Addr.mk.injEq] at h1; rw [h1.1.1]; exact h5
    have hc43 := delete43 B gq cc (sortC ql) w2 HQ2.out hlc w.heap.size rb gp cp lp c2 r3 HS.out hHp hlp (hV2.lt gp rfl).2 (by omega) n1 n2
    change Calls Try.prog 43 #[.slice (some ⟨gq, 0, none⟩) (compact (ql.mergeSort fun x y => decide (x ≤ y))).length cc, .func (.func 44) #[] #[.pointer (some ⟨w.heap.size, 0, none⟩)]] w2 _ at hc43
    clear HE2 hq2 hob hg2 HE1' HQ1 c1 hHp hV2
    go_wp2_with fail
    refine hc43.mono ?_
    rintro e w3 ⟨v3, rfl, hq3, hob3, hg3⟩
    have HE3 := HE2'.out.grown hg3 n1 hlt
    have d2 : w3.cell? ⟨w.heap.size, 0, none⟩ = some (.pointer (some ⟨rb, 0, none⟩)) := by simp [World.cell?, HE3.bx]
    have s1 : w3.cell? ⟨rb, 1, none⟩ = some (.bool th) := HE3.rule.cell 1
    have s3 : w3.cell? ⟨rb, 3, none⟩ = some (.slice (some ⟨gp, 0, none⟩) lp.length cp) := HE3.rule.cell 3
    have f1 : w3.frozen? ⟨rb, 1, none⟩ = false := HE3.rule.frozen 1
    have f3 : w3.frozen? ⟨rb, 3, none⟩ = false := HE3.rule.frozen 3
    have hx : ¬ rb = w.heap.size := by intro e; have h1 := HE3.rule; rw [e] at h1; have h2 := HE3.bx; unfold RuleAt at h1; rw [h1] at h2; exact absurd h2 (by simp)
    have HE3' : Hid (Env w w3 w.heap.size rb gq k qk th ab (.slice (some ⟨gp, 0, none⟩) lp.length cp) ev (.slice (some ⟨gq, 0, none⟩) ql.length cq) _) := HE3
    obtain ⟨c3, rfl⟩ := hq3.shape hob3
    have HQ3 : Hid (OwnS B w3 (.slice (some ⟨gq, 0, none⟩) ((sortC ql).filter fun x => decide (x ∈ lp)).length c3) ((sortC ql).filter fun x => decide (x ∈ lp))) := hq3
    clear HE3 hq3 hob3 hg3 HE2' HQ2 c2 r3 hc43
    generalize hrr : ((sortC ql).filter fun x => decide (x ∈ lp)) = rr at *
    go_wp2
    go_region_held3 (fun w' => w'.cell? ⟨w.heap.size, 0, none⟩ = some (.pointer (some ⟨rb, 0, none⟩))) (go_keep) (fail)
    go_end0
    rw [hrr]
    exact ⟨rfl, HE3'.out.fin HQ3.out rfl n1⟩

end Go.Proofs.Qxb6605201a.Rul
