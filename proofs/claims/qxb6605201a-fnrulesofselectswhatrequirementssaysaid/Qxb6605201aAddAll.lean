import Derived.Test.Qxb6605201aAddNe
namespace Go.Proofs.Qxb6605201a.Rul
open Go.RowKit Go.Sort Go.Lib

set_option maxHeartbeats 2000000 in
set_option maxRecDepth 100000 in
/-- The bare key. -/
theorem add_ex (rb : Nat) (k qk : Str) (th ab : Bool) (vv ev : Value) (aq : Option Addr) (nq cq : Nat) (w : World) (hr : RuleAt w rb k th ab vv ev) :
    Calls Try.prog 33 #[.pointer (some ⟨rb, 0, none⟩), .agg #[encStr qk, .int .i64 4, .slice aq nq cq]] w fun e w' => e = .returned (.tuple #[]) ∧ RuleAt w' rb k true ab vv ev ∧ Kept (fun j => j = rb) w w' := by
  have HE0 := Env.start hr rb qk (.slice aq nq cq) 4
  have c2 : ((w.alloc (.cells #[.pointer (some ⟨rb, 0, none⟩)] 77)).alloc (.cells #[encStr qk, .int .i64 4, .slice aq nq cq] 56)).cell? ⟨rb, 1, none⟩ = some (.bool th) := HE0.rule.cell 1
  have f4 : ((w.alloc (.cells #[.pointer (some ⟨rb, 0, none⟩)] 77)).alloc (.cells #[encStr qk, .int .i64 4, .slice aq nq cq] 56)).frozen? ⟨rb, 1, none⟩ = false := HE0.rule.frozen 1
  have HE : Hid (Env w _ w.heap.size rb rb k qk th ab vv ev (.slice aq nq cq) 4) := HE0
  have hx : ¬ rb = w.heap.size := by have := hr.lt; omega
  have hy : ¬ rb = w.heap.size + 1 := by have := hr.lt; omega
  clear HE0 hr
  go_enter Try.func33, Try.ntmps33
  go_wp2
  go_end0
  exact ⟨rfl, HE.out.rule.th _, HE.out.kept.trans (kept_set _ rb 1 _)⟩

set_option maxHeartbeats 2000000 in
set_option maxRecDepth 100000 in
/-- The negated key. -/
theorem add_nx (rb : Nat) (k qk : Str) (th ab : Bool) (vv ev : Value) (aq : Option Addr) (nq cq : Nat) (w : World) (hr : RuleAt w rb k th ab vv ev) :
    Calls Try.prog 33 #[.pointer (some ⟨rb, 0, none⟩), .agg #[encStr qk, .int .i64 5, .slice aq nq cq]] w fun e w' => e = .returned (.tuple #[]) ∧ RuleAt w' rb k th true vv ev ∧ Kept (fun j => j = rb) w w' := by
  have HE0 := Env.start hr rb qk (.slice aq nq cq) 5
  have c2 : ((w.alloc (.cells #[.pointer (some ⟨rb, 0, none⟩)] 77)).alloc (.cells #[encStr qk, .int .i64 5, .slice aq nq cq] 56)).cell? ⟨rb, 2, none⟩ = some (.bool ab) := HE0.rule.cell 2
  have f4 : ((w.alloc (.cells #[.pointer (some ⟨rb, 0, none⟩)] 77)).alloc (.cells #[encStr qk, .int .i64 5, .slice aq nq cq] 56)).frozen? ⟨rb, 2, none⟩ = false := HE0.rule.frozen 2
  have HE : Hid (Env w _ w.heap.size rb rb k qk th ab vv ev (.slice aq nq cq) 5) := HE0
  have hx : ¬ rb = w.heap.size := by have := hr.lt; omega
  have hy : ¬ rb = w.heap.size + 1 := by have := hr.lt; omega
  clear HE0 hr
  go_enter Try.func33, Try.ntmps33
  go_wp2
  go_end0
  exact ⟨rfl, HE.out.rule.ab _, HE.out.kept.trans (kept_set _ rb 2 _)⟩

/-- A rule, as data. -/
structure RS where
  th : Bool
  ab : Bool
  vs : Option (List Str)
  es : List Str

/-- What one requirement does to it. -/
def RS.step (r : RS) (op : Int) (ql : List Str) : RS :=
  if op = 0 ∨ op = 2 then { r with th := true, vs := some (match r.vs with | none => sortC ql | some l => (sortC ql).filter fun x => decide (x ∈ l)) }
  else if op = 1 ∨ op = 3 then { r with es := r.es ++ ql }
  else if op = 4 then { r with th := true } else { r with ab := true }

/-- The rule r lies in the block rb; its slices are the call's own. -/
structure RuleM (B : Nat) (w : World) (rb : Nat) (k : Str) (r : RS) (vv ev : Value) : Prop where
  cells : RuleAt w rb k r.th r.ab vv ev
  vo : OwnS B w vv (r.vs.getD [])
  vn : vv = .slice none 0 0 ↔ r.vs = none
  eo : OwnS B w ev r.es
  st : ∀ l, r.vs = some l → Strict l

/-- The blocks under some slices. -/
def bks (L : List Value) : List Nat := L.filterMap Value.ownBlock

/-- Where blocks were apart, they are. -/
def Moves (w : World) (rb : Nat) (L L' : List Value) : Prop := ∀ R : List Nat, (∀ j ∈ R, j < w.heap.size) → (rb :: (bks L ++ R)).Nodup → (rb :: (bks L' ++ R)).Nodup

theorem OwnS.slice {B : Nat} {w : World} {v : Value} {l : List Str} (h : OwnS B w v l) : ∃ a c, v = .slice a l.length c := by
  rcases h.cases with ⟨rfl, rfl⟩ | ⟨g, c, rfl, _⟩
  · exact ⟨none, 0, rfl⟩
  · exact ⟨_, c, rfl⟩

theorem OwnS.some_of {B : Nat} {w : World} {v : Value} {l : List Str} (h : OwnS B w v l) (hne : v ≠ .slice none 0 0) : ∃ g c, v = .slice (some ⟨g, 0, none⟩) l.length c ∧ g < w.heap.size := by
  rcases h.cases with ⟨rfl, _⟩ | ⟨g, c, rfl, _, h1, _⟩
  · exact absurd rfl hne
  · exact ⟨g, c, rfl, h1⟩

theorem OwnS.some_ne {B : Nat} {w : World} {v : Value} {l : List Str} (h : OwnS B w v l) (hne : l ≠ []) : ∃ g c, v = .slice (some ⟨g, 0, none⟩) l.length c ∧ g < w.heap.size := by
  refine h.some_of ?_
  rintro rfl
  rcases h.cases with ⟨_, e⟩ | ⟨g, c, e, _⟩
  · exact hne e
  · exact absurd e (by simp)

theorem OwnS.keptS {B : Nat} {w w' : World} {v : Value} {l : List Str} {S : Nat → Prop} (h : OwnS B w v l) (hk : Kept S w w') (hn : ∀ j, v.ownBlock = some j → ¬ S j) : OwnS B w' v l :=
  h.kept fun j hj => hk.block j (h.lt j hj).2 (hn j hj)

theorem bks_cons (v : Value) (L : List Value) : bks (v :: L) = v.ownBlock.toList ++ bks L := by
  unfold bks
  cases h : v.ownBlock <;> simp [h]

theorem nd3 {rb : Nat} {a b c : Value} (nd : (rb :: bks [a, b, c]).Nodup) :
    (∀ j, a.ownBlock = some j → j ≠ rb ∧ b.ownBlock ≠ some j ∧ c.ownBlock ≠ some j) ∧ (∀ j, b.ownBlock = some j → j ≠ rb ∧ c.ownBlock ≠ some j) ∧ (∀ j, c.ownBlock = some j → j ≠ rb) := by
  rw [bks_cons, bks_cons, bks_cons] at nd
  generalize a.ownBlock = x at *
  generalize b.ownBlock = y at *
  generalize c.ownBlock = z at *
  simp only [bks, List.filterMap_nil, List.append_nil, List.nodup_cons, List.mem_append, List.nodup_append, Option.mem_toList, not_or] at nd
  obtain ⟨⟨h1, h2, h3⟩, h4, ⟨h5, h6, h7⟩, h8⟩ := nd
  refine ⟨fun j hj => ⟨?_, ?_, ?_⟩, fun j hj => ⟨?_, ?_⟩, fun j hj => ?_⟩
  · rintro rfl; exact h1 hj
  · intro e; exact h8 j hj j (.inl e) rfl
  · intro e; exact h8 j hj j (.inr e) rfl
  · rintro rfl; exact h2 hj
  · intro e; exact h7 j hj j e rfl
  · rintro rfl; exact h3 hj

/-- The second list's blocks are among the first's, or new; apart among themselves. -/
theorem moves_of {w : World} {rb : Nat} {L : List Value} {a b : Value} (hrb : rb < w.heap.size) (ha : ∀ j, a.ownBlock = some j → j ∈ bks L ∨ w.heap.size ≤ j) (hb : ∀ j, b.ownBlock = some j → j ∈ bks L ∨ w.heap.size ≤ j) (hab : ∀ j, a.ownBlock = some j → b.ownBlock ≠ some j) : Moves w rb L [a, b] := by
  intro R hR nd
  rw [bks_cons, bks_cons]
  simp only [List.nodup_cons, List.mem_append, List.nodup_append, Option.mem_toList, not_or, bks, List.filterMap_nil, List.append_nil] at nd ⊢
  obtain ⟨⟨h1, h2⟩, h3, h4, h5⟩ := nd
  have hn : ∀ o : Option Nat, o.toList.Nodup := fun o => by cases o <;> simp
  have key : ∀ (v : Value), (∀ j, v.ownBlock = some j → j ∈ bks L ∨ w.heap.size ≤ j) → v.ownBlock ≠ some rb ∧ ∀ x, v.ownBlock = some x → ∀ y ∈ R, x ≠ y := by
    intro v hv
    refine ⟨fun e => ?_, fun x hx y hy e => ?_⟩
    · rcases hv rb e with h | h
      · exact h1 h
      · omega
    · subst e
      rcases hv x hx with h | h
      · exact h5 x h x hy rfl
      · have := hR x hy; omega
  refine ⟨⟨⟨(key a ha).1, (key b hb).1⟩, h2⟩, ⟨hn _, hn _, fun x hx y hy e => ?_⟩, h4, fun x hx y hy => ?_⟩
  · subst e; exact hab x hx hy
  · rcases hx with hx | hx
    · exact (key a ha).2 x hx y hy
    · exact (key b hb).2 x hx y hy

theorem mem_bks {v : Value} {L : List Value} (hv : v ∈ L) {j : Nat} (hj : v.ownBlock = some j) : j ∈ bks L := List.mem_filterMap.2 ⟨v, hv, hj⟩

/-- add, whatever the requirement. -/
theorem add33 (B rb : Nat) (k qk : Str) (r : RS) (vv ev qv : Value) (ql : List Str) (op : Int) (w : World) (h : RuleM B w rb k r vv ev) (hq : OwnS B w qv ql) (ho : 0 ≤ op ∧ op ≤ 5) (hne : op ≤ 3 → ql ≠ [])
    (nd : (rb :: bks [vv, ev, qv]).Nodup) (hl : r.es.length + ql.length ≤ 8796093022208) (hlv : (r.vs.getD []).length < 4611686018427387904) (hB : B ≤ w.heap.size) :
    Calls Try.prog 33 #[.pointer (some ⟨rb, 0, none⟩), .agg #[encStr qk, .int .i64 op, qv]] w fun e w' => e = .returned (.tuple #[]) ∧
      ∃ vv' ev', RuleM B w' rb k (r.step op ql) vv' ev' ∧ Kept (fun j => j = rb ∨ some j = ev.ownBlock ∨ some j = qv.ownBlock) w w' ∧ Moves w rb [vv, ev, qv] [vv', ev'] := by
  obtain ⟨d1, d2, d3⟩ := nd3 nd
  have hrb := h.cells.lt
  have inV : ∀ j, vv.ownBlock = some j → j ∈ bks [vv, ev, qv] ∨ w.heap.size ≤ j := fun j hj => .inl (mem_bks (by simp) hj)
  have inE : ∀ j, ev.ownBlock = some j → j ∈ bks [vv, ev, qv] ∨ w.heap.size ≤ j := fun j hj => .inl (mem_bks (by simp) hj)
  have inQ : ∀ j, qv.ownBlock = some j → j ∈ bks [vv, ev, qv] ∨ w.heap.size ≤ j := fun j hj => .inl (mem_bks (by simp) hj)
  by_cases h02 : op = 0 ∨ op = 2
  · have hstep : r.step op ql = { r with th := true, vs := some (match r.vs with | none => sortC ql | some l => (sortC ql).filter fun x => decide (x ∈ l)) } := if_pos h02
    rw [hstep]
    obtain ⟨gq, cq, rfl, hgq⟩ := hq.some_ne (hne (by omega))
    have n1 : rb ≠ gq := fun e => d3 gq rfl e.symm
    have keep : ∀ w', Kept (fun j => j = rb ∨ j = gq) w w' → OwnS B w' ev r.es := fun w' hk => h.eo.keptS hk fun j hj => by
      have a1 := d2 j hj
      rintro (e | e)
      · exact a1.1 e
      · exact a1.2 (by rw [e]; rfl)
    have keptOf : ∀ w', Kept (fun j => j = rb ∨ j = gq) w w' → Kept (fun j => j = rb ∨ some j = ev.ownBlock ∨ some j = (Value.slice (some ⟨gq, 0, none⟩) ql.length cq).ownBlock) w w' := fun w' hk => hk.mono fun j _ e => by
      rcases e with e | e
      · exact .inl e
      · exact .inr (.inr (by rw [e]; rfl))
    have mv : ∀ v' : Value, v'.ownBlock = some gq → Moves w rb [vv, ev, .slice (some ⟨gq, 0, none⟩) ql.length cq] [v', ev] := fun v' hv' => moves_of hrb (fun j hj => inQ j (by rw [hv'] at hj; exact hj)) inE (fun j hj e => by
      rw [hv'] at hj
      exact (d2 j e).2 hj)
    cases hvs : r.vs with
    | none =>
      have hvn := h.vn.2 hvs
      subst hvn
      refine (add_eq_nil B rb gq cq k qk r.th r.ab ev ql op w h02 h.cells hq (by omega) n1).mono ?_
      rintro e w' ⟨he, v', k1, k2, k3, k4⟩
      refine ⟨he, v', ev, ⟨k1, k2, ?_, keep w' k4, ?_⟩, keptOf w' k4, mv v' k3⟩
      · constructor
        · intro e; rw [e] at k3; exact absurd k3 (by simp [Value.ownBlock])
        · intro e; exact absurd e (by simp)
      · intro l e
        simp only [Option.some.injEq] at e
        rw [← e]; exact (sortC_law ql).1
    | some lp =>
      have hnn : vv ≠ .slice none 0 0 := fun e => by rw [h.vn.1 e] at hvs; exact absurd hvs (by simp)
      obtain ⟨gp, cp, rfl, hgp⟩ := h.vo.some_of hnn
      have hvo := h.vo
      have hcl := h.cells
      rw [hvs] at hvo hlv hcl
      simp only [Option.getD_some] at hvo hlv hcl
      have n2 : gp ≠ gq := fun e => (d1 gp rfl).2.2 (by rw [e]; rfl)
      refine (add_eq_some B rb gq cq gp cp k qk r.th r.ab ev lp ql op w h02 hcl hvo (h.st lp hvs) hlv hq (by omega) n1 n2).mono ?_
      rintro e w' ⟨he, v', k1, k2, k3, k4⟩
      refine ⟨he, v', ev, ⟨k1, k2, ?_, keep w' k4, ?_⟩, keptOf w' k4, mv v' k3⟩
      · constructor
        · intro e; rw [e] at k3; exact absurd k3 (by simp [Value.ownBlock])
        · intro e; exact absurd e (by simp)
      · intro l e
        simp only [Option.some.injEq] at e
        rw [← e]; exact strict_filter (sortC_law ql).1 _
  by_cases h13 : op = 1 ∨ op = 3
  · have hstep : r.step op ql = { r with es := r.es ++ ql } := by unfold RS.step; rw [if_neg h02, if_pos h13]
    rw [hstep]
    obtain ⟨gq, cq, rfl, hgq⟩ := hq.some_ne (hne (by omega))
    by_cases hen : ev = .slice none 0 0
    · subst hen
      have hes : r.es = [] := by
        rcases h.eo.cases with ⟨_, e⟩ | ⟨g, c, e, _⟩
        · exact e
        · exact absurd e (by simp)
      refine (add_ne_nil rb k qk r.th r.ab vv (some ⟨gq, 0, none⟩) ql.length cq op w h13 h.cells).mono ?_
      rintro e w' ⟨he, k1, k2⟩
      refine ⟨he, vv, _, ⟨k1, h.vo.keptS k2 fun j hj => (d1 j hj).1, h.vn, ?_, h.st⟩, k2.mono fun j _ e => .inl e, moves_of hrb inV inQ fun j hj e => (d1 j hj).2.2 e⟩
      show OwnS B w' _ (r.es ++ ql)
      rw [hes, List.nil_append]
      exact hq.keptS k2 fun j hj => d3 j hj
    · obtain ⟨ge, ce, rfl, hge⟩ := h.eo.some_of hen
      have n1 : rb ≠ ge := fun e => (d2 ge rfl).1 e.symm
      have hq0 : 0 < ql.length := List.length_pos_iff.2 (hne (by omega))
      refine (add_ne_some B rb ge ce gq cq k qk r.th r.ab vv r.es ql op w h13 h.cells h.eo hq hl hq0 n1 hB).mono ?_
      rintro e w' ⟨he, v', k1, k2, k3, k4, k5⟩
      refine ⟨he, vv, v', ⟨k1, h.vo.keptS k5 ?_, h.vn, k2, h.st⟩, k5.mono ?_, moves_of hrb inV ?_ ?_⟩
      · intro j hj e
        have a1 := d1 j hj
        rcases e with e | e
        · exact a1.1 e
        · exact a1.2.1 (by rw [e]; rfl)
      · intro j _ e
        rcases e with e | e
        · exact .inl e
        · exact .inr (.inl (by rw [e]; rfl))
      · intro j hj
        rcases k4 with e | ⟨g, e, hg⟩
        · rw [e] at hj
          exact inE j hj
        · rw [e] at hj
          exact .inr (by have := Option.some.inj hj; omega)
      · intro j hj e
        rcases k4 with e' | ⟨g, e', hg⟩
        · rw [e'] at e
          exact (d1 j hj).2.1 e
        · rw [e'] at e
          have := Option.some.inj e
          have := (h.vo.lt j hj).2
          omega
  obtain ⟨aq, cq, rfl⟩ := hq.slice
  by_cases h4 : op = 4
  · subst h4
    have hstep : r.step 4 ql = { r with th := true } := by unfold RS.step; rw [if_neg h02, if_neg h13, if_pos rfl]
    rw [hstep]
    refine (add_ex rb k qk r.th r.ab vv ev aq ql.length cq w h.cells).mono ?_
    rintro e w' ⟨he, k1, k2⟩
    exact ⟨he, vv, ev, ⟨k1, h.vo.keptS k2 fun j hj => (d1 j hj).1, h.vn, h.eo.keptS k2 fun j hj => (d2 j hj).1, h.st⟩, k2.mono fun j _ e => .inl e, moves_of hrb inV inE fun j hj e => (d1 j hj).2.1 e⟩
  · have h5 : op = 5 := by omega
    subst h5
    have hstep : r.step 5 ql = { r with ab := true } := by unfold RS.step; rw [if_neg h02, if_neg h13, if_neg h4]
    rw [hstep]
    refine (add_nx rb k qk r.th r.ab vv ev aq ql.length cq w h.cells).mono ?_
    rintro e w' ⟨he, k1, k2⟩
    exact ⟨he, vv, ev, ⟨k1, h.vo.keptS k2 fun j hj => (d1 j hj).1, h.vn, h.eo.keptS k2 fun j hj => (d2 j hj).1, h.st⟩, k2.mono fun j _ e => .inl e, moves_of hrb inV inE fun j hj e => (d1 j hj).2.1 e⟩

end Go.Proofs.Qxb6605201a.Rul
