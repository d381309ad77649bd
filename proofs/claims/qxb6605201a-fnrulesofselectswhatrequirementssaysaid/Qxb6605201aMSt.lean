import Derived.Test.Qxb6605201aCopy
namespace Go.Proofs.Qxb6605201a.Rul
open Go.RowKit Go.Sort Go.Lib

/-- The model's rule in a block of its own. -/
def MAt (w : World) (g : Nat) (k : Str) (th ab : Bool) (vv ev : Value) : Prop := w.heap[g]? = some (.cells #[encStr k, .bool th, .bool ab, vv, ev] 35 (0, 0))

theorem MAt.lt {w : World} {g : Nat} {k : Str} {th ab : Bool} {vv ev : Value} (h : MAt w g k th ab vv ev) : g < w.heap.size := by
  unfold MAt at h
  rcases Nat.lt_or_ge g w.heap.size with h1 | h1
  · exact h1
  · rw [Array.getElem?_eq_none h1] at h; exact absurd h (by simp)
theorem MAt.cell {w : World} {g : Nat} {k : Str} {th ab : Bool} {vv ev : Value} (h : MAt w g k th ab vv ev) (j : Nat) : w.cell? ⟨g, j, none⟩ = #[encStr k, .bool th, .bool ab, vv, ev][j]? := by
  unfold MAt at h
  simp [World.cell?, h]
theorem MAt.frozen {w : World} {g : Nat} {k : Str} {th ab : Bool} {vv ev : Value} (h : MAt w g k th ab vv ev) (j : Nat) : w.frozen? ⟨g, j, none⟩ = false := frozen_of_row w g j _ 35 h
theorem MAt.kept {w w' : World} {g : Nat} {k : Str} {th ab : Bool} {vv ev : Value} (h : MAt w g k th ab vv ev) (hb : w'.heap[g]? = w.heap[g]?) : MAt w' g k th ab vv ev := hb.trans h
theorem MAt.setTh {w : World} {g : Nat} {k : Str} {th ab : Bool} {vv ev : Value} (h : MAt w g k th ab vv ev) (b : Bool) : MAt (w.setCell ⟨g, 1, none⟩ (.bool b)) g k b ab vv ev := by
  rw [Sort.setCell_eq]
  show (w.heap.modify g (onCells _))[g]? = _
  rw [Array.getElem?_modify, if_pos rfl, show w.heap[g]? = _ from h]; rfl
theorem MAt.setAb {w : World} {g : Nat} {k : Str} {th ab : Bool} {vv ev : Value} (h : MAt w g k th ab vv ev) (b : Bool) : MAt (w.setCell ⟨g, 2, none⟩ (.bool b)) g k th b vv ev := by
  rw [Sort.setCell_eq]
  show (w.heap.modify g (onCells _))[g]? = _
  rw [Array.getElem?_modify, if_pos rfl, show w.heap[g]? = _ from h]; rfl
theorem MAt.setVv {w : World} {g : Nat} {k : Str} {th ab : Bool} {vv ev : Value} (h : MAt w g k th ab vv ev) (u : Value) : MAt (w.setCell ⟨g, 3, none⟩ u) g k th ab u ev := by
  rw [Sort.setCell_eq]
  show (w.heap.modify g (onCells _))[g]? = _
  rw [Array.getElem?_modify, if_pos rfl, show w.heap[g]? = _ from h]; rfl
theorem MAt.setEv {w : World} {g : Nat} {k : Str} {th ab : Bool} {vv ev : Value} (h : MAt w g k th ab vv ev) (u : Value) : MAt (w.setCell ⟨g, 4, none⟩ u) g k th ab vv u := by
  rw [Sort.setCell_eq]
  show (w.heap.modify g (onCells _))[g]? = _
  rw [Array.getElem?_modify, if_pos rfl, show w.heap[g]? = _ from h]; rfl

/-- Inside modelRule: the rule m in block g, the offered values ov (in the first loop) or the values so far (in the second: vv), the excluded ev. -/
structure MSt (B g : Nat) (w wr : World) (key : Str) (th ab : Bool) (vv ov ev : Value) (ol el : List Str) : Prop where
  m : MAt wr g key th ab vv ev
  oo : OwnS B wr ov ol
  os : Strict ol
  eo : OwnS B wr ev el
  es : Strict el
  vb : ∀ j, vv.ownBlock = some j → j < wr.heap.size
  d1 : ∀ j, ov.ownBlock = some j → j ≠ g ∧ ev.ownBlock ≠ some j
  d2 : ∀ j, ev.ownBlock = some j → j ≠ g
  bel : Below B w wr
  low : B ≤ g
  z0 : ∃ zs : Array Value, wr.heap[B]? = some (.cells zs 35 (0, 0)) ∧ zs.size = 5
  hz : B < g ∧ (∀ j, ov.ownBlock = some j → j ≠ B) ∧ (∀ j, ev.ownBlock = some j → j ≠ B)

theorem MSt.drew {B g : Nat} {w wr : World} {key : Str} {th ab : Bool} {vv ov ev : Value} {ol el : List Str} (h : MSt B g w wr key th ab vv ov ev ol el) : MSt B g w wr.drew key th ab vv ov ev ol el :=
  ⟨h.m, h.oo, h.os, h.eo, h.es, h.vb, h.d1, h.d2, h.bel.drew, h.low, h.z0, h.hz⟩

theorem MSt.B_le {B g : Nat} {w wr : World} {key : Str} {th ab : Bool} {vv ov ev : Value} {ol el : List Str} (h : MSt B g w wr key th ab vv ov ev ol el) : B ≤ wr.heap.size := Nat.le_trans h.low (Nat.le_of_lt h.m.lt)

/-- A store into the rule's own block. -/
theorem MSt.put {B g : Nat} {w wr : World} {key : Str} {th ab th' ab' : Bool} {vv ov ev : Value} {ol el : List Str} (h : MSt B g w wr key th ab vv ov ev ol el) {f : Nat} {u : Value} (hm : MAt (wr.setCell ⟨g, f, none⟩ u) g key th' ab' vv ev) :
    MSt B g w (wr.setCell ⟨g, f, none⟩ u) key th' ab' vv ov ev ol el := by
  have hk := kept_set wr g f u
  obtain ⟨zs, z1, z2⟩ := h.z0
  refine ⟨hm, h.oo.keptS hk fun j hj => (h.d1 j hj).1, h.os, h.eo.keptS hk fun j hj => h.d2 j hj, h.es, fun j hj => Nat.lt_of_lt_of_le (h.vb j hj) hk.size, h.d1, h.d2, h.bel.trans (below_kept hk (fun j e => by rw [e]; exact h.low) h.B_le), h.low, ⟨zs, ?_, z2⟩, h.hz⟩
  exact (hk.block B (Nat.lt_trans h.hz.1 h.m.lt) (by have := h.hz.1; omega)).trans z1

/-- One more value offered. -/
theorem MSt.ins {B g : Nat} {w wr w' : World} {key : Str} {th ab : Bool} {vv ov ev v' : Value} {ol el l' : List Str} {x : Str} (h : MSt B g w wr key th ab vv ov ev ol el) (hvv : vv = .slice none 0 0) (hi : Insd B wr w' ov v' ol l' x) : MSt B g w w' key th ab vv v' ev l' el := by
  have hg := h.m.lt
  have hBg : B < wr.heap.size := Nat.lt_trans h.hz.1 hg
  obtain ⟨zs, z1, z2⟩ := h.z0
  refine ⟨h.m.kept (hi.kept.block g hg fun e => (h.d1 g e.symm).1 rfl), hi.own, hi.strict, h.eo.keptS hi.kept fun j hj e => (h.d1 j e.symm).2 hj, h.es, ?_, ?_, h.d2, h.bel.trans (below_kept hi.kept (fun j e => (h.oo.lt j e.symm).1) h.B_le), h.low, ⟨zs, (hi.kept.block B hBg fun e => h.hz.2.1 B e.symm rfl).trans z1, z2⟩, h.hz.1, ?_, h.hz.2.2⟩
  · intro j hj; rw [hvv] at hj; cases hj
  · intro j hj
    rcases hi.blk with e | ⟨g', e, hle⟩
    · exact h.d1 j (e ▸ hj)
    · rw [hj] at e
      cases e
      refine ⟨by omega, fun e2 => ?_⟩
      have := (h.eo.lt j e2).2
      omega
  · intro j hj
    rcases hi.blk with e | ⟨g', e, hle⟩
    · exact h.hz.2.1 j (e ▸ hj)
    · rw [hj] at e
      cases e
      omega

/-- One more value excluded; the slice is stored. -/
theorem MSt.insE {B g : Nat} {w wr w' : World} {key : Str} {th ab : Bool} {vv ov ev v' : Value} {ol el l' : List Str} {x : Str} (h : MSt B g w wr key th ab vv ov ev ol el) (hvv : vv = .slice none 0 0) (hi : Insd B wr w' ev v' el l' x) : MSt B g w (w'.setCell ⟨g, 4, none⟩ v') key th ab vv ov v' ol l' := by
  have hg := h.m.lt
  have hBg : B < wr.heap.size := Nat.lt_trans h.hz.1 hg
  obtain ⟨zs, z1, z2⟩ := h.z0
  have hm : MAt w' g key th ab vv ev := h.m.kept (hi.kept.block g hg fun e => h.d2 g e.symm rfl)
  have hk := kept_set w' g 4 v'
  have hv : ∀ j, v'.ownBlock = some j → j ≠ g ∧ j ≠ B ∧ ov.ownBlock ≠ some j := by
    intro j hj
    rcases hi.blk with e | ⟨g', e, hle⟩
    · have e' := e ▸ hj
      exact ⟨h.d2 j e', h.hz.2.2 j e', fun e2 => (h.d1 j e2).2 e'⟩
    · rw [hj] at e
      cases e
      refine ⟨by omega, by omega, fun e2 => ?_⟩
      have := (h.oo.lt j e2).2
      omega
  have hoo : OwnS B w' ov ol := h.oo.keptS hi.kept fun j hj e => (h.d1 j hj).2 e.symm
  refine ⟨hm.setEv v', hoo.keptS hk fun j hj => (h.d1 j hj).1, h.os, hi.own.keptS hk fun j hj => (hv j hj).1, hi.strict, ?_, fun j hj => ⟨(h.d1 j hj).1, fun e => (hv j e).2.2 hj⟩, fun j hj => (hv j hj).1, ?_, h.low, ⟨zs, ?_, z2⟩, h.hz.1, h.hz.2.1, fun j hj => (hv j hj).2.1⟩
  · intro j hj; rw [hvv] at hj; cases hj
  · exact (h.bel.trans (below_kept hi.kept (fun j e => (h.eo.lt j e.symm).1) h.B_le)).trans (below_kept hk (fun j e => by rw [e]; exact h.low) (Nat.le_trans h.B_le hi.kept.size))
  · exact (hk.block B (Nat.lt_of_lt_of_le hBg hi.kept.size) (by have := h.hz.1; omega)).trans ((hi.kept.block B hBg fun e => h.hz.2.2 B e.symm rfl).trans z1)

/-- What the first loop has of the requirements G on the key. -/
structure MLaw (G : List Pq) (nm th ab : Bool) (ol el : List Str) : Prop where
  th : th = true ↔ ∃ q ∈ G, q.isTh = true
  ab : ab = true ↔ ∃ q ∈ G, q.isAb = true
  nm : nm = true ↔ ∃ q ∈ G, q.isEq = true
  ol : ∀ s, s ∈ ol ↔ ∃ q ∈ G, q.isEq = true ∧ s ∈ q.l
  el : ∀ s, s ∈ el ↔ ∃ q ∈ G, q.isNe = true ∧ s ∈ q.l

theorem MLaw.init : MLaw [] false false false [] [] := ⟨by simp, by simp, by simp, by simp, by simp⟩

theorem ex_snoc {G : List Pq} {q : Pq} {p : Pq → Prop} : (∃ q' ∈ G ++ [q], p q') ↔ (∃ q' ∈ G, p q') ∨ p q := by
  constructor
  · rintro ⟨q', h1, h2⟩
    rcases List.mem_append.1 h1 with h3 | h3
    · exact .inl ⟨q', h3, h2⟩
    · rw [List.mem_singleton.1 h3] at h2; exact .inr h2
  · rintro (⟨q', h1, h2⟩ | h)
    · exact ⟨q', List.mem_append_left _ h1, h2⟩
    · exact ⟨q, by simp, h⟩

theorem MLaw.eq {G : List Pq} {nm th ab : Bool} {ol el ol' : List Str} (h : MLaw G nm th ab ol el) (q : Pq) (hq : q.op = 0 ∨ q.op = 2) (ho : ∀ s, s ∈ ol' ↔ s ∈ ol ∨ s ∈ q.l) : MLaw (G ++ [q]) true true ab ol' el := by
  have e1 : q.isEq = true := by simp [Pq.isEq, hq]
  have e2 : q.isNe = false := by simp [Pq.isNe]; omega
  have e3 : q.isTh = true := by simp [Pq.isTh]; omega
  have e4 : q.isAb = false := by simp [Pq.isAb]; omega
  refine ⟨?_, ?_, ?_, fun s => ?_, fun s => ?_⟩
  · rw [ex_snoc]; simp [e3]
  · rw [ex_snoc, h.ab]; simp [e4]
  · rw [ex_snoc]; simp [e1]
  · rw [ex_snoc, ho, h.ol]; simp [e1]
  · rw [ex_snoc, h.el]; simp [e2]
theorem MLaw.ne {G : List Pq} {nm th ab : Bool} {ol el el' : List Str} (h : MLaw G nm th ab ol el) (q : Pq) (hq : q.op = 1 ∨ q.op = 3) (ho : ∀ s, s ∈ el' ↔ s ∈ el ∨ s ∈ q.l) : MLaw (G ++ [q]) nm th ab ol el' := by
  have e1 : q.isEq = false := by simp [Pq.isEq]; omega
  have e2 : q.isNe = true := by simp [Pq.isNe, hq]
  have e3 : q.isTh = false := by simp [Pq.isTh]; omega
  have e4 : q.isAb = false := by simp [Pq.isAb]; omega
  refine ⟨?_, ?_, ?_, fun s => ?_, fun s => ?_⟩
  · rw [ex_snoc, h.th]; simp [e3]
  · rw [ex_snoc, h.ab]; simp [e4]
  · rw [ex_snoc, h.nm]; simp [e1]
  · rw [ex_snoc, h.ol]; simp [e1]
  · rw [ex_snoc, ho, h.el]; simp [e2]
theorem MLaw.four {G : List Pq} {nm th ab : Bool} {ol el : List Str} (h : MLaw G nm th ab ol el) (q : Pq) (hq : q.op = 4) : MLaw (G ++ [q]) nm true ab ol el := by
  have e1 : q.isEq = false := by simp [Pq.isEq]; omega
  have e2 : q.isNe = false := by simp [Pq.isNe]; omega
  have e3 : q.isTh = true := by simp [Pq.isTh]; omega
  have e4 : q.isAb = false := by simp [Pq.isAb]; omega
  refine ⟨?_, ?_, ?_, fun s => ?_, fun s => ?_⟩
  · rw [ex_snoc]; simp [e3]
  · rw [ex_snoc, h.ab]; simp [e4]
  · rw [ex_snoc, h.nm]; simp [e1]
  · rw [ex_snoc, h.ol]; simp [e1]
  · rw [ex_snoc, h.el]; simp [e2]
theorem MLaw.five {G : List Pq} {nm th ab : Bool} {ol el : List Str} (h : MLaw G nm th ab ol el) (q : Pq) (hq : q.op = 5) : MLaw (G ++ [q]) nm th true ol el := by
  have e1 : q.isEq = false := by simp [Pq.isEq]; omega
  have e2 : q.isNe = false := by simp [Pq.isNe]; omega
  have e3 : q.isTh = false := by simp [Pq.isTh]; omega
  have e4 : q.isAb = true := by simp [Pq.isAb]; omega
  refine ⟨?_, ?_, ?_, fun s => ?_, fun s => ?_⟩
  · rw [ex_snoc, h.th]; simp [e3]
  · rw [ex_snoc]; simp [e4]
  · rw [ex_snoc, h.nm]; simp [e1]
  · rw [ex_snoc, h.ol]; simp [e1]
  · rw [ex_snoc, h.el]; simp [e2]

/-- The requirements on the key among the first k. -/
def upTo (Q : List Rq) (key : Str) (k : Nat) : List Pq := onKey ((Q.take k).map Rq.p) key
theorem upTo_hit {Q : List Rq} {key : Str} {k : Nat} (hk : k < Q.length) (h : Q[k].key = key) : upTo Q key (k + 1) = upTo Q key k ++ [Q[k].p] := by
  unfold upTo onKey
  rw [List.take_succ_eq_append_getElem hk, List.map_append, List.filter_append]
  simp [Rq.p, h]
theorem upTo_miss {Q : List Rq} {key : Str} {k : Nat} (hk : k < Q.length) (h : Q[k].key ≠ key) : upTo Q key (k + 1) = upTo Q key k := by
  unfold upTo onKey
  rw [List.take_succ_eq_append_getElem hk, List.map_append, List.filter_append]
  simp [Rq.p, h]
theorem upTo_all (Q : List Rq) (key : Str) : upTo Q key Q.length = onKey (Q.map Rq.p) key := by
  unfold upTo; rw [List.take_length]

theorem named_iff (Q : List Rq) (key x : Str) : NamedBy Q key x ↔ ∀ q ∈ onKey (Q.map Rq.p) key, q.isEq = true → x ∈ q.l := by
  unfold NamedBy onKey
  constructor
  · intro h q hq he
    obtain ⟨h1, h2⟩ := List.mem_filter.1 hq
    obtain ⟨q', h3, rfl⟩ := List.mem_map.1 h1
    exact h q' h3 (of_decide_eq_true h2) he
  · intro h q hq hk he
    exact h q.p (List.mem_filter.2 ⟨List.mem_map.2 ⟨q, hq, rfl⟩, decide_eq_true hk⟩) he

/-- The model's rule is what the requirements on the key ask. -/
theorem model_none {Q : List Rq} {key : Str} {th ab : Bool} {ol el : List Str} (h : MLaw (onKey (Q.map Rq.p) key) false th ab ol el) (hs : Strict el) (hf : ∀ q ∈ Q, q.p.Fit) :
    rsOf (Q.map Rq.p) key = ⟨th, ab, none, el⟩ := by
  have hok := rsOf_ok (Q.map Rq.p) key (fun q hq => by obtain ⟨q', h1, rfl⟩ := List.mem_map.1 hq; exact hf q' h1)
  refine hok.unique ⟨h.th, h.ab, ?_, (fun l hl => by cases hl), h.el⟩ (rsOf_strict _ _) hs
  refine ⟨fun _ q hq => ?_, fun _ => rfl⟩
  cases he : q.isEq with
  | false => rfl
  | true => have := h.nm.2 ⟨q, hq, he⟩; cases this
theorem model_some {Q : List Rq} {key : Str} {th ab : Bool} {ol el vl : List Str} (h : MLaw (onKey (Q.map Rq.p) key) true th ab ol el) (hs : Strict el) (hv : Strict vl) (hvm : ∀ s, s ∈ vl ↔ s ∈ ol ∧ NamedBy Q key s) (hf : ∀ q ∈ Q, q.p.Fit) :
    rsOf (Q.map Rq.p) key = ⟨th, ab, some vl, el⟩ := by
  have hok := rsOf_ok (Q.map Rq.p) key (fun q hq => by obtain ⟨q', h1, rfl⟩ := List.mem_map.1 hq; exact hf q' h1)
  obtain ⟨q0, hq0, he0⟩ := h.nm.1 rfl
  refine hok.unique ⟨h.th, h.ab, ?_, fun l hl => ?_, h.el⟩ (rsOf_strict _ _) hs
  · refine ⟨(fun e => by cases e), fun e => ?_⟩
    have := e q0 hq0
    rw [he0] at this; cases this
  · cases hl
    refine ⟨hv, fun s => ?_⟩
    rw [hvm, named_iff, h.ol]
    constructor
    · rintro ⟨_, h2⟩; exact h2
    · intro h2; exact ⟨⟨q0, hq0, he0, h2 q0 hq0 he0⟩, h2⟩

end Go.Proofs.Qxb6605201a.Rul
