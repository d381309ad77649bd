import Derived.Test.Qxb6605201aModel
import Derived.Test.Qxb6605201aSameR
namespace Go.Proofs.Qxb6605201a.Rul
open Go.RowKit Go.Sort Go.Lib

theorem Try.info35 : (Try.prog.info? 35).map (fun i => (i.zero, i.size, i.bytes)) = some (some (.agg #[.string ⟨#[]⟩, .bool false, .bool false, .slice none 0 0, .slice none 0 0]), 5, 72) := by kernel_rfl

/-- The row of the models. -/
def RowM (w : World) (g n : Nat) (L : List RV) : Prop := L.length ≤ n ∧ ∃ cur : Array Value, w.heap[g]? = some (.cells cur 35 (0, 0)) ∧ cur.size = n * 5 ∧ ∀ i r, L[i]? = some r → ∀ f, f < 5 → cur[i * 5 + f]? = (encRV r)[f]?
theorem RowM.made {w1 : World} {B g n : Nat} {X : List Value} (hown : w1.ownsRow B 35 5 (.slice (some ⟨g, 0, none⟩) n n) n X) : RowM w1 g n [] := by
  obtain ⟨_, h | ⟨g', cap, cur, hv, _, hh, _, _, hsz, _⟩⟩ := hown
  · cases h.1
  · cases hv
    exact ⟨Nat.zero_le _, cur, hh, hsz, fun i q hq => by simp at hq⟩
theorem RowM.lt {w : World} {g n : Nat} {L : List RV} (h : RowM w g n L) : g < w.heap.size := by
  obtain ⟨_, cur, h2, _⟩ := h
  rcases Nat.lt_or_ge g w.heap.size with h1 | h1
  · exact h1
  · rw [Array.getElem?_eq_none h1] at h2; cases h2
theorem RowM.kept {w w' : World} {g n : Nat} {L : List RV} (h : RowM w g n L) (hb : w'.heap[g]? = w.heap[g]?) : RowM w' g n L := by
  obtain ⟨h1, cur, h2, r⟩ := h
  exact ⟨h1, cur, hb.trans h2, r⟩
theorem RowM.at {w : World} {g n : Nat} {L : List RV} (h : RowM w g n L) (p : Nat) (hp : p < n * 5) : (∃ x, w.cell? ⟨g, p, none⟩ = some x) ∧ w.frozen? ⟨g, p, none⟩ = false := by
  obtain ⟨_, cur, h2, h3, _⟩ := h
  refine ⟨⟨cur[p]'(by omega), ?_⟩, frozen_of_row w g p cur 35 h2⟩
  simp [World.cell?, h2]
theorem RowM.cells {w : World} {g n : Nat} {L : List RV} (h : RowM w g n L) {i : Nat} {r : RV} (hi : L[i]? = some r) : RuleCells w g i r := by
  obtain ⟨_, cur, h2, h3, h4⟩ := h
  intro f hf
  rw [← h4 i r hi f hf]
  simp [World.cell?, h2]
theorem RowM.put {w : World} {g n : Nat} {L : List RV} (h : RowM w g n L) (hlt : L.length < n) (r : RV) : RowM (put5 w g (L.length * 5) r) g n (L ++ [r]) := by
  obtain ⟨_, cur, h2, h3, h4⟩ := h
  refine ⟨by simp; omega, ((((cur.setIfInBounds (L.length * 5) (encStr r.k)).setIfInBounds (L.length * 5 + 1) (.bool r.th)).setIfInBounds (L.length * 5 + 2) (.bool r.ab)).setIfInBounds (L.length * 5 + 3) r.vv).setIfInBounds (L.length * 5 + 4) r.ev, ?_, by simpa using h3, ?_⟩
  · unfold put5
    rw [Sort.setCell_eq, Sort.setCell_eq, Sort.setCell_eq, Sort.setCell_eq, Sort.setCell_eq, mapBlock_mapBlock, mapBlock_mapBlock, mapBlock_mapBlock, mapBlock_mapBlock]
    show (w.heap.modify g (onCells _))[g]? = _
    rw [Array.getElem?_modify, if_pos rfl, h2]; rfl
  · intro i r' hi f hf
    rcases Nat.lt_or_ge i L.length with hlt' | hge
    · rw [List.getElem?_append_left hlt'] at hi
      simp only [Array.getElem?_setIfInBounds]
      rw [if_neg (by omega), if_neg (by omega), if_neg (by omega), if_neg (by omega), if_neg (by omega)]
      exact h4 i r' hi f hf
    · rw [List.getElem?_append_right hge] at hi
      have e0 : i - L.length = 0 := by
        have := (List.getElem?_eq_some_iff.1 hi).1; simp at this; omega
      rw [e0] at hi
      simp at hi
      subst hi
      rw [show i = L.length by omega]
      rcases (show f = 0 ∨ f = 1 ∨ f = 2 ∨ f = 3 ∨ f = 4 by omega) with rfl | rfl | rfl | rfl | rfl <;>
        simp [Array.getElem?_setIfInBounds, encRV] <;> omega

/-- The models in the making. -/
structure ModSt (B gm n : Nat) (P : List Pq) (KL : List Str) (w3 wr : World) (Ms : List RV) : Prop where
  row : RowM wr gm n Ms
  ok : ∀ m ∈ Ms, RuleOk B wr P m
  ne : ∀ m ∈ Ms, ∀ j ∈ bks [m.vv, m.ev], j ≠ gm
  keys : Ms.map (fun r => r.k) = KL.take Ms.length
  bel : Below w3.heap.size w3 wr
  low : w3.heap.size ≤ gm
  hB : B ≤ w3.heap.size

theorem ModSt.step {B gm n : Nat} {P : List Pq} {KL : List Str} {w3 wr w' : World} {Ms : List RV} (h : ModSt B gm n P KL w3 wr Ms) (hlt : Ms.length < n) (hk : Ms.length < KL.length) {av ae : Option Addr} {nv cv ne ce : Nat}
    (hv : OwnS wr.heap.size w' (.slice av nv cv) ((rsOf P KL[Ms.length]).vs.getD [])) (hn : (Value.slice av nv cv) = .slice none 0 0 ↔ (rsOf P KL[Ms.length]).vs = none) (he : OwnS wr.heap.size w' (.slice ae ne ce) (rsOf P KL[Ms.length]).es) (hb : Below wr.heap.size wr w') :
    ModSt B gm n P KL w3 (put5 w' gm (Ms.length * 5) ⟨KL[Ms.length], (rsOf P KL[Ms.length]).th, (rsOf P KL[Ms.length]).ab, av, nv, cv, ae, ne, ce⟩) (Ms ++ [⟨KL[Ms.length], (rsOf P KL[Ms.length]).th, (rsOf P KL[Ms.length]).ab, av, nv, cv, ae, ne, ce⟩]) := by
  have hg := h.row.lt
  have hBr : B ≤ wr.heap.size := Nat.le_trans h.hB h.bel.size
  generalize hr : (⟨KL[Ms.length], (rsOf P KL[Ms.length]).th, (rsOf P KL[Ms.length]).ab, av, nv, cv, ae, ne, ce⟩ : RV) = r
  have hK := put5_kept w' gm (Ms.length * 5) r
  have hnew : ∀ j ∈ bks [r.vv, r.ev], wr.heap.size ≤ j ∧ j < w'.heap.size := by
    intro j hj
    obtain ⟨v, hv1, hv2⟩ := List.mem_filterMap.1 hj
    rw [← hr] at hv1
    simp only [List.mem_cons, List.not_mem_nil, or_false] at hv1
    rcases hv1 with rfl | rfl
    · exact hv.lt j hv2
    · exact he.lt j hv2
  have hold : ∀ m ∈ Ms, ∀ j ∈ bks [m.vv, m.ev], j < wr.heap.size := by
    intro m hm j hj
    obtain ⟨v, hv1, hv2⟩ := List.mem_filterMap.1 hj
    simp only [List.mem_cons, List.not_mem_nil, or_false] at hv1
    rcases hv1 with rfl | rfl
    · exact ((h.ok m hm).vo.lt j hv2).2
    · exact ((h.ok m hm).eo.lt j hv2).2
  have hrk : r.k = KL[Ms.length] := by rw [← hr]
  have hok : RuleOk B w' P r := by
    subst hr
    exact ⟨rfl, rfl, hv.mono hBr, hn, he.mono hBr⟩
  refine ⟨(h.row.kept (hb.block gm hg)).put hlt r, ?_, ?_, ?_, ?_, h.low, h.hB⟩
  · intro m hm
    rcases List.mem_append.1 hm with h1 | h1
    · have h2 : RuleOk B w' P m := (h.ok m h1).kept fun j _ hl => hb.block j hl
      exact h2.kept fun j hj hl => hK.block j hl (h.ne m h1 j hj)
    · rw [List.mem_singleton.1 h1]
      exact hok.kept fun j hj hl => hK.block j hl (fun e => by have := (hnew j hj).1; omega)
  · intro m hm j hj
    rcases List.mem_append.1 hm with h1 | h1
    · exact h.ne m h1 j hj
    · rw [List.mem_singleton.1 h1] at hj
      have := (hnew j hj).1
      omega
  · rw [List.map_append, h.keys, List.length_append, List.length_singleton, List.take_succ_eq_append_getElem hk]
    simp [hrk]
  · exact (h.bel.trans (hb.mono h.bel.size)).trans (below_kept hK (fun j e => by rw [e]; exact h.low) (Nat.le_trans h.bel.size hb.size))

/-- The keys in the making. -/
structure KSt (B : Nat) (w2 wr : World) (kv : Value) (kl : List Str) (Q : List Rq) (k : Nat) : Prop where
  own : OwnS B wr kv kl
  st : Strict kl
  mem : ∀ s, s ∈ kl ↔ s ∈ (Q.take k).map (·.key)
  len : kl.length ≤ k
  bel : Below B w2 wr

theorem KSt.step {B : Nat} {w2 wr w' : World} {kv v' : Value} {kl l' : List Str} {Q : List Rq} {k : Nat} (h : KSt B w2 wr kv kl Q k) (hk : k < Q.length) (hB : B ≤ wr.heap.size) (hi : Insd B wr w' kv v' kl l' Q[k].key) : KSt B w2 w' v' l' Q (k + 1) := by
  refine ⟨hi.own, hi.strict, fun s => ?_, by have := hi.len; have := h.len; omega, h.bel.trans (below_kept hi.kept (fun j e => (h.own.lt j e.symm).1) hB)⟩
  rw [hi.mem, h.mem, List.take_succ_eq_append_getElem hk, List.map_append, List.mem_append]
  simp

theorem KSt.all {B : Nat} {w2 wr : World} {kv : Value} {kl : List Str} {Q : List Rq} (h : KSt B w2 wr kv kl Q Q.length) : kl = sortC ((Q.map Rq.p).map fun q => q.key) := by
  refine strict_unique h.st (sortC_law _).1 fun s => ?_
  rw [h.mem, (sortC_law _).2, List.take_length, List.map_map]
  exact Iff.rfl

/-- The place of an element among those that pass. -/
theorem filter_at {l : List Str} {p : Str → Bool} {k : Nat} (hk : k < l.length) (hp : p l[k] = true) : (l.filter p)[((l.take k).filter p).length]? = some l[k] := by
  have e : l = l.take k ++ l[k] :: l.drop (k + 1) := by
    rw [← List.drop_eq_getElem_cons hk, List.take_append_drop]
  have e2 : l.filter p = (l.take k).filter p ++ l[k] :: (l.drop (k + 1)).filter p := by
    conv => lhs; rw [e]
    rw [List.filter_append, List.filter_cons_of_pos hp]
  rw [e2, List.getElem?_append_right (Nat.le_refl _), Nat.sub_self]; rfl

theorem filter_step {l : List Str} {p : Str → Bool} {k : Nat} (hk : k < l.length) : ((l.take (k + 1)).filter p).length = ((l.take k).filter p).length + (if p l[k] = true then 1 else 0) := by
  rw [List.take_succ_eq_append_getElem hk, List.filter_append, List.length_append]
  congr 1
  by_cases h : p l[k] = true
  · rw [if_pos h, List.filter_cons_of_pos h]; rfl
  · rw [if_neg h, List.filter_cons_of_neg h]; rfl

theorem filter_len_le {l : List Str} {p : Str → Bool} (k : Nat) : ((l.take k).filter p).length ≤ k :=
  Nat.le_trans (List.length_filter_le _ _) (by rw [List.length_take]; omega)

/-- The rule at the place of the key. -/
theorem rule_front {R : List RV} {KL : List Str} {th : Str → Bool} (h : R.map (fun r => r.k) = KL.filter th ++ KL.filter fun k => !th k) {k : Nat} (hk : k < KL.length) (ht : th KL[k] = true) :
    ∃ r, R[((KL.take k).filter th).length]? = some r ∧ r.k = KL[k] ∧ ((KL.take k).filter th).length < R.length := by
  have h1 := filter_at hk ht
  have hlt : ((KL.take k).filter th).length < (KL.filter th).length := (List.getElem?_eq_some_iff.1 h1).1
  have h2 : (R.map (fun r => r.k))[((KL.take k).filter th).length]? = some KL[k] := by
    rw [h, List.getElem?_append_left hlt]; exact h1
  rw [List.getElem?_map] at h2
  cases hr : R[((KL.take k).filter th).length]? with
  | none => rw [hr] at h2; cases h2
  | some r =>
    rw [hr] at h2
    simp at h2
    exact ⟨r, rfl, h2, (List.getElem?_eq_some_iff.1 hr).1⟩
theorem rule_back {R : List RV} {KL : List Str} {th : Str → Bool} (h : R.map (fun r => r.k) = KL.filter th ++ KL.filter fun k => !th k) {k : Nat} (hk : k < KL.length) (ht : th KL[k] = false) :
    ∃ r, R[(KL.filter th).length + ((KL.take k).filter fun k => !th k).length]? = some r ∧ r.k = KL[k] ∧ (KL.filter th).length + ((KL.take k).filter fun k => !th k).length < R.length := by
  have h1 := filter_at (p := fun k => !th k) hk (by simp [ht])
  have h2 : (R.map (fun r => r.k))[(KL.filter th).length + ((KL.take k).filter fun k => !th k).length]? = some KL[k] := by
    rw [h, List.getElem?_append_right (Nat.le_add_right _ _), Nat.add_sub_cancel_left]; exact h1
  rw [List.getElem?_map] at h2
  cases hr : R[(KL.filter th).length + ((KL.take k).filter fun k => !th k).length]? with
  | none => rw [hr] at h2; cases h2
  | some r =>
    rw [hr] at h2
    simp at h2
    exact ⟨r, rfl, h2, (List.getElem?_eq_some_iff.1 hr).1⟩

theorem sum_filter_le (Q : List Rq) (p : Rq → Bool) : sumL (Q.filter p) ≤ sumL Q := by
  unfold sumL
  induction Q with
  | nil => simp
  | cons q Q ih =>
    cases h : p q <;> simp [h] <;> omega

theorem rsOf_len (Q : List Rq) (k : Str) : (rsOf (Q.map Rq.p) k).es.length ≤ sumL Q ∧ ((rsOf (Q.map Rq.p) k).vs.getD []).length ≤ sumL Q := by
  have e : onKey (Q.map Rq.p) k = (Q.filter fun q => decide (q.key = k)).map Rq.p := by
    unfold onKey
    rw [List.filter_map]; rfl
  have h := foldR_len (Q.filter fun q => decide (q.key = k))
  have hs := sum_filter_le Q fun q => decide (q.key = k)
  unfold sumL at hs
  unfold rsOf
  rw [e]
  have hsc : ∀ l : List Str, (sortC l).length ≤ l.length := fun l => by
    have := compact_len (l.mergeSort fun x y => decide (x ≤ y)); rw [List.length_mergeSort] at this; exact this
  unfold foldR at h
  refine ⟨Nat.le_trans (hsc _) (Nat.le_trans h.1 hs), Nat.le_trans h.2 hs⟩

/-- Two rules of the same key say the same. -/
theorem same_rules {B B' : Nat} {w1 w2 wr : World} {P : List Pq} {r m : RV} (hr : RuleOk B w1 P r) (hm : RuleOk B' w2 P m) (hk : r.k = m.k) (b1 : Below w1.heap.size w1 wr) (b2 : Below w2.heap.size w2 wr) :
    r.th = m.th ∧ r.ab = m.ab ∧ Strs wr r.vv ((rsOf P m.k).vs.getD []) ∧ Strs wr m.vv ((rsOf P m.k).vs.getD []) ∧ Strs wr r.ev (rsOf P m.k).es ∧ Strs wr m.ev (rsOf P m.k).es ∧ ((r.va = none ∧ m.va = none) ∨ ∃ x y, r.va = some x ∧ m.va = some y) := by
  have hvn := hr.vn
  have hvo := hr.vo
  have heo := hr.eo
  rw [hk] at hvn hvo heo
  refine ⟨by rw [hr.th, hm.th, hk], by rw [hr.ab, hm.ab, hk], hvo.strs.below b1, hm.vo.strs.below b2, heo.strs.below b1, hm.eo.strs.below b2, ?_⟩
  cases hv : (rsOf P m.k).vs with
  | none =>
    have e1 := hvn.2 hv
    have e2 := hm.vn.2 hv
    unfold RV.vv at e1 e2
    simp only [Value.slice.injEq] at e1 e2
    exact .inl ⟨e1.1, e2.1⟩
  | some l =>
    right
    obtain ⟨g1, c1, e1, _⟩ := hvo.some_of (fun e => by rw [hvn.1 e] at hv; cases hv)
    obtain ⟨g2, c2, e2, _⟩ := hm.vo.some_of (fun e => by rw [hm.vn.1 e] at hv; cases hv)
    unfold RV.vv at e1 e2
    simp only [Value.slice.injEq] at e1 e2
    exact ⟨_, _, e1.1, e2.1⟩

end Go.Proofs.Qxb6605201a.Rul
