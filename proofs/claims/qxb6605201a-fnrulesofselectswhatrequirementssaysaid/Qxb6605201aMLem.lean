import Derived.Test.Qxb6605201aMSt
import Derived.Deep.RegionWith
import Derived.Deep.RegionLaw
namespace Go.Proofs.Qxb6605201a.Rul
open Go.RowKit Go.Sort Go.Lib

/-- modelRule's ending. -/
def RetM (P : List Pq) (key : Str) (w : World) (e : Ending) (w' : World) : Prop := ∃ vv ev, e = .returned (.agg #[encStr key, .bool (rsOf P key).th, .bool (rsOf P key).ab, vv, ev]) ∧
  OwnS w.heap.size w' vv ((rsOf P key).vs.getD []) ∧ (vv = .slice none 0 0 ↔ (rsOf P key).vs = none) ∧ OwnS w.heap.size w' ev (rsOf P key).es ∧ Below w.heap.size w w' ∧ (∃ a n c, vv = .slice a n c) ∧ (∃ a n c, ev = .slice a n c)

theorem MSt.start (w : World) (key : Str) : MSt w.heap.size (w.heap.size + 1) w ((w.alloc (.cells #[.string ⟨#[]⟩, .bool false, .bool false, .slice none 0 0, .slice none 0 0] 35)).alloc (.cells #[encStr key, .bool false, .bool false, .slice none 0 0, .slice none 0 0] 35)) key false false (.slice none 0 0) (.slice none 0 0) (.slice none 0 0) [] [] := by
  refine ⟨?_, OwnS.nil _ _, List.Pairwise.nil, OwnS.nil _ _, List.Pairwise.nil, (fun j hj => by cases hj), (fun j hj => by cases hj), (fun j hj => by cases hj), ?_, Nat.le_succ _, ⟨#[.string ⟨#[]⟩, .bool false, .bool false, .slice none 0 0, .slice none 0 0], ?_, rfl⟩, Nat.lt_succ_self _, (fun j hj => by cases hj), (fun j hj => by cases hj)⟩
  · exact heap_alloc2_new w _ _
  · exact ((Below.refl _ _).alloc (Nat.le_refl _) _).alloc (Nat.le_of_lt (size_alloc_lt w _)) _
  · exact (Below.heap_alloc _ _ _ (size_alloc_lt w _)).trans (heap_alloc_new w _)

theorem sumL_le (Q : List Rq) (k : Nat) : sumL (Q.take k) ≤ sumL Q := by
  have h : sumL (Q.take k) + sumL (Q.drop k) = sumL Q := by
    unfold sumL
    rw [← List.sum_append, ← List.map_append, List.take_append_drop]
  omega

/-- Between two requirements. -/
def MOut (B g : Nat) (w wr : World) (Q : List Rq) (key : Str) (k : Nat) (nm : Bool) (ov : Value) : Prop := ∃ th ab ev ol el, MSt B g w wr key th ab (.slice none 0 0) ov ev ol el ∧ MLaw (upTo Q key k) nm th ab ol el ∧ ol.length + el.length ≤ sumL (Q.take k)

/-- Inside an equals or in: the first j of its values are offered. -/
def MInn (B g : Nat) (w wr : World) (l : List Str) (key : Str) (j : Nat) (ab : Bool) (ov ev : Value) (ol el : List Str) : Prop := ∃ ol', MSt B g w wr key true ab (.slice none 0 0) ov ev ol' el ∧ (∀ s, s ∈ ol' ↔ s ∈ ol ∨ s ∈ l.take j) ∧ ol'.length ≤ ol.length + j

/-- Inside a not-equals or notin: the first j of its values are excluded. -/
def MInE (B g : Nat) (w wr : World) (l : List Str) (key : Str) (j : Nat) (th ab : Bool) (ov : Value) (ol el : List Str) : Prop := ∃ ev el', MSt B g w wr key th ab (.slice none 0 0) ov ev ol el' ∧ (∀ s, s ∈ el' ↔ s ∈ el ∨ s ∈ l.take j) ∧ el'.length ≤ el.length + j

theorem mem_snoc {l : List Str} {j : Nat} (hj : j < l.length) (s : Str) : s ∈ l.take (j + 1) ↔ s ∈ l.take j ∨ s = l[j] := by
  rw [List.take_succ_eq_append_getElem hj, List.mem_append, List.mem_singleton]

theorem MInn.step {B g : Nat} {w wr w' : World} {l : List Str} {key : Str} {j : Nat} {ab : Bool} {ov ev v' : Value} {ol el ol' l' : List Str} (hm : MSt B g w wr key true ab (.slice none 0 0) ov ev ol' el) (h1 : ∀ s, s ∈ ol' ↔ s ∈ ol ∨ s ∈ l.take j) (h2 : ol'.length ≤ ol.length + j) (hj : j < l.length) (hi : Insd B wr w' ov v' ol' l' l[j]) :
    MInn B g w w' l key (j + 1) ab v' ev ol el := by
  refine ⟨l', hm.ins rfl hi, fun s => ?_, by have := hi.len; omega⟩
  rw [hi.mem, h1, mem_snoc hj]
  exact or_assoc

theorem MInE.step {B g : Nat} {w wr w' : World} {l : List Str} {key : Str} {j : Nat} {th ab : Bool} {ov ev v' : Value} {ol el el' l' : List Str} (hm : MSt B g w wr key th ab (.slice none 0 0) ov ev ol el') (h1 : ∀ s, s ∈ el' ↔ s ∈ el ∨ s ∈ l.take j) (h2 : el'.length ≤ el.length + j) (hj : j < l.length) (hi : Insd B wr w' ev v' el' l' l[j]) :
    MInE B g w (w'.setCell ⟨g, 4, none⟩ v') l key (j + 1) th ab ov ol el := by
  refine ⟨v', l', hm.insE rfl hi, fun s => ?_, by have := hi.len; omega⟩
  rw [hi.mem, h1, mem_snoc hj]
  exact or_assoc

theorem MInE.drew {B g : Nat} {w wr : World} {l : List Str} {key : Str} {j : Nat} {th ab : Bool} {ov : Value} {ol el : List Str} (h : MInE B g w wr l key j th ab ov ol el) : MInE B g w wr.drew l key j th ab ov ol el := by
  obtain ⟨a, b, h1, h2⟩ := h
  exact ⟨a, b, h1.drew, h2⟩

theorem insd_drew {B : Nat} {w w' : World} {v v' : Value} {l l' : List Str} {x : Str} (h : Insd B w.drew w' v v' l l' x) : Insd B w w' v v' l l' x :=
  ⟨h.own, h.strict, h.mem, h.len, h.blk, ⟨h.kept.os, h.kept.tape, h.kept.output, h.kept.size, h.kept.block⟩⟩

theorem MSt.keptS {B g : Nat} {w wr w' : World} {key : Str} {th ab : Bool} {vv ov ev : Value} {ol el : List Str} {S : Nat → Prop} (h : MSt B g w wr key th ab vv ov ev ol el) (hk : Kept S wr w') (hs : ∀ j, S j → B < j ∧ j ≠ g ∧ ov.ownBlock ≠ some j ∧ ev.ownBlock ≠ some j) : MSt B g w w' key th ab vv ov ev ol el := by
  have hg := h.m.lt
  have hBg : B < wr.heap.size := Nat.lt_trans h.hz.1 hg
  obtain ⟨zs, z1, z2⟩ := h.z0
  exact ⟨h.m.kept (hk.block g hg fun e => (hs g e).2.1 rfl), h.oo.keptS hk fun j hj e => (hs j e).2.2.1 hj, h.os, h.eo.keptS hk fun j hj e => (hs j e).2.2.2 hj, h.es, fun j hj => Nat.lt_of_lt_of_le (h.vb j hj) hk.size, h.d1, h.d2,
    h.bel.trans (below_kept hk (fun j e => Nat.le_of_lt (hs j e).1) h.B_le), h.low, ⟨zs, (hk.block B hBg fun e => Nat.lt_irrefl _ (hs B e).1).trans z1, z2⟩, h.hz⟩

theorem MSt.putVv {B g : Nat} {w wr : World} {key : Str} {th ab : Bool} {vv ov ev : Value} {ol el : List Str} (h : MSt B g w wr key th ab vv ov ev ol el) (u : Value) (hu : ∀ j, u.ownBlock = some j → j < wr.heap.size) : MSt B g w (wr.setCell ⟨g, 3, none⟩ u) key th ab u ov ev ol el := by
  have hk := kept_set wr g 3 u
  obtain ⟨zs, z1, z2⟩ := h.z0
  refine ⟨h.m.setVv u, h.oo.keptS hk fun j hj => (h.d1 j hj).1, h.os, h.eo.keptS hk fun j hj => h.d2 j hj, h.es, fun j hj => Nat.lt_of_lt_of_le (hu j hj) hk.size, h.d1, h.d2, h.bel.trans (below_kept hk (fun j e => by rw [e]; exact h.low) h.B_le), h.low, ⟨zs, ?_, z2⟩, h.hz⟩
  exact (hk.block B (Nat.lt_trans h.hz.1 h.m.lt) (by have := h.hz.1; omega)).trans z1

/-- In the last loop: the values vl of the first k offered. -/
structure MFin (B g : Nat) (w wr : World) (Q : List Rq) (key : Str) (th ab : Bool) (gv cv : Nat) (ov ev : Value) (ol el vl : List Str) (k : Nat) : Prop where
  st : MSt B g w wr key th ab (.slice (some ⟨gv, 0, none⟩) vl.length cv) ov ev ol el
  vo : OwnS B wr (.slice (some ⟨gv, 0, none⟩) vl.length cv) vl
  vs : Strict vl
  vm : ∀ s, s ∈ vl ↔ s ∈ ol.take k ∧ NamedBy Q key s
  len : vl.length ≤ k
  dv : B < gv ∧ gv ≠ g ∧ ov.ownBlock ≠ some gv ∧ ev.ownBlock ≠ some gv

theorem MFin.start {B g : Nat} {w wr : World} {Q : List Rq} {key : Str} {th ab : Bool} {ov ev : Value} {ol el : List Str} (h : MSt B g w wr key th ab (.slice none 0 0) ov ev ol el) :
    MFin B g w ((wr.alloc (.cells #[] 9)).setCell ⟨g, 3, none⟩ (.slice (some ⟨wr.heap.size, 0, none⟩) 0 0)) Q key th ab wr.heap.size 0 ov ev ol el [] 0 := by
  have hg := h.m.lt
  have hBg : B < wr.heap.size := Nat.lt_trans h.hz.1 hg
  have hk : Kept (fun _ => False) wr (wr.alloc (.cells #[] 9)) := kept_of_below ((Below.refl _ _).alloc (Nat.le_refl _) _)
  have h1 := (h.keptS hk (fun _ e => e.elim)).putVv (.slice (some ⟨wr.heap.size, 0, none⟩) 0 0) (fun j hj => by cases hj; exact size_alloc_lt wr _)
  have ho : OwnS B (wr.alloc (.cells #[] 9)) (.slice (some ⟨wr.heap.size, 0, none⟩) 0 0) [] := World.ownsRow_lit wr #[] 0 (Nat.le_of_lt hBg) (Nat.zero_le _) rfl
  refine ⟨h1, ho.setOther (by simp [Value.ownBlock]; omega), List.Pairwise.nil, by simp, Nat.le_refl _, hBg, by omega, fun e => ?_, fun e => ?_⟩
  · have := (h.oo.lt _ e).2; omega
  · have := (h.eo.lt _ e).2; omega

theorem MFin.skip {B g : Nat} {w wr : World} {Q : List Rq} {key : Str} {th ab : Bool} {gv cv : Nat} {ov ev : Value} {ol el vl : List Str} {k : Nat} (h : MFin B g w wr Q key th ab gv cv ov ev ol el vl k) (hk : k < ol.length) (hn : ¬ NamedBy Q key ol[k]) : MFin B g w wr Q key th ab gv cv ov ev ol el vl (k + 1) := by
  refine ⟨h.st, h.vo, h.vs, fun s => ?_, Nat.le_succ_of_le h.len, h.dv⟩
  rw [h.vm, mem_snoc hk]
  constructor
  · rintro ⟨a, b⟩; exact ⟨.inl a, b⟩
  · rintro ⟨a | a, b⟩
    · exact ⟨a, b⟩
    · rw [a] at b; exact absurd b hn

theorem MFin.step {B g : Nat} {w wr w' : World} {Q : List Rq} {key : Str} {th ab : Bool} {gv cv g' c' : Nat} {ov ev : Value} {ol el vl : List Str} {k : Nat} {o : Obj} (h : MFin B g w wr Q key th ab gv cv ov ev ol el vl k) (hk : k < ol.length) (hn : NamedBy Q key ol[k])
    (ho : w'.ownsRow B 9 1 (.slice (some ⟨g', 0, none⟩) (vl.length + 1) c') (vl.length + 1) (vl.map encStr ++ [encStr ol[k]])) (hg : (wr.drew.alloc o).grownBy w' (Value.slice (some ⟨gv, 0, none⟩) vl.length cv).ownBlock) (hgg : (Value.slice (some ⟨gv, 0, none⟩) vl.length cv).ownBlock = some g' ∨ g' = (wr.drew.alloc o).heap.size) (hlt : g' < w'.heap.size) :
    MFin B g w (w'.setCell ⟨g, 3, none⟩ (.slice (some ⟨g', 0, none⟩) (vl.length + 1) c')) Q key th ab g' c' ov ev ol el (vl ++ [ol[k]]) (k + 1) ∧ w'.cell? ⟨g, 3, none⟩ = some (.slice (some ⟨gv, 0, none⟩) vl.length cv) ∧ w'.frozen? ⟨g, 3, none⟩ = false := by
  have hK : Kept (fun j => j = gv) wr w' := by
    have a1 : Kept (fun j => j = gv) wr (wr.drew.alloc o) := by
      have := (kept_of_below ((Below.refl wr.heap.size wr).drew.alloc (Nat.le_refl _) o)).mono (T := fun j => j = gv) fun _ _ e => e.elim
      exact this
    exact a1.trans ((kept_of_grown hg).mono fun j _ e => by simpa [Value.ownBlock] using e)
  have hst := h.st.keptS hK fun j e => by rw [e]; exact h.dv
  have hnew : B < g' ∧ g' ≠ g ∧ ov.ownBlock ≠ some g' ∧ ev.ownBlock ≠ some g' := by
    rcases hgg with e | e
    · have : g' = gv := by simpa [Value.ownBlock] using e.symm
      rw [this]; exact h.dv
    · have hsz : wr.heap.size < g' := by rw [e]; exact size_alloc_lt wr.drew o
      have hgl := h.st.m.lt
      have := h.st.hz.1
      refine ⟨by omega, by omega, fun e2 => ?_, fun e2 => ?_⟩
      · have := (h.st.oo.lt _ e2).2; omega
      · have := (h.st.eo.lt _ e2).2; omega
  have hone : OwnS B w' (.slice (some ⟨g', 0, none⟩) (vl.length + 1) c') (vl ++ [ol[k]]) := by
    unfold OwnS
    rw [List.length_append, List.map_append]
    exact ho
  have hl : (vl ++ [ol[k]]).length = vl.length + 1 := by simp
  refine ⟨⟨?_, ?_, ?_, fun s => ?_, by rw [hl]; have := h.len; omega, hnew⟩, hst.m.cell 3, hst.m.frozen 3⟩
  · rw [hl]; exact hst.putVv _ (fun j hj => by cases hj; exact hlt)
  · rw [hl]; exact hone.setOther (by simp [Value.ownBlock]; exact hnew.2.1)
  · refine List.pairwise_append.2 ⟨h.vs, List.pairwise_singleton _ _, fun a ha b hb => ?_⟩
    rw [List.mem_singleton.1 hb]
    obtain ⟨j, hj, rfl⟩ := List.mem_iff_getElem.1 ((h.vm a).1 ha).1
    rw [List.length_take] at hj
    rw [List.getElem_take]
    exact List.pairwise_iff_getElem.1 h.st.os j k (by omega) hk (by omega)
  · rw [List.mem_append, List.mem_singleton, h.vm, mem_snoc hk]
    constructor
    · rintro (⟨a, b⟩ | a)
      · exact ⟨.inl a, b⟩
      · exact ⟨.inr a, by rw [a]; exact hn⟩
    · rintro ⟨a | a, b⟩
      · exact .inl ⟨a, b⟩
      · exact .inr a

/-- The result's five stores. -/
def five (w : World) (B : Nat) (a b c d e : Value) : World := ((((w.setCell ⟨B, 0, none⟩ a).setCell ⟨B, 1, none⟩ b).setCell ⟨B, 2, none⟩ c).setCell ⟨B, 3, none⟩ d).setCell ⟨B, 4, none⟩ e
theorem five_heap {w : World} {B : Nat} {zs : Array Value} (h : w.heap[B]? = some (.cells zs 35 (0, 0))) (h5 : zs.size = 5) (a b c d e : Value) : (five w B a b c d e).heap[B]? = some (.cells #[a, b, c, d, e] 35 (0, 0)) := by
  unfold five
  rw [Sort.setCell_eq, Sort.setCell_eq, Sort.setCell_eq, Sort.setCell_eq, Sort.setCell_eq, mapBlock_mapBlock, mapBlock_mapBlock, mapBlock_mapBlock, mapBlock_mapBlock]
  show (w.heap.modify B (onCells _))[B]? = _
  rw [Array.getElem?_modify, if_pos rfl, h]
  match zs, h5 with
  | ⟨[z0, z1, z2, z3, z4]⟩, _ => rfl
theorem five_kept (w : World) (B : Nat) (a b c d e : Value) : Kept (fun j => j = B) w (five w B a b c d e) :=
  ((((kept_set w B 0 _).trans (kept_set _ B 1 _)).trans (kept_set _ B 2 _)).trans (kept_set _ B 3 _)).trans (kept_set _ B 4 _)

theorem retM {B g : Nat} {w wr : World} {P : List Pq} {key : Str} {th ab : Bool} {vv ov ev : Value} {ol el : List Str} {vs : Option (List Str)} (h : MSt B g w wr key th ab vv ov ev ol el) (hB : w.heap.size = B) (hr : rsOf P key = ⟨th, ab, vs, el⟩) (hv : OwnS B wr vv (vs.getD [])) (hd : ∀ j, vv.ownBlock = some j → j ≠ B) (hn : vv = .slice none 0 0 ↔ vs = none) :
    RetM P key w (.returned (.agg #[encStr key, .bool th, .bool ab, vv, ev])) (five wr B (encStr key) (.bool th) (.bool ab) vv ev) := by
  have hk := five_kept wr B (encStr key) (.bool th) (.bool ab) vv ev
  refine ⟨vv, ev, by rw [hr], ?_, by rw [hr]; exact hn, ?_, ?_, ?_, ?_⟩
  · rw [hr, hB]; exact hv.keptS hk hd
  · rw [hr, hB]; exact h.eo.keptS hk h.hz.2.2
  · rw [hB]; exact h.bel.trans (below_kept hk (fun j e => by rw [e]; exact Nat.le_refl _) h.B_le)
  · obtain ⟨a, c, e⟩ := hv.slice; exact ⟨a, _, c, e⟩
  · obtain ⟨a, c, e⟩ := h.eo.slice; exact ⟨a, _, c, e⟩

theorem MSt.cells5 {B g : Nat} {w wr : World} {key : Str} {th ab : Bool} {vv ov ev : Value} {ol el : List Str} (h : MSt B g w wr key th ab vv ov ev ol el) : (∀ f, f < 5 → ∃ z, wr.cell? ⟨B, f, none⟩ = some z) ∧ ∀ f, wr.frozen? ⟨B, f, none⟩ = false := by
  obtain ⟨zs, z1, z2⟩ := h.z0
  refine ⟨fun f hf => ⟨zs[f]'(by omega), by simp [World.cell?, z1]⟩, fun f => frozen_of_row wr B f zs 35 z1⟩

end Go.Proofs.Qxb6605201a.Rul
