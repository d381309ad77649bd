import Derived.Test.Qxb6605201aAddAll
namespace Go.Proofs.Qxb6605201a.Rul
open Go.RowKit Go.Sort Go.Lib

set_option maxHeartbeats 2000000 in
set_option maxRecDepth 100000 in
/-- sortExcluded: the excluded values in order, once each. -/
theorem sortEx34 (B rb : Nat) (k : Str) (r : RS) (vv ev : Value) (w : World) (h : RuleM B w rb k r vv ev) (nv : ∀ j, vv.ownBlock = some j → j ≠ rb ∧ ev.ownBlock ≠ some j) (ne : ∀ j, ev.ownBlock = some j → j ≠ rb) (hl : r.es.length < 4611686018427387904) :
    Calls Try.prog 34 #[.pointer (some ⟨rb, 0, none⟩)] w fun e w' => e = .returned (.tuple #[]) ∧
      ∃ ev', RuleM B w' rb k { r with es := sortC r.es } vv ev' ∧ ev'.ownBlock = ev.ownBlock ∧ Kept (fun j => j = rb ∨ some j = ev.ownBlock) w w' := by
  have c4 : w.cell? ⟨rb, 4, none⟩ = some ev := h.cells.cell 4
  have hsort := sort41 B ev r.es w h.eo hl
  have HR : Hid (RuleM B w rb k r vv ev) := h
  have HNV : Hid (∀ j, vv.ownBlock = some j → j ≠ rb ∧ ev.ownBlock ≠ some j) := nv
  have HNE : Hid (∀ j, ev.ownBlock = some j → j ≠ rb) := ne
  obtain ⟨ae, ce, rfl⟩ := h.eo.slice
  clear h nv ne
  generalize hn : r.es.length = n at *
  go_enter Try.func34, Try.ntmps34
  go_wp2_with fail
  refine hsort.mono ?_
  rintro e w1 ⟨rfl, hq1, hg1⟩
  have hb : ∀ j, j < w.heap.size → (Value.slice ae n ce).ownBlock ≠ some j → w1.heap[j]? = w.heap[j]? := fun j hj hne => hg1.block j hj (fun e => hne e.symm)
  have hrule1 : RuleAt w1 rb k r.th r.ab vv (.slice ae n ce) := HR.out.cells.kept (hb rb HR.out.cells.lt (fun e => HNE.out rb e rfl))
  have d4 : w1.cell? ⟨rb, 4, none⟩ = some (.slice ae n ce) := hrule1.cell 4
  have hvo1 : OwnS B w1 vv (r.vs.getD []) := HR.out.vo.kept fun j hj => hb j (HR.out.vo.lt j hj).2 (HNV.out j hj).2
  have hcomp := compact42 B (.slice ae n ce) _ w1 hq1 (by rw [List.length_mergeSort, hn]; exact hl)
  have HR1 : Hid (RuleAt w1 rb k r.th r.ab vv (.slice ae n ce) ∧ OwnS B w1 vv (r.vs.getD []) ∧ w.grownBy w1 (Value.slice ae n ce).ownBlock) := ⟨hrule1, hvo1, hg1⟩
  clear hrule1 hvo1 hg1 hb hq1 hsort c4
  go_wp2_with fail
  refine hcomp.mono ?_
  rintro e w2 ⟨v2, rfl, hq2, hob2, hg2⟩
  have hb : ∀ j, j < w1.heap.size → (Value.slice ae n ce).ownBlock ≠ some j → w2.heap[j]? = w1.heap[j]? := fun j hj hne => hg2.block j hj (fun e => hne e.symm)
  have hrule2 : RuleAt w2 rb k r.th r.ab vv (.slice ae n ce) := HR1.out.1.kept (hb rb HR1.out.1.lt (fun e => HNE.out rb e rfl))
  have hvo2 : OwnS B w2 vv (r.vs.getD []) := HR1.out.2.1.kept fun j hj => hb j (HR1.out.2.1.lt j hj).2 (HNV.out j hj).2
  have e4 : w2.cell? ⟨rb, 4, none⟩ = some (.slice ae n ce) := hrule2.cell 4
  have f4 : w2.frozen? ⟨rb, 4, none⟩ = false := hrule2.frozen 4
  obtain ⟨a2, c2, rfl⟩ := hq2.slice
  have HR2 : Hid (RuleAt w2 rb k r.th r.ab vv (.slice ae n ce) ∧ OwnS B w2 vv (r.vs.getD []) ∧ OwnS B w2 (.slice a2 (sortC r.es).length c2) (sortC r.es) ∧ (Value.slice a2 (sortC r.es).length c2).ownBlock = (Value.slice ae n ce).ownBlock ∧ w1.grownBy w2 (Value.slice ae n ce).ownBlock) := ⟨hrule2, hvo2, hq2, hob2, hg2⟩
  clear hrule2 hvo2 hg2 hb hq2 hob2 hcomp d4
  go_wp2
  go_end0
  obtain ⟨k1, k2, k3, k4, k5⟩ := HR2.out
  have hK : Kept (fun j => j = rb ∨ some j = (Value.slice ae n ce).ownBlock) w w2 := ((kept_of_grown HR1.out.2.2).mono fun _ _ e => .inr e).trans ((kept_of_grown k5).mono fun _ _ e => .inr e)
  refine ⟨rfl, _, ⟨k1.ev _, k2.setOther ?_, HR.out.vn, k3.setOther ?_, HR.out.st⟩, k4, hK.trans ((kept_set _ rb 4 _).mono fun _ _ e => .inl e)⟩
  · intro e; exact (HNV.out rb e).1 rfl
  · rw [k4]; intro e; exact HNE.out rb e rfl

end Go.Proofs.Qxb6605201a.Rul
