import Derived.Test.Qxb6605201aAdd
import Derived.Deep.RegionLaw
import Derived.Deep.AppendLies
import Derived.Lib.SliceRun
namespace Go.Proofs.Qxb6605201a.Rul
open Go.RowKit Go.Sort Go.Lib

theorem Try.info9 : (Try.prog.info? 9).map (fun i => (i.zero, i.size, i.bytes)) = some (some (.string ⟨#[]⟩), 1, 16) := by kernel_rfl

set_option maxHeartbeats 2000000 in
set_option maxRecDepth 100000 in
/-- "!=" and "notin" at a rule that excludes nothing yet: the requirement's own slice. -/
theorem add_ne_nil (rb : Nat) (k qk : Str) (th ab : Bool) (vv : Value) (aq : Option Addr) (nq cq : Nat) (op : Int) (w : World) (hop : op = 1 ∨ op = 3)
    (hr : RuleAt w rb k th ab vv (.slice none 0 0)) :
    Calls Try.prog 33 #[.pointer (some ⟨rb, 0, none⟩), .agg #[encStr qk, .int .i64 op, .slice aq nq cq]] w fun e w' => e = .returned (.tuple #[]) ∧
      RuleAt w' rb k th ab vv (.slice aq nq cq) ∧ Kept (fun j => j = rb) w w' := by
  have HE0 := Env.start hr rb qk (.slice aq nq cq) op
  have c2 : ((w.alloc (.cells #[.pointer (some ⟨rb, 0, none⟩)] 77)).alloc (.cells #[encStr qk, .int .i64 op, .slice aq nq cq] 56)).cell? ⟨rb, 4, none⟩ = some (.slice none 0 0) := HE0.rule.cell 4
  have f4 : ((w.alloc (.cells #[.pointer (some ⟨rb, 0, none⟩)] 77)).alloc (.cells #[encStr qk, .int .i64 op, .slice aq nq cq] 56)).frozen? ⟨rb, 4, none⟩ = false := HE0.rule.frozen 4
  have HE : Hid (Env w _ w.heap.size rb rb k qk th ab vv (.slice none 0 0) (.slice aq nq cq) op) := HE0
  have hx : ¬ rb = w.heap.size := by have := hr.lt; omega
  have hy : ¬ rb = w.heap.size + 1 := by have := hr.lt; omega
  have heq := fun wx n c => Lib.run_eql_slice_nil (P := Try.prog) wx 29 9 none n c 0 0 Try.underlying29
  clear HE0 hr
  rcases hop with rfl | rfl
  all_goals
    go_enter Try.func33, Try.ntmps33
    go_wp2
    go_end0
    refine ⟨rfl, HE.out.rule.ev _, HE.out.kept.trans (kept_set _ rb 4 _)⟩

/-- What stands behind the append. -/
theorem Env.app {w W w' : World} {rb ge ce n : Nat} {k qk : Str} {th ab : Bool} {vv ev qv : Value} {op : Int} (h : Env w W w.heap.size rb ge k qk th ab vv ev qv op) (hg : W.drew.grownBy w' (Value.slice (some ⟨ge, 0, none⟩) n ce).ownBlock) (n1 : rb ≠ ge) (hge : ge < w.heap.size) :
    RuleAt w' rb k th ab vv ev ∧ Kept (fun j => j = ge) w w' ∧ w'.cell? ⟨w.heap.size, 0, none⟩ = some (.pointer (some ⟨rb, 0, none⟩)) := by
  have hb : ∀ j, j < W.heap.size → j ≠ ge → w'.heap[j]? = W.heap[j]? := fun j hj hn => hg.block j hj (fun e => hn (by simpa [Value.ownBlock] using e))
  refine ⟨h.rule.kept (hb rb h.rule.lt n1), h.kept.trans ⟨hg.os, hg.tape, hg.output, hg.size, hb⟩, ?_⟩
  have := (hb w.heap.size (by have := h.two; omega) (by omega)).trans h.bx
  simp [World.cell?, this]

theorem finNe {B : Nat} {w W w' : World} {rb ge ce g' c' : Nat} {k qk : Str} {th ab : Bool} {vv ev qv : Value} {op : Int} {el ql : List Str} (h : Env w W w.heap.size rb ge k qk th ab vv ev qv op)
    (hG : RuleAt w' rb k th ab vv ev ∧ Kept (fun j => j = ge) w w' ∧ w'.cell? ⟨w.heap.size, 0, none⟩ = some (.pointer (some ⟨rb, 0, none⟩)))
    (hO : w'.ownsRow B 9 1 (.slice (some ⟨g', 0, none⟩) (el.length + ql.length) c') (el.length + ql.length) (el.map encStr ++ ql.map encStr) ∧ ((Value.slice (some ⟨ge, 0, none⟩) el.length ce).ownBlock = some g' ∨ g' = W.drew.heap.size)) (n1 : rb ≠ ge) :
    ∃ v', RuleAt (w'.setCell ⟨rb, 4, none⟩ (.slice (some ⟨g', 0, none⟩) (el.length + ql.length) c')) rb k th ab vv v' ∧ OwnS B (w'.setCell ⟨rb, 4, none⟩ (.slice (some ⟨g', 0, none⟩) (el.length + ql.length) c')) v' (el ++ ql) ∧ v' ≠ .slice none 0 0 ∧
      (v'.ownBlock = some ge ∨ ∃ g, v'.ownBlock = some g ∧ w.heap.size ≤ g) ∧ Kept (fun j => j = rb ∨ j = ge) w (w'.setCell ⟨rb, 4, none⟩ (.slice (some ⟨g', 0, none⟩) (el.length + ql.length) c')) := by
  have hlt : rb < W.heap.size := h.rule.lt
  have hone : OwnS B w' (.slice (some ⟨g', 0, none⟩) (el.length + ql.length) c') (el ++ ql) := by
    unfold OwnS; rw [List.map_append, List.length_append]; exact hO.1
  have hw : w.heap.size ≤ W.heap.size := h.kept.size
  have hcase : g' = ge ∨ g' = W.heap.size := by
    rcases hO.2 with e | e
    · exact .inl (by simpa [Value.ownBlock] using e.symm)
    · exact .inr e
  have hne : g' ≠ rb := by
    rcases hcase with e | e
    · rw [e]; exact Ne.symm n1
    · omega
  refine ⟨_, hG.1.ev _, hone.setOther (by simp [Value.ownBlock, hne]), by simp, ?_, (hG.2.1.mono fun _ _ e => .inr e).trans ((kept_set _ rb 4 _).mono fun _ _ e => .inl e)⟩
  rcases hcase with e | e
  · exact .inl (by simp [Value.ownBlock, e])
  · exact .inr ⟨g', rfl, by omega⟩

set_option maxHeartbeats 4000000 in
set_option maxRecDepth 100000 in
/-- "!=" and "notin" at a rule that excludes some: appended. -/
theorem add_ne_some (B rb ge ce gq cq : Nat) (k qk : Str) (th ab : Bool) (vv : Value) (el ql : List Str) (op : Int) (w : World) (hop : op = 1 ∨ op = 3)
    (hr : RuleAt w rb k th ab vv (.slice (some ⟨ge, 0, none⟩) el.length ce)) (he : OwnS B w (.slice (some ⟨ge, 0, none⟩) el.length ce) el) (hq : OwnS B w (.slice (some ⟨gq, 0, none⟩) ql.length cq) ql)
    (hl : el.length + ql.length ≤ 8796093022208) (hq0 : 0 < ql.length) (n1 : rb ≠ ge) (hB : B ≤ w.heap.size) :
    Calls Try.prog 33 #[.pointer (some ⟨rb, 0, none⟩), .agg #[encStr qk, .int .i64 op, .slice (some ⟨gq, 0, none⟩) ql.length cq]] w fun e w' => e = .returned (.tuple #[]) ∧
      ∃ v', RuleAt w' rb k th ab vv v' ∧ OwnS B w' v' (el ++ ql) ∧ v' ≠ .slice none 0 0 ∧ (v'.ownBlock = some ge ∨ ∃ g, v'.ownBlock = some g ∧ w.heap.size ≤ g) ∧ Kept (fun j => j = rb ∨ j = ge) w w' := by
  have hge := (he.lt ge rfl).2
  have HE0 := Env.start hr ge qk (.slice (some ⟨gq, 0, none⟩) ql.length cq) op
  obtain ⟨i0, hi, hz0, hz1, hz2⟩ := info_parts Try.info9
  have HI : Hid (Try.prog.info? 9 = some i0 ∧ i0.zero = some (.string ⟨#[]⟩) ∧ i0.size = 1 ∧ i0.bytes = 16) := ⟨hi, hz0, hz1, hz2⟩
  clear hi hz0 hz1 hz2
  generalize hW : (w.alloc (.cells #[.pointer (some ⟨rb, 0, none⟩)] 77)).alloc (.cells #[encStr qk, .int .i64 op, .slice (some ⟨gq, 0, none⟩) ql.length cq] 56) = W at HE0
  have c0 : W.cell? ⟨w.heap.size, 0, none⟩ = some (.pointer (some ⟨rb, 0, none⟩)) := by simp [World.cell?, HE0.bx]
  have c1 : W.cell? ⟨w.heap.size + 1, 1, none⟩ = some (.int .i64 op) := by simp [World.cell?, HE0.bq]
  have c2 : W.cell? ⟨w.heap.size + 1, 2, none⟩ = some (.slice (some ⟨gq, 0, none⟩) ql.length cq) := by simp [World.cell?, HE0.bq]
  have r4 : W.cell? ⟨rb, 4, none⟩ = some (.slice (some ⟨ge, 0, none⟩) el.length ce) := HE0.rule.cell 4
  have f4 : W.frozen? ⟨rb, 4, none⟩ = false := HE0.rule.frozen 4
  have HE : Hid (Env w W w.heap.size rb ge k qk th ab vv (.slice (some ⟨ge, 0, none⟩) el.length ce) (.slice (some ⟨gq, 0, none⟩) ql.length cq) op) := HE0
  have HO : Hid (OwnS B W (.slice (some ⟨ge, 0, none⟩) el.length ce) el) := by rw [← hW]; exact World.ownsRow.alloc (World.ownsRow.alloc he _) _
  have HQ : Hid (OwnS B W (.slice (some ⟨gq, 0, none⟩) ql.length cq) ql) := by rw [← hW]; exact World.ownsRow.alloc (World.ownsRow.alloc hq _) _
  have hx : ¬ rb = w.heap.size := by have := hr.lt; omega
  have hy : ¬ rb = w.heap.size + 1 := by have := hr.lt; omega
  have HC : Hid (∀ j u, (ql.map encStr)[j]? = some u → W.cell? ((⟨gq, 0, none⟩ : Addr).add j) = some u) := World.ownsRow.cells HQ.out rfl
  have HC1 : Hid (∀ u ∈ ql.map encStr, u.oneCell' = true) := by intro u hu; obtain ⟨x, _, rfl⟩ := List.mem_map.1 hu; rfl
  have HL1 : Hid (el.length + ql.length ≤ maxLen) := by show _ ≤ maxLen; unfold maxLen; omega
  have HL2 : Hid ((el.length + ql.length) * 16 ≤ 140737488355328) := by show _ ≤ _; omega
  have HL3 : Hid (B ≤ W.heap.size) := Nat.le_trans hB HE0.kept.size
  have r4e : ((w.alloc (.cells #[.pointer (some ⟨rb, 0, none⟩)] 77)).alloc (.cells #[encStr qk, .int .i64 op, .slice (some ⟨gq, 0, none⟩) ql.length cq] 56)).cell? ⟨rb, 4, none⟩ = some (.slice (some ⟨ge, 0, none⟩) el.length ce) := by rw [hW]; exact r4
  have HW : Hid ((w.alloc (.cells #[.pointer (some ⟨rb, 0, none⟩)] 77)).alloc (.cells #[encStr qk, .int .i64 op, .slice (some ⟨gq, 0, none⟩) ql.length cq] 56) = W) := hW
  have heq := fun wx n c => Lib.run_eql_slice_nil (P := Try.prog) wx 29 9 (some ⟨ge, 0, none⟩) n c 0 0 Try.underlying29
  clear HE0 hr he hq hW
  rcases hop with rfl | rfl
  all_goals
    go_enter Try.func33, Try.ntmps33
    go_wp2
    rw [HW.out]
    clear r4e heq
    go_region_law (refine step_append_lies _ rfl (.tmp 48) (.tmp 50) 29 rfl B 9 i0 (.string ⟨#[]⟩) 1 16 Try.underlying29 HI.out.1 HI.out.2.1 HI.out.2.2.1 HI.out.2.2.2 rfl (by decide) (.slice (some ⟨ge, 0, none⟩) el.length ce) el.length (el.map encStr) (by simp [Act.eval]) HO.out ⟨gq, 0, none⟩ ql.length cq (ql.map encStr) (by simp [Act.eval]) (by simp) HC.out HC1.out hq0 HL1.out HL2.out HL3.out _ rfl ?_; intro g' c' w' o1 o2 o3 o4; have HG := Env.app HE.out o2 n1 hge; have p0 := HG.2.2; have HO' := And.intro o1 o3; have p4 := HG.1.cell 4; have g4 := HG.1.frozen 4; have HG' := (show Hid _ from HG); have HO2 := (show Hid _ from HO'); clear HG HO' o1 o2 o3 o4)
    all_goals
      go_end0
      exact ⟨rfl, finNe HE.out HG'.out HO2.out n1⟩

end Go.Proofs.Qxb6605201a.Rul
