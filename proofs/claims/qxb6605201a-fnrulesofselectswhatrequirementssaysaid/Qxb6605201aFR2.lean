import Derived.Test.Qxb6605201aFR
namespace Go.Proofs.Qxb6605201a.Rul
open Go.RowKit Go.Sort Go.Lib

set_option maxRecDepth 100000 in
set_option maxHeartbeats 4000000 in
/-- findRule. -/
theorem find37 (gr off cap : Nat) (R : List RV) (x : Str) (w : World) (hn : R.length ≤ 4096) (h0 : 0 < R.length) (hc : CellsR w gr off R) (hgr : gr < w.heap.size) (hs : Strict (R.map fun r => r.k)) :
    Calls Try.prog 37 #[.slice (some ⟨gr, off, none⟩) R.length cap, encStr x] w fun e w' => RetP gr off R x w e w' := by
  have hcall := find46 gr off cap w.heap.size R x (w.alloc (.cells #[.int .i64 0] 3)) hn h0 (hc.kept (Below.heap_alloc w _ gr hgr)) (Nat.lt_trans hgr (size_alloc_lt w _)) (by omega) hs (heap_alloc_new w _)
  clear hc hs
  go_enter Try.func37, Try.ntmps37
  go_wp2_with fail
  refine hcall.mono ?_
  rintro e w1 ⟨i, c, f, rfl, hf1, hf2, hctr, q1, q2, q3, hK⟩
  have HB : Hid (Below w.heap.size w w1) := ((Below.refl _ _).alloc (Nat.le_refl _) _).trans (below_kept hK (fun j e => by omega) (Nat.le_of_lt (size_alloc_lt w _)))
  clear hcall hK
  have c0 := hctr.cell
  have f0 := hctr.frozen
  have HQ : Hid (1 ≤ c ∧ c ≤ 4611686018427387904 ∧ ∀ b, R.length < 2 ^ b → c ≤ b + 1) := ⟨q1, q2, q3⟩
  have HCT : Hid (Ctr w1 w.heap.size c) := hctr
  clear q1 q2 q3 hctr
  cases f with
  | true =>
    obtain ⟨r, hr, hrk⟩ := hf1 rfl
    have hi := (List.getElem?_eq_some_iff.1 hr).1
    have HR : Hid (R[i]? = some r ∧ r.k = x) := ⟨hr, hrk⟩
    clear hf1 hf2 hr hrk
    have i1 : (0 : Int) ≤ (i : Int) := by omega
    have i2 : (i : Int) < (R.length : Int) := by omega
    go_wp2_with fail
    go_region
    all_goals
      go_wp2
      (try simp only [Exit.inBlock, Exit.then])
      have x0 : ((w1.setCell ⟨w.heap.size, 0, none⟩ (.int .i64 c)).drew).cell? ⟨w.heap.size, 0, none⟩ = some (.int .i64 c) := (HCT.out.set c).cell
      generalize hW : (w1.setCell ⟨w.heap.size, 0, none⟩ (.int .i64 c)).drew = W at *
      refine bodyPost_ret (results_tmp_cell rfl _ _ _ ⟨w.heap.size, 0, none⟩ (.int .i64 c) rfl (by go_simp)) rfl ?_
      rw [← hW]
      exact ⟨c, HQ.out.1, HQ.out.2.1, HQ.out.2.2, (HB.out.setCell (p := ⟨w.heap.size, 0, none⟩) (Nat.le_refl _) _).drew, .inl ⟨i, r, rfl, HR.out⟩⟩
  | false =>
    have HR : Hid (∀ r ∈ R, r.k ≠ x) := hf2 rfl
    clear hf1 hf2
    go_wp2_with fail
    go_region
    all_goals
      go_wp2
      (try simp only [Exit.inBlock, Exit.then])
      have x0 : ((w1.setCell ⟨w.heap.size, 0, none⟩ (.int .i64 c)).drew).cell? ⟨w.heap.size, 0, none⟩ = some (.int .i64 c) := (HCT.out.set c).cell
      generalize hW : (w1.setCell ⟨w.heap.size, 0, none⟩ (.int .i64 c)).drew = W at *
      refine bodyPost_ret (results_tmp_cell rfl _ _ _ ⟨w.heap.size, 0, none⟩ (.int .i64 c) rfl (by go_simp)) rfl ?_
      rw [← hW]
      exact ⟨c, HQ.out.1, HQ.out.2.1, HQ.out.2.2, (HB.out.setCell (p := ⟨w.heap.size, 0, none⟩) (Nat.le_refl _) _).drew, .inr ⟨rfl, HR.out⟩⟩

end Go.Proofs.Qxb6605201a.Rul
