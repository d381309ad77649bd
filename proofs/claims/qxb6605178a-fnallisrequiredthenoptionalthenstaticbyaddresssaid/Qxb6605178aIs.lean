import Derived.Test.Qxb6605178aArgs
namespace Go.Proofs.Qxb6605178a.All
open Go.RowKit

set_option maxHeartbeats 1000000 in
theorem declIs11 (g o : Nat) (nm ds df fl : ByteArray) (ln : Int) (w : World) (hg : g < w.heap.size) (c0 : w.cell? ⟨g, o, none⟩ = some (.string fl)) (c1 : w.cell? ⟨g, o + 1, none⟩ = some (.int .i64 ln)) (c2 : w.cell? ⟨g, o + 2, none⟩ = some (.map none))
    (c4 : w.cell? ⟨g, o + 4, none⟩ = some (.string nm)) (c5 : w.cell? ⟨g, o + 5, none⟩ = some (.string ds)) (c6 : w.cell? ⟨g, o + 6, none⟩ = some (.string df)) :
    Calls Try.prog 11 #[.pointer (some ⟨g, o, none⟩), .agg #[.string nm, .string ds, .string df, .string fl, .int .i64 ln]] w fun e w' => e = .returned (.bool true) ∧ Below w.heap.size w w' := by
  have hme := fun wx => run_eql_map_nil (P := Try.prog) wx 39 9 3 none Try.underlying39
  go_enter Try.func11, Try.ntmps11
  go_wp2
  go_quiet (fail)
  go_wp2
  go_ret
  exact ⟨rfl, below_drewN ((Below.refl _ _).alloc (Nat.le_refl _) _) _⟩
end Go.Proofs.Qxb6605178a.All
