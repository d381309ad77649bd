import Derived.Test.Qxb6605201aSLaw
import Derived.Test.Qxb6605201aRProof
import Derived.Maps.StringElems
namespace Go.Proofs.Qxb6605201a
open Go.ChangeShapes Go.WideShapes Go.ChangeAt Go.RowKit
set_option linter.unusedVariables false
namespace Rul
open Go.Sort Go.Lib

/-- The bytes of a string's value. -/
def strV : Value → Str
  | .string s => s.data.toList
  | _ => []

/-- A map of strings by strings that came in, opened. -/
theorem labels_of {H : Type} {enc : TypeId × Value → H} {W : World} {m0 : Option Nat} {d0 : DataW H} {p0 : List MemPlace} (h0 : DataW.Trod enc Try.prog W 0 (fun _ => true) true 40 (.map m0) d0 p0) : ∃ ls, Labels W (.map m0) ls := by
  obtain ⟨fuel, hf⟩ := h0
  rcases WideElems.open_map Try.underlying40 hf with ⟨hcs, hx⟩ | ⟨bm, es, clock, n, rfl, hcs, hb, _, F, hx⟩
  · simp [Value.cells] at hcs
    exact ⟨[], .inl ⟨by rw [hcs], rfl⟩⟩
  · simp [Value.cells] at hcs
    subst hcs
    refine ⟨es.toList.map fun e => (strV e.key, strV e.val), .inr ⟨bm, es, clock, rfl, hb, F.stamped, ?_⟩⟩
    rw [List.map_map]
    apply List.map_congr_left
    intro e he
    obtain ⟨y, hy⟩ := F.reads e he
    obtain ⟨s, hs, _, _⟩ := WideMaps.string_of_keyOf Try.underlying9 (WideElems.rd_key hy)
    obtain ⟨z, hz, _⟩ := WideElems.rd_val hy
    obtain ⟨t, ht, _, _⟩ := WideElems.elemAt_string Try.underlying9 hz
    show (e.key, e.val) = (encStr (strV e.key), encStr (strV e.val))
    rw [hs, ht]
    show _ = (encStr s.data.toList, encStr t.data.toList)
    rw [encStr_of, encStr_of]
end Rul

set_option maxRecDepth 100000 in
theorem fnRulesOfSelects_lifted (os : Os) (started : os.Started) (H : Type) (enc : TypeId × Value → H) :
    ReturnsInHanded {} Try.checked os 4 .any (Rows.fnRulesOfSelectsWhatRequirementsSaySpec.pre6 enc Try.prog Try.f4 Rows.fnRulesOfSelectsWhatRequirementsSayRow.domain false) (Rows.fnRulesOfSelectsWhatRequirementsSaySpec.post enc Try.prog Try.f4 false true false false) := by
  refine returnsInHanded_of_change (C := Try.checked) Rul.own started (by kernel_rfl) Try.func4
    (ChangeSpec.witness6 (enc := enc) (C := Try.checked) false ⟨#[], #[.slice none 0 0, .map none], []⟩ 8 (by kernel_rfl) (by kernel_rfl) (by kernel_rfl) (by kernel_rfl)) ?_
  intro W base args ds gs before hval0 hW hcnd _
  have hval : ∀ (j : Nat) t v, Try.f4.params[j]? = some t → args[j]? = some v → Value.okWide Try.prog W .any base t v := hval0
  have hW' := hW
  obtain ⟨p, q, hA0, hV, rfl, hfz, hnd⟩ := hW
  have hA : DataW.TrodAll enc Try.prog W 0 (fun _ => true) true Try.f4.params.toList args.toList ds p := hA0
  rw [Try.params4] at hA hval
  obtain ⟨v0, vs0, d0, ds0, p0, q0, hargs, rfl, rfl, h0, r0⟩ := trodAll_cons hA
  obtain ⟨v1, vs1, d1, ds1, p1, q1, rfl, rfl, rfl, h1, r1⟩ := trodAll_cons r0
  obtain ⟨rfl, rfl, rfl⟩ := trodAll_nil r1
  obtain rfl : args = #[v0, v1] := by cases args; simp_all
  obtain ⟨rfl, rfl⟩ := trodVars_none hV
  obtain ⟨a0, len0, cap0, rfl⟩ := okWide_slice Try.underlying22 (hval 0 22 v0 rfl rfl)
  obtain ⟨m1, rfl⟩ := okWide_map Try.underlying40 (hval 1 40 v1 rfl rfl)
  have k0 := h0
  have k1 := h1
  have lt0 : ∀ x ∈ p0, x.block < W.heap.size := by obtain ⟨m, hm⟩ := k0; exact DataW.trod_lt m _ _ _ hm
  have lt1 : ∀ x ∈ p1, x.block < W.heap.size := by obtain ⟨m, hm⟩ := k1; exact DataW.trod_lt m _ _ _ hm
  obtain ⟨Q, hl, hm, hs⟩ := Rul.isReqs_of h0
  obtain ⟨ls, hls⟩ := Rul.labels_of h1
  clear hA0 hval0
  subst hl
  refine (Rul.law_sel a0 cap0 Q m1 ls W hs hm hls).mono fun e W' ⟨he, bel⟩ => ?_
  subst he
  exact ⟨_, rfl, _, _, _, [], _, [], hW', trodAll_mk1 (shut_bool Try.underlying4 _), (trodAll_cons_mk (Below.trod Rul.laidOut (by kernel_rfl) (of_decide_eq_true (by kernel_rfl)) k0 bel lt0) (trodAll_cons_mk (Below.trod Rul.laidOut (by kernel_rfl) (of_decide_eq_true (by kernel_rfl)) k1 bel lt1) trodAll_mk0)), rfl, bel.frame _, fun h => by cases h⟩

theorem fnRulesOfSelects_proved : Rows.FnRulesOfSelectsWhatRequirementsSaySaid :=
  OpenClaim.holds_of_wide 4 Try.f4 rfl rfl rfl rfl rfl rfl rfl ⟨rfl, rfl, rfl, rfl, rfl⟩ rfl rfl rfl rfl rfl (by kernel_rfl) Try.func4 (by kernel_rfl)
    (of_decide_eq_true (by kernel_rfl)) (by unfold Func.isWrapper; first | (rw [if_pos (by decide +kernel)]; kernel_rfl) | (rw [if_neg (by decide +kernel)]; exact ⟨rfl, rfl⟩))
    (fun os started H enc _ => fnRulesOfSelects_lifted os started H enc)

end Go.Proofs.Qxb6605201a
