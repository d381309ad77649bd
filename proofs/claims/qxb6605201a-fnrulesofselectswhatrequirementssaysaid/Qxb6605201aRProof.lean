import Derived.Test.Qxb6605201aRLaw
import Derived.ProofKit
import Derived.OpenShut
import Derived.ShutString
import Derived.ChangeOld
import Derived.Below
import Derived.SliceStrings
import Derived.Deep.Slices
import Derived.Deep.Strs
namespace Go.Proofs.Qxb6605201a
open Go.ChangeShapes Go.WideShapes Go.ChangeAt Go.RowKit
set_option linter.unusedVariables false
namespace Rul
open Go.Sort Go.Lib

theorem own : ownKnob Try.prog.godebug = none := by kernel_rfl
theorem laidOut : laidOutB Try.prog = true := by kernel_rfl
theorem Try.cells9 : Try.prog.cellsOf 9 = 1 := by kernel_rfl
theorem Try.cells3 : Try.prog.cellsOf 3 = 1 := by kernel_rfl
theorem Try.cells29 : Try.prog.cellsOf 29 = 1 := by kernel_rfl
theorem Try.cells32 : Try.prog.cellsOf 32 = 3 := by kernel_rfl

/-- A list of what is there at each index. -/
theorem list_of {α : Type} {p : Nat → α → Prop} : ∀ n, (∀ i, i < n → ∃ x, p i x) → ∃ l : List α, l.length = n ∧ ∀ j x, l[j]? = some x → p j x
  | 0, _ => ⟨[], rfl, by simp⟩
  | n + 1, h => by
    obtain ⟨l, hl, hp⟩ := list_of n (fun i hi => h i (by omega))
    obtain ⟨x, hx⟩ := h n (by omega)
    refine ⟨l ++ [x], by simp [hl], fun j y hy => ?_⟩
    rcases Nat.lt_or_ge j n with hj | hj
    · rw [List.getElem?_append_left (by omega)] at hy
      exact hp j y hy
    · rw [List.getElem?_append_right (by omega), List.getElem?_singleton] at hy
      split at hy
      · cases hy
        rw [show j = n by omega]
        exact hx
      · cases hy

theorem three {α : Type} (l : List α) (h : l.length = 3) : ∃ a b c, l = [a, b, c] := by
  match l, h with
  | [a, b, c], _ => exact ⟨a, b, c, rfl⟩

theorem encStr_of (s : ByteArray) : encStr s.data.toList = .string s := by
  cases s; simp [encStr]

/-- A slice of strings, out of its reading. -/
theorem strs_of {H : Type} {enc : TypeId × Value → H} {W : World} {n : Nat} {cs : List Value} {x : DataW H × List MemPlace} (h : DataW.trod enc Try.prog W 0 (fun _ => true) true n 29 cs = some x) :
    ∃ v l, cs = [v] ∧ Strs W v l := by
  have hlt := DataW.trod_lt n _ _ _ h
  rcases open_strings Try.underlying29 Try.underlying9 Try.cells9 h with ⟨hcs, hx⟩ | ⟨a, len', cap', ss, hcs, _, hl, hm, hz, hx, hcell, hws⟩
  · exact ⟨_, [], hcs, none, 0, rfl, .inl rfl⟩
  · simp only [if_true] at hz
    unfold maxLen at hm
    have hlen : ((ss.take len').map fun s => s.data.toList).length = len' := by rw [List.length_map, List.length_take]; omega
    refine ⟨_, (ss.take len').map fun s => s.data.toList, hcs, some a, cap', by rw [hlen], ?_⟩
    by_cases h0 : len' = 0
    · left; exact List.eq_nil_of_length_eq_zero (by omega)
    · right
      obtain ⟨b, off, spot⟩ := a
      have hspot : spot = none := by simpa [Addr.add] using World.cell?_spot (hcell 0 (by omega))
      subst hspot
      refine ⟨b, off, rfl, hlt (.cell b off) (by rw [hx]; exact MemPlace.mem_row.2 ⟨0, by omega, by simp⟩), fun j hj => ?_⟩
      rw [hlen] at hj
      have := hcell j (by omega)
      rw [add_plain] at this
      rw [this, List.getElem_map, encStr_of, List.getElem_take]
      simp [List.getD, List.getElem?_eq_getElem (show j < ss.length by omega)]

/-- One requirement, out of its reading. -/
theorem req_of {H : Type} {enc : TypeId × Value → H} {W : World} {n : Nat} {cs : List Value} {x : DataW H × List MemPlace} (h : DataW.trod enc Try.prog W 0 (fun _ => true) true n 32 cs = some x) :
    ∃ q : Rq, cs = [encStr q.key, .int .i64 q.op, q.v] ∧ Strs W q.v q.l := by
  obtain ⟨y0, y1, y2, m, _, hl, h0, h1, h2⟩ := Deep.trod_struct3 Try.underlying32 h
  rw [Try.cells32] at hl
  obtain ⟨c0, c1, c2, rfl⟩ := three cs hl
  obtain ⟨s0, e0, _, _⟩ := DataW.trod_string Try.underlying9 h0
  obtain ⟨z1, e1, _, _⟩ := DataW.trod_int Try.underlying3 h1
  obtain ⟨v, l, e2, hs⟩ := strs_of h2
  simp [Try.cells9, Try.cells3, Try.cells29] at e0 e1 e2
  subst e0 e1 e2
  exact ⟨⟨s0.data.toList, z1, c2, l⟩, by rw [encStr_of], hs⟩

/-- A slice of requirements that came in, opened. -/
theorem isReqs_of {H : Type} {enc : TypeId × Value → H} {W : World} {a0 : Option Addr} {len0 cap0 : Nat} {d0 : DataW H} {p0 : List MemPlace}
    (h0 : DataW.Trod enc Try.prog W 0 (fun _ => true) true 22 (.slice a0 len0 cap0) d0 p0) :
    ∃ Q : List Rq, Q.length = len0 ∧ Q.length ≤ 9223372036854775807 ∧ IsReqs W a0 Q := by
  have lt0 : ∀ x ∈ p0, x.block < W.heap.size := by obtain ⟨m, hm⟩ := h0; exact DataW.trod_lt m _ _ _ hm
  obtain ⟨fuel, hf⟩ := h0
  rcases Deep.open_slice Try.underlying22 hf with ⟨hcs, hx⟩ | ⟨a, len', cap', m, n, D, Pl, hcs, _, hl, hm, hmm, hx, hel⟩
  · simp [Value.cells] at hcs
    obtain ⟨rfl, rfl, rfl⟩ := hcs
    exact ⟨[], rfl, by simp, .inl rfl⟩
  · simp [Value.cells] at hcs
    obtain ⟨rfl, rfl, rfl⟩ := hcs
    simp only [if_true] at hmm
    subst hmm
    unfold maxLen at hm
    simp only [Prod.mk.injEq] at hx
    obtain ⟨_, hp⟩ := hx
    rw [Try.cells32] at hel hp
    obtain ⟨Q, hQ, hP⟩ := list_of (p := fun i (q : Rq) => W.cell? ((a.add (i * 3)).add 0) = some (encStr q.key) ∧ W.cell? ((a.add (i * 3)).add 1) = some (.int .i64 q.op) ∧ W.cell? ((a.add (i * 3)).add 2) = some q.v ∧ Strs W q.v q.l) len0 (fun i hi => by
      obtain ⟨cs', hc, ht⟩ := hel i (by omega)
      obtain ⟨q, rfl, hs⟩ := req_of ht
      obtain ⟨_, _, hcc⟩ := World.cells?_some hc
      exact ⟨q, hcc 0 (by omega), hcc 1 (by omega), hcc 2 (by omega), hs⟩)
    refine ⟨Q, hQ, by omega, ?_⟩
    by_cases h0 : len0 = 0
    · left; exact List.eq_nil_of_length_eq_zero (by omega)
    · right
      obtain ⟨b, off, spot⟩ := a
      have hspot : spot = none := by
        have := hP 0 _ (List.getElem?_eq_getElem (by omega))
        simpa [Addr.add] using World.cell?_spot this.1
      subst hspot
      refine ⟨b, off, rfl, lt0 (.cell b off) (by rw [hp]; exact List.mem_append_left _ (MemPlace.mem_row.2 ⟨0, by omega, by simp⟩)), fun j q hj => ?_⟩
      have := hP j q hj
      simpa only [add_plain, Nat.add_zero] using this
end Rul

set_option maxRecDepth 100000 in
theorem fnRulesOfMatchesModel_lifted (os : Os) (started : os.Started) (H : Type) (enc : TypeId × Value → H) :
    ReturnsInHanded {} Try.checked os 3 .any (Rows.fnRulesOfMatchesModelSpec.pre6 enc Try.prog Try.f3 Rows.fnRulesOfMatchesModelRow.domain false) (Rows.fnRulesOfMatchesModelSpec.post enc Try.prog Try.f3 false true false false) := by
  refine returnsInHanded_of_change (C := Try.checked) Rul.own started (by kernel_rfl) Try.func3
    (ChangeSpec.witness6 (enc := enc) (C := Try.checked) false ⟨#[], #[.slice none 0 0], []⟩ 8 (by kernel_rfl) (by kernel_rfl) (by kernel_rfl) (by kernel_rfl)) ?_
  intro W base args ds gs before hval0 hW hcnd _
  have hval : ∀ (j : Nat) t v, Try.f3.params[j]? = some t → args[j]? = some v → Value.okWide Try.prog W .any base t v := hval0
  have hW' := hW
  obtain ⟨p, q, hA0, hV, rfl, hfz, hnd⟩ := hW
  have hA : DataW.TrodAll enc Try.prog W 0 (fun _ => true) true Try.f3.params.toList args.toList ds p := hA0
  rw [Try.params3] at hA hval
  obtain ⟨v0, vs0, d0, ds0, p0, q0, hargs, rfl, rfl, h0, r0⟩ := trodAll_cons hA
  obtain ⟨rfl, rfl, rfl⟩ := trodAll_nil r0
  obtain rfl : args = #[v0] := by cases args; simp_all
  obtain ⟨rfl, rfl⟩ := trodVars_none hV
  obtain ⟨a0, len0, cap0, rfl⟩ := okWide_slice Try.underlying22 (hval 0 22 v0 rfl rfl)
  have k0 := h0
  have lt0 : ∀ x ∈ p0, x.block < W.heap.size := by obtain ⟨m, hm⟩ := k0; exact DataW.trod_lt m _ _ _ hm
  obtain ⟨Q, hl, hm, hs⟩ := Rul.isReqs_of h0
  clear hA0 hval0
  subst hl
  refine (Rul.law_walk a0 cap0 Q W hs hm).mono fun e W' ⟨he, bel⟩ => ?_
  subst he
  exact ⟨_, rfl, _, _, _, [], _, [], hW', trodAll_mk1 (shut_bool Try.underlying4 _), (trodAll_cons_mk (Below.trod Rul.laidOut (by kernel_rfl) (of_decide_eq_true (by kernel_rfl)) k0 bel lt0) trodAll_mk0), rfl, bel.frame _, fun h => by cases h⟩

theorem fnRulesOfMatchesModel_proved : Rows.FnRulesOfMatchesModelSaid :=
  OpenClaim.holds_of_wide 3 Try.f3 rfl rfl rfl rfl rfl rfl rfl ⟨rfl, rfl, rfl, rfl, rfl⟩ rfl rfl rfl rfl rfl (by kernel_rfl) Try.func3 (by kernel_rfl)
    (of_decide_eq_true (by kernel_rfl)) (by unfold Func.isWrapper; first | (rw [if_pos (by decide +kernel)]; kernel_rfl) | (rw [if_neg (by decide +kernel)]; exact ⟨rfl, rfl⟩))
    (fun os started H enc _ => fnRulesOfMatchesModel_lifted os started H enc)

end Go.Proofs.Qxb6605201a
