import Derived.Test.Qxb6604041aModel
import Derived.Test.Qxb6604041aPeel
namespace Go.Proofs.Qxb6604041a
open Go.RowKit

theorem Has.strs {W : World} {g : Nat} {ss : List ByteArray} (h : Has W g ss) : IsStrs W (some ⟨g, 0, none⟩) ss := .inr ⟨g, 0, rfl, h.1, h.2⟩

theorem add_block (x : Addr) (j : Nat) : (x.add j).block = x.block := by unfold Addr.add; split <;> rfl

set_option maxHeartbeats 400000 in
/-- The law's last statement, the slice nil or not. -/
theorem byModel_walk (a : Option Addr) (cap : Nat) (ss : List ByteArray) (w : World) (hs : IsStrs w a ss) (hc : ss.length ≤ cap) (hm : ss.length ≤ 9223372036854775807) :
    Calls Try.prog 3 #[.slice a ss.length cap] w fun e w' => e = .returned (.bool true) ∧ Below w.heap.size w w' := by
  have HS : Hid (IsStrs w a ss) := hs
  clear hs
  have hneq := fun wx n c => run_neq_slice_nil_any (P := Try.prog) wx 22 9 a n c 0 0 Try.underlying22
  obtain ⟨i0, hi, hz0, hz1, hz2⟩ := info_parts Try.info9
  go_enter Try.func3, Try.ntmps3
  go_wp2_with fail
  refine (zzBytes5 a cap ss w HS.out hm).mono ?_
  rintro e w' ⟨⟨bb, rfl, _⟩, hw⟩
  obtain rfl := hw.symm
  clear hw
  cases bb
  · go_wp2
    go_ret
    exact ⟨rfl, Below.refl _ _⟩
  go_wp2_with fail
  refine (namesFit6 a cap ss w HS.out hm).mono ?_
  rintro e w' ⟨⟨bb, rfl, hfit⟩, hw⟩
  obtain rfl := hw.symm
  clear hw
  cases bb
  · clear hfit
    go_wp2
    go_ret
    exact ⟨rfl, Below.refl _ _⟩
  have hb := hfit rfl
  clear hfit
  cases a with
  | none =>
    go_wp2_with fail
    refine (zzEither_any none cap ss w HS.out hc hb).mono ?_
    rintro e w1 ⟨rfl, hb1⟩
    go_wp2_with fail
    have H1 : IsStrs w1 none ss := by
      rcases HS.out with h | ⟨b, off, h, _⟩
      · exact .inl h
      · cases h
    refine (model_any none cap ss w1 H1 hb).mono ?_
    rintro e w2 ⟨rfl, hb2⟩
    go_wp2_with fail
    go_ret
    exact ⟨rfl, hb1.trans (hb2.mono hb1.size)⟩
  | some x =>
    have hr0 : ∀ j v, (strVals ss)[j]? = some v → w.cell? (x.add j) = some v := by
      rcases HS.out with h | ⟨b, off, h, _, hcell⟩
      · subst h; simp [strVals]
      · cases h
        exact strVals_at hcell
    have hlt : ss = [] ∨ x.block < w.heap.size := by
      rcases HS.out with h | ⟨b, off, h, hb, hcell⟩
      · exact .inl h
      · cases h
        exact .inr hb
    have HR : Hid (∀ j v, (strVals ss)[j]? = some v → w.cell? (x.add j) = some v) := hr0
    have HLT : Hid (ss = [] ∨ x.block < w.heap.size) := hlt
    clear hr0 hlt HS
    go_wp2_with (at_make; refine wpList_make_full _ rfl (.tmp 13) (.tmp 13) 22 rfl w.heap.size 9 i0 (.string ⟨#[]⟩) 1 Try.underlying22 hi hz0 hz1 .i64 .i64 _ _ ss.length rfl rfl rfl rfl ?c1 ?c2 ?c3 ?_)
    case c1 => first | omega | (rw [hz2]; omega)
    case c2 => unfold maxLen; omega
    case c3 => exact Nat.le_refl _
    intro w1 hown hgrow
    obtain ⟨cur, hcur, hlen⟩ := made_row hown
    have HB1 : Hid (Below w.heap.size w w1) := (Below.refl _ _).grown hgrow (Nat.le_refl _) (by simp)
    have HCU : Hid (w1.heap[w.heap.size]? = some (.cells cur.toArray 9 (0, 0))) := hcur
    have HLEN : Hid (cur.length = ss.length) := hlen
    clear hown hgrow hcur hlen hi hz0 hz1 hz2
    go_wp2_with (first | (refine wpList_copy_splice rfl (.tmp 15) (.tmp 16) 22 22 rfl 9 Try.underlying22 Try.size9 _ _ _ _ _ _ rfl rfl w.heap.size 0 cur 9 HCU.out (strVals ss) ?d1 ?d2 ?d3 (strVals_one _) w.heap.size w HB1.out (Nat.le_refl _) ?_))
    case d1 => simp [strVals]
    case d2 =>
      intro h0
      have h1 : x.block < w.heap.size := by
        rcases HLT.out with h | h
        · subst h; simp [strVals] at h0
        · exact h
      intro j v h
      rw [HB1.out.cell (p := x.add j) (by rw [add_block]; exact h1)]
      exact HR.out j v h
    case d3 => have := HLEN.out; simp [strVals]; omega
    intro w2 HG2 hB2
    have hc2 := copied HLEN.out HG2.out
    have hsz2 : w.heap.size < w2.heap.size := by
      have h := HG2.out
      rcases Nat.lt_or_ge w.heap.size w2.heap.size with h1 | h1
      · exact h1
      · rw [Array.getElem?_eq_none h1] at h; cases h
    have H2 : Has w2 w.heap.size ss := ⟨hsz2, hc2⟩
    have HB2 : Hid (Below w.heap.size w w2) := hB2
    clear hc2 hB2 HG2 HCU HB1 HLEN HR HLT hneq
    go_wp2_with fail
    refine (zzEither_any _ _ ss w2 H2.strs (Nat.le_refl _) hb).mono ?_
    rintro e w3 ⟨rfl, hb3⟩
    go_wp2_with fail
    refine (model_any _ _ ss w3 (H2.below hb3).strs hb).mono ?_
    rintro e w4 ⟨rfl, hb4⟩
    go_wp2_with fail
    go_ret
    have hs2 := HB2.out.size
    exact ⟨rfl, (HB2.out.trans (hb3.mono hs2)).trans (hb4.mono (Nat.le_trans hs2 hb3.size))⟩
end Go.Proofs.Qxb6604041a
