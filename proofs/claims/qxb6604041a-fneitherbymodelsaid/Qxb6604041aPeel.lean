import Derived.Test.Qxb6604041aEither
import Derived.Laws.CopyOwn
import Derived.Deep.RegionHeld3
namespace Go.Proofs.Qxb6604041a
open Go.RowKit

theorem Try.info9 : (Try.prog.info? 9).map (fun i => (i.zero, i.size, i.bytes)) = some (some (.string ⟨#[]⟩), 1, 16) := by kernel_rfl
theorem Try.size9 : (Try.prog.info? 9).map (·.size) = some 1 := by kernel_rfl

def strVals (ss : List ByteArray) : List Value := ss.map Value.string

theorem strVals_one (ss : List ByteArray) : ∀ v ∈ strVals ss, v.oneCell' = true := by
  intro v hv
  obtain ⟨s, _, rfl⟩ := List.mem_map.1 hv
  rfl

theorem strVals_at {w : World} {b off : Nat} {ss : List ByteArray} (hcell : ∀ j x, ss[j]? = some x → w.cell? ⟨b, off + j, none⟩ = some (.string x)) :
    ∀ j v, (strVals ss)[j]? = some v → w.cell? ((⟨b, off, none⟩ : Addr).add j) = some v := by
  intro j v h
  unfold strVals at h
  rw [List.getElem?_map] at h
  obtain ⟨x, hx, rfl⟩ := Option.map_eq_some_iff.1 h
  have e : (⟨b, off, none⟩ : Addr).add j = ⟨b, off + j, none⟩ := by unfold Addr.add; split <;> simp_all
  rw [e]; exact hcell j x hx

theorem strVals_at' {w : World} {b off : Nat} {ss : List ByteArray} (hcell : ∀ j x, ss[j]? = some x → w.cell? ⟨b, off + j, none⟩ = some (.string x)) :
    ∀ j v, (strVals ss)[j]? = some v → w.cell? ⟨b, off + j, none⟩ = some v := by
  intro j v h
  unfold strVals at h
  rw [List.getElem?_map] at h
  obtain ⟨x, hx, rfl⟩ := Option.map_eq_some_iff.1 h
  exact hcell j x hx

/-- The strings ss lie at the head of block g. -/
def Has (W : World) (g : Nat) (ss : List ByteArray) : Prop := g < W.heap.size ∧ ∀ j x, ss[j]? = some x → W.cell? ⟨g, 0 + j, none⟩ = some (.string x)

theorem Has.below {W w' : World} {g : Nat} {ss : List ByteArray} (h : Has W g ss) (hb : Below W.heap.size W w') : Has w' g ss :=
  ⟨Nat.lt_of_lt_of_le h.1 hb.size, fun j x hx => (hb.cell (p := ⟨g, 0 + j, none⟩) h.1).trans (h.2 j x hx)⟩

theorem either_size (ss : List ByteArray) (hb : 16 * ss.length + total ss ≤ 1048576) : (strOfL (eitherL (ss.map (·.data.toList)))).size ≤ 1048576 := by
  have := either_len (ss.map (·.data.toList))
  rw [lens_total, List.length_map] at this
  simp only [strOfL, ByteArray.size, List.size_toArray]
  omega

theorem zz_whole (g : Nat) (x0 : ByteArray) (r : List ByteArray) (W : World) (H : Has W g (x0 :: r)) (hb : 16 * (x0 :: r).length + total (x0 :: r) ≤ 1048576) :
    Calls Try.prog 7 #[.slice (some ⟨g, 0, none⟩) (r.length + 1) (r.length + 1)] W fun e w' => ∃ s, e = .returned (.string s) ∧ s.size ≤ 1048576 ∧ Hid (s = strOfL (eitherL ((x0 :: r).map (·.data.toList)))) ∧ Below W.heap.size W w' ∧ Has w' g (x0 :: r) ∧ w'.cell? ⟨g, 0, none⟩ = some (.string x0) := by
  refine (zzEither_any _ _ (x0 :: r) W (.inr ⟨g, 0, rfl, H.1, H.2⟩) (Nat.le_refl _) hb).mono ?_
  rintro e w' ⟨rfl, hb1⟩
  have H' := H.below hb1
  exact ⟨_, rfl, either_size _ hb, rfl, hb1, H', H'.2 0 x0 rfl⟩

theorem zz_rest (g : Nat) (x0 : ByteArray) (r : List ByteArray) (W : World) (H : Has W g (x0 :: r)) (hb : 16 * (x0 :: r).length + total (x0 :: r) ≤ 1048576) :
    Calls Try.prog 7 #[.slice (some ⟨g, 1, none⟩) r.length r.length] W fun e w' => ∃ s, e = .returned (.string s) ∧ s.size ≤ 1048576 ∧ Hid (s = strOfL (eitherL (r.map (·.data.toList)))) ∧ Below W.heap.size W w' ∧ Has w' g (x0 :: r) ∧ w'.cell? ⟨g, 0, none⟩ = some (.string x0) := by
  have hb' : 16 * r.length + total r ≤ 1048576 := by simp [total] at hb ⊢; omega
  refine (zzEither_any _ _ r W (.inr ⟨g, 1, rfl, H.1, fun j x hx => ?_⟩) (Nat.le_refl _) hb').mono ?_
  · have := H.2 (j + 1) x (by simpa using hx)
    rwa [show 0 + (j + 1) = 1 + j by omega] at this
  rintro e w' ⟨rfl, hb1⟩
  have H' := H.below hb1
  exact ⟨_, rfl, either_size _ hb', rfl, hb1, H', H'.2 0 x0 rfl⟩

theorem made_row {w1 : World} {B g n : Nat} {X : List Value} (hown : w1.ownsRow B 9 1 (.slice (some ⟨g, 0, none⟩) n n) n X) :
    ∃ cur : List Value, w1.heap[g]? = some (.cells cur.toArray 9 (0, 0)) ∧ cur.length = n := by
  obtain ⟨_, h | ⟨g', cap, cur, hv, _, hh, _, _, hsz, _⟩⟩ := hown
  · cases h.1
  · cases hv
    exact ⟨cur.toList, by simpa using hh, by simpa using hsz⟩

theorem copied {w2 : World} {g : Nat} {cur : List Value} {ss : List ByteArray} (hl : cur.length = ss.length) (h : w2.heap[g]? = some (.cells (splice cur 0 (strVals ss)).toArray 9 (0, 0))) :
    ∀ j x, ss[j]? = some x → w2.cell? ⟨g, 0 + j, none⟩ = some (.string x) := by
  intro j x hx
  have e : splice cur 0 (strVals ss) = strVals ss := by
    unfold splice
    rw [List.drop_of_length_le (by simp [strVals, hl])]
    simp
  rw [e] at h
  simp [World.cell?, h, strVals, hx]

theorem peel_eq (x0 : ByteArray) (r : List ByteArray) (s1 s2 : ByteArray) (hr : 2 ≤ r.length) (h1 : Hid (s1 = strOfL (eitherL ((x0 :: r).map (·.data.toList))))) (h2 : Hid (s2 = strOfL (eitherL (r.map (·.data.toList))))) :
    (s1.toList == (x0 ++ ⟨#[44, 32]⟩ ++ s2).toList) = true := by
  have e : s1 = x0 ++ ⟨#[44, 32]⟩ ++ s2 := by
    rw [h1.out, h2.out, List.map_cons, peel _ _ (by simpa using hr)]
    apply ByteArray.ext
    simp [strOfL, commaB]
  rw [e]
  exact beq_self_eq_true _

set_option maxHeartbeats 400000 in
theorem peel_walk (a : Option Addr) (cap : Nat) (ss : List ByteArray) (w : World) (hs : IsStrs w a ss) (hc : ss.length ≤ cap) (hm : ss.length ≤ 9223372036854775807) :
    Calls Try.prog 4 #[.slice a ss.length cap] w fun e w' => e = .returned (.bool true) ∧ Below w.heap.size w w' := by
  have HS : Hid (IsStrs w a ss) := hs
  clear hs
  have hneq := fun wx n c => run_neq_slice_nil_any (P := Try.prog) wx 22 9 a n c 0 0 Try.underlying22
  go_enter Try.func4, Try.ntmps4
  go_wp2_with fail
  refine (zzBytes9 a cap ss w HS.out hm).mono ?_
  rintro e w' ⟨⟨bb, rfl, _⟩, hw⟩
  obtain rfl := hw.symm
  clear hw
  cases bb
  · go_wp2
    go_ret
    exact ⟨rfl, Below.refl _ _⟩
  go_wp2_with fail
  refine (namesFit6 a cap ss w HS.out hm).mono ?_
  rintro e w' ⟨⟨bb, rfl, hfit⟩, hw⟩
  obtain rfl := hw.symm
  clear hw
  cases bb
  · clear hfit
    go_wp2
    go_ret
    exact ⟨rfl, Below.refl _ _⟩
  have hb := hfit rfl
  clear hfit
  by_cases h3 : ss.length < 3
  · go_wp2
    go_ret
    exact ⟨rfl, Below.refl _ _⟩
  obtain ⟨b, off, rfl, hbw, hcell⟩ : ∃ b off, a = some ⟨b, off, none⟩ ∧ b < w.heap.size ∧ Hid (∀ j x, ss[j]? = some x → w.cell? ⟨b, off + j, none⟩ = some (.string x)) := by
    rcases HS.out with h | h
    · subst h; simp at h3
    · exact h
  clear HS
  obtain ⟨i0, hi, hz0, hz1, hz2⟩ := info_parts Try.info9
  go_wp2_with (at_make; refine wpList_make_full _ rfl (.tmp 16) (.tmp 16) 22 rfl w.heap.size 9 i0 (.string ⟨#[]⟩) 1 Try.underlying22 hi hz0 hz1 .i64 .i64 _ _ ss.length rfl rfl rfl rfl ?c1 ?c2 ?c3 ?_)
  case c1 => rw [hz2]; omega
  case c2 => unfold maxLen; omega
  case c3 => exact Nat.le_refl _
  intro w1 hown hgrow
  obtain ⟨cur, hcur, hlen⟩ := made_row hown
  have hb1 : Below w.heap.size w w1 := (Below.refl _ _).grown hgrow (Nat.le_refl _) (by simp)
  have hsz1 : w.heap.size ≤ w1.heap.size := hb1.size
  have HB1 : Hid (Below w.heap.size w w1) := hb1
  have HCU : Hid (w1.heap[w.heap.size]? = some (.cells cur.toArray 9 (0, 0))) := hcur
  have HLEN : Hid (cur.length = ss.length) := hlen
  clear hown hgrow hb1 hcur hlen hi hz0 hz1 hz2
  go_wp2_with (first | (refine wpList_copy_splice rfl (.tmp 18) (.tmp 19) 22 22 rfl 9 Try.underlying22 Try.size9 _ _ _ _ _ _ rfl rfl w.heap.size 0 cur 9 HCU.out (strVals ss) ?d1 ?d2 ?d3 (strVals_one _) w.heap.size w HB1.out (Nat.le_refl _) ?_))
  case d1 => simp [strVals]
  case d2 => exact fun _ => strVals_at' fun j x h => (HB1.out.cell (p := ⟨b, off + j, none⟩) hbw).trans (hcell.out j x h)
  case d3 => have := HLEN.out; simp [strVals]; omega
  intro w2 HG2 hB2
  have hc2 := copied HLEN.out HG2.out
  have HC2 : Hid (∀ j x, ss[j]? = some x → w2.cell? ⟨w.heap.size, 0 + j, none⟩ = some (.string x)) := hc2
  have HB2 : Hid (Below w.heap.size w w2) := hB2
  have hsz2 : w.heap.size < w2.heap.size := by
    have h := HG2.out
    rcases Nat.lt_or_ge w.heap.size w2.heap.size with h1 | h1
    · exact h1
    · rw [Array.getElem?_eq_none h1] at h; cases h
  have H2 : Has w2 w.heap.size ss := ⟨hsz2, HC2.out⟩
  clear hc2 hB2 HG2 HCU HB1 HLEN hcell hsz1 hbw HC2 hm hneq
  obtain ⟨x0, r, rfl⟩ : ∃ x0 r, ss = x0 :: r := by
    cases ss with
    | nil => simp at h3
    | cons x0 r => exact ⟨x0, r, rfl⟩
  have hr : 2 ≤ r.length := by simp at h3; omega
  have hx0 := H2.2 0 x0 rfl
  have hxs : x0.size ≤ 1048576 := by simp [total] at hb; omega
  generalize hg : w.heap.size = g at *
  have HG : Hid (w.heap.size = g) := hg
  clear hg
  simp only [List.length_cons]
  have q1 : ¬ 9223372036854775807 < x0.size + 2 := by omega
  have q2 : (1 : Int) ≤ (r.length : Int) + 1 := by omega
  have q3 : ¬ r = [] := by intro h; subst h; simp at hr
  go_wp2_with fail

  have tok1 : True := trivial
  go_region_held3 (fun w' => w'.cell? ⟨g, 0, none⟩ = some (.string x0)) (go_keep)
    (first
      | (go_at_call 7; have _t := tok1; refine (zz_whole g x0 r _ ?_ hb).mono ?_; (first | assumption | exact H2); rintro e w' ⟨s1, rfl, hz1, HS1, hb1, H3, hx1⟩; clear tok1)
      | (go_at_call 7; refine (zz_rest g x0 r _ ?_ hb).mono ?_; (first | assumption | exact H2); rintro e w' ⟨s2, rfl, hz2, HS2, hb2, H4, hx2⟩; have q5 : ¬ 9223372036854775807 < x0.size + 2 + s2.size := by omega))
  go_wp2_with fail
  go_ret
  refine ⟨congrArg (fun t => Ending.returned (Value.bool t)) (peel_eq x0 r s1 s2 hr HS1 HS2), ?_⟩
  have h1 := HB2.out
  rw [← HG.out] at h1
  have hs := h1.size
  have h2 := (undraw hb1).mono hs
  have h3 := hb2.mono (Nat.le_trans hs h2.size)
  exact (h1.trans h2).trans h3
end Go.Proofs.Qxb6604041a
