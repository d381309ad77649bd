import Derived.Test.Qxb6604041aGuards
import Derived.Test.Qxb6604041aShelf
import Derived.Test.Qxb6604041aPlain
import Derived.ShutString
namespace Go.Proofs.Qxb6604041a
open Go.RowKit

theorem lens_total (ss : List ByteArray) : Lib.lens (ss.map (·.data.toList)) = total ss := by
  unfold Lib.lens total
  rw [List.map_map]
  congr 1
theorem total_take_le (ss : List ByteArray) (k : Nat) : total (ss.take k) ≤ total ss := by
  rw [← lens_total, ← lens_total, List.map_take]; exact Lib.lens_take_le _ _

/-- The string of a list of bytes. -/
def strOfL (l : List UInt8) : ByteArray := ⟨l.toArray⟩

set_option maxHeartbeats 400000 in
theorem either_few (a : Option Addr) (cap : Nat) (ss : List ByteArray) (w : World) (hs : IsStrs w a ss) (hc : ss.length ≤ cap) (hb : 16 * ss.length + total ss ≤ 1048576) (h2 : ss.length < 2) :
    Calls Try.prog 10 #[.slice a ss.length cap] w fun e w' => e = .returned (.string (strOfL (eitherL (ss.map (·.data.toList))))) ∧ Below w.heap.size w w' := by
  have hE : eitherL (ss.map (·.data.toList)) = Lib.join (ss.map (·.data.toList)) [] := by unfold eitherL; rw [if_pos (by simpa using h2)]
  have HE : Hid (eitherL (ss.map (·.data.toList)) = Lib.join (ss.map (·.data.toList)) []) := hE
  clear hE
  rcases hs with rfl | ⟨b, off, rfl, hbw, hcell⟩
  · go_enter Try.func10, Try.ntmps10
    go_wp2_with fail
    refine (Try.strings_Join_none _ _ _ _).mono ?_
    rintro e w' ⟨rfl, rfl⟩
    go_wp2_with fail
    go_ret
    exact ⟨rfl, Below.refl _ _⟩
  · have HC : Hid (∀ j x, ss[j]? = some x → w.cell? ⟨b, off + j, none⟩ = some (.string x)) := hcell
    clear hcell
    have hlen : (Lib.join (ss.map (·.data.toList)) (⟨#[]⟩ : ByteArray).data.toList).length ≤ 140737488355328 := by
      have := join_len (ss.map (·.data.toList)) (⟨#[]⟩ : ByteArray).data.toList (by simp)
      rw [lens_total, List.length_map] at this
      omega
    have HL : Hid ((Lib.join (ss.map (·.data.toList)) (⟨#[]⟩ : ByteArray).data.toList).length ≤ 140737488355328) := hlen
    clear hlen
    go_enter Try.func10, Try.ntmps10
    go_wp2_with fail
    refine (Try.strings_Join b off cap ss _ _ HC.out hbw (by omega) hc HL.out).mono ?_
    rintro e w' ⟨rfl, hb1⟩
    go_wp2_with fail
    go_ret
    exact ⟨by rw [HE.out]; rfl, hb1⟩

theorem join_bound (ss : List ByteArray) (sep : List UInt8) (h : sep.length ≤ 2) (hb : 16 * ss.length + total ss ≤ 1048576) : (Lib.join (ss.map (·.data.toList)) sep).length ≤ 1048576 := by
  have := join_len (ss.map (·.data.toList)) sep h
  rw [lens_total, List.length_map] at this
  omega

/-- strings.Join, its result under a name. -/
theorem join_named (b off cap : Nat) (xs : List ByteArray) (sep : ByteArray) (w w0 : World) (x : ByteArray) (hw : ∀ a : Addr, a.block = b → w.cell? a = w0.cell? a) (hsz : w0.heap.size ≤ w.heap.size) (hbw : b < w0.heap.size) (hcell : Hid (∀ j x, xs[j]? = some x → w0.cell? ⟨b, off + j, none⟩ = some (.string x)))
    (hx : w0.cell? ⟨b, off + xs.length, none⟩ = some (.string x)) (hc : xs.length + 1 ≤ cap) (hb : 16 * xs.length + total xs ≤ 1048576) (hs : sep.size ≤ 2) :
    Calls Try.prog 11 #[.slice (some ⟨b, off, none⟩) xs.length cap, .string sep] w fun e w' => ∃ s, e = .returned (.string s) ∧ s.size ≤ 1048576 ∧ Hid (s = strOfL (Lib.join (xs.map (·.data.toList)) sep.data.toList)) ∧ Below w.heap.size w w' ∧ w'.cell? ⟨b, off + xs.length, none⟩ = some (.string x) := by
  have hl := join_bound xs sep.data.toList (by simpa using hs) hb
  refine (Try.strings_Join b off cap xs _ _ (fun j x h => (hw _ rfl).trans (hcell.out j x h)) (by omega) (by omega) (by omega) (by omega)).mono ?_
  rintro e w' ⟨rfl, hb1⟩
  exact ⟨_, rfl, by simpa [ByteArray.size] using hl, rfl, hb1, (hb1.cell (by show b < _; omega)).trans ((hw _ rfl).trans hx)⟩

theorem str_cat (s x : ByteArray) (l : List UInt8) (h : Hid (s = strOfL l)) : s ++ ⟨#[32, 111, 114, 32]⟩ ++ x = strOfL (l ++ orB ++ x.data.toList) := by
  rw [h.out]
  apply ByteArray.ext
  simp [strOfL, orB]

theorem undraw {w w' : World} (h : Below w.drew.heap.size w.drew w') : Below w.heap.size w w' := ⟨h.os, h.tape, h.output, h.size, h.block⟩

set_option maxHeartbeats 400000 in
theorem either_many (b off cap : Nat) (xs : List ByteArray) (x : ByteArray) (w : World) (hbw : b < w.heap.size) (hcell : ∀ j x, xs[j]? = some x → w.cell? ⟨b, off + j, none⟩ = some (.string x))
    (hx : w.cell? ⟨b, off + xs.length, none⟩ = some (.string x)) (hc : xs.length + 1 ≤ cap) (hb : 16 * xs.length + total xs ≤ 1048576) (hbx : x.size ≤ 1048576) (h2 : 1 ≤ xs.length) :
    Calls Try.prog 10 #[.slice (some ⟨b, off, none⟩) (xs.length + 1) cap] w fun e w' => e = .returned (.string (strOfL (Lib.join (xs.map (·.data.toList)) commaB ++ orB ++ x.data.toList))) ∧ Below w.heap.size w w' := by
  have HC : Hid (∀ j x, xs[j]? = some x → w.cell? ⟨b, off + j, none⟩ = some (.string x)) := hcell
  clear hcell
  go_enter Try.func10, Try.ntmps10
  go_wp2_with fail
  go_region_with (go_at_call 11; refine (join_named b off cap xs _ _ w x ?_ ?_ hbw HC hx hc hb ?_).mono ?_; exact fun _ _ => rfl; exact Nat.le_refl _; decide; rintro e w' ⟨s, rfl, hsz, HS, hb1, hx1⟩)
  all_goals
    go_wp2_with fail
    go_ret
    exact ⟨congrArg (fun t => Ending.returned (Value.string t)) (str_cat s x _ HS), undraw hb1⟩

theorem either_any (a : Option Addr) (cap : Nat) (ss : List ByteArray) (w : World) (hs : IsStrs w a ss) (hc : ss.length ≤ cap) (hb : 16 * ss.length + total ss ≤ 1048576) :
    Calls Try.prog 10 #[.slice a ss.length cap] w fun e w' => e = .returned (.string (strOfL (eitherL (ss.map (·.data.toList))))) ∧ Below w.heap.size w w' := by
  by_cases h2 : ss.length < 2
  · exact either_few a cap ss w hs hc hb h2
  · rcases hs with rfl | ⟨b, off, rfl, hbw, hcell⟩
    · simp at h2
    · obtain ⟨m, hm⟩ : ∃ m, ss.length = m + 1 := ⟨ss.length - 1, by omega⟩
      have hl : (ss.take m).length = m := by rw [List.length_take]; omega
      have ht := total_take ss m (by omega)
      rw [← hm, List.take_length] at ht
      have h1 := either_many b off cap (ss.take m) (ss[m]'(by omega)) w hbw (fun j x h => hcell j x (by
        rw [List.getElem?_take] at h; split at h <;> simp_all)) (by rw [hl]; exact hcell m _ (List.getElem?_eq_getElem (by omega))) (by omega) (by omega) (by omega) (by omega)
      rw [hl, ← hm] at h1
      refine h1.mono fun e w' ⟨he, hw⟩ => ⟨?_, hw⟩
      rw [he]
      unfold eitherL
      have e1 : ss.length - 1 = m := by omega
      rw [if_neg (by simpa using h2), List.length_map, e1, ← List.map_take]
      simp [List.getD, List.getElem?_eq_getElem (show m < ss.length by omega)]

set_option maxHeartbeats 400000 in
theorem zzEither_any (a : Option Addr) (cap : Nat) (ss : List ByteArray) (w : World) (hs : IsStrs w a ss) (hc : ss.length ≤ cap) (hb : 16 * ss.length + total ss ≤ 1048576) :
    Calls Try.prog 7 #[.slice a ss.length cap] w fun e w' => e = .returned (.string (strOfL (eitherL (ss.map (·.data.toList))))) ∧ Below w.heap.size w w' := by
  have HS : Hid (IsStrs w a ss) := hs
  clear hs
  go_enter Try.func7, Try.ntmps7
  go_wp2_with fail
  refine (either_any a cap ss w HS.out hc hb).mono ?_
  rintro e w' ⟨rfl, hb1⟩
  go_wp2_with fail
  go_ret
  exact ⟨rfl, hb1⟩
end Go.Proofs.Qxb6604041a
