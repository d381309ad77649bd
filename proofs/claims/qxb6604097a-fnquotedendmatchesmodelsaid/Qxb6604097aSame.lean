import Derived.Test.Qxb6604097aSmall
namespace Go.Proofs.Qxb6604097a
open Go.RowKit

/-- A string's bytes, as numbers. -/
def nums (q : ByteArray) : List Int := q.data.toList.map fun b => (b.toNat : Int)
theorem nums_length (q : ByteArray) : (nums q).length = q.size := by simp [nums]
theorem nums_at (q : ByteArray) (k : Nat) (h : k < q.size) : (nums q)[k]? = some ((q[k].toNat : Int)) := by
  simp only [nums, List.getElem?_map, Array.getElem?_toList]
  rw [show q.data[k]? = some (q[k]) from Array.getElem?_eq_getElem h]
  rfl

theorem eq_upto {S Q : List Int} (hl : S.length = Q.length) (h : ∀ j, j < Q.length → S[j]? = Q[j]?) : S = Q := by
  apply List.ext_getElem?
  intro j
  by_cases hj : j < Q.length
  · exact h j hj
  · rw [List.getElem?_eq_none (by omega), List.getElem?_eq_none (by omega)]

set_option maxHeartbeats 400000 in
theorem same10 (b off cap : Nat) (S : List Int) (q : ByteArray) (w : World) (hc : ∀ j x, S[j]? = some x → w.cell? ⟨b, off + j, none⟩ = some (.int .u8 x)) (hbw : b < w.heap.size) (hl : S.length = q.size) (hq : q.size ≤ 1048576) :
    Calls Try.prog 10 #[.slice (some ⟨b, off, none⟩) S.length cap, .string q] w fun e w' => RetB e (fun r => r = true ↔ S = nums q) ∧ Below w.heap.size w w' := by
  have HC : Hid (∀ j x, S[j]? = some x → w.cell? ⟨b, off + j, none⟩ = some (.int .u8 x)) := hc
  clear hc
  rw [hl]
  have HL : Hid (S.length = q.size) := hl
  clear hl
  go_enter Try.func10, Try.ntmps10
  go_wp2
  go_loopw [5] (fun i wr => ∃ k : Nat, k ≤ q.size ∧ i = .int .i64 k ∧ Hid (∀ j, j < k → S[j]? = (nums q)[j]?) ∧ Hid (Below w.heap.size w wr)) (fun i _ => q.size - (intOf i).toNat)
  case atStart => exact ⟨0, Nat.zero_le _, rfl, fun j hj => by omega, Below.refl _ _⟩
  case round =>
    obtain ⟨k, hk, rfl, HE, HB⟩ := hrel
    by_cases hlt : k < q.size
    · have hS : k < S.length := by rw [HL.out]; exact hlt
      have hcell : wr.cell? ⟨b, off + k, none⟩ = some (.int .u8 S[k]) := (HB.out.cell (p := ⟨b, off + k, none⟩) hbw).trans (HC.out k _ (List.getElem?_eq_getElem hS))
      have HK : Hid (S[k]? = some S[k]) := List.getElem?_eq_getElem hS
      have HQ : Hid ((nums q)[k]? = some ((q[k].toNat : Int))) := nums_at q k hlt
      clear HC
      generalize S[k] = y at hcell HK
      have h1 : (k : Int) < (q.size : Int) := by omega
      clear hS
      go_wp2
      go_quiet (fail)
      go_wp2
      · go_ret
        have hne : y ≠ (q[k].toNat : Int) := by simpa using ‹(y != (q[k].toNat : Int)) = true›
        refine ⟨retB ⟨(fun h => by cases h), fun h => ?_⟩, below_drewN HB.out nq⟩
        have h2 := HK.out
        rw [h, HQ.out] at h2
        exact absurd (by simpa using h2.symm) hne
      · have heq : y = (q[k].toNat : Int) := by simpa using ‹(y != (q[k].toNat : Int)) = false›
        have HE2 : Hid (∀ j, j < k + 1 → S[j]? = (nums q)[j]?) := by
          intro j hj
          rcases Nat.lt_or_ge j k with h | h
          · exact HE.out j h
          · obtain rfl : j = k := by omega
            rw [HK.out, HQ.out, heq]
        go_roundw
        case rel => exact ⟨k + 1, by omega, by go_num, HE2, below_drewN HB.out nq⟩
        case measure => simp [intOf]; omega
    · go_wp2
      go_ret
      refine ⟨retB ⟨fun _ => eq_upto (by rw [HL.out, nums_length]) fun j hj => HE.out j (by rw [nums_length] at hj; omega), fun _ => rfl⟩, HB⟩
end Go.Proofs.Qxb6604097a
