import Derived.Test.Qxb6605201aMem
namespace Go.Proofs.Qxb6605201a.Fld
open Go.RowKit

def total (ss : List ByteArray) : Nat := (ss.map (·.size)).sum
theorem sum_snoc : ∀ (l : List Nat) (x : Nat), (l ++ [x]).sum = l.sum + x := by intro l x; simp
theorem total_take (ss : List ByteArray) (k : Nat) (h : k < ss.length) : total (ss.take (k + 1)) = total (ss.take k) + ss[k].size := by
  unfold total
  rw [List.take_succ_eq_append_getElem h, List.map_append, List.map_cons, List.map_nil, sum_snoc]
theorem total_append (a b : List ByteArray) : total (a ++ b) = total a + total b := by simp [total]
theorem total_mono (ss : List ByteArray) (k : Nat) : total (ss.take k) ≤ total ss := by
  induction k with
  | zero => simp [total]
  | succ k ih =>
    by_cases h : k < ss.length
    · have := total_append (ss.take (k + 1)) (ss.drop (k + 1))
      rw [List.take_append_drop] at this
      omega
    · rw [List.take_of_length_le (by omega)]; exact Nat.le_refl _

/-- The k-th member. -/
def mem (ss : List ByteArray) (k : Nat) : List Int := fieldOf (ss.getD k ⟨#[]⟩) ++ dec k
/-- What appendField and the numbers have built after k rounds. -/
def got (T : List Int) (ss : List ByteArray) : Nat → List Int
  | 0 => T
  | k + 1 => got T ss k ++ commaOf ((got T ss k).getLastD 0) ++ mem ss k
/-- What the law's own text has built after k rounds. -/
def want (T : List Int) (ss : List ByteArray) : Nat → List Int
  | 0 => T ++ (if ss.length = 0 then [] else commaOf (T.getLastD 0))
  | k + 1 => want T ss k ++ (if k = 0 then [] else [44]) ++ mem ss k

theorem got_last (T : List Int) (ss : List ByteArray) (k : Nat) : (got T ss (k + 1)).getLastD 0 ≠ 123 := by
  obtain ⟨t, x, he, hx⟩ := dec_last k
  rw [got, mem, he, ← List.append_assoc, ← List.append_assoc]
  simpa using hx
theorem same_text (T : List Int) (ss : List ByteArray) (k : Nat) (hs : ss.length ≠ 0) : got T ss (k + 1) = want T ss (k + 1) := by
  induction k with
  | zero => simp [got, want, hs]
  | succ k ih =>
    rw [got, want, ← ih, if_neg (by omega)]
    have : commaOf ((got T ss (k + 1)).getLastD 0) = [44] := if_neg (got_last T ss k)
    rw [this]
theorem same_end (T : List Int) (ss : List ByteArray) : got T ss ss.length = want T ss ss.length := by
  by_cases h : ss.length = 0
  · rw [h]; simp [got, want, h]
  · obtain ⟨m, hm⟩ : ∃ m, ss.length = m + 1 := ⟨ss.length - 1, by omega⟩
    rw [hm]
    exact same_text T ss m h

theorem comma_len (x : Int) : (commaOf x).length ≤ 1 := by unfold commaOf; split <;> simp
theorem field_len (nm : ByteArray) : (fieldOf nm).length ≤ nm.size + 3 := by
  unfold fieldOf
  split
  · simp
  · simp [nums_length]
theorem getD_at (ss : List ByteArray) (k : Nat) (h : k < ss.length) : ss.getD k ⟨#[]⟩ = ss[k] := by simp [List.getD, List.getElem?_eq_getElem h]
theorem mem_len (ss : List ByteArray) (k : Nat) (h : k < ss.length) : (mem ss k).length ≤ ss[k].size + 8 := by
  unfold mem
  rw [getD_at ss k h, List.length_append]
  have h1 := field_len ss[k]
  have h2 := dec_length k
  omega
theorem got_len (T : List Int) (ss : List ByteArray) (k : Nat) (hk : k ≤ ss.length) : (got T ss k).length ≤ T.length + 9 * k + total (ss.take k) := by
  induction k with
  | zero => simp [got]
  | succ k ih =>
    have h1 := ih (by omega)
    have h2 := comma_len ((got T ss k).getLastD 0)
    have h3 := mem_len ss k (by omega)
    rw [got, total_take ss k (by omega)]
    simp only [List.length_append]
    omega
theorem want_len (T : List Int) (ss : List ByteArray) (k : Nat) (hk : k ≤ ss.length) : (want T ss k).length ≤ T.length + 1 + 9 * k + total (ss.take k) := by
  induction k with
  | zero =>
    rw [want, List.length_append]
    have h2 := comma_len (T.getLastD 0)
    by_cases h : ss.length = 0
    · rw [if_pos h, List.length_nil]; omega
    · rw [if_neg h]; omega
  | succ k ih =>
    have h1 := ih (by omega)
    have h3 := mem_len ss k (by omega)
    rw [want, total_take ss k (by omega)]
    have h4 : (if k = 0 then [] else [44] : List Int).length ≤ 1 := by split <;> simp
    simp only [List.length_append]
    omega
theorem got_ne (T : List Int) (ss : List ByteArray) (hT : T ≠ []) (k : Nat) : got T ss k ≠ [] := by
  induction k with
  | zero => exact hT
  | succ k ih => rw [got]; simp [ih]
theorem last_eq (l : List Int) (h : l ≠ []) : l.getLast h = l.getLastD 0 := by
  simp [List.getLastD_eq_getLast?, List.getLast?_eq_some_getLast h]

theorem IsStrs.below {w w' : World} {a : Option Addr} {ss : List ByteArray} (h : IsStrs w a ss) (hb : Below w.heap.size w w') : IsStrs w' a ss := by
  rcases h with h | ⟨b, off, ha, hlt, hc⟩
  · exact .inl h
  · exact .inr ⟨b, off, ha, Nat.lt_of_lt_of_le hlt hb.size, fun j x hx => (hb.cell (p := ⟨b, off + j, none⟩) hlt).trans (hc j x hx)⟩
theorem below_to {w w1 w2 : World} {B : Nat} (h : Below B w w1) (h2 : Below w1.heap.size w1 w2) (hB : B ≤ w1.heap.size) : Below B w w2 := h.trans (h2.mono hB)

set_option maxRecDepth 100000 in
set_option maxHeartbeats 1000000 in
theorem law_walk (at' a : Option Addr) (ct cap : Nat) (T : List Int) (ss : List ByteArray) (w : World) (hT : T = [] ∨ ∃ b off, at' = some ⟨b, off, none⟩ ∧ b < w.heap.size ∧ CellsAre w b off T) (hs : IsStrs w a ss) (ht : T.length ≤ 9223372036854775807) (hm : ss.length ≤ 9223372036854775807) :
    Calls Try.prog 5 #[.slice at' T.length ct, .slice a ss.length cap] w fun e w' => e = .returned (.bool true) ∧ Below w.heap.size w w' := by
  have HT : Hid (T = [] ∨ ∃ b off, at' = some ⟨b, off, none⟩ ∧ b < w.heap.size ∧ CellsAre w b off T) := hT
  have HS : Hid (IsStrs w a ss) := hs
  clear hT hs
  go_enter Try.func5, Try.ntmps5
  go_wp2_with fail
  refine (zzBytes16 at' a T.length ct cap ss w HS.out ht hm).mono ?_
  rintro e w' ⟨⟨r, rfl, _⟩, rfl⟩
  cases r
  · go_wp2
    go_ret
    exact ⟨rfl, Below.refl _ _⟩
  by_cases q1 : 1048576 < T.length
  · have d1 : decide ((1048576 : Int) < (T.length : Int)) = true := by simp; omega
    go_wp2
    go_ret
    exact ⟨rfl, Below.refl _ _⟩
  have d1 : decide ((1048576 : Int) < (T.length : Int)) = false := by simp; omega
  by_cases q2 : 65536 < ss.length
  · go_wp2
    go_ret
    exact ⟨rfl, Below.refl _ _⟩
  by_cases q3 : 1048576 < T.length + 16 * ss.length
  · go_wp2
    go_ret
    exact ⟨rfl, Below.refl _ _⟩
  go_wp2
  go_loop [5, 33] (fun n i => ∃ (z : Nat) (k : Nat), z ≤ 1048576 ∧ k ≤ ss.length ∧ Hid (z = T.length + 16 * ss.length + total (ss.take k)) ∧ i = .int .i64 k ∧ n = .int .i64 z) (fun _ i => ss.length - (intOf i).toNat)
  case atStart => exact ⟨T.length + 16 * ss.length, 0, by omega, Nat.zero_le _, by show _ = _; simp [total], rfl, by go_num⟩
  case round =>
    obtain ⟨z, k, hz, hk, HZ, rfl, rfl⟩ := hrel
    by_cases hlt : k < ss.length
    · obtain ⟨b, off, rfl, hb, hc⟩ := HS.out.at hlt
      have HTk : Hid (total (ss.take (k + 1)) = total (ss.take k) + ss[k].size) := total_take ss k hlt
      clear HS HT
      generalize ss[k] = x at hc HTk
      go_wp2
      all_goals try (go_ret; exact ⟨rfl, Below.refl _ _⟩)
      go_round
      case rel => exact ⟨z + x.size, k + 1, by omega, by omega, by have h1 := HZ.out; have h2 := HTk.out; show _ = _; omega, by go_num, by go_num⟩
      case measure => simp [intOf]; omega
    · have htot : T.length + 16 * ss.length + total ss ≤ 1048576 := by
        have h1 := HZ.out
        rw [List.take_of_length_le (by omega)] at h1
        omega
      clear HZ
      by_cases hT0 : T.length = 0
      · have hb0 : ((T.length : Int) == 0) = true := by simp [hT0]
        have HT0 : Hid (T.length = 0) := hT0
        clear hT0
        go_wp2
        go_ret
        exact ⟨rfl, Below.refl _ _⟩
      have hb0 : ((T.length : Int) == 0) = false := by rw [beq_eq_false_iff_ne]; omega
      obtain ⟨bt, ot, rfl, hbt, hct⟩ : ∃ b off, at' = some ⟨b, off, none⟩ ∧ b < w.heap.size ∧ Hid (CellsAre w b off T) := by
        rcases HT.out with h | h
        · subst h; simp at hT0
        · exact h
      have hTne : T ≠ [] := by intro h; subst h; simp at hT0
      have hix : T.length - 1 < T.length := by omega
      clear HT
      go_wp2_with fail
      refine (clone17 bt ot ct T w hct.out hbt (by omega)).mono ?_
      rintro e w1 ⟨rfl, hrow1, hb1⟩
      have HB1 : Hid (Below w.heap.size w w1) := hb1
      have HG0 : Hid (Buf w.heap.size w1 (.slice (some ⟨w.heap.size, 0, none⟩) T.length T.length) T) := buf_of_row hrow1 (Nat.le_refl _) ht
      have hs1 : w.heap.size ≤ w1.heap.size := hb1.size
      clear hrow1 hb1 hz hk hlt
      generalize hB : w.heap.size = B at *
      have HB : Hid (w.heap.size = B) := hB
      clear hB
      go_wp2
      go_loopw [7, 59] (fun v i wr => ∃ k : Nat, k ≤ ss.length ∧ i = .int .i64 k ∧ Hid (Buf B wr v (got T ss k)) ∧ Hid (Below B w wr) ∧ B ≤ wr.heap.size) (fun _ i _ => ss.length - (intOf i).toNat)
      case atStart => exact ⟨0, Nat.zero_le _, rfl, HG0, HB1, hs1⟩
      case round =>
        obtain ⟨k, hk, rfl, HGk, HBk, hsk⟩ := hrel
        by_cases hlt : k < ss.length
        · obtain ⟨b, off, rfl, hb, hc⟩ := HS.out.at hlt
          rw [HB.out] at hb
          have hck := (HBk.out.cell (p := ⟨b, off + k, none⟩) hb).trans hc
          have hgl := got_len T ss k hk
          have htm := total_mono ss k
          have htk := total_take ss k hlt
          have htm2 := total_mono ss (k + 1)
          have hxs : ss[k].size ≤ 1048576 := by omega
          have hne := got_ne T ss hTne k
          have HGS : Hid (got T ss (k + 1) = got T ss k ++ commaOf ((got T ss k).getLast hne) ++ fieldOf ss[k] ++ dec k) := by
            show _ = _
            rw [got, mem, getD_at ss k hlt, last_eq _ hne]
            simp
          have hfl := field_len ss[k]
          have hcl := comma_len ((got T ss k).getLast hne)
          have hLL : (got T ss k ++ commaOf ((got T ss k).getLast hne) ++ fieldOf ss[k]).length ≤ 1000000000 := by simp only [List.length_append]; omega
          have hL0 : (got T ss k).length ≤ 1000000000 := by omega
          clear hc htm htk htm2 hgl hfl hcl HG0 HB1
          generalize ss[k] = x at *
          have HC : Hid (Calls Try.prog 18 #[u7, .string x] wr fun e w' => RetBuf B e w' (got T ss k ++ commaOf ((got T ss k).getLast hne) ++ fieldOf x) ∧ Below B wr w') := zzField18 B u7 _ x wr HGk.out hne hL0 hxs hsk
          go_wp2_with fail
          refine HC.out.mono ?_
          rintro e w3 ⟨⟨v3, rfl, hv3⟩, hb3⟩
          have HV3 : Hid (Buf B w3 v3 _) := hv3
          have HB3 : Hid (Below B w w3) := HBk.out.trans hb3
          have hs3 : B ≤ w3.heap.size := Nat.le_trans hsk hb3.size
          clear hv3 hb3 HC HGk
          go_wp2_with fail
          refine (appendInt19 B v3 _ k w3 HV3.out hLL (by omega) hs3).mono ?_
          rintro e w4 ⟨⟨v4, rfl, hv4⟩, hb4⟩
          have HV4 : Hid (Buf B w4 v4 (got T ss (k + 1))) := by show Buf _ _ _ _; rw [HGS.out]; exact hv4
          have HB4 : Hid (Below B w w4) := HB3.out.trans hb4
          have hs4 : B ≤ w4.heap.size := Nat.le_trans hs3 hb4.size
          clear hv4 hb4 HV3 HB3
          go_wp2_with fail
          go_roundw
          case rel => exact ⟨k + 1, by omega, by go_num, HV4, HB4, hs4⟩
          case measure => simp [intOf]; omega
        · obtain rfl : k = ss.length := by omega
          have hgl := got_len T ss ss.length (Nat.le_refl _)
          rw [List.take_length] at hgl
          obtain ⟨gg, cg, rfl, hcg, hBg, hgg, hcell⟩ := HGk.out.shape
          have HCG : Hid (∀ j (hj : j < (got T ss ss.length).length), wr.cell? ⟨gg, j, none⟩ = some (.int .u8 (got T ss ss.length)[j])) := hcell
          have HBw : Hid (Below w.heap.size w wr) := by rw [HB.out]; exact HBk
          have hctr : Hid (CellsAre wr bt ot T) := hct.out.below HBw.out (by rw [HB.out]; exact hbt)
          have HSr : Hid (IsStrs wr a ss) := HS.out.below HBw.out
          have hbr : bt < wr.heap.size := by omega
          clear hcell HGk HG0 HB1 hct HS HBk
          obtain ⟨wo, rfl⟩ : ∃ wo : World, wo = wr := ⟨_, rfl⟩
          go_wp2_with fail
          refine (clone17 bt ot ct T wo hctr.out hbr (by omega)).mono ?_
          rintro e w5 ⟨rfl, hrow5, hb5⟩
          have HB5 : Hid (Below wo.heap.size wo w5) := hb5
          have HW0 : Hid (Buf wo.heap.size w5 (.slice (some ⟨wo.heap.size, 0, none⟩) T.length T.length) T) := buf_of_row hrow5 (Nat.le_refl _) ht
          have hs5 : wo.heap.size ≤ w5.heap.size := hb5.size
          have hlast : w5.cell? ⟨bt, ot + (T.length - 1), none⟩ = some (.int .u8 (T[T.length - 1]'hix)) := (hb5.cell (p := ⟨bt, ot + (T.length - 1), none⟩) hbr).trans (hctr.out.at _ (by omega))
          have HLD : Hid (T.getLastD 0 = T[T.length - 1]'hix) := by
            show _ = _
            rw [← last_eq T hTne, List.getLast_eq_getElem]
          clear hrow5 hb5
          by_cases hn0 : ss.length = 0
          · have HV6 : Hid (Buf wo.heap.size w5 (.slice (some ⟨wo.heap.size, 0, none⟩) T.length T.length) (want T ss 0)) := by show Buf _ _ _ _; rw [want, if_pos hn0, List.append_nil]; exact HW0
            have HB6 : Hid (Below wo.heap.size wo w5) := HB5
            have hs6 : wo.heap.size ≤ w5.heap.size := hs5
            have hd0 : decide ((0 : Int) < (ss.length : Int)) = false := decide_eq_false (by omega)
            have hd2 : decide (0 < ss.length) = false := decide_eq_false (by omega)
            have hle0 : ss.length ≤ 0 := by omega
            clear hn0 HW0 HB5 HLD
            generalize hB1 : wo.heap.size = B1 at *
            have HB1' : Hid (wo.heap.size = B1) := hB1
            clear hB1
            go_wp2
            go_loopw [9, 91] (fun v i wr => ∃ k : Nat, k ≤ ss.length ∧ i = .int .i64 k ∧ Hid (Buf B1 wr v (want T ss k)) ∧ Hid (Below B1 wo wr) ∧ B1 ≤ wr.heap.size) (fun _ i _ => ss.length - (intOf i).toNat)
            case atStart => exact ⟨0, Nat.zero_le _, rfl, HV6, HB6, hs6⟩
            case round =>
              obtain ⟨k, hk, rfl, HWk, HBk, hsk⟩ := hrel
              by_cases hlt : k < ss.length
              · exact absurd hlt (by omega)
              · obtain rfl : k = ss.length := by omega
                have hw := HWk.out
                rw [← same_end] at hw
                obtain ⟨gw, cw, rfl, _, _, hgw, hcw⟩ := hw.shape
                have K1 : Hid (CellsAre wr gg 0 (got T ss ss.length)) := fun j y hy => by
                  obtain ⟨hj, hy'⟩ := List.getElem?_eq_some_iff.1 hy
                  rw [Nat.zero_add, HBk.out.cell (p := ⟨gg, j, none⟩) hgg, HCG.out j hj, hy']
                have K2 : Hid (CellsAre wr gw 0 (got T ss ss.length)) := fun j y hy => by
                  obtain ⟨hj, hy'⟩ := List.getElem?_eq_some_iff.1 hy
                  rw [Nat.zero_add, hcw j hj, hy']
                have hgg2 : gg < wr.heap.size := by omega
                clear hw hcw HCG HWk HV6 HB6 HSr
                go_wp2_with fail
                refine (same21 gg gw cg cw (got T ss ss.length) wr K1.out K2.out hgg2 hgw (by omega)).mono ?_
                rintro e w8 ⟨rfl, hb8⟩
                have HB8 : Hid (Below w.heap.size w w8) := by
                  have h1 := HBk.out
                  rw [← HB1'.out] at h1
                  exact below_to (below_to HBw.out h1 HBw.out.size) hb8 (Nat.le_trans HBw.out.size h1.size)
                clear hb8
                go_wp2_with fail
                go_ret
                exact ⟨rfl, HB8⟩
          · by_cases h123 : (T[T.length - 1]'hix) = 123
            · have HX : Hid (commaOf (T.getLastD 0) = []) := by show _ = _; rw [HLD.out]; exact if_pos h123
              have HV6 : Hid (Buf wo.heap.size w5 (.slice (some ⟨wo.heap.size, 0, none⟩) T.length T.length) (want T ss 0)) := by show Buf _ _ _ _; rw [want, if_neg hn0, HX.out, List.append_nil]; exact HW0
              have HB6 : Hid (Below wo.heap.size wo w5) := HB5
              have hs6 : wo.heap.size ≤ w5.heap.size := hs5
              have hpos : (0 : Int) < (ss.length : Int) := by omega
              rw [h123] at hlast
              clear hn0 HW0 HB5 HLD HX h123
              generalize hB1 : wo.heap.size = B1 at *
              have HB1' : Hid (wo.heap.size = B1) := hB1
              clear hB1
              go_wp2
              go_loopw [9, 91] (fun v i wr => ∃ k : Nat, k ≤ ss.length ∧ i = .int .i64 k ∧ Hid (Buf B1 wr v (want T ss k)) ∧ Hid (Below B1 wo wr) ∧ B1 ≤ wr.heap.size) (fun _ i _ => ss.length - (intOf i).toNat)
              case atStart => exact ⟨0, Nat.zero_le _, rfl, HV6, HB6, hs6⟩
              case round =>
                obtain ⟨k, hk, rfl, HWk, HBk, hsk⟩ := hrel
                by_cases hlt : k < ss.length
                · obtain ⟨b, off, rfl, hb, hc⟩ := HSr.out.at hlt
                  rw [HB1'.out] at hb
                  have hck := (HBk.out.cell (p := ⟨b, off + k, none⟩) hb).trans hc
                  have hwl := want_len T ss k hk
                  have htm := total_mono ss k
                  have htk := total_take ss k hlt
                  have htm2 := total_mono ss (k + 1)
                  have hxs : ss[k].size ≤ 1048576 := by omega
                  have HWS : Hid (want T ss (k + 1) = want T ss k ++ (if k = 0 then [] else [44]) ++ (fieldOf ss[k] ++ dec k)) := by
                    show _ = _
                    rw [want, mem, getD_at ss k hlt]
                  have hL0 : (want T ss k).length ≤ 800000000 := by omega
                  clear hc htm htk htm2 hwl HV6 HB6 HSr HCG hgl
                  generalize ss[k] = x at *
                  generalize want T ss k = WL at *
                  obtain ⟨gw, cw, rfl, _, _, hgw, _⟩ := HWk.out.shape
                  by_cases hk0 : k = 0
                  · have HWS2 : Hid (want T ss (k + 1) = WL ++ (fieldOf x ++ dec k)) := by show _ = _; rw [HWS.out, if_pos hk0, List.append_nil]
                    have hk1 : k ≤ 0 := by omega
                    clear hk0 HWS
                    go_wp2_with fail
                    refine (member20 B1 _ WL x k wr HWk.out (by omega) hxs (by omega) hsk).mono ?_
                    rintro e w7 ⟨⟨v7, rfl, hv7⟩, hb7⟩
                    have HV7 : Hid (Buf B1 w7 v7 (want T ss (k + 1))) := by show Buf _ _ _ _; rw [HWS2.out]; exact hv7
                    have HB7 : Hid (Below B1 wo w7) := HBk.out.trans hb7
                    have hs7 : B1 ≤ w7.heap.size := Nat.le_trans hsk hb7.size
                    clear hv7 hb7 HWk HBk
                    go_wp2_with fail
                    go_roundw
                    case rel => exact ⟨k + 1, by omega, by go_num, HV7, HB7, hs7⟩
                    case measure => simp [intOf]; omega
                  · have HWS2 : Hid (want T ss (k + 1) = WL ++ [44] ++ (fieldOf x ++ dec k)) := by show _ = _; rw [HWS.out, if_neg hk0]
                    have hk1 : 1 ≤ k := by omega
                    clear hk0 HWS
                    go_wp2_with (first | (at_builtin; refine append_lit _ rfl (.tmp 96) (.tmp 97) rfl B1 _ WL rfl (HWk.out.alloc _) _ 1 [44] rfl ?_ ?_ wo (HBk.out.alloc hsk _) ?_ ?_; exact lit_one _ _; (simp; omega); (simp; omega); intro va wa hba hea hBa; have hcka := (hea.cell (p := ⟨b, off + k, none⟩) hb).trans ((HBk.out.cell (p := ⟨b, off + k, none⟩) hb).symm.trans hck)))
                    refine (member20 B1 _ (WL ++ [44]) x k wa hba (by simp; omega) hxs (by omega) hBa).mono ?_
                    rintro e w7 ⟨⟨v7, rfl, hv7⟩, hb7⟩
                    have HV7 : Hid (Buf B1 w7 v7 (want T ss (k + 1))) := by show Buf _ _ _ _; rw [HWS2.out]; exact hv7
                    have HB7 : Hid (Below B1 wo w7) := hea.trans hb7
                    have hs7 : B1 ≤ w7.heap.size := Nat.le_trans hBa hb7.size
                    clear hv7 hb7 HWk HBk hba hea hBa
                    go_wp2_with fail
                    go_roundw
                    case rel => exact ⟨k + 1, by omega, by go_num, HV7, HB7, hs7⟩
                    case measure => simp [intOf]; omega
                · obtain rfl : k = ss.length := by omega
                  have hw := HWk.out
                  rw [← same_end] at hw
                  obtain ⟨gw, cw, rfl, _, _, hgw, hcw⟩ := hw.shape
                  have K1 : Hid (CellsAre wr gg 0 (got T ss ss.length)) := fun j y hy => by
                    obtain ⟨hj, hy'⟩ := List.getElem?_eq_some_iff.1 hy
                    rw [Nat.zero_add, HBk.out.cell (p := ⟨gg, j, none⟩) hgg, HCG.out j hj, hy']
                  have K2 : Hid (CellsAre wr gw 0 (got T ss ss.length)) := fun j y hy => by
                    obtain ⟨hj, hy'⟩ := List.getElem?_eq_some_iff.1 hy
                    rw [Nat.zero_add, hcw j hj, hy']
                  have hgg2 : gg < wr.heap.size := by omega
                  clear hw hcw HCG HWk HV6 HB6 HSr
                  go_wp2_with fail
                  refine (same21 gg gw cg cw (got T ss ss.length) wr K1.out K2.out hgg2 hgw (by omega)).mono ?_
                  rintro e w8 ⟨rfl, hb8⟩
                  have HB8 : Hid (Below w.heap.size w w8) := by
                    have h1 := HBk.out
                    rw [← HB1'.out] at h1
                    exact below_to (below_to HBw.out h1 HBw.out.size) hb8 (Nat.le_trans HBw.out.size h1.size)
                  clear hb8
                  go_wp2_with fail
                  go_ret
                  exact ⟨rfl, HB8⟩
            · have HX : Hid (commaOf (T.getLastD 0) = [44]) := by show _ = _; rw [HLD.out]; exact if_neg h123
              have HW6 : Hid (want T ss 0 = T ++ [44]) := by show _ = _; rw [want, if_neg hn0, HX.out]
              have hpos : (0 : Int) < (ss.length : Int) := by omega
              have hb123 : ((T[T.length - 1]'hix) != 123) = true := by simpa using h123
              clear hn0 HLD HX h123
              generalize (T[T.length - 1]'hix) = lx at *
              go_wp2_with (first | (at_builtin; refine append_lit _ rfl (.tmp 86) (.tmp 87) rfl wo.heap.size _ T rfl (HW0.out.alloc _) _ 1 [44] rfl ?_ ?_ wo (HB5.out.alloc hs5 _) ?_ ?_; exact lit_one _ _; (simp; omega); (simp; omega); intro v6 w6 hb6 he6 hs6))
              have HV6 : Hid (Buf wo.heap.size w6 v6 (want T ss 0)) := by show Buf _ _ _ _; rw [HW6.out]; exact hb6
              have HB6 : Hid (Below wo.heap.size wo w6) := he6
              clear hb6 he6 HW0 HB5 HW6
              generalize hB1 : wo.heap.size = B1 at *
              have HB1' : Hid (wo.heap.size = B1) := hB1
              clear hB1
              go_wp2
              go_loopw [9, 91] (fun v i wr => ∃ k : Nat, k ≤ ss.length ∧ i = .int .i64 k ∧ Hid (Buf B1 wr v (want T ss k)) ∧ Hid (Below B1 wo wr) ∧ B1 ≤ wr.heap.size) (fun _ i _ => ss.length - (intOf i).toNat)
              case atStart => exact ⟨0, Nat.zero_le _, rfl, HV6, HB6, hs6⟩
              case round =>
                obtain ⟨k, hk, rfl, HWk, HBk, hsk⟩ := hrel
                by_cases hlt : k < ss.length
                · obtain ⟨b, off, rfl, hb, hc⟩ := HSr.out.at hlt
                  rw [HB1'.out] at hb
                  have hck := (HBk.out.cell (p := ⟨b, off + k, none⟩) hb).trans hc
                  have hwl := want_len T ss k hk
                  have htm := total_mono ss k
                  have htk := total_take ss k hlt
                  have htm2 := total_mono ss (k + 1)
                  have hxs : ss[k].size ≤ 1048576 := by omega
                  have HWS : Hid (want T ss (k + 1) = want T ss k ++ (if k = 0 then [] else [44]) ++ (fieldOf ss[k] ++ dec k)) := by
                    show _ = _
                    rw [want, mem, getD_at ss k hlt]
                  have hL0 : (want T ss k).length ≤ 800000000 := by omega
                  clear hc htm htk htm2 hwl HV6 HB6 HSr HCG hgl
                  generalize ss[k] = x at *
                  generalize want T ss k = WL at *
                  obtain ⟨gw, cw, rfl, _, _, hgw, _⟩ := HWk.out.shape
                  by_cases hk0 : k = 0
                  · have HWS2 : Hid (want T ss (k + 1) = WL ++ (fieldOf x ++ dec k)) := by show _ = _; rw [HWS.out, if_pos hk0, List.append_nil]
                    have hk1 : k ≤ 0 := by omega
                    clear hk0 HWS
                    go_wp2_with fail
                    refine (member20 B1 _ WL x k wr HWk.out (by omega) hxs (by omega) hsk).mono ?_
                    rintro e w7 ⟨⟨v7, rfl, hv7⟩, hb7⟩
                    have HV7 : Hid (Buf B1 w7 v7 (want T ss (k + 1))) := by show Buf _ _ _ _; rw [HWS2.out]; exact hv7
                    have HB7 : Hid (Below B1 wo w7) := HBk.out.trans hb7
                    have hs7 : B1 ≤ w7.heap.size := Nat.le_trans hsk hb7.size
                    clear hv7 hb7 HWk HBk
                    go_wp2_with fail
                    go_roundw
                    case rel => exact ⟨k + 1, by omega, by go_num, HV7, HB7, hs7⟩
                    case measure => simp [intOf]; omega
                  · have HWS2 : Hid (want T ss (k + 1) = WL ++ [44] ++ (fieldOf x ++ dec k)) := by show _ = _; rw [HWS.out, if_neg hk0]
                    have hk1 : 1 ≤ k := by omega
                    clear hk0 HWS
                    go_wp2_with (first | (at_builtin; refine append_lit _ rfl (.tmp 96) (.tmp 97) rfl B1 _ WL rfl (HWk.out.alloc _) _ 1 [44] rfl ?_ ?_ wo (HBk.out.alloc hsk _) ?_ ?_; exact lit_one _ _; (simp; omega); (simp; omega); intro va wa hba hea hBa; have hcka := (hea.cell (p := ⟨b, off + k, none⟩) hb).trans ((HBk.out.cell (p := ⟨b, off + k, none⟩) hb).symm.trans hck)))
                    refine (member20 B1 _ (WL ++ [44]) x k wa hba (by simp; omega) hxs (by omega) hBa).mono ?_
                    rintro e w7 ⟨⟨v7, rfl, hv7⟩, hb7⟩
                    have HV7 : Hid (Buf B1 w7 v7 (want T ss (k + 1))) := by show Buf _ _ _ _; rw [HWS2.out]; exact hv7
                    have HB7 : Hid (Below B1 wo w7) := hea.trans hb7
                    have hs7 : B1 ≤ w7.heap.size := Nat.le_trans hBa hb7.size
                    clear hv7 hb7 HWk HBk hba hea hBa
                    go_wp2_with fail
                    go_roundw
                    case rel => exact ⟨k + 1, by omega, by go_num, HV7, HB7, hs7⟩
                    case measure => simp [intOf]; omega
                · obtain rfl : k = ss.length := by omega
                  have hw := HWk.out
                  rw [← same_end] at hw
                  obtain ⟨gw, cw, rfl, _, _, hgw, hcw⟩ := hw.shape
                  have K1 : Hid (CellsAre wr gg 0 (got T ss ss.length)) := fun j y hy => by
                    obtain ⟨hj, hy'⟩ := List.getElem?_eq_some_iff.1 hy
                    rw [Nat.zero_add, HBk.out.cell (p := ⟨gg, j, none⟩) hgg, HCG.out j hj, hy']
                  have K2 : Hid (CellsAre wr gw 0 (got T ss ss.length)) := fun j y hy => by
                    obtain ⟨hj, hy'⟩ := List.getElem?_eq_some_iff.1 hy
                    rw [Nat.zero_add, hcw j hj, hy']
                  have hgg2 : gg < wr.heap.size := by omega
                  clear hw hcw HCG HWk HV6 HB6 HSr
                  go_wp2_with fail
                  refine (same21 gg gw cg cw (got T ss ss.length) wr K1.out K2.out hgg2 hgw (by omega)).mono ?_
                  rintro e w8 ⟨rfl, hb8⟩
                  have HB8 : Hid (Below w.heap.size w w8) := by
                    have h1 := HBk.out
                    rw [← HB1'.out] at h1
                    exact below_to (below_to HBw.out h1 HBw.out.size) hb8 (Nat.le_trans HBw.out.size h1.size)
                  clear hb8
                  go_wp2_with fail
                  go_ret
                  exact ⟨rfl, HB8⟩
end Go.Proofs.Qxb6605201a.Fld
