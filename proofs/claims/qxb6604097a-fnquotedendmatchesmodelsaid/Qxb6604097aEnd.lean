import Derived.Test.Qxb6604097aSame
namespace Go.Proofs.Qxb6604097a
open Go.RowKit

/-- It returned a natural number of which p holds. -/
def RetN (e : Ending) (p : Nat → Prop) : Prop := ∃ r : Nat, e = .returned (.int .i64 r) ∧ p r
theorem retN {r : Nat} {p : Nat → Prop} (h : p r) : RetN (.returned (.int .i64 r)) p := ⟨r, rfl, h⟩
theorem retN' {z : Int} {p : Nat → Prop} (r : Nat) (hz : z = r) (h : p r) : RetN (.returned (.int .i64 z)) p := ⟨r, by rw [hz], h⟩

theorem conv1 (b off : Nat) (w : World) (x : Int) (hx : w.cell? ⟨b, off, none⟩ = some (.int .u8 x)) (c : Nat) : (convert 22 9 (.slice (some ⟨b, off, none⟩) 1 c)).run Try.prog w = .ok (.string (strOfNums [x])) w :=
  run_convert_bytes_arg (P := Try.prog) w 22 5 Try.underlying22 Try.underlying5 b off 1 c [x] rfl (fun i hi => by cases (show i = 0 by omega); exact hx) 9 Try.underlying9
theorem conv2 (b off : Nat) (w : World) (x y : Int) (hx : w.cell? ⟨b, off, none⟩ = some (.int .u8 x)) (hy : w.cell? ⟨b, off + 1, none⟩ = some (.int .u8 y)) (c : Nat) : (convert 22 9 (.slice (some ⟨b, off, none⟩) 2 c)).run Try.prog w = .ok (.string (strOfNums [x, y])) w :=
  run_convert_bytes_arg (P := Try.prog) w 22 5 Try.underlying22 Try.underlying5 b off 2 c [x, y] rfl (fun i hi => by
    rcases (show i = 0 ∨ i = 1 by omega) with rfl | rfl
    · exact hx
    · exact hy) 9 Try.underlying9

/-- No event from i up to k. -/
def NoEv (T Q : List Int) (i k : Nat) : Prop := ∀ e, i ≤ e → e < k → ¬ hit T Q e ∧ T.getD e 0 ≠ 10

theorem NoEv.start (T Q : List Int) (i : Nat) : NoEv T Q i i := fun e h1 h2 => by omega
theorem NoEv.next {T Q : List Int} {i k : Nat} (h : NoEv T Q i k) (h1 : ¬ hit T Q k) (h2 : T.getD k 0 ≠ 10) : NoEv T Q i (k + 1) := fun e he hk => by
  rcases Nat.lt_or_ge e k with hl | hg
  · exact h e he hl
  · obtain rfl : e = k := by omega
    exact ⟨h1, h2⟩

theorem res_hit {T Q : List Int} {i k : Nat} (h : NoEv T Q i k) (hik : i ≤ k) (hk : k < T.length) (hh : hit T Q k) : Res T Q i (k + 1 - Q.length) :=
  ⟨k, ⟨hik, by omega, h, fun _ => .inl hh⟩, .inr (.inl ⟨hk, hh, rfl⟩)⟩
theorem res_cr {T Q : List Int} {i k : Nat} (h : NoEv T Q i k) (hik : i < k) (hk : k < T.length) (hh : ¬ hit T Q k) (hn : T.getD k 0 = 10) (hc : T.getD (k - 1) 0 = 13) : Res T Q i (k - 1) :=
  ⟨k, ⟨by omega, by omega, h, fun _ => .inr hn⟩, .inr (.inr ⟨hk, hh, hn, .inl ⟨hik, hc, rfl⟩⟩)⟩
theorem res_lf {T Q : List Int} {i k : Nat} (h : NoEv T Q i k) (hik : i ≤ k) (hk : k < T.length) (hh : ¬ hit T Q k) (hn : T.getD k 0 = 10) (hc : ¬ (i < k ∧ T.getD (k - 1) 0 = 13)) : Res T Q i k :=
  ⟨k, ⟨by omega, by omega, h, fun _ => .inr hn⟩, .inr (.inr ⟨hk, hh, hn, .inr ⟨hc, rfl⟩⟩)⟩
theorem res_end {T Q : List Int} {i k : Nat} (h : NoEv T Q i k) (hik : i ≤ k) (hk : k = T.length) : Res T Q i T.length :=
  ⟨k, ⟨by omega, by omega, h, fun hl => by omega⟩, .inl ⟨hk, rfl⟩⟩

def CellsAre (w : World) (b off : Nat) (T : List Int) : Prop := ∀ j x, T[j]? = some x → w.cell? ⟨b, off + j, none⟩ = some (.int .u8 x)

theorem CellsAre.at {w : World} {b off : Nat} {T : List Int} (h : CellsAre w b off T) (k : Nat) (hk : k < T.length) : w.cell? ⟨b, off + k, none⟩ = some (.int .u8 T[k]) := h k _ (List.getElem?_eq_getElem hk)

theorem str_ne (y : Int) (h0 : 0 ≤ y) (h1 : y ≤ 255) (h : y ≠ 92) : ((strOfNums [y, 34]).toList == [92, 34]) = false := by
  rw [ByteArray.toList_eq, strOfNums_data]
  simp only [beq_eq_false_iff_ne, ne_eq, List.map_cons, List.map_nil, List.cons.injEq, not_and]
  intro hy
  exfalso
  apply h
  have := congrArg UInt8.toNat hy
  rw [UInt8.toNat_ofNat'] at this
  have e : (92 : UInt8).toNat = 92 := rfl
  rw [e] at this
  omega

set_option maxHeartbeats 400000 in
theorem end_apos (b off cap : Nat) (T : List Int) (i : Nat) (w : World) (hc : CellsAre w b off T) (hT : T.length ≤ 1048576) (hcap : T.length ≤ cap) (hi : 1 ≤ i) (hin : i < T.length) :
    Calls Try.prog 9 #[.slice (some ⟨b, off, none⟩) T.length cap, .int .i64 i, .string ⟨#[39]⟩] w fun e w' => RetN e (Res T [39] i) ∧ w = w' := by
  have hq0 : ((⟨#[39]⟩ : ByteArray)[0]'(by decide)).toNat = 39 := rfl
  go_enter Try.func9, Try.ntmps9
  go_wp2
  go_loop [8] (fun j => ∃ k : Nat, i ≤ k ∧ k ≤ T.length ∧ j = .int .i64 k ∧ Hid (NoEv T [39] i k)) (fun j => T.length - (intOf j).toNat)
  case atStart => exact ⟨i, Nat.le_refl _, by omega, rfl, NoEv.start _ _ _⟩
  case round =>
    obtain ⟨k, hik, hk, rfl, HN⟩ := hrel
    by_cases hlt : k < T.length
    · have hx := hc.at k hlt
      have hy := hc.at (k - 1) (by omega)
      have HD : Hid (T.getD k 0 = T[k]) := getD_at T k hlt
      have HD1 : Hid (T.getD (k - 1) 0 = T[k - 1]'(by omega)) := getD_at T (k - 1) (by omega)
      have HH : Hid (hit T [39] k ↔ T[k] = 39) := hit_apos T k hlt
      generalize T[k] = x at *
      generalize T[k - 1] = y at *
      by_cases hl : x = 39
      · subst hl
        have hconv := conv1 b (off + k) w 39 hx
        have hs : strOfNums [39] = ⟨#[39]⟩ := rfl
        rw [hs] at hconv
        clear hs
        go_wp2
        go_ret
        exact ⟨retN' (k + 1 - 1) (by omega) (res_hit HN.out hik hlt (HH.out.2 (by simp))), rfl⟩
      · have hbl : (x == 39) = false := by simpa using hl
        by_cases h10 : x = 10
        · subst h10
          clear hbl
          by_cases hki : i < k
          · by_cases h13 : y = 13
            · subst h13
              go_wp2
              go_ret
              exact ⟨retN' (k - 1) (by omega) (res_cr HN.out hki hlt (by rw [HH.out]; decide) HD.out HD1.out), rfl⟩
            · have hb13 : (y == 13) = false := by simpa using h13
              go_wp2
              go_ret
              exact ⟨retN (res_lf HN.out hik hlt (by rw [HH.out]; decide) HD.out (by rintro ⟨_, h⟩; rw [HD1.out] at h; exact h13 h)), rfl⟩
          · have hge : ¬ ((i : Int) < (k : Int)) := by omega
            have hdk : decide ((i : Int) < (k : Int)) = false := by simpa using hge
            go_wp2
            go_ret
            exact ⟨retN (res_lf HN.out hik hlt (by rw [HH.out]; decide) HD.out (by rintro ⟨h, _⟩; exact hki h)), rfl⟩
        · have hb10 : (x == 10) = false := by simpa using h10
          clear h10
          go_wp2
          go_round
          case rel => exact ⟨k + 1, by omega, by omega, by go_num, HN.out.next (by rw [HH.out]; exact hl) (by rw [HD.out]; simpa using hb10)⟩
          case measure => simp [intOf]; omega
    · go_wp2
      go_ret
      exact ⟨retN (res_end HN.out hik (by omega)), rfl⟩

set_option maxHeartbeats 400000 in
theorem end_quot (b off cap : Nat) (T : List Int) (i : Nat) (w : World) (hc : CellsAre w b off T) (hT : T.length ≤ 1048576) (hcap : T.length ≤ cap) (hi : 1 ≤ i) (hin : i < T.length) :
    Calls Try.prog 9 #[.slice (some ⟨b, off, none⟩) T.length cap, .int .i64 i, .string ⟨#[34]⟩] w fun e w' => RetN e (Res T [34] i) ∧ w = w' := by
  have hq0 : ((⟨#[34]⟩ : ByteArray)[0]'(by decide)).toNat = 34 := rfl
  go_enter Try.func9, Try.ntmps9
  go_wp2
  go_loop [8] (fun j => ∃ k : Nat, i ≤ k ∧ k ≤ T.length ∧ j = .int .i64 k ∧ Hid (NoEv T [34] i k)) (fun j => T.length - (intOf j).toNat)
  case atStart => exact ⟨i, Nat.le_refl _, by omega, rfl, NoEv.start _ _ _⟩
  case round =>
    obtain ⟨k, hik, hk, rfl, HN⟩ := hrel
    by_cases hlt : k < T.length
    · have hx := hc.at k hlt
      have hy := hc.at (k - 1) (by omega)
      have HD : Hid (T.getD k 0 = T[k]) := getD_at T k hlt
      have HD1 : Hid (T.getD (k - 1) 0 = T[k - 1]'(by omega)) := getD_at T (k - 1) (by omega)
      have HH : Hid (hit T [34] k ↔ T[k] = 34 ∧ T[k - 1]'(by omega) ≠ 92) := hit_quot T k (by omega) hlt
      generalize T[k] = x at *
      generalize T[k - 1] = y at *
      by_cases hl : x = 34
      · subst hl
        have hconv := conv1 b (off + k) w 34 hx
        have hs : strOfNums [34] = ⟨#[34]⟩ := rfl
        rw [hs] at hconv
        clear hs
        by_cases h92 : y = 92
        · subst h92
          go_wp2
          go_round
          case rel => exact ⟨k + 1, by omega, by omega, by go_num, HN.out.next (by rw [HH.out]; simp) (by rw [HD.out]; decide)⟩
          case measure => simp [intOf]; omega
        · have hb92 : (y != 92) = true := by simpa using h92
          have hb92' : (y == 92) = false := by simpa using h92
          go_wp2
          go_ret
          exact ⟨retN' (k + 1 - 1) (by omega) (res_hit HN.out hik hlt (HH.out.2 (by simpa using h92))), rfl⟩
      · have hbl : (x == 34) = false := by simpa using hl
        by_cases h10 : x = 10
        · subst h10
          clear hbl
          by_cases hki : i < k
          · by_cases h13 : y = 13
            · subst h13
              go_wp2
              go_ret
              exact ⟨retN' (k - 1) (by omega) (res_cr HN.out hki hlt (by rw [HH.out]; simp) HD.out HD1.out), rfl⟩
            · have hb13 : (y == 13) = false := by simpa using h13
              go_wp2
              go_ret
              exact ⟨retN (res_lf HN.out hik hlt (by rw [HH.out]; simp) HD.out (by rintro ⟨_, h⟩; rw [HD1.out] at h; exact h13 h)), rfl⟩
          · have hge : ¬ ((i : Int) < (k : Int)) := by omega
            have hdk : decide ((i : Int) < (k : Int)) = false := by simpa using hge
            go_wp2
            go_ret
            exact ⟨retN (res_lf HN.out hik hlt (by rw [HH.out]; simp) HD.out (by rintro ⟨h, _⟩; exact hki h)), rfl⟩
        · have hb10 : (x == 10) = false := by simpa using h10
          clear h10
          go_wp2
          go_round
          case rel => exact ⟨k + 1, by omega, by omega, by go_num, HN.out.next (by rw [HH.out]; exact fun h => hl h.1) (by rw [HD.out]; simpa using hb10)⟩
          case measure => simp [intOf]; omega
    · go_wp2
      go_ret
      exact ⟨retN (res_end HN.out hik (by omega)), rfl⟩

set_option maxHeartbeats 400000 in
theorem end_esc (b off cap : Nat) (T : List Int) (i : Nat) (w : World) (hc : CellsAre w b off T) (hT : T.length ≤ 1048576) (hcap : T.length ≤ cap) (hi : 2 ≤ i) (hin : i < T.length) (hby : ∀ j (hj : j < T.length), 0 ≤ T[j] ∧ T[j] ≤ 255) :
    Calls Try.prog 9 #[.slice (some ⟨b, off, none⟩) T.length cap, .int .i64 i, .string ⟨#[92, 34]⟩] w fun e w' => RetN e (Res T [92, 34] i) ∧ w = w' := by
  have hq0 : ((⟨#[92, 34]⟩ : ByteArray)[1]'(by decide)).toNat = 34 := rfl
  go_enter Try.func9, Try.ntmps9
  go_wp2
  go_loop [8] (fun j => ∃ k : Nat, i ≤ k ∧ k ≤ T.length ∧ j = .int .i64 k ∧ Hid (NoEv T [92, 34] i k)) (fun j => T.length - (intOf j).toNat)
  case atStart => exact ⟨i, Nat.le_refl _, by omega, rfl, NoEv.start _ _ _⟩
  case round =>
    obtain ⟨k, hik, hk, rfl, HN⟩ := hrel
    by_cases hlt : k < T.length
    · have hx := hc.at k hlt
      have hy := hc.at (k - 1) (by omega)
      have HD : Hid (T.getD k 0 = T[k]) := getD_at T k hlt
      have HD1 : Hid (T.getD (k - 1) 0 = T[k - 1]'(by omega)) := getD_at T (k - 1) (by omega)
      have HH : Hid (hit T [92, 34] k ↔ (T[k - 1]'(by omega) = 92 ∧ T[k] = 34) ∧ T[k - 2]'(by omega) ≠ 92) := hit_esc T k (by omega) hlt
      have hz := hc.at (k - 2) (by omega)
      have hyb := hby (k - 1) (by omega)
      generalize T[k] = x at *
      generalize T[k - 1] = y at *
      generalize T[k - 2] = z at *
      by_cases hl : x = 34
      · subst hl
        have hconv := conv2 b (off + (k - 1)) w y 34 hy (by rw [show off + (k - 1) + 1 = off + k by omega]; exact hx)
        have e2 : k + 1 - (k - 1) = 2 := by omega
        have hz1 : w.cell? ⟨b, off + (k - 1 - 1), none⟩ = some (.int .u8 z) := by rw [show k - 1 - 1 = k - 2 by omega]; exact hz
        by_cases hy92 : y = 92
        · subst hy92
          have hs : strOfNums [92, 34] = ⟨#[92, 34]⟩ := rfl
          rw [hs] at hconv
          clear hs
          by_cases h92 : z = 92
          · subst h92
            go_wp2
            go_round
            case rel => exact ⟨k + 1, by omega, by omega, by go_num, HN.out.next (by rw [HH.out]; simp) (by rw [HD.out]; decide)⟩
            case measure => simp [intOf]; omega
          · have hb92 : (z != 92) = true := by simpa using h92
            have hb92' : (z == 92) = false := by simpa using h92
            go_wp2
            go_ret
            exact ⟨retN' (k + 1 - 2) (by omega) (res_hit HN.out hik hlt (HH.out.2 (by simpa using h92))), rfl⟩
        · have hne := str_ne y hyb.1 hyb.2 hy92
          generalize strOfNums [y, 34] = sy at *
          go_wp2
          go_round
          case rel => exact ⟨k + 1, by omega, by omega, by go_num, HN.out.next (by rw [HH.out]; exact fun h => hy92 h.1.1) (by rw [HD.out]; decide)⟩
          case measure => simp [intOf]; omega
      · have hbl : (x == 34) = false := by simpa using hl
        by_cases h10 : x = 10
        · subst h10
          clear hbl
          by_cases hki : i < k
          · by_cases h13 : y = 13
            · subst h13
              go_wp2
              go_ret
              exact ⟨retN' (k - 1) (by omega) (res_cr HN.out hki hlt (by rw [HH.out]; simp) HD.out HD1.out), rfl⟩
            · have hb13 : (y == 13) = false := by simpa using h13
              go_wp2
              go_ret
              exact ⟨retN (res_lf HN.out hik hlt (by rw [HH.out]; simp) HD.out (by rintro ⟨_, h⟩; rw [HD1.out] at h; exact h13 h)), rfl⟩
          · have hge : ¬ ((i : Int) < (k : Int)) := by omega
            have hdk : decide ((i : Int) < (k : Int)) = false := by simpa using hge
            go_wp2
            go_ret
            exact ⟨retN (res_lf HN.out hik hlt (by rw [HH.out]; simp) HD.out (by rintro ⟨h, _⟩; exact hki h)), rfl⟩
        · have hb10 : (x == 10) = false := by simpa using h10
          clear h10
          go_wp2
          go_round
          case rel => exact ⟨k + 1, by omega, by omega, by go_num, HN.out.next (by rw [HH.out]; exact fun h => hl h.1.2) (by rw [HD.out]; simpa using hb10)⟩
          case measure => simp [intOf]; omega
    · go_wp2
      go_ret
      exact ⟨retN (res_end HN.out hik (by omega)), rfl⟩

end Go.Proofs.Qxb6604097a
