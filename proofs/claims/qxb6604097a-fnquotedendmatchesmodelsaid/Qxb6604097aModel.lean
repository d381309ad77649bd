import Derived.Test.Qxb6604097aEnd
import Derived.Deep.CutBlock
import Derived.Deep.DeepCutAuto
namespace Go.Proofs.Qxb6604097a
open Go.RowKit

/-- The first LF at or behind i (the text's end where there is none). -/
structure FirstLF (T : List Int) (i p : Nat) : Prop where
  lo : i ≤ p
  hi : p ≤ T.length
  none : ∀ e, i ≤ e → e < p → T.getD e 0 ≠ 10
  at' : p < T.length → T.getD p 0 = 10

def NoLF (T : List Int) (i k : Nat) : Prop := ∀ e, i ≤ e → e < k → T.getD e 0 ≠ 10
theorem NoLF.start (T : List Int) (i : Nat) : NoLF T i i := fun e h1 h2 => by omega
theorem NoLF.next {T : List Int} {i k : Nat} (h : NoLF T i k) (h2 : T.getD k 0 ≠ 10) : NoLF T i (k + 1) := fun e he hk => by
  rcases Nat.lt_or_ge e k with hl | hg
  · exact h e he hl
  · obtain rfl : e = k := by omega
    exact h2

/-- The best start so far: the scan has come down to k (all places from k on, ahead of p, have been looked at). -/
def Best (T Q : List Int) (k p : Nat) (z : Int) : Prop :=
  (z = -1 ∧ ∀ e, k ≤ e → e < p → ¬ hit T Q e) ∨ (∃ h, k ≤ h ∧ h < p ∧ hit T Q h ∧ (∀ e, k ≤ e → e < h → ¬ hit T Q e) ∧ z = ((h + 1 - Q.length : Nat) : Int) ∧ Q.length ≤ h + 1)

theorem Best.start (T Q : List Int) (p : Nat) : Best T Q p p (-1) := .inl ⟨rfl, fun e h1 h2 => by omega⟩
theorem Best.miss {T Q : List Int} {k p : Nat} {z : Int} (h : Best T Q (k + 1) p z) (hn : ¬ hit T Q k) : Best T Q k p z := by
  rcases h with ⟨hz, h⟩ | ⟨e0, h1, h2, h3, h4, h5⟩
  · refine .inl ⟨hz, fun e he hp => ?_⟩
    rcases Nat.lt_or_ge k e with hl | hg
    · exact h e hl hp
    · obtain rfl : e = k := by omega
      exact hn
  · refine .inr ⟨e0, by omega, h2, h3, fun e he hp => ?_, h5⟩
    rcases Nat.lt_or_ge k e with hl | hg
    · exact h4 e hl hp
    · obtain rfl : e = k := by omega
      exact hn
theorem Best.hit {T Q : List Int} {k p : Nat} {z : Int} (hk : k < p) (hh : hit T Q k) (hQ : Q.length ≤ k + 1) (hz : z = ((k + 1 - Q.length : Nat) : Int)) : Best T Q k p z :=
  .inr ⟨k, Nat.le_refl _, hk, hh, fun e h1 h2 => by omega, hz, hQ⟩

/-- The scan found one: that is the answer. -/
theorem res_best {T Q : List Int} {i p : Nat} {z : Int} (hf : FirstLF T i p) (hb : Best T Q i p z) (hz : 0 ≤ z) : ∃ r : Nat, z = (r : Int) ∧ Res T Q i r := by
  rcases hb with ⟨h, _⟩ | ⟨e0, h1, h2, h3, h4, h5, h6⟩
  · omega
  · exact ⟨_, h5, res_hit (fun e he hp => ⟨h4 e he hp, hf.none e he (by omega)⟩) h1 (by have := hf.hi; omega) h3⟩
/-- It found none. -/
theorem noev_best {T Q : List Int} {i p : Nat} {z : Int} (hf : FirstLF T i p) (hb : Best T Q i p z) (hz : z < 0) : NoEv T Q i p := by
  rcases hb with ⟨_, h⟩ | ⟨e0, h1, h2, h3, h4, h5, h6⟩
  · exact fun e he hp => ⟨h e he hp, hf.none e he hp⟩
  · omega

theorem win_cells {w : World} {b off : Nat} {T : List Int} (hc : CellsAre w b off T) (s m : Nat) : ∀ j x, ((T.drop s).take m)[j]? = some x → w.cell? ⟨b, off + s + j, none⟩ = some (.int .u8 x) := by
  intro j x h
  rw [List.getElem?_take] at h
  split at h
  · rw [List.getElem?_drop] at h
    rw [Nat.add_assoc]
    exact hc _ _ h
  · cases h
theorem win_len (T : List Int) (s m : Nat) (h : s + m ≤ T.length) : ((T.drop s).take m).length = m := by
  rw [List.length_take, List.length_drop]; omega

theorem CellsAre.below {w w' : World} {b off : Nat} {T : List Int} (h : CellsAre w b off T) (hb : Below w.heap.size w w') (hbw : b < w.heap.size) : CellsAre w' b off T :=
  fun j x hx => (hb.cell (p := ⟨b, off + j, none⟩) hbw).trans (h j x hx)

theorem below2 {w wr w1 : World} (h : Below w.heap.size w wr) (h1 : Below wr.heap.size wr w1) : Below w.heap.size w w1 := h.trans (h1.mono h.size)

theorem hitw_apos (T : List Int) (k : Nat) : hit T [39] k ↔ (T.drop k).take 1 = nums ⟨#[39]⟩ := by
  unfold hit
  simp [nums]
theorem hitw_quot (T : List Int) (k : Nat) (_ : 1 ≤ k) : hit T [34] k ↔ (T.drop k).take 1 = nums ⟨#[34]⟩ ∧ T.getD (k - 1) 0 ≠ 92 := by
  unfold hit
  simp [nums]
theorem hitw_esc (T : List Int) (k : Nat) (_ : 2 ≤ k) : hit T [92, 34] k ↔ (T.drop (k - 1)).take 2 = nums ⟨#[92, 34]⟩ ∧ T.getD (k - 2) 0 ≠ 92 := by
  unfold hit
  simp [nums]
theorem hitw_apos_lf (T : List Int) (k : Nat) (h : k < T.length) (_ : 1 ≤ k) (hl : T.getD k 0 = 10) : ¬ hit T [39] k := by
  rw [hit_apos T k h, ← getD_at T k h, hl]; decide
theorem hitw_quot_lf (T : List Int) (k : Nat) (h : k < T.length) (h1 : 1 ≤ k) (hl : T.getD k 0 = 10) : ¬ hit T [34] k := by
  rw [hit_quot T k h1 h, ← getD_at T k h, hl]; simp
theorem hitw_esc_lf (T : List Int) (k : Nat) (h : k < T.length) (h1 : 2 ≤ k) (hl : T.getD k 0 = 10) : ¬ hit T [92, 34] k := by
  rw [hit_esc T k h1 h, ← getD_at T k h, hl]; simp

theorem hit_win {T Q : List Int} {k : Nat} : hit T Q k ↔ (T.drop (k + 1 - Q.length)).take Q.length = Q ∧ (Q = [39] ∨ T.getD (k - Q.length) 0 ≠ 92) := Iff.rfl

/-- sameBytesText at a window of the text. -/
theorem same_win (b off cap : Nat) (T : List Int) (q : ByteArray) (s m : Nat) (w : World) (hc : CellsAre w b off T) (hbw : b < w.heap.size) (hs : s + m ≤ T.length) (hm : q.size = m) (hq : q.size ≤ 2) :
    Calls Try.prog 10 #[.slice (some ⟨b, off + s, none⟩) m cap, .string q] w fun e w' => RetB e (fun r => r = true ↔ (T.drop s).take m = nums q) ∧ Below w.heap.size w w' := by
  have h := same10 b (off + s) cap ((T.drop s).take m) q w (win_cells hc s m) hbw (by rw [win_len _ _ _ hs, hm]) (by omega)
  rwa [win_len _ _ _ hs] at h

set_option maxHeartbeats 1000000 in
theorem model_apos (b off cap : Nat) (T : List Int) (i : Nat) (w : World) (hc : CellsAre w b off T) (hbw : b < w.heap.size) (hT : T.length ≤ 1048576) (hcap : T.length ≤ cap) (hi : 1 ≤ i) (hin : i < T.length) :
    Calls Try.prog 8 #[.slice (some ⟨b, off, none⟩) T.length cap, .int .i64 i, .string ⟨#[39]⟩] w fun e w' => RetN e (Res T [39] i) ∧ Below w.heap.size w w' := by
  go_enter Try.func8, Try.ntmps8
  go_upto_block 0 with fail
  go_cut [8, 9, 10] (fun nl f j wx => ∃ p : Nat, i ≤ p ∧ p ≤ T.length ∧ nl = .int .i64 p ∧ Hid (FirstLF T i p) ∧ w = wx)
  case first =>
    go_wp2
    go_loop [8, 9, 10] (fun nl f j => ∃ k : Nat, i ≤ k ∧ k ≤ T.length ∧ j = .int .i64 k ∧ ((f = .bool false ∧ nl = .int .i64 T.length ∧ Hid (NoLF T i k)) ∨ (∃ p : Nat, k = p + 1 ∧ i ≤ p ∧ f = .bool true ∧ nl = .int .i64 p ∧ Hid (FirstLF T i p)))) (fun _ _ j => T.length - (intOf j).toNat)
    case atStart => exact ⟨i, Nat.le_refl _, by omega, rfl, .inl ⟨rfl, rfl, NoLF.start _ _⟩⟩
    case round =>
      obtain ⟨k, hik, hk, rfl, ⟨rfl, rfl, HN⟩ | ⟨p, hp, hip, rfl, rfl, HF⟩⟩ := hrel
      · by_cases hlt : k < T.length
        · have hx := hc.at k hlt
          have HD : Hid (T.getD k 0 = T[k]) := getD_at T k hlt
          generalize T[k] = x at hx HD
          by_cases h10 : x = 10
          · subst h10
            go_wp2
            go_round
            case rel => exact ⟨k + 1, by omega, by omega, by go_num, .inr ⟨k, rfl, hik, rfl, rfl, ⟨hik, by omega, HN.out, fun _ => HD.out⟩⟩⟩
            case measure => simp [intOf]; omega
          · have hb10 : (x == 10) = false := by simpa using h10
            go_wp2
            go_round
            case rel => exact ⟨k + 1, by omega, by omega, by go_num, .inl ⟨rfl, rfl, HN.out.next (by rw [HD.out]; exact h10)⟩⟩
            case measure => simp [intOf]; omega
        · have hd : decide ((k : Int) < (T.length : Int)) = false := by simp; omega
          go_wp2
          go_meet
          exact ⟨T.length, by omega, Nat.le_refl _, rfl, ⟨by omega, Nat.le_refl _, fun e h1 h2 => HN.out e h1 (by omega), fun h => by omega⟩, rfl⟩
      · have HP : Hid (k = p + 1) := hp
        clear hp
        by_cases hlt : k < T.length
        · go_wp2
          go_meet
          exact ⟨p, hip, HF.out.hi, rfl, HF, rfl⟩
        · have hd : decide ((k : Int) < (T.length : Int)) = false := by simp; omega
          go_wp2
          go_meet
          exact ⟨p, hip, HF.out.hi, rfl, HF, rfl⟩
  case rest =>
  obtain ⟨p, hip, hpT, rfl, HF, rfl⟩ := hcut
  go_wp2
  go_loopw [12, 13] (fun best e wr => ∃ k : Nat, i ≤ k ∧ k ≤ p ∧ e = .int .i64 ((k : Int) - 1) ∧ ∃ z : Int, best = .int .i64 z ∧ Hid (Best T [39] k p z) ∧ Hid (Below w.heap.size w wr)) (fun _ e _ => (intOf e - i + 1).toNat)
  case atStart => exact ⟨p, hip, Nat.le_refl _, rfl, -1, rfl, Best.start _ _ _, Below.refl _ _⟩
  case round =>
    obtain ⟨k0, hik0, hkp0, rfl, z, rfl, HBst, HBe⟩ := hrel
    by_cases hlt : i < k0
    · obtain ⟨k, rfl⟩ : ∃ k, k0 = k + 1 := ⟨k0 - 1, by omega⟩
      have hcw : CellsAre wr b off T := hc.below HBe.out hbw
      have hbr : b < wr.heap.size := Nat.lt_of_lt_of_le hbw HBe.out.size
      have HH : Hid (hit T [39] k ↔ (T.drop (k)).take 1 = nums ⟨#[39]⟩) := hitw_apos T k
      go_wp2_with fail
      refine (same_win b off _ T ⟨#[39]⟩ (k) 1 wr hcw hbr (by omega) rfl (by decide)).mono ?_
      rintro e w1 ⟨⟨r, rfl, hr⟩, hb1⟩
      have HR : Hid (r = true ↔ (T.drop (k)).take 1 = nums ⟨#[39]⟩) := hr
      clear hr
      cases r
      · -- the window is not the quote
        go_wp2
        go_roundw
        case rel => exact ⟨k, by omega, by omega, by go_num, z, rfl, HBst.out.miss (by rw [HH.out]; exact fun h => by have := HR.out.2 h; cases this), below2 HBe.out hb1⟩
        case measure => simp [intOf]; omega
      · go_wp2
        go_roundw
        case rel => exact ⟨k, by omega, by omega, by go_num, _, rfl, Best.hit (by omega) (HH.out.2 (HR.out.1 (by simp))) (by simp) (by simp), below2 HBe.out hb1⟩
        case measure => simp [intOf]; omega
    · obtain rfl : k0 = i := by omega
      by_cases hz : 0 ≤ z
      · obtain ⟨r, hr, hres⟩ := res_best HF.out HBst.out hz
        subst hr
        go_wp2
        go_ret
        exact ⟨retN hres, HBe⟩
      · have HNo : Hid (NoEv T [39] k0 p) := noev_best HF.out HBst.out (by omega)
        by_cases hpn : p = T.length
        · have hb : ((p : Int) == (T.length : Int)) = true := by simp [hpn]
          have HPN : Hid (p = T.length) := hpn
          clear hpn
          go_wp2
          go_ret
          exact ⟨retN (res_end HNo.out hip HPN.out), HBe⟩
        · have hb : ((p : Int) == (T.length : Int)) = false := by simp; omega
          have hpt : p < T.length := by omega
          have HLF : Hid (T.getD p 0 = 10) := HF.out.at' hpt
          have HNH : Hid (¬ hit T [39] p) := hitw_apos_lf T p hpt (by omega) HLF.out
          by_cases hki : k0 < p
          · have hy := (hc.below HBe.out hbw).at (p - 1) (by omega)
            have HD1 : Hid (T.getD (p - 1) 0 = T[p - 1]'(by omega)) := getD_at T (p - 1) (by omega)
            generalize T[p - 1]'(by omega) = y at hy HD1
            by_cases h13 : y = 13
            · subst h13
              go_wp2
              go_ret
              exact ⟨retN' (p - 1) (by omega) (res_cr HNo.out hki hpt HNH.out HLF.out HD1.out), HBe⟩
            · have hb13 : (y == 13) = false := by simpa using h13
              go_wp2
              go_ret
              exact ⟨retN (res_lf HNo.out hip hpt HNH.out HLF.out (by rintro ⟨_, h⟩; rw [HD1.out] at h; exact h13 h)), HBe⟩
          · have hdk : decide ((k0 : Int) < (p : Int)) = false := by simp; omega
            go_wp2
            go_ret
            exact ⟨retN (res_lf HNo.out hip hpt HNH.out HLF.out (by rintro ⟨h, _⟩; exact hki h)), HBe⟩

set_option maxHeartbeats 1000000 in
theorem model_quot (b off cap : Nat) (T : List Int) (i : Nat) (w : World) (hc : CellsAre w b off T) (hbw : b < w.heap.size) (hT : T.length ≤ 1048576) (hcap : T.length ≤ cap) (hi : 1 ≤ i) (hin : i < T.length) :
    Calls Try.prog 8 #[.slice (some ⟨b, off, none⟩) T.length cap, .int .i64 i, .string ⟨#[34]⟩] w fun e w' => RetN e (Res T [34] i) ∧ Below w.heap.size w w' := by
  go_enter Try.func8, Try.ntmps8
  go_upto_block 0 with fail
  go_cut [8, 9, 10] (fun nl f j wx => ∃ p : Nat, i ≤ p ∧ p ≤ T.length ∧ nl = .int .i64 p ∧ Hid (FirstLF T i p) ∧ w = wx)
  case first =>
    go_wp2
    go_loop [8, 9, 10] (fun nl f j => ∃ k : Nat, i ≤ k ∧ k ≤ T.length ∧ j = .int .i64 k ∧ ((f = .bool false ∧ nl = .int .i64 T.length ∧ Hid (NoLF T i k)) ∨ (∃ p : Nat, k = p + 1 ∧ i ≤ p ∧ f = .bool true ∧ nl = .int .i64 p ∧ Hid (FirstLF T i p)))) (fun _ _ j => T.length - (intOf j).toNat)
    case atStart => exact ⟨i, Nat.le_refl _, by omega, rfl, .inl ⟨rfl, rfl, NoLF.start _ _⟩⟩
    case round =>
      obtain ⟨k, hik, hk, rfl, ⟨rfl, rfl, HN⟩ | ⟨p, hp, hip, rfl, rfl, HF⟩⟩ := hrel
      · by_cases hlt : k < T.length
        · have hx := hc.at k hlt
          have HD : Hid (T.getD k 0 = T[k]) := getD_at T k hlt
          generalize T[k] = x at hx HD
          by_cases h10 : x = 10
          · subst h10
            go_wp2
            go_round
            case rel => exact ⟨k + 1, by omega, by omega, by go_num, .inr ⟨k, rfl, hik, rfl, rfl, ⟨hik, by omega, HN.out, fun _ => HD.out⟩⟩⟩
            case measure => simp [intOf]; omega
          · have hb10 : (x == 10) = false := by simpa using h10
            go_wp2
            go_round
            case rel => exact ⟨k + 1, by omega, by omega, by go_num, .inl ⟨rfl, rfl, HN.out.next (by rw [HD.out]; exact h10)⟩⟩
            case measure => simp [intOf]; omega
        · have hd : decide ((k : Int) < (T.length : Int)) = false := by simp; omega
          go_wp2
          go_meet
          exact ⟨T.length, by omega, Nat.le_refl _, rfl, ⟨by omega, Nat.le_refl _, fun e h1 h2 => HN.out e h1 (by omega), fun h => by omega⟩, rfl⟩
      · have HP : Hid (k = p + 1) := hp
        clear hp
        by_cases hlt : k < T.length
        · go_wp2
          go_meet
          exact ⟨p, hip, HF.out.hi, rfl, HF, rfl⟩
        · have hd : decide ((k : Int) < (T.length : Int)) = false := by simp; omega
          go_wp2
          go_meet
          exact ⟨p, hip, HF.out.hi, rfl, HF, rfl⟩
  case rest =>
  obtain ⟨p, hip, hpT, rfl, HF, rfl⟩ := hcut
  go_wp2
  go_loopw [12, 13] (fun best e wr => ∃ k : Nat, i ≤ k ∧ k ≤ p ∧ e = .int .i64 ((k : Int) - 1) ∧ ∃ z : Int, best = .int .i64 z ∧ Hid (Best T [34] k p z) ∧ Hid (Below w.heap.size w wr)) (fun _ e _ => (intOf e - i + 1).toNat)
  case atStart => exact ⟨p, hip, Nat.le_refl _, rfl, -1, rfl, Best.start _ _ _, Below.refl _ _⟩
  case round =>
    obtain ⟨k0, hik0, hkp0, rfl, z, rfl, HBst, HBe⟩ := hrel
    by_cases hlt : i < k0
    · obtain ⟨k, rfl⟩ : ∃ k, k0 = k + 1 := ⟨k0 - 1, by omega⟩
      have hcw : CellsAre wr b off T := hc.below HBe.out hbw
      have hbr : b < wr.heap.size := Nat.lt_of_lt_of_le hbw HBe.out.size
      have HH : Hid (hit T [34] k ↔ (T.drop (k)).take 1 = nums ⟨#[34]⟩ ∧ T.getD (k - 1) 0 ≠ 92) := hitw_quot T k (by omega)
      go_wp2_with fail
      refine (same_win b off _ T ⟨#[34]⟩ (k) 1 wr hcw hbr (by omega) rfl (by decide)).mono ?_
      rintro e w1 ⟨⟨r, rfl, hr⟩, hb1⟩
      have HR : Hid (r = true ↔ (T.drop (k)).take 1 = nums ⟨#[34]⟩) := hr
      clear hr
      cases r
      · -- the window is not the quote
        go_wp2
        go_roundw
        case rel => exact ⟨k, by omega, by omega, by go_num, z, rfl, HBst.out.miss (by rw [HH.out]; exact fun h => by have := HR.out.2 h.1; cases this), below2 HBe.out hb1⟩
        case measure => simp [intOf]; omega
      · have hy : w1.cell? ⟨b, off + (k - 1), none⟩ = some (.int .u8 (T[k - 1]'(by omega))) := by
          have h1 := (hcw.below hb1 hbr).at (k - 1) (by omega)
          exact h1
        have HD : Hid (T.getD (k - 1) 0 = T[k - 1]'(by omega)) := getD_at T (k - 1) (by omega)
        generalize T[k - 1]'(by omega) = y at hy HD
        by_cases h92 : y = 92
        · subst h92
          go_wp2
          go_roundw
          case rel => exact ⟨k, by omega, by omega, by go_num, z, rfl, HBst.out.miss (by rw [HH.out, HD.out]; simp), below2 HBe.out hb1⟩
          case measure => simp [intOf]; omega
        · have hb92 : (y == 92) = false := by simpa using h92
          go_wp2
          go_roundw
          case rel => exact ⟨k, by omega, by omega, by go_num, _, rfl, Best.hit (by omega) (HH.out.2 ⟨HR.out.1 (by simp), by rw [HD.out]; exact h92⟩) (by simp; try omega) (by simp; try omega), below2 HBe.out hb1⟩
          case measure => simp [intOf]; omega
    · obtain rfl : k0 = i := by omega
      by_cases hz : 0 ≤ z
      · obtain ⟨r, hr, hres⟩ := res_best HF.out HBst.out hz
        subst hr
        go_wp2
        go_ret
        exact ⟨retN hres, HBe⟩
      · have HNo : Hid (NoEv T [34] k0 p) := noev_best HF.out HBst.out (by omega)
        by_cases hpn : p = T.length
        · have hb : ((p : Int) == (T.length : Int)) = true := by simp [hpn]
          have HPN : Hid (p = T.length) := hpn
          clear hpn
          go_wp2
          go_ret
          exact ⟨retN (res_end HNo.out hip HPN.out), HBe⟩
        · have hb : ((p : Int) == (T.length : Int)) = false := by simp; omega
          have hpt : p < T.length := by omega
          have HLF : Hid (T.getD p 0 = 10) := HF.out.at' hpt
          have HNH : Hid (¬ hit T [34] p) := hitw_quot_lf T p hpt (by omega) HLF.out
          by_cases hki : k0 < p
          · have hy := (hc.below HBe.out hbw).at (p - 1) (by omega)
            have HD1 : Hid (T.getD (p - 1) 0 = T[p - 1]'(by omega)) := getD_at T (p - 1) (by omega)
            generalize T[p - 1]'(by omega) = y at hy HD1
            by_cases h13 : y = 13
            · subst h13
              go_wp2
              go_ret
              exact ⟨retN' (p - 1) (by omega) (res_cr HNo.out hki hpt HNH.out HLF.out HD1.out), HBe⟩
            · have hb13 : (y == 13) = false := by simpa using h13
              go_wp2
              go_ret
              exact ⟨retN (res_lf HNo.out hip hpt HNH.out HLF.out (by rintro ⟨_, h⟩; rw [HD1.out] at h; exact h13 h)), HBe⟩
          · have hdk : decide ((k0 : Int) < (p : Int)) = false := by simp; omega
            go_wp2
            go_ret
            exact ⟨retN (res_lf HNo.out hip hpt HNH.out HLF.out (by rintro ⟨h, _⟩; exact hki h)), HBe⟩

set_option maxHeartbeats 1000000 in
theorem model_esc (b off cap : Nat) (T : List Int) (i : Nat) (w : World) (hc : CellsAre w b off T) (hbw : b < w.heap.size) (hT : T.length ≤ 1048576) (hcap : T.length ≤ cap) (hi : 2 ≤ i) (hin : i < T.length) :
    Calls Try.prog 8 #[.slice (some ⟨b, off, none⟩) T.length cap, .int .i64 i, .string ⟨#[92, 34]⟩] w fun e w' => RetN e (Res T [92, 34] i) ∧ Below w.heap.size w w' := by
  go_enter Try.func8, Try.ntmps8
  go_upto_block 0 with fail
  go_cut [8, 9, 10] (fun nl f j wx => ∃ p : Nat, i ≤ p ∧ p ≤ T.length ∧ nl = .int .i64 p ∧ Hid (FirstLF T i p) ∧ w = wx)
  case first =>
    go_wp2
    go_loop [8, 9, 10] (fun nl f j => ∃ k : Nat, i ≤ k ∧ k ≤ T.length ∧ j = .int .i64 k ∧ ((f = .bool false ∧ nl = .int .i64 T.length ∧ Hid (NoLF T i k)) ∨ (∃ p : Nat, k = p + 1 ∧ i ≤ p ∧ f = .bool true ∧ nl = .int .i64 p ∧ Hid (FirstLF T i p)))) (fun _ _ j => T.length - (intOf j).toNat)
    case atStart => exact ⟨i, Nat.le_refl _, by omega, rfl, .inl ⟨rfl, rfl, NoLF.start _ _⟩⟩
    case round =>
      obtain ⟨k, hik, hk, rfl, ⟨rfl, rfl, HN⟩ | ⟨p, hp, hip, rfl, rfl, HF⟩⟩ := hrel
      · by_cases hlt : k < T.length
        · have hx := hc.at k hlt
          have HD : Hid (T.getD k 0 = T[k]) := getD_at T k hlt
          generalize T[k] = x at hx HD
          by_cases h10 : x = 10
          · subst h10
            go_wp2
            go_round
            case rel => exact ⟨k + 1, by omega, by omega, by go_num, .inr ⟨k, rfl, hik, rfl, rfl, ⟨hik, by omega, HN.out, fun _ => HD.out⟩⟩⟩
            case measure => simp [intOf]; omega
          · have hb10 : (x == 10) = false := by simpa using h10
            go_wp2
            go_round
            case rel => exact ⟨k + 1, by omega, by omega, by go_num, .inl ⟨rfl, rfl, HN.out.next (by rw [HD.out]; exact h10)⟩⟩
            case measure => simp [intOf]; omega
        · have hd : decide ((k : Int) < (T.length : Int)) = false := by simp; omega
          go_wp2
          go_meet
          exact ⟨T.length, by omega, Nat.le_refl _, rfl, ⟨by omega, Nat.le_refl _, fun e h1 h2 => HN.out e h1 (by omega), fun h => by omega⟩, rfl⟩
      · have HP : Hid (k = p + 1) := hp
        clear hp
        by_cases hlt : k < T.length
        · go_wp2
          go_meet
          exact ⟨p, hip, HF.out.hi, rfl, HF, rfl⟩
        · have hd : decide ((k : Int) < (T.length : Int)) = false := by simp; omega
          go_wp2
          go_meet
          exact ⟨p, hip, HF.out.hi, rfl, HF, rfl⟩
  case rest =>
  obtain ⟨p, hip, hpT, rfl, HF, rfl⟩ := hcut
  go_wp2
  go_loopw [12, 13] (fun best e wr => ∃ k : Nat, i ≤ k ∧ k ≤ p ∧ e = .int .i64 ((k : Int) - 1) ∧ ∃ z : Int, best = .int .i64 z ∧ Hid (Best T [92, 34] k p z) ∧ Hid (Below w.heap.size w wr)) (fun _ e _ => (intOf e - i + 1).toNat)
  case atStart => exact ⟨p, hip, Nat.le_refl _, rfl, -1, rfl, Best.start _ _ _, Below.refl _ _⟩
  case round =>
    obtain ⟨k0, hik0, hkp0, rfl, z, rfl, HBst, HBe⟩ := hrel
    by_cases hlt : i < k0
    · obtain ⟨k, rfl⟩ : ∃ k, k0 = k + 1 := ⟨k0 - 1, by omega⟩
      have hcw : CellsAre wr b off T := hc.below HBe.out hbw
      have hbr : b < wr.heap.size := Nat.lt_of_lt_of_le hbw HBe.out.size
      have HH : Hid (hit T [92, 34] k ↔ (T.drop (k - 1)).take 2 = nums ⟨#[92, 34]⟩ ∧ T.getD (k - 2) 0 ≠ 92) := hitw_esc T k (by omega)
      have e2 : k + 1 - (k - 1) = 2 := by omega
      go_wp2_with fail
      refine (same_win b off _ T ⟨#[92, 34]⟩ (k - 1) 2 wr hcw hbr (by omega) rfl (by decide)).mono ?_
      rintro e w1 ⟨⟨r, rfl, hr⟩, hb1⟩
      have HR : Hid (r = true ↔ (T.drop (k - 1)).take 2 = nums ⟨#[92, 34]⟩) := hr
      clear hr
      cases r
      · -- the window is not the quote
        go_wp2
        go_roundw
        case rel => exact ⟨k, by omega, by omega, by go_num, z, rfl, HBst.out.miss (by rw [HH.out]; exact fun h => by have := HR.out.2 h.1; cases this), below2 HBe.out hb1⟩
        case measure => simp [intOf]; omega
      · have hy : w1.cell? ⟨b, off + (k - 1 - 1), none⟩ = some (.int .u8 (T[k - 2]'(by omega))) := by
          have h1 := (hcw.below hb1 hbr).at (k - 2) (by omega)
          rw [show k - 1 - 1 = k - 2 by omega]; exact h1
        have HD : Hid (T.getD (k - 2) 0 = T[k - 2]'(by omega)) := getD_at T (k - 2) (by omega)
        generalize T[k - 2]'(by omega) = y at hy HD
        by_cases h92 : y = 92
        · subst h92
          go_wp2
          go_roundw
          case rel => exact ⟨k, by omega, by omega, by go_num, z, rfl, HBst.out.miss (by rw [HH.out, HD.out]; simp), below2 HBe.out hb1⟩
          case measure => simp [intOf]; omega
        · have hb92 : (y == 92) = false := by simpa using h92
          go_wp2
          go_roundw
          case rel => exact ⟨k, by omega, by omega, by go_num, _, rfl, Best.hit (by omega) (HH.out.2 ⟨HR.out.1 (by simp), by rw [HD.out]; exact h92⟩) (by simp; try omega) (by simp; try omega), below2 HBe.out hb1⟩
          case measure => simp [intOf]; omega
    · obtain rfl : k0 = i := by omega
      by_cases hz : 0 ≤ z
      · obtain ⟨r, hr, hres⟩ := res_best HF.out HBst.out hz
        subst hr
        go_wp2
        go_ret
        exact ⟨retN hres, HBe⟩
      · have HNo : Hid (NoEv T [92, 34] k0 p) := noev_best HF.out HBst.out (by omega)
        by_cases hpn : p = T.length
        · have hb : ((p : Int) == (T.length : Int)) = true := by simp [hpn]
          have HPN : Hid (p = T.length) := hpn
          clear hpn
          go_wp2
          go_ret
          exact ⟨retN (res_end HNo.out hip HPN.out), HBe⟩
        · have hb : ((p : Int) == (T.length : Int)) = false := by simp; omega
          have hpt : p < T.length := by omega
          have HLF : Hid (T.getD p 0 = 10) := HF.out.at' hpt
          have HNH : Hid (¬ hit T [92, 34] p) := hitw_esc_lf T p hpt (by omega) HLF.out
          by_cases hki : k0 < p
          · have hy := (hc.below HBe.out hbw).at (p - 1) (by omega)
            have HD1 : Hid (T.getD (p - 1) 0 = T[p - 1]'(by omega)) := getD_at T (p - 1) (by omega)
            generalize T[p - 1]'(by omega) = y at hy HD1
            by_cases h13 : y = 13
            · subst h13
              go_wp2
              go_ret
              exact ⟨retN' (p - 1) (by omega) (res_cr HNo.out hki hpt HNH.out HLF.out HD1.out), HBe⟩
            · have hb13 : (y == 13) = false := by simpa using h13
              go_wp2
              go_ret
              exact ⟨retN (res_lf HNo.out hip hpt HNH.out HLF.out (by rintro ⟨_, h⟩; rw [HD1.out] at h; exact h13 h)), HBe⟩
          · have hdk : decide ((k0 : Int) < (p : Int)) = false := by simp; omega
            go_wp2
            go_ret
            exact ⟨retN (res_lf HNo.out hip hpt HNH.out HLF.out (by rintro ⟨h, _⟩; exact hki h)), HBe⟩

end Go.Proofs.Qxb6604097a
