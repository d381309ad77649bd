import Derived.Test.Qxb6604097aModel
namespace Go.Proofs.Qxb6604097a
open Go.RowKit

theorem end_any (b off cap : Nat) (T : List Int) (i : Nat) (q : ByteArray) (w : World) (hk : Known q) (hc : CellsAre w b off T) (hT : T.length ≤ 1048576) (hcap : T.length ≤ cap) (hi : q.size ≤ i) (hin : i < T.length) (hby : ∀ j (hj : j < T.length), 0 ≤ T[j] ∧ T[j] ≤ 255) :
    Calls Try.prog 9 #[.slice (some ⟨b, off, none⟩) T.length cap, .int .i64 i, .string q] w fun e w' => RetN e (Res T (nums q) i) ∧ w = w' := by
  rcases hk with rfl | rfl | rfl
  · exact end_apos b off cap T i w hc hT hcap hi hin
  · exact end_quot b off cap T i w hc hT hcap hi hin
  · exact end_esc b off cap T i w hc hT hcap hi hin hby

theorem model_in (b off cap : Nat) (T : List Int) (i : Nat) (q : ByteArray) (w : World) (hk : Known q) (hc : CellsAre w b off T) (hbw : b < w.heap.size) (hT : T.length ≤ 1048576) (hcap : T.length ≤ cap) (hi : q.size ≤ i) (hin : i < T.length) :
    Calls Try.prog 8 #[.slice (some ⟨b, off, none⟩) T.length cap, .int .i64 i, .string q] w fun e w' => RetN e (Res T (nums q) i) ∧ Below w.heap.size w w' := by
  rcases hk with rfl | rfl | rfl
  · exact model_apos b off cap T i w hc hbw hT hcap hi hin
  · exact model_quot b off cap T i w hc hbw hT hcap hi hin
  · exact model_esc b off cap T i w hc hbw hT hcap hi hin

set_option maxHeartbeats 400000 in
/-- The start lies at or behind the text's end: nothing is looked at. -/
theorem end_far (a : Option Addr) (n cap : Nat) (i : Int) (q : ByteArray) (w : World) (hq : Known q) (_hn : n ≤ 1048576) (hi : (n : Int) ≤ i) :
    Calls Try.prog 9 #[.slice a n cap, .int .i64 i, .string q] w fun e w' => e = .returned (.int .i64 n) ∧ w = w' := by
  rcases hq with rfl | rfl | rfl
  all_goals
    go_enter Try.func9, Try.ntmps9
    go_wp2
    refine wp_loop_rounds 1 ?_
    rw [rounds_succ]
    go_wp2
    go_ret
    exact ⟨rfl, rfl⟩

set_option maxHeartbeats 400000 in
theorem model_far (a : Option Addr) (n cap : Nat) (i : Int) (q : ByteArray) (w : World) (hq : Known q) (hn : n ≤ 1048576) (hi : (n : Int) ≤ i) :
    Calls Try.prog 8 #[.slice a n cap, .int .i64 i, .string q] w fun e w' => e = .returned (.int .i64 n) ∧ w = w' := by
  have hd : decide (i < (n : Int)) = false := by simpa using hi
  rcases hq with rfl | rfl | rfl
  all_goals
    go_enter Try.func8, Try.ntmps8
    go_wp2
    refine wp_loop_rounds 1 ?_
    rw [rounds_succ]
    go_wp2
    refine wp_loop_rounds 1 ?_
    rw [rounds_succ]
    go_wp2
    go_ret
    exact ⟨rfl, rfl⟩

/-- One answer of both. -/
theorem same_answer {T Q : List Int} {i r r' : Nat} (h : Res T Q i r) (h' : Res T Q i r') : (r : Int) = (r' : Int) := by rw [res_one h h']

set_option maxHeartbeats 400000 in
theorem zz_in (b off cap : Nat) (T : List Int) (i : Nat) (q : ByteArray) (w : World) (hk : Known q) (hc : CellsAre w b off T) (hT : T.length ≤ 1048576) (hcap : T.length ≤ cap) (hi : q.size ≤ i) (hin : i < T.length) (hby : ∀ j (hj : j < T.length), 0 ≤ T[j] ∧ T[j] ≤ 255) :
    Calls Try.prog 7 #[.slice (some ⟨b, off, none⟩) T.length cap, .int .i64 i, .string q] w fun e w' => RetN e (Res T (nums q) i) ∧ w = w' := by
  have H : Hid (Calls Try.prog 9 #[.slice (some ⟨b, off, none⟩) T.length cap, .int .i64 i, .string q] w fun e w' => RetN e (Res T (nums q) i) ∧ w = w') := end_any b off cap T i q w hk hc hT hcap hi hin hby
  clear hby hc
  go_enter Try.func7, Try.ntmps7
  go_wp2_with fail
  refine H.out.mono ?_
  rintro e w' ⟨⟨r, rfl, hr⟩, rfl⟩
  have HR : Hid (Res T (nums q) i r) := hr
  clear hr
  go_wp2_with fail
  go_ret
  exact ⟨retN HR, rfl⟩

set_option maxHeartbeats 400000 in
theorem zz_far (a : Option Addr) (n cap : Nat) (i : Int) (q : ByteArray) (w : World) (hq : Known q) (hn : n ≤ 1048576) (hi : (n : Int) ≤ i) :
    Calls Try.prog 7 #[.slice a n cap, .int .i64 i, .string q] w fun e w' => e = .returned (.int .i64 n) ∧ w = w' := by
  have H : Hid (Calls Try.prog 9 #[.slice a n cap, .int .i64 i, .string q] w fun e w' => e = .returned (.int .i64 n) ∧ w = w') := end_far a n cap i q w hq hn hi
  go_enter Try.func7, Try.ntmps7
  go_wp2_with fail
  refine H.out.mono ?_
  rintro e w' ⟨rfl, rfl⟩
  go_wp2_with fail
  go_ret
  exact ⟨rfl, rfl⟩

theorem cells_of_row' {w : World} {g : Nat} {T : List Int} (h : RowIs w g 5 (vals T)) : CellsAre w g 0 T := by
  intro j x hx
  rw [Nat.zero_add, h.cell]
  simp [vals, hx]

set_option maxHeartbeats 400000 in
theorem law_walk (a : Option Addr) (cap : Nat) (T : List Int) (i : Int) (q : ByteArray) (w : World) (hs : IsBytes w a T) (hcap : T.length ≤ cap) (hm : T.length ≤ 9223372036854775807) (hq : q.size ≤ 9223372036854775807) (hby : ∀ j (hj : j < T.length), 0 ≤ T[j] ∧ T[j] ≤ 255) (hnil : a = none → T = []) :
    Calls Try.prog 3 #[.slice a T.length cap, .int .i64 i, .string q] w fun e w' => e = .returned (.bool true) ∧ Below w.heap.size w w' := by
  have HS : Hid (IsBytes w a T) := hs
  have HBY : Hid (∀ j (hj : j < T.length), 0 ≤ T[j] ∧ T[j] ≤ 255) := hby
  have HNIL : Hid (a = none → T = []) := hnil
  clear hs hby hnil
  go_enter Try.func3, Try.ntmps3
  go_wp2_with fail
  refine (zzBytes4 a T.length cap i q w hm hq).mono ?_
  rintro e w' ⟨⟨r, rfl, hr⟩, rfl⟩
  cases r
  · clear hr
    go_wp2
    go_ret
    exact ⟨rfl, Below.refl _ _⟩
  obtain ⟨hT, hQ⟩ := hr rfl
  clear hr
  by_cases hsum : 1048576 < T.length + q.size
  · have hd1 : decide ((1048576 : Int) < (T.length : Int)) = false := by simp; omega
    go_wp2_with fail
    go_ret
    exact ⟨rfl, Below.refl _ _⟩
  have hd1 : decide ((1048576 : Int) < (T.length : Int)) = false := by simp; omega
  go_wp2_with fail
  refine (known5 q w).mono ?_
  rintro e w' ⟨⟨r, rfl, hr⟩, rfl⟩
  cases r
  · clear hr
    go_wp2
    go_ret
    exact ⟨rfl, Below.refl _ _⟩
  have hk := hr rfl
  have HK : Hid (Known q) := hk
  clear hr hk
  by_cases hi : i < q.size
  · go_wp2
    go_ret
    exact ⟨rfl, Below.refl _ _⟩
  cases a with
  | none =>
    have hT0 := HNIL.out rfl
    subst hT0
    have hi0 : ((0 : Nat) : Int) ≤ i := by omega
    go_wp2_with fail
    refine (clone_nil _ _ w).mono ?_
    rintro e w' ⟨rfl, rfl⟩
    go_wp2_with fail
    refine (zz_far none 0 0 i q w HK.out (by omega) hi0).mono ?_
    rintro e w' ⟨rfl, rfl⟩
    go_wp2_with fail
    refine (model_far none 0 0 i q w HK.out (by omega) hi0).mono ?_
    rintro e w' ⟨rfl, rfl⟩
    go_wp2_with fail
    go_ret
    exact ⟨rfl, Below.refl _ _⟩
  | some x =>
    go_wp2_with fail
    refine (clone_some x cap T w HS.out hT).mono ?_
    rintro e w1 ⟨rfl, hrow, hb1⟩
    have hlt := hrow.lt
    have HC : Hid (CellsAre w1 w.heap.size 0 T) := cells_of_row' hrow
    have HB1 : Hid (Below w.heap.size w w1) := hb1
    clear hrow hb1
    generalize hg : w.heap.size = g at *
    have HG : Hid (w.heap.size = g) := hg
    clear hg
    by_cases hin : i < T.length
    · obtain ⟨n, rfl⟩ : ∃ n : Nat, i = n := ⟨i.toNat, by omega⟩
      have hqn : q.size ≤ n := by omega
      have hnT : n < T.length := by omega
      go_wp2_with fail
      refine (zz_in g 0 T.length T n q w1 HK.out HC.out hT (Nat.le_refl _) hqn hnT HBY.out).mono ?_
      rintro e w' ⟨⟨r, rfl, hr⟩, rfl⟩
      have HR : Hid (Res T (nums q) n r) := hr
      clear hr
      go_wp2_with fail
      refine (model_in g 0 T.length T n q w1 HK.out HC.out hlt hT (Nat.le_refl _) hqn hnT).mono ?_
      rintro e w2 ⟨⟨r', rfl, hr⟩, hb2⟩
      have HE : Hid ((r : Int) = (r' : Int)) := same_answer HR.out hr
      clear hr
      go_wp2_with fail
      go_ret
      refine ⟨congrArg (fun t => Ending.returned (Value.bool t)) (by simpa using HE.out), ?_⟩
      have h1 := HB1.out
      rw [← HG.out] at h1
      exact below2 h1 hb2
    · have hge : ((T.length : Nat) : Int) ≤ i := by omega
      go_wp2_with fail
      refine (zz_far (some ⟨g, 0, none⟩) T.length T.length i q w1 HK.out hT hge).mono ?_
      rintro e w' ⟨rfl, rfl⟩
      go_wp2_with fail
      refine (model_far (some ⟨g, 0, none⟩) T.length T.length i q w1 HK.out hT hge).mono ?_
      rintro e w' ⟨rfl, rfl⟩
      go_wp2_with fail
      go_ret
      refine ⟨rfl, ?_⟩
      rw [HG.out]
      exact HB1
end Go.Proofs.Qxb6604097a
