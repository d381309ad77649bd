import Derived.Test.Qxb6605201aDig
namespace Go.Proofs.Qxb6605201a.Fld
open Go.RowKit

set_option maxHeartbeats 400000 in
/-- appendMember: the name, then the number. -/
theorem member20 (B : Nat) (v : Value) (l : List Int) (nm : ByteArray) (n : Nat) (w : World) (hbuf : Buf B w v l) (hll : l.length ≤ 900000000) (hn : nm.size ≤ 1048576) (hi : n < 100000) (hB : B ≤ w.heap.size) :
    Calls Try.prog 20 #[v, .string nm, .int .i64 n] w fun e w' => RetBuf B e w' (l ++ (fieldOf nm ++ dec n)) ∧ Below B w w' := by
  obtain ⟨g, c, rfl, hc, hBg, hgw, _⟩ := hbuf.shape
  have HBf : Hid (Buf B w (.slice (some ⟨g, 0, none⟩) l.length c) l) := hbuf
  have HBe : Hid (Below B w w) := Below.refl _ _
  clear hbuf
  by_cases hnm : nm.size = 0
  · obtain rfl := name_none hnm
    go_enter Try.func20, Try.ntmps20
    go_wp2_with fail
    refine (appendInt19 B _ l n w HBf.out (by omega) hi hB).mono ?_
    rintro e w1 ⟨⟨v1, rfl, hv1⟩, hb1⟩
    have HV : Hid (Buf B w1 v1 (l ++ dec n)) := hv1
    have HB1 : Hid (Below B w w1) := hb1
    clear hv1 hb1
    go_wp2_with fail
    go_ret
    exact ⟨retBuf (by rw [fieldOf_none, List.nil_append]; exact HV), HB1⟩
  · obtain ⟨n1, n2⟩ := name_some hnm
    have HF : Hid (fieldOf nm = [34] ++ nums nm ++ [34, 58]) := fieldOf_some hnm
    clear hnm
    go_enter Try.func20, Try.ntmps20
    go_wp2_with (first
      | (at_builtin; refine append_lit _ rfl (.tmp 9) (.tmp 10) rfl B _ l rfl (HBf.out.alloc _) _ 1 [34] rfl ?_ ?_ w (HBe.out.alloc hB _) ?_ ?_; exact lit_one _ _; (simp; omega); (simp; omega); intro va wa hba hea hBa)
      | (at_builtin; refine append_str _ rfl (.tmp 12) (.tmp 13) rfl B _ (l ++ [34]) rfl hba nm rfl ?_ w hea hBa ?_; (simp; omega); intro vb wb hbb heb hBb)
      | (at_builtin; refine append_lit _ rfl (.tmp 15) (.tmp 16) rfl B _ (l ++ [34] ++ nums nm) rfl (hbb.alloc _) _ 2 [34, 58] rfl ?_ ?_ w (heb.alloc hBb _) ?_ ?_; exact lit_two _ _ _; (simp [nums_length]; omega); (simp; omega); intro vc wc hbc hec hBc))
    refine (appendInt19 B _ (l ++ [34] ++ nums nm ++ [34, 58]) n wc hbc (by simp [nums_length]; omega) hi hBc).mono ?_
    rintro e w1 ⟨⟨v1, rfl, hv1⟩, hb1⟩
    have HV : Hid (Buf B w1 v1 (l ++ [34] ++ nums nm ++ [34, 58] ++ dec n)) := hv1
    have HB1 : Hid (Below B w w1) := hec.trans hb1
    clear hv1 hb1 hba hea hBa hbb heb hBb hbc hec hBc
    go_wp2_with fail
    go_ret
    exact ⟨retBuf (by rw [HF.out]; simpa using HV.out), HB1⟩

/-- The bytes T lie at ⟨b, off⟩. -/
def CellsAre (w : World) (b off : Nat) (T : List Int) : Prop := ∀ j x, T[j]? = some x → w.cell? ⟨b, off + j, none⟩ = some (.int .u8 x)
theorem CellsAre.at {w : World} {b off : Nat} {T : List Int} (h : CellsAre w b off T) (k : Nat) (hk : k < T.length) : w.cell? ⟨b, off + k, none⟩ = some (.int .u8 T[k]) := h k _ (List.getElem?_eq_getElem hk)
theorem CellsAre.below {w w' : World} {b off : Nat} {T : List Int} (h : CellsAre w b off T) (hb : Below w.heap.size w w') (hbw : b < w.heap.size) : CellsAre w' b off T :=
  fun j x hx => (hb.cell (p := ⟨b, off + j, none⟩) hbw).trans (h j x hx)

theorem RowIs.made {w1 : World} {B g n : Nat} {e : TypeId} {z : Value} (hown : w1.ownsRow B e 1 (.slice (some ⟨g, 0, none⟩) n n) n (madeCells #[z] n).toList) : RowIs w1 g e (List.replicate n z) := by
  obtain ⟨_, h | ⟨g', cap, cur, hv, _, hh, _, _, hsz, ht⟩⟩ := hown
  · cases h.1
  · cases hv
    rw [Nat.mul_one, toList_madeCells_one] at ht
    rw [List.take_of_length_le (by rw [Array.length_toList, hsz]; simp)] at ht
    unfold RowIs
    rw [hh, ← ht]

theorem buf_of_row {w : World} {B g : Nat} {T : List Int} (h : RowIs w g 5 (vals T)) (hB : B ≤ g) (hm : T.length ≤ 9223372036854775807) : Buf B w (.slice (some ⟨g, 0, none⟩) T.length T.length) T := by
  refine ⟨⟨by simp [vals], .inr ⟨g, T.length, (vals T).toArray, rfl, hB, h, Nat.le_refl _, hm, by simp [vals], List.take_of_length_le (by simp [vals])⟩⟩, by simp⟩

set_option maxHeartbeats 400000 in
theorem clone17 (b off cap : Nat) (T : List Int) (w : World) (hc : CellsAre w b off T) (hbw : b < w.heap.size) (hm : T.length ≤ 1048576) :
    Calls Try.prog 17 #[.slice (some ⟨b, off, none⟩) T.length cap] w fun e w' => e = .returned (.slice (some ⟨w.heap.size, 0, none⟩) T.length T.length) ∧ RowIs w' w.heap.size 5 (vals T) ∧ Below w.heap.size w w' := by
  have HC : Hid (CellsAre w b off T) := hc
  clear hc
  obtain ⟨i0, hi, hz0, hz1, hz2⟩ := info_parts Try.info5
  go_enter Try.func17, Try.ntmps17
  go_wp2_with (at_make; refine wpList_make_full _ rfl (.tmp 6) (.tmp 6) 47 rfl w.heap.size 5 i0 (.int .u8 0) 1 Try.underlying47 hi hz0 hz1 .i64 .i64 _ _ T.length rfl rfl rfl rfl ?c1 ?c2 ?c3 ?_)
  case c1 => first | omega | (rw [hz2]; omega)
  case c2 => unfold maxLen; omega
  case c3 => exact Nat.le_refl _
  intro w1 hown hgrow
  have HR : Hid (RowIs w1 w.heap.size 5 (List.replicate T.length (.int .u8 0))) := RowIs.made hown
  have HB1 : Hid (Below w.heap.size w w1) := (Below.refl _ _).grown hgrow (Nat.le_refl _) (by simp)
  clear hown hgrow hi hz0 hz1 hz2
  generalize hg : w.heap.size = g at *
  have HG : Hid (w.heap.size = g) := hg
  clear hg
  go_wp2
  go_loopw [10] (fun i wr => ∃ k : Nat, k ≤ T.length ∧ i = .int .i64 k ∧ Hid (RowIs wr g 5 ((vals T).take k ++ List.replicate ((vals T).length - k) (.int .u8 0))) ∧ Hid (Below g w wr)) (fun i _ => T.length - (intOf i).toNat)
  case atStart => exact ⟨0, Nat.zero_le _, rfl, by simpa [vals] using HR, HB1⟩
  case round =>
    obtain ⟨k, hk, rfl, HRk, HBk⟩ := hrel
    by_cases hlt : k < T.length
    · have hc := (HBk.out.cell (p := ⟨b, off + k, none⟩) hbw).trans (HC.out.at k hlt)
      have hvl : k < (vals T).length := by simpa [vals] using hlt
      have hold : wr.cell? ⟨g, k, none⟩ = some (.int .u8 0) := by rw [HRk.out.cell]; exact fill_at _ _ _ hvl
      have hfr : wr.frozen? ⟨g, k, none⟩ = false := HRk.out.frozen k
      have hset := HRk.out.set k (vals T)[k]
      rw [fill_step _ _ _ hvl] at hset
      have hv : (vals T)[k] = .int .u8 T[k] := by simp [vals]
      rw [hv] at hset
      have HS2 : Hid (RowIs (wr.setCell ⟨g, k, none⟩ (.int .u8 T[k])) g 5 ((vals T).take (k + 1) ++ List.replicate ((vals T).length - (k + 1)) (.int .u8 0))) := hset
      have HB2 : Hid (Below g w (wr.setCell ⟨g, k, none⟩ (.int .u8 T[k]))) := HBk.out.setCell (p := ⟨g, k, none⟩) (Nat.le_refl _) _
      clear hset hv HRk HBk HC hvl HR HB1
      generalize T[k] = y at *
      go_wp2
      go_roundw
      case rel => exact ⟨k + 1, by omega, by go_num, HS2, HB2⟩
      case measure => simp [intOf]; omega
    · obtain rfl : k = T.length := by omega
      have hr := HRk.out
      rw [show T.length = (vals T).length by simp [vals], Nat.sub_self, List.take_length, List.replicate_zero, List.append_nil] at hr
      have HR2 : Hid (RowIs wr g 5 (vals T)) := hr
      clear hr HRk
      go_wp2
      go_ret
      rw [HG.out]
      exact ⟨rfl, HR2, HBk⟩

set_option maxHeartbeats 400000 in
/-- sameBytes at two buffers of one content. -/
theorem same21 (g1 g2 c1 c2 : Nat) (L : List Int) (w : World) (h1 : CellsAre w g1 0 L) (h2 : CellsAre w g2 0 L) (b1 : g1 < w.heap.size) (b2 : g2 < w.heap.size) (hm : L.length ≤ 1000000000) :
    Calls Try.prog 21 #[.slice (some ⟨g1, 0, none⟩) L.length c1, .slice (some ⟨g2, 0, none⟩) L.length c2] w fun e w' => e = .returned (.bool true) ∧ Below w.heap.size w w' := by
  have H1 : Hid (CellsAre w g1 0 L) := h1
  have H2 : Hid (CellsAre w g2 0 L) := h2
  clear h1 h2
  go_enter Try.func21, Try.ntmps21
  go_wp2
  go_loopw [13] (fun i wr => ∃ k : Nat, k ≤ L.length ∧ i = .int .i64 k ∧ Hid (Below w.heap.size w wr)) (fun i _ => L.length - (intOf i).toNat)
  case atStart => exact ⟨0, Nat.zero_le _, rfl, Below.refl _ _⟩
  case round =>
    obtain ⟨k, hk, rfl, HB⟩ := hrel
    by_cases hlt : k < L.length
    · have e1 := (HB.out.cell (p := ⟨g1, 0 + k, none⟩) b1).trans (H1.out.at k hlt)
      have e2 := (HB.out.cell (p := ⟨g2, 0 + k, none⟩) b2).trans (H2.out.at k hlt)
      rw [Nat.zero_add] at e1 e2
      clear H1 H2
      generalize L[k] = y at *
      have i1 : (0 : Int) ≤ (k : Int) := by omega
      have i2 : (k : Int) < (L.length : Int) := by omega
      go_wp2
      go_quiet (fail)
      go_wp2
      go_roundw
      case rel => exact ⟨k + 1, by omega, by go_num, below_drewN HB.out nq⟩
      case measure => simp [intOf]; omega
    · go_wp2
      go_ret
      exact ⟨rfl, HB⟩

/-- What the walks are told of a slice of strings. -/
def IsStrs (w : World) (a : Option Addr) (ss : List ByteArray) : Prop :=
  ss = [] ∨ ∃ b off, a = some ⟨b, off, none⟩ ∧ b < w.heap.size ∧ ∀ j x, ss[j]? = some x → w.cell? ⟨b, off + j, none⟩ = some (.string x)
theorem IsStrs.at {w : World} {a : Option Addr} {ss : List ByteArray} (h : IsStrs w a ss) {k : Nat} (hk : k < ss.length) :
    ∃ b off, a = some ⟨b, off, none⟩ ∧ b < w.heap.size ∧ w.cell? ⟨b, off + k, none⟩ = some (.string ss[k]) := by
  rcases h with h | ⟨b, off, ha, hb, hc⟩
  · subst h; simp at hk
  · exact ⟨b, off, ha, hb, hc k _ (List.getElem?_eq_getElem hk)⟩

def RetB (e : Ending) (p : Bool → Prop) : Prop := ∃ b, e = .returned (.bool b) ∧ p b
theorem retB {b : Bool} {p : Bool → Prop} (h : p b) : RetB (.returned (.bool b)) p := ⟨b, rfl, h⟩

set_option maxHeartbeats 400000 in
theorem zzBytes16 (at' a : Option Addr) (nt ct cap : Nat) (ss : List ByteArray) (w : World) (hs : IsStrs w a ss) (ht : nt ≤ 9223372036854775807) (hm : ss.length ≤ 9223372036854775807) :
    Calls Try.prog 16 #[.slice at' nt ct, .slice a ss.length cap] w fun e w' => RetB e (fun _ => True) ∧ w = w' := by
  have HS : Hid (IsStrs w a ss) := hs
  clear hs
  go_enter Try.func16, Try.ntmps16
  go_wp2
  all_goals try (go_ret; exact ⟨retB trivial, rfl⟩)
  go_loop [5, 6] (fun n i => ∃ (z : Nat) (k : Nat), z ≤ 1048576 ∧ k ≤ ss.length ∧ i = .int .i64 k ∧ n = .int .i64 z) (fun _ i => ss.length - (intOf i).toNat)
  case atStart => exact ⟨nt + ss.length, 0, by omega, Nat.zero_le _, rfl, by go_num⟩
  case round =>
    obtain ⟨z, k, hz, hk, rfl, rfl⟩ := hrel
    by_cases hlt : k < ss.length
    · obtain ⟨b, off, rfl, hb, hc⟩ := HS.out.at hlt
      clear HS
      generalize ss[k] = x at hc
      go_wp2
      all_goals try (go_ret; exact ⟨retB trivial, rfl⟩)
      go_round
      case rel => exact ⟨z + x.size, k + 1, by omega, by omega, by go_num, by go_num⟩
      case measure => simp [intOf]; omega
    · go_wp2
      go_ret
      exact ⟨retB trivial, rfl⟩
end Go.Proofs.Qxb6605201a.Fld
