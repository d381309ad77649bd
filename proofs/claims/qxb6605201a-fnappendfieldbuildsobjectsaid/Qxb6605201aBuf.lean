import Derived.Test.Qxb6605201aRows
import Derived.WalkKit
import Derived.WalkSpells
import Derived.WalkLawsBesides
import Derived.BigQuiet
import Derived.Deep.QuietTactic
import Derived.Lib.AppendStr
namespace Go.Proofs.Qxb6605201a.Fld
open Go.RowKit

theorem Try.info5 : (Try.prog.info? 5).map (fun i => (i.zero, i.size, i.bytes)) = some (some (.int .u8 0), 1, 1) := by kernel_rfl

/-- Bytes as values. -/
def vals (l : List Int) : List Value := l.map (Value.int .u8)
theorem vals_length (l : List Int) : (vals l).length = l.length := by simp [vals]
theorem vals_append (a b : List Int) : vals (a ++ b) = vals a ++ vals b := by simp [vals]
/-- A string's bytes, as numbers. -/
def nums (q : ByteArray) : List Int := q.data.toList.map fun b => (b.toNat : Int)
theorem nums_length (q : ByteArray) : (nums q).length = q.size := by simp [nums]
theorem vals_nums (q : ByteArray) : vals (nums q) = Lib.strCells q := by simp [vals, nums, Lib.strCells]

/-- The call's own buffer: the slice v owns the bytes l, and is not nil. -/
def Buf (B : Nat) (w : World) (v : Value) (l : List Int) : Prop := w.ownsRow B 5 1 v l.length (vals l) ∧ v ≠ .slice none 0 0

theorem Buf.shape {B : Nat} {w : World} {v : Value} {l : List Int} (h : Buf B w v l) : ∃ g c, v = .slice (some ⟨g, 0, none⟩) l.length c ∧ l.length ≤ c ∧ B ≤ g ∧ g < w.heap.size ∧ ∀ j (hj : j < l.length), w.cell? ⟨g, j, none⟩ = some (.int .u8 l[j]) := by
  obtain ⟨h1, h2⟩ := h
  rcases id h1 with ⟨_, h3 | ⟨g, cap, cur, hv, hb, hh, hc, _⟩⟩
  · exact absurd h3.1 h2
  · have hlt := h1.lt g (by rw [hv]; rfl)
    subst hv
    refine ⟨g, cap, rfl, hc, hb, hlt.2, fun j hj => ?_⟩
    rw [h1.cellAt j (by omega)]
    simp [vals, List.getElem?_eq_getElem hj]

theorem Buf.mono {B B' : Nat} {w : World} {v : Value} {l : List Int} (h : Buf B w v l) (hB : B' ≤ B) : Buf B' w v l := by
  obtain ⟨⟨h1, h2⟩, h3⟩ := h
  refine ⟨⟨h1, ?_⟩, h3⟩
  rcases h2 with h2 | ⟨g, cap, cur, hv, hb, r⟩
  · exact .inl h2
  · exact .inr ⟨g, cap, cur, hv, Nat.le_trans hB hb, r⟩

theorem Buf.alloc {B : Nat} {w : World} {v : Value} {l : List Int} (h : Buf B w v l) (o : Obj) : Buf B (w.alloc o) v l := ⟨h.1.alloc o, h.2⟩

/-- The buffer is untouched while only blocks from B' on are written or made, all of it lying below B'. -/
theorem Buf.below {B B' : Nat} {w w' : World} {v : Value} {l : List Int} (h : Buf B w v l) (hb : Below B' w w') (hB : w.heap.size ≤ B') : Buf B w' v l := by
  obtain ⟨⟨h1, h2⟩, h3⟩ := h
  refine ⟨⟨h1, ?_⟩, h3⟩
  have hlt := World.ownsRow.lt ⟨h1, h2⟩
  rcases h2 with h2 | ⟨g, cap, cur, hv, hg, hh, r⟩
  · exact .inl h2
  · refine .inr ⟨g, cap, cur, hv, hg, ?_, r⟩
    rw [hb.block g (Nat.lt_of_lt_of_le (hlt g (by rw [hv]; rfl)).2 hB)]
    exact hh

/-- append(b, s...) with s a string. -/
theorem append_str (w : World) {ops : Array Oper} {rest : List Oper} {o : Oper} {a : Act} {Q : Exit → Act → World → Prop} (hgd : o.guard = none) (sl x : Operand)
    (ho : o.op = .call { callee := .builtin .append, args := #[sl, x], argTypes := #[47, 9] }) (B : Nat) (v : Value) (l : List Int) (hs : a.eval sl = v) (hbuf : Buf B w v l) (s : ByteArray) (hx : a.eval x = .string s)
    (hl : l.length + s.size ≤ 140737488355328) (w0 : World) (hb : Below B w0 w) (hB : B ≤ w.heap.size)
    (h : ∀ v' w', Buf B w' v' (l ++ nums s) → Below B w0 w' → B ≤ w'.heap.size → wpList Try.prog ops Q rest (a.put o.dst v') w') : wpList Try.prog ops Q (o :: rest) a w := by
  obtain ⟨i0, hi, hz0, hz1, hz2⟩ := info_parts Try.info5
  refine Lib.wpList_append_own_string w hgd sl x 47 9 ho B 5 i0 Try.underlying47 Try.underlying9 hi hz0 hz1 hz2 v l.length (vals l) hs hbuf.1 s hx (by unfold maxLen; omega) hl hB ?_
  intro v' w' h1 h2 h3
  refine h v' w' ⟨?_, fun e => hbuf.2 (h3.1 e).1⟩ (hb.grown h2 hB (fun k hk => (hbuf.1.lt k hk).1)) (Nat.le_trans hB h2.size)
  rw [vals_append, vals_nums, List.length_append, nums_length]
  exact h1

/-- append(b, x, ..) with the new bytes written out: they lie in a block of their own. -/
theorem append_lit (w : World) {ops : Array Oper} {rest : List Oper} {o : Oper} {a : Act} {Q : Exit → Act → World → Prop} (hgd : o.guard = none) (sl x : Operand)
    (ho : o.op = .call { callee := .builtin .append, args := #[sl, x], argTypes := #[47, 47] }) (B : Nat) (v : Value) (l : List Int) (hs : a.eval sl = v) (hbuf : Buf B w v l) (gx c : Nat) (ys : List Int) (hx : a.eval x = .slice (some ⟨gx, 0, none⟩) ys.length c)
    (hc : ∀ j (hj : j < ys.length), w.cell? ⟨gx, j, none⟩ = some (.int .u8 ys[j])) (hl : l.length + ys.length ≤ 140737488355328) (w0 : World) (hb : Below B w0 w) (hB : B ≤ w.heap.size)
    (h : ∀ v' w', Buf B w' v' (l ++ ys) → Below B w0 w' → B ≤ w'.heap.size → wpList Try.prog ops Q rest (a.put o.dst v') w') : wpList Try.prog ops Q (o :: rest) a w := by
  obtain ⟨i0, hi, hz0, hz1, hz2⟩ := info_parts Try.info5
  refine wpList_append_own w hgd sl x 47 ho B 5 i0 (.int .u8 0) 1 1 Try.underlying47 hi hz0 hz1 hz2 rfl (by decide) v l.length (vals l) hs hbuf.1 ⟨gx, 0, none⟩ ys.length c (vals ys) hx (by simp [vals]) ?_ ?_ (by unfold maxLen; omega) (by omega) hB ?_
  · intro j u hu
    have hj : j < ys.length := by have := (List.getElem?_eq_some_iff.1 hu).1; simpa [vals] using this
    have e : (⟨gx, 0, none⟩ : Addr).add j = ⟨gx, j, none⟩ := by unfold Addr.add; split <;> simp_all
    rw [e, hc j hj]
    simpa [vals, List.getElem?_eq_getElem hj] using hu
  · intro u hu
    obtain ⟨n, _, rfl⟩ := List.mem_map.1 hu
    rfl
  · intro v' w' h1 h2 h3
    refine h v' w' ⟨?_, fun e => hbuf.2 (h3.1 e).1⟩ (hb.grown h2 hB (fun k hk => (hbuf.1.lt k hk).1)) (Nat.le_trans hB h2.size)
    rw [vals_append, List.length_append]
    exact h1

/-- It returned a slice that is such a buffer. -/
def RetBuf (B : Nat) (e : Ending) (w' : World) (l : List Int) : Prop := ∃ v, e = .returned v ∧ Buf B w' v l
theorem retBuf {B : Nat} {w' : World} {v : Value} {l : List Int} (h : Buf B w' v l) : RetBuf B (.returned v) w' l := ⟨v, rfl, h⟩

def fieldOf (nm : ByteArray) : List Int := if nm.size = 0 then [] else [34] ++ nums nm ++ [34, 58]

def commaOf (x : Int) : List Int := if x = 123 then [] else [44]

theorem lit_one (w : World) (x : Int) : ∀ j (hj : j < [x].length), (w.alloc (.cells #[.int .u8 x] 5)).cell? ⟨w.heap.size, j, none⟩ = some (.int .u8 [x][j]) := by
  intro j hj
  have : j = 0 := by simp at hj; omega
  subst this
  rw [World.cell?_alloc_at _ _ _ _ rfl]; rfl
theorem lit_two (w : World) (x y : Int) : ∀ j (hj : j < [x, y].length), (w.alloc (.cells #[.int .u8 x, .int .u8 y] 5)).cell? ⟨w.heap.size, j, none⟩ = some (.int .u8 [x, y][j]) := by
  intro j hj
  rw [World.cell?_alloc_at _ _ _ _ rfl]
  rcases (show j = 0 ∨ j = 1 by simp at hj; omega) with rfl | rfl <;> rfl

theorem name_some {nm : ByteArray} (h : ¬ nm.size = 0) : nm.toList.isEmpty = false ∧ ¬ nm.toList = [] := by
  have : ¬ nm.toList = [] := by
    rw [ByteArray.toList_eq]
    intro e
    apply h
    have := congrArg List.length e
    simpa using this
  exact ⟨by simpa using this, this⟩
theorem name_none {nm : ByteArray} (h : nm.size = 0) : nm = ⟨#[]⟩ := by
  apply ByteArray.ext
  exact Array.eq_empty_of_size_eq_zero h

theorem fieldOf_some {nm : ByteArray} (h : ¬ nm.size = 0) : fieldOf nm = [34] ++ nums nm ++ [34, 58] := if_neg h
theorem fieldOf_none : fieldOf ⟨#[]⟩ = [] := rfl

set_option maxHeartbeats 400000 in
/-- appendField: the comma, the name. -/
theorem field29 (B : Nat) (v : Value) (l : List Int) (nm : ByteArray) (w : World) (hbuf : Buf B w v l) (hl : l ≠ []) (hll : l.length ≤ 1000000000) (hn : nm.size ≤ 1048576) (hB : B ≤ w.heap.size) :
    Calls Try.prog 29 #[v, .string nm] w fun e w' => RetBuf B e w' (l ++ commaOf (l.getLast hl) ++ fieldOf nm) ∧ Below B w w' := by
  obtain ⟨g, c, rfl, hc, hBg, hgw, hcell⟩ := hbuf.shape
  have hpos : 0 < l.length := List.length_pos_iff.2 hl
  have hlast : w.cell? ⟨g, l.length - 1, none⟩ = some (.int .u8 (l.getLast hl)) := by rw [hcell _ (by omega), List.getLast_eq_getElem]
  have HBf : Hid (Buf B w (.slice (some ⟨g, 0, none⟩) l.length c) l) := hbuf
  have HBe : Hid (Below B w w) := Below.refl _ _
  clear hbuf hcell
  generalize l.getLast hl = x at *
  by_cases h123 : x = 123
  · subst h123
    by_cases hnm : nm.size = 0
    · obtain rfl := name_none hnm
      go_enter Try.func29, Try.ntmps29
      go_wp2
      go_ret
      exact ⟨retBuf (by simpa [fieldOf_none, commaOf] using HBf.out), Below.refl _ _⟩
    · obtain ⟨n1, n2⟩ := name_some hnm
      have HF : Hid (fieldOf nm = [34] ++ nums nm ++ [34, 58]) := fieldOf_some hnm
      clear hnm
      go_enter Try.func29, Try.ntmps29
      go_wp2_with (first
      | (at_builtin; refine append_lit _ rfl (.tmp 18) (.tmp 19) rfl B _ (l) rfl (HBf.out.alloc _) _ 1 [34] rfl ?_ ?_ w (HBe.out.alloc hB _) ?_ ?_; exact lit_one _ _; (simp; omega); (simp; omega); intro va wa hba hea hBa)
      | (at_builtin; refine append_str _ rfl (.tmp 21) (.tmp 22) rfl B _ (l ++ [34]) rfl hba nm rfl ?_ w hea hBa ?_; (simp; omega); intro vb wb hbb heb hBb)
      | (at_builtin; refine append_lit _ rfl (.tmp 24) (.tmp 25) rfl B _ (l ++ [34] ++ nums nm) rfl (hbb.alloc _) _ 2 [34, 58] rfl ?_ ?_ w (heb.alloc hBb _) ?_ ?_; exact lit_two _ _ _; (simp [nums_length]; omega); (simp; omega); intro vc wc hbc hec hBc))
      go_ret
      exact ⟨retBuf (by rw [HF.out]; simpa [commaOf] using hbc), hec⟩
  · have hb123 : (x != 123) = true := by simpa using h123
    have HX : Hid (commaOf x = [44]) := if_neg h123
    clear h123
    by_cases hnm : nm.size = 0
    · obtain rfl := name_none hnm
      go_enter Try.func29, Try.ntmps29
      go_wp2_with (first | (at_builtin; refine append_lit _ rfl (.tmp 12) (.tmp 13) rfl B _ l rfl (HBf.out.alloc _) _ 1 [44] rfl ?_ ?_ w (HBe.out.alloc hB _) ?_ ?_; exact lit_one _ _; (simp; omega); (simp; omega); intro v0 w0 hb0 he0 hB0))
      go_ret
      exact ⟨retBuf (by rw [HX.out, fieldOf_none, List.append_nil]; exact hb0), he0⟩
    · obtain ⟨n1, n2⟩ := name_some hnm
      have HF : Hid (fieldOf nm = [34] ++ nums nm ++ [34, 58]) := fieldOf_some hnm
      clear hnm
      go_enter Try.func29, Try.ntmps29
      go_wp2_with (first
      | (at_builtin; refine append_lit _ rfl (.tmp 12) (.tmp 13) rfl B _ l rfl (HBf.out.alloc _) _ 1 [44] rfl ?_ ?_ w (HBe.out.alloc hB _) ?_ ?_; exact lit_one _ _; (simp; omega); (simp; omega); intro v0 w0 hb0 he0 hB0)
      | (at_builtin; refine append_lit _ rfl (.tmp 18) (.tmp 19) rfl B _ (l ++ [44]) rfl (hb0.alloc _) _ 1 [34] rfl ?_ ?_ w (he0.alloc hB0 _) ?_ ?_; exact lit_one _ _; (simp; omega); (simp; omega); intro va wa hba hea hBa)
      | (at_builtin; refine append_str _ rfl (.tmp 21) (.tmp 22) rfl B _ (l ++ [44] ++ [34]) rfl hba nm rfl ?_ w hea hBa ?_; (simp; omega); intro vb wb hbb heb hBb)
      | (at_builtin; refine append_lit _ rfl (.tmp 24) (.tmp 25) rfl B _ (l ++ [44] ++ [34] ++ nums nm) rfl (hbb.alloc _) _ 2 [34, 58] rfl ?_ ?_ w (heb.alloc hBb _) ?_ ?_; exact lit_two _ _ _; (simp [nums_length]; omega); (simp; omega); intro vc wc hbc hec hBc))
      go_ret
      exact ⟨retBuf (by rw [HX.out, HF.out]; simpa using hbc), hec⟩

set_option maxHeartbeats 400000 in
theorem zzField18 (B : Nat) (v : Value) (l : List Int) (nm : ByteArray) (w : World) (hbuf : Buf B w v l) (hl : l ≠ []) (hll : l.length ≤ 1000000000) (hn : nm.size ≤ 1048576) (hB : B ≤ w.heap.size) :
    Calls Try.prog 18 #[v, .string nm] w fun e w' => RetBuf B e w' (l ++ commaOf (l.getLast hl) ++ fieldOf nm) ∧ Below B w w' := by
  have H : Hid (Calls Try.prog 29 #[v, .string nm] w fun e w' => RetBuf B e w' (l ++ commaOf (l.getLast hl) ++ fieldOf nm) ∧ Below B w w') := field29 B v l nm w hbuf hl hll hn hB
  clear hbuf
  generalize l ++ commaOf (l.getLast hl) ++ fieldOf nm = L at *
  go_enter Try.func18, Try.ntmps18
  go_wp2_with fail
  refine H.out.mono ?_
  rintro e w' ⟨⟨v', rfl, hv⟩, hb⟩
  have HV : Hid (Buf B w' v' L) := hv
  have HB : Hid (Below B w w') := hb
  clear hv hb
  go_wp2_with fail
  go_ret
  exact ⟨retBuf HV.out, HB⟩
end Go.Proofs.Qxb6605201a.Fld
