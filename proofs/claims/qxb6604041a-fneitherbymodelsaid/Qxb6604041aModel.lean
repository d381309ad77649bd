import Derived.Test.Qxb6604041aEither
import Derived.Lib.AppendStr
namespace Go.Proofs.Qxb6604041a
open Go.RowKit

theorem Try.info5 : (Try.prog.info? 5).map (fun i => (i.zero, i.size, i.bytes)) = some (some (.int .u8 0), 1, 1) := by kernel_rfl

/-- What the model's buffer holds after k rounds. -/
def Buf (B : Nat) (wr : World) (v : Value) (l : List UInt8) : Prop := wr.ownsRow B 5 1 v l.length (Lib.byteCells l) ∧ v ≠ .slice none 0 0

theorem Buf.lt {B : Nat} {wr : World} {v : Value} {l : List UInt8} (h : Buf B wr v l) : ∀ k, v.ownBlock = some k → B ≤ k := fun k hk => (h.1.lt k hk).1

theorem Buf.next {B : Nat} {w1 : World} {v v' : Value} {l : List UInt8} {s : ByteArray} (hv : v ≠ .slice none 0 0) (h : w1.ownsRow B 5 1 v' (l.length + s.size) (Lib.byteCells l ++ Lib.strCells s)) (hn : v' = .slice none 0 0 ↔ v = .slice none 0 0 ∧ s.size = 0) :
    Buf B w1 v' (l ++ s.data.toList) := by
  refine ⟨?_, fun e => hv (hn.1 e).1⟩
  rw [Lib.byteCells_append, List.length_append]
  exact h

theorem Buf.shape {B : Nat} {wr : World} {v : Value} {l : List UInt8} (h : Buf B wr v l) : ∃ g cap, v = .slice (some ⟨g, 0, none⟩) l.length cap ∧
    ∀ j (hj : j < l.length), wr.cell? ((⟨g, 0, none⟩ : Addr).add j) = some (.int .u8 (l[j].toNat : Int)) := by
  obtain ⟨h1, h2⟩ := h
  obtain ⟨hx, h3 | ⟨g, cap, cur, hv, r⟩⟩ := id h1
  · exact absurd h3.1 h2
  · refine ⟨g, cap, hv, fun j hj => h1.cells (g := g) (by rw [hv]; rfl) j _ ?_⟩
    simp [Lib.byteCells, List.getElem?_eq_getElem hj]

/-- The append law at a []byte of the call's own and a string. -/
theorem append_str (w : World) {ops : Array Oper} {rest : List Oper} {o : Oper} {a : Act} {Q : Exit → Act → World → Prop} (hgd : o.guard = none) (sl x : Operand)
    (ho : o.op = .call { callee := .builtin .append, args := #[sl, x], argTypes := #[25, 9] }) (B : Nat) (v : Value) (l : List UInt8) (hs : a.eval sl = v) (hbuf : Buf B w v l) (s : ByteArray) (hx : a.eval x = .string s)
    (hl : l.length + s.size ≤ 140737488355328) (w0 : World) (hb : Below B w0 w) (hB : B ≤ w0.heap.size)
    (h : ∀ v' w', Buf B w' v' (l ++ s.data.toList) → Below B w0 w' → wpList Try.prog ops Q rest (a.put o.dst v') w') : wpList Try.prog ops Q (o :: rest) a w := by
  obtain ⟨i0, hi, hz0, hz1, hz2⟩ := info_parts Try.info5
  have hBw : B ≤ w.heap.size := Nat.le_trans hB hb.size
  refine Lib.wpList_append_own_string w hgd sl x 25 9 ho B 5 i0 Try.underlying25 Try.underlying9 hi hz0 hz1 hz2 v l.length (Lib.byteCells l) hs hbuf.1 s hx (by unfold maxLen; omega) hl hBw ?_
  intro v' w' h1 h2 h3
  exact h v' w' (Buf.next hbuf.2 h1 h3) (hb.grown h2 hBw hbuf.lt)

set_option maxHeartbeats 400000 in
theorem model_any (a : Option Addr) (cap : Nat) (ss : List ByteArray) (w : World) (hs : IsStrs w a ss) (hb : 16 * ss.length + total ss ≤ 1048576) :
    Calls Try.prog 8 #[.slice a ss.length cap] w fun e w' => e = .returned (.string (strOfL (eitherL (ss.map (·.data.toList))))) ∧ Below w.heap.size w w' := by
  have HS : Hid (IsStrs w a ss) := hs
  clear hs
  obtain ⟨i0, hi, hz0, hz1, hz2⟩ := info_parts Try.info5
  go_enter Try.func8, Try.ntmps8
  go_wp2
  go_loop [4, 5] (fun n i => ∃ (z : Nat) (k : Nat), z ≤ 1048576 ∧ k ≤ ss.length ∧ Hid (z = 4 * k + total (ss.take k)) ∧ i = .int .i64 k ∧ n = .int .i64 z) (fun _ i => ss.length - (intOf i).toNat)
  case atStart => exact ⟨0, 0, by omega, Nat.zero_le _, rfl, rfl, rfl⟩
  case round =>
    obtain ⟨z, k, hz, hk, HZ, rfl, rfl⟩ := hrel
    by_cases hlt : k < ss.length
    · obtain ⟨b, off, rfl, hbb, hc⟩ := HS.out.at hlt
      clear HS
      have HT : Hid (total (ss.take (k + 1)) = total (ss.take k) + ss[k].size) := total_take ss k hlt
      have HU : Hid (total (ss.take (k + 1)) ≤ total ss) := total_take_le ss (k + 1)
      have hx : ss[k].size ≤ 1048576 := by have h1 := HT.out; have h2 := HU.out; omega
      generalize ss[k] = x at hc HT hx
      go_wp2
      go_round
      case rel => exact ⟨z + (x.size + 4), k + 1, by have h1 := HZ.out; have h2 := HT.out; have h3 := HU.out; omega, by omega, by have h1 := HZ.out; have h2 := HT.out; show _ = _; omega, by go_num, by go_num⟩
      case measure => simp [intOf]; omega
    · clear HZ
      obtain rfl : k = ss.length := by omega
      go_wp2_with (at_make; refine wpList_make_own _ rfl (.const (.int .i64 0)) (.tmp 23) 25 rfl w.heap.size 5 i0 (.int .u8 0) 1 Try.underlying25 hi hz0 hz1 .i64 .i64 _ z rfl rfl rfl ?c1 ?c2 ?c3 ?_)
      case c1 => first | omega | (rw [hz2]; omega)
      case c2 => unfold maxLen; omega
      intro w1 hown hgrow
      have HB1 : Hid (Below w.heap.size w w1) := (Below.refl _ _).grown hgrow (Nat.le_refl _) (by simp)
      have HO : Hid (Buf w.heap.size w1 (.slice (some ⟨w.heap.size, 0, none⟩) 0 z) []) := ⟨hown, by simp⟩
      clear hown hgrow hi hz0 hz1 hz2 hlt hk
      go_wp2
      go_loopw [6, 7] (fun v i wr => ∃ k : Nat, k ≤ ss.length ∧ i = .int .i64 k ∧ Hid (Buf w.heap.size wr v (modelTo (ss.map (·.data.toList)) k)) ∧ Hid (Below w.heap.size w wr)) (fun _ i _ => ss.length - (intOf i).toNat)
      case atStart => exact ⟨0, Nat.zero_le _, rfl, HO, HB1⟩
      case round =>
        obtain ⟨k, hk, rfl, HBu, HBe⟩ := hrel
        by_cases hlt : k < ss.length
        · obtain ⟨b, off, rfl, hbb, hc⟩ := HS.out.at hlt
          have hmk : (ss.map (·.data.toList)).getD k [] = ss[k].data.toList := by simp [List.getD, List.getElem?_eq_getElem hlt]
          have hll := modelTo_len (ss.map (·.data.toList)) k (by simpa using hk)
          rw [← List.map_take, lens_total] at hll
          have ht := total_take ss k hlt
          have hu := total_take_le ss (k + 1)
          have hx : ss[k].size ≤ 1048576 := by omega
          have hL : (modelTo (ss.map (·.data.toList)) k).length ≤ 1048576 := by omega
          have hc1 : wr.cell? ⟨b, off + k, none⟩ = some (.string ss[k]) := (HBe.out.cell (p := ⟨b, off + k, none⟩) hbb).trans hc
          have HN : Hid (modelTo (ss.map (·.data.toList)) (k + 1) = modelTo (ss.map (·.data.toList)) k ++ sepOf ss.length k ++ ss[k].data.toList) := by
            show _ = _
            rw [modelTo, hmk, List.length_map]
          clear ht hu hll hmk HS
          generalize ss[k] = x at hc hc1 hx HN
          generalize modelTo (ss.map (·.data.toList)) k = M at HBu hL HN
          by_cases h0 : k = 0
          · have HN0 : Hid (modelTo (ss.map (·.data.toList)) (k + 1) = M ++ x.data.toList) := by
              show _ = _
              rw [HN.out, sepOf, if_pos h0, List.append_nil]
            have hk0 : k ≤ 0 := by omega
            clear HN h0
            go_wp2_with (at_builtin; refine append_str _ rfl (.tmp 40) (.tmp 44) rfl w.heap.size _ M rfl HBu.out x rfl ?_ w HBe.out (Nat.le_refl _) ?_; omega; intro v1 w1 hbu1 hbe1)
            go_roundw
            case rel => exact ⟨k + 1, by omega, by go_num, by show Buf _ _ _ _; rw [HN0.out]; exact hbu1, hbe1⟩
            case measure => simp [intOf]; omega
          · by_cases h1 : k = ss.length - 1
            · have HN1 : Hid (modelTo (ss.map (·.data.toList)) (k + 1) = M ++ (⟨#[32, 111, 114, 32]⟩ : ByteArray).data.toList ++ x.data.toList) := by
                show _ = _
                rw [HN.out, sepOf, if_neg h0, if_pos h1]; rfl
              have hk0 : 1 ≤ k := by omega
              have hk1 : ss.length ≤ k + 1 := by omega
              clear HN h0 h1
              go_wp2_with (first
                | (at_builtin; refine append_str _ rfl (.tmp 36) (.const (.string ⟨#[32, 111, 114, 32]⟩)) rfl w.heap.size _ M rfl HBu.out ⟨#[32, 111, 114, 32]⟩ rfl ?_ w HBe.out (Nat.le_refl _) ?_; (show _ + 4 ≤ _; omega); intro v1 w1 hbu1 hbe1; have hc2 := (hbe1.cell (p := ⟨b, off + k, none⟩) hbb).trans hc)
                | (at_builtin; refine append_str _ rfl (.tmp 40) (.tmp 44) rfl w.heap.size _ (M ++ [32, 111, 114, 32]) rfl hbu1 x rfl ?_ w hbe1 (Nat.le_refl _) ?_; (simp; omega); intro v2 w2 hbu2 hbe2))
              go_roundw
              case rel => exact ⟨k + 1, by omega, by go_num, by show Buf _ _ _ _; rw [HN1.out]; exact hbu2, hbe2⟩
              case measure => simp [intOf]; omega
            · have HN1 : Hid (modelTo (ss.map (·.data.toList)) (k + 1) = M ++ (⟨#[44, 32]⟩ : ByteArray).data.toList ++ x.data.toList) := by
                show _ = _
                rw [HN.out, sepOf, if_neg h0, if_neg h1]; rfl
              have hk0 : 1 ≤ k := by omega
              have hk1 : k + 1 < ss.length := by omega
              clear HN h0 h1
              go_wp2_with (first
                | (at_builtin; refine append_str _ rfl (.tmp 38) (.const (.string ⟨#[44, 32]⟩)) rfl w.heap.size _ M rfl HBu.out ⟨#[44, 32]⟩ rfl ?_ w HBe.out (Nat.le_refl _) ?_; (show _ + 2 ≤ _; omega); intro v1 w1 hbu1 hbe1; have hc2 := (hbe1.cell (p := ⟨b, off + k, none⟩) hbb).trans hc)
                | (at_builtin; refine append_str _ rfl (.tmp 40) (.tmp 44) rfl w.heap.size _ (M ++ [44, 32]) rfl hbu1 x rfl ?_ w hbe1 (Nat.le_refl _) ?_; (simp; omega); intro v2 w2 hbu2 hbe2))
              go_roundw
              case rel => exact ⟨k + 1, by omega, by go_num, by show Buf _ _ _ _; rw [HN1.out]; exact hbu2, hbe2⟩
              case measure => simp [intOf]; omega
        · have hke : k = ss.length := by omega
          subst hke
          obtain ⟨g, c, rfl, hcell⟩ := HBu.out.shape
          have hconv := run_convert_bytes_back (P := Try.prog) wr 25 9 5 ⟨g, 0, none⟩ c _ Try.underlying25 Try.underlying5 Try.underlying9 hcell
          have hm : modelTo (ss.map (·.data.toList)) ss.length = eitherL (ss.map (·.data.toList)) := by
            have := model_is (ss.map (·.data.toList))
            rwa [List.length_map] at this
          rw [hm] at hconv
          have HM : Hid (modelTo (ss.map (·.data.toList)) ss.length = eitherL (ss.map (·.data.toList))) := hm
          clear hcell hm HBu HS
          rw [HM.out]
          generalize hE : eitherL (ss.map (·.data.toList)) = E at *
          have HE : Hid (eitherL (ss.map (·.data.toList)) = E) := hE
          clear hE
          go_wp2
          go_ret
          exact ⟨by rw [HE.out]; rfl, HBe.out⟩
end Go.Proofs.Qxb6604041a
