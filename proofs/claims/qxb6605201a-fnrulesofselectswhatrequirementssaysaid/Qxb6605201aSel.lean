import Derived.Test.Qxb6605201aRng
namespace Go.Proofs.Qxb6605201a.Rul
open Go.RowKit Go.Sort Go.Lib
open Go.ChangeMaps (setBlock)

set_option maxRecDepth 100000 in
set_option maxHeartbeats 8000000 in
theorem selects27 (B g1 o1 c1 g2 o2 c2 : Nat) (R1 R2 : List RV) (P : List Pq) (mo : Option Nat) (ls : List (Str × Str)) (w : World) (h1 : Row B g1 o1 w P R1) (h2 : Row B g2 o2 w P R2) (hs : Sets P) (hm : Labels w (.map mo) ls)
    (t1 : ∀ r ∈ R1, (rsOf P r.k).th = true) (t2 : ∀ r ∈ R2, (rsOf P r.k).th = false) (s2 : Strict (R2.map fun r => r.k)) (n1 : R1.length + R2.length ≤ 4096) (nl : ls.length ≤ 65536) :
    Calls Try.prog 27 #[.agg #[.slice (some ⟨g1, o1, none⟩) R1.length c1, .slice (some ⟨g2, o2, none⟩) R2.length c2, .slice none 0 0, .pointer none], .map mo] w fun e w' => RetSel P ls R1 R2 w e w' := by
  have HR1 : Hid (Row B g1 o1 w P R1) := h1
  have HR2 : Hid (Row B g2 o2 w P R2) := h2
  have HST : Hid (Sets P) := hs
  have HM : Hid (Labels w (.map mo) ls) := hm
  have HT : Hid ((∀ r ∈ R1, (rsOf P r.k).th = true) ∧ (∀ r ∈ R2, (rsOf P r.k).th = false) ∧ Strict (R2.map fun r => r.k)) := ⟨t1, t2, s2⟩
  clear h1 h2 hs hm t1 t2 s2
  have HB0 : Hid (Below w.heap.size w (w.alloc (.cells #[.slice (some ⟨g1, o1, none⟩) R1.length c1, .slice (some ⟨g2, o2, none⟩) R2.length c2, .slice none 0 0, .pointer none] 64))) := (Below.refl _ _).alloc (Nat.le_refl _) _
  have HX0 : Hid ((w.alloc (.cells #[.slice (some ⟨g1, o1, none⟩) R1.length c1, .slice (some ⟨g2, o2, none⟩) R2.length c2, .slice none 0 0, .pointer none] 64)).cell? ⟨w.heap.size, 1, none⟩ = some (.slice (some ⟨g2, o2, none⟩) R2.length c2) ∧ w.heap.size < (w.alloc (.cells #[.slice (some ⟨g1, o1, none⟩) R1.length c1, .slice (some ⟨g2, o2, none⟩) R2.length c2, .slice none 0 0, .pointer none] 64)).heap.size) := ⟨cell_new w _ 64 1, size_alloc_lt w _⟩
  go_enter Try.func27, Try.ntmps27
  go_wp2
  generalize w.alloc (.cells #[.slice (some ⟨g1, o1, none⟩) R1.length c1, .slice (some ⟨g2, o2, none⟩) R2.length c2, .slice none 0 0, .pointer none] 64) = W0 at *
  go_loopw [5, 6, 22] (fun lk cm i wr => ∃ k : Nat, k ≤ R1.length ∧ lk = .int .i64 k ∧ cm = .int .i64 0 ∧ i = .int .i64 k ∧ Hid (AllSay P (labOf ls) (R1.take k)) ∧ Hid (Below W0.heap.size W0 wr)) (fun _ _ i _ => R1.length - (intOf i).toNat)
  case atStart => exact ⟨0, Nat.zero_le _, rfl, rfl, rfl, fun r hr => by simp at hr, Below.refl _ _⟩
  case round =>
    obtain ⟨k, hk, rfl, rfl, rfl, HA, HB⟩ := hrel
    have hbw : Below w.heap.size w wr := HB0.out.trans (HB.out.mono HB0.out.size)
    by_cases hlt : k < R1.length
    · have hrow := HR1.out.below hbw
      have hcs := hrow.cells _ _ (List.getElem?_eq_getElem hlt)
      have hro := hrow.ok _ (List.getElem_mem hlt)
      have hth := HT.out.1 _ (List.getElem_mem hlt)
      have HSn : Hid (ruleSays (rsOf P R1[k].k) (labOf ls R1[k].k) = true → AllSay P (labOf ls) (R1.take (k + 1))) := fun h => HA.out.snoc hlt h
      have HNo : Hid (ruleSays (rsOf P R1[k].k) (labOf ls R1[k].k) = false → ¬ (AllSay P (labOf ls) R1 ∧ AllSay P (labOf ls) R2)) := fun h h' => by
        have := h'.1 _ (List.getElem_mem hlt)
        rw [h] at this; cases this
      have hlook := fun ob : Obj => (HM.out.below (hbw.alloc hbw.size ob)).look R1[k].k
      generalize R1[k] = r at *
      obtain ⟨rk, rth, rab, rva, rvn, rvc, rea, ren, rec⟩ := r
      have x0 : wr.cell? ⟨g1, o1 + k * 5, none⟩ = some (encStr rk) := hcs 0 (by omega)
      have x1 : wr.cell? ⟨g1, o1 + k * 5 + 1, none⟩ = some (.bool rth) := hcs 1 (by omega)
      have x2 : wr.cell? ⟨g1, o1 + k * 5 + 2, none⟩ = some (.bool rab) := hcs 2 (by omega)
      have x3 : wr.cell? ⟨g1, o1 + k * 5 + 3, none⟩ = some (.slice rva rvn rvc) := hcs 3 (by omega)
      have x4 : wr.cell? ⟨g1, o1 + k * 5 + 4, none⟩ = some (.slice rea ren rec) := hcs 4 (by omega)
      clear hcs hrow
      simp only at hth HSn HNo hlook
      have i1 : (0 : Int) ≤ (k : Int) := by omega
      have i2 : (k : Int) < (R1.length : Int) := by omega
      have HRO : Hid (RuleOk B wr P ⟨rk, rth, rab, rva, rvn, rvc, rea, ren, rec⟩) := hro
      have HBw : Hid (Below w.heap.size w wr) := hbw
      clear hro hbw
      cases hlab : labOf ls rk with
      | none =>
        rw [hlab] at hlook HNo
        have HNo2 : Hid (¬ (AllSay P (labOf ls) R1 ∧ AllSay P (labOf ls) R2)) := HNo.out (by rw [says_none rfl, hth]; rfl)
        clear HNo HSn
        simp only [Option.getD_none, Option.isSome_none] at hlook
        go_wp2
        go_ret3
        exact retSel_no (lk := k + 1) (cm := 0) HNo2.out (HBw.out.alloc HBw.out.size _)
      | some v =>
        rw [hlab] at hlook HNo HSn
        simp only [Option.getD_some, Option.isSome_some] at hlook
        have hcall := hold_at HRO.out HST.out ((Below.refl _ _).alloc (Nat.le_refl _) (.cells #[encStr rk, .bool rth, .bool rab, .slice rva rvn rvc, .slice rea ren rec] 39)) v (g := wr.heap.size) (o := 0) (cell_new wr _ 39 2) (cell_new wr _ 39 3) (cell_new wr _ 39 4)
        simp only at hcall
        have hsay : ruleSays (rsOf P rk) (some v) = holdR (rsOf P rk) v := rfl
        rw [hsay] at HNo HSn
        cases hho : holdR (rsOf P rk) v with
        | true =>
          rw [hho] at hcall
          have HA2 : Hid (AllSay P (labOf ls) (R1.take (k + 1))) := HSn.out hho
          clear HNo HSn hho hsay
          go_wp2_with fail
          refine hcall.mono ?_
          rintro e w2 ⟨rfl, q, rfl⟩
          have HB2 : Hid (Below W0.heap.size W0 ((wr.alloc (.cells #[encStr rk, .bool rth, .bool rab, .slice rva rvn rvc, .slice rea ren rec] 39)).drewN q)) := below_drewN (HB.out.alloc HB.out.size _) q
          generalize (wr.alloc (.cells #[encStr rk, .bool rth, .bool rab, .slice rva rvn rvc, .slice rea ren rec] 39)).drewN q = w3 at *
          go_wp2
          go_roundw
          case rel => exact ⟨k + 1, by omega, by go_num, rfl, by go_num, HA2, HB2⟩
          case measure => simp [intOf]; omega
        | false =>
          rw [hho] at hcall
          have HNo2 : Hid (¬ (AllSay P (labOf ls) R1 ∧ AllSay P (labOf ls) R2)) := HNo.out hho
          clear HNo HSn hho hsay
          go_wp2_with fail
          refine hcall.mono ?_
          rintro e w2 ⟨rfl, q, rfl⟩
          go_wp2
          go_ret3
          exact retSel_no (lk := k + 1) (cm := 0) HNo2.out (below_drewN (HBw.out.alloc HBw.out.size _) q)
    · obtain rfl : k = R1.length := by omega
      have HA1 : Hid (AllSay P (labOf ls) R1) := by have := HA.out; rw [List.take_length] at this; exact this
      have y1 : wr.cell? ⟨w.heap.size, 1, none⟩ = some (.slice (some ⟨g2, o2, none⟩) R2.length c2) := (HB.out.cell (p := ⟨w.heap.size, 1, none⟩) HX0.out.2).trans HX0.out.1
      have hlen := fun ty => (HM.out.below hbw).lenRun ty
      have HBw : Hid (Below w.heap.size w wr) := hbw
      have HX1 : Hid (w.heap.size < wr.heap.size) := Nat.lt_of_lt_of_le HX0.out.2 HB.out.size
      clear HA HB hbw hlt hk HB0 HX0
      generalize wr = w1 at *
      by_cases hle : R2.length ≤ ls.length
      · have d1 : decide ((R2.length : Int) ≤ (ls.length : Int)) = true := by simp; omega
        go_wp2
        go_loopw [5, 6, 54] (fun lk cm i wr => ∃ k : Nat, k ≤ R2.length ∧ lk = .int .i64 ((R1.length + k : Nat)) ∧ cm = .int .i64 0 ∧ i = .int .i64 k ∧ Hid (AllSay P (labOf ls) (R2.take k)) ∧ Hid (Below w.heap.size w wr)) (fun _ _ i _ => R2.length - (intOf i).toNat)
        case atStart => exact ⟨0, Nat.zero_le _, rfl, rfl, rfl, fun r hr => by simp at hr, HBw⟩
        case round =>
          obtain ⟨k, hk, rfl, rfl, rfl, HA, HB⟩ := hrel
          by_cases hlt : k < R2.length
          · have hrow := HR2.out.below HB.out
            have hcs := hrow.cells _ _ (List.getElem?_eq_getElem hlt)
            have hro := hrow.ok _ (List.getElem_mem hlt)
            have hth := HT.out.2.1 _ (List.getElem_mem hlt)
            have HSn : Hid (ruleSays (rsOf P R2[k].k) (labOf ls R2[k].k) = true → AllSay P (labOf ls) (R2.take (k + 1))) := fun h => HA.out.snoc hlt h
            have HNo : Hid (ruleSays (rsOf P R2[k].k) (labOf ls R2[k].k) = false → ¬ (AllSay P (labOf ls) R1 ∧ AllSay P (labOf ls) R2)) := fun h h' => by
              have := h'.2 _ (List.getElem_mem hlt)
              rw [h] at this; cases this
            have hlook := fun ob : Obj => (HM.out.below (HB.out.alloc HB.out.size ob)).look R2[k].k
            generalize R2[k] = r at *
            obtain ⟨rk, rth, rab, rva, rvn, rvc, rea, ren, rec⟩ := r
            have x0 : wr.cell? ⟨g2, o2 + k * 5, none⟩ = some (encStr rk) := hcs 0 (by omega)
            have x1 : wr.cell? ⟨g2, o2 + k * 5 + 1, none⟩ = some (.bool rth) := hcs 1 (by omega)
            have x2 : wr.cell? ⟨g2, o2 + k * 5 + 2, none⟩ = some (.bool rab) := hcs 2 (by omega)
            have x3 : wr.cell? ⟨g2, o2 + k * 5 + 3, none⟩ = some (.slice rva rvn rvc) := hcs 3 (by omega)
            have x4 : wr.cell? ⟨g2, o2 + k * 5 + 4, none⟩ = some (.slice rea ren rec) := hcs 4 (by omega)
            clear hcs hrow
            simp only at hth HSn HNo hlook
            have i1 : (0 : Int) ≤ (k : Int) := by omega
            have i2 : (k : Int) < (R2.length : Int) := by omega
            have HRO : Hid (RuleOk B wr P ⟨rk, rth, rab, rva, rvn, rvc, rea, ren, rec⟩) := hro
            clear hro
            cases hlab : labOf ls rk with
            | none =>
              rw [hlab] at hlook HSn
              have HA2 : Hid (AllSay P (labOf ls) (R2.take (k + 1))) := HSn.out (by rw [says_none rfl, hth]; rfl)
              clear HNo HSn
              simp only [Option.getD_none, Option.isSome_none] at hlook
              have HB2 : Hid (Below w.heap.size w (wr.alloc (.cells #[encStr rk, .bool rth, .bool rab, .slice rva rvn rvc, .slice rea ren rec] 39))) := HB.out.alloc HB.out.size _
              go_wp2
              go_roundw
              case rel => exact ⟨k + 1, by omega, by go_num, rfl, by go_num, HA2, HB2⟩
              case measure => simp [intOf]; omega
            | some v =>
              rw [hlab] at hlook HNo HSn
              simp only [Option.getD_some, Option.isSome_some] at hlook
              have hcall := hold_at HRO.out HST.out ((Below.refl _ _).alloc (Nat.le_refl _) (.cells #[encStr rk, .bool rth, .bool rab, .slice rva rvn rvc, .slice rea ren rec] 39)) v (g := wr.heap.size) (o := 0) (cell_new wr _ 39 2) (cell_new wr _ 39 3) (cell_new wr _ 39 4)
              simp only at hcall
              have hsay : ruleSays (rsOf P rk) (some v) = holdR (rsOf P rk) v := rfl
              rw [hsay] at HNo HSn
              cases hho : holdR (rsOf P rk) v with
              | true =>
                rw [hho] at hcall
                have HA2 : Hid (AllSay P (labOf ls) (R2.take (k + 1))) := HSn.out hho
                clear HNo HSn hho hsay
                go_wp2_with fail
                refine hcall.mono ?_
                rintro e w2 ⟨rfl, q, rfl⟩
                have HB2 : Hid (Below w.heap.size w ((wr.alloc (.cells #[encStr rk, .bool rth, .bool rab, .slice rva rvn rvc, .slice rea ren rec] 39)).drewN q)) := below_drewN (HB.out.alloc HB.out.size _) q
                generalize (wr.alloc (.cells #[encStr rk, .bool rth, .bool rab, .slice rva rvn rvc, .slice rea ren rec] 39)).drewN q = w3 at *
                go_wp2
                go_roundw
                case rel => exact ⟨k + 1, by omega, by go_num, rfl, by go_num, HA2, HB2⟩
                case measure => simp [intOf]; omega
              | false =>
                rw [hho] at hcall
                have HNo2 : Hid (¬ (AllSay P (labOf ls) R1 ∧ AllSay P (labOf ls) R2)) := HNo.out hho
                clear HNo HSn hho hsay
                go_wp2_with fail
                refine hcall.mono ?_
                rintro e w2 ⟨rfl, q, rfl⟩
                go_wp2
                go_ret3
                exact retSel_no (lk := R1.length + k + 1) (cm := 0) HNo2.out (below_drewN (HB.out.alloc HB.out.size _) q)
          · obtain rfl : k = R2.length := by omega
            have HA2 : Hid (AllSay P (labOf ls) R2) := by have := HA.out; rw [List.take_length] at this; exact this
            go_wp2
            go_ret3
            exact ⟨true, R1.length + R2.length, 0, rfl, ⟨fun _ => ⟨HA1.out, HA2.out⟩, fun _ => rfl⟩, fun _ => .inl ⟨hle, rfl, rfl⟩, HB.out⟩
      · have d1 : decide ((R2.length : Int) ≤ (ls.length : Int)) = false := by simp; omega
        rcases HM.out with ⟨hmo, rfl⟩ | ⟨bm, es, clock, hmo, hlab⟩
        · cases hmo
          have hR0 : 0 < R2.length := by rw [List.length_nil] at hle; omega
          have hR1 : ¬ R2 = [] := fun h => by rw [h] at hR0; exact absurd hR0 (Nat.lt_irrefl _)
          clear hle d1 hlen
          have hrg := run_range_nilMap (P := Try.prog) w1 40 9 9 Try.underlying40
          have hnx : ∀ ty, (Instr.next (.pointer (some ⟨w1.heap.size, 0, none⟩)) false ty).run Try.prog (w1.alloc (.mapIter none 0 #[] 0)) = .ok (.tuple #[.bool false]) (w1.alloc (.mapIter none 0 #[] 0)) := fun ty => run_next_nilMap w1 ty 0 0 #[]
          have HW : Hid (Below w.heap.size w (w1.alloc (.mapIter none 0 #[] 0))) := HBw.out.alloc HBw.out.size _
          have HA2 : Hid (AllSay P (labOf []) R2) := fun r hr => by
            rw [says_none (show labOf [] r.k = none from rfl), HT.out.2.1 r hr]; rfl
          go_wp2
          go_loopw [5, 6] (fun lk cm wr => ∃ k : Nat, Hid (k = R1.length) ∧ lk = .int .i64 k ∧ cm = .int .i64 0 ∧ wr = w1.alloc (.mapIter none 0 #[] 0)) (fun _ _ _ => 0)
          case atStart => exact ⟨R1.length, rfl, rfl, rfl, rfl⟩
          case round =>
            obtain ⟨k, HK, rfl, rfl, rfl⟩ := hrel
            go_wp2
            go_ret3
            rw [HK.out]
            exact ⟨true, R1.length, 0, rfl, ⟨fun _ => ⟨HA1.out, HA2.out⟩, fun _ => rfl⟩, fun _ => .inr ⟨hR0, rfl, Nat.le_refl _, fun b _ => by simp⟩, HW.out⟩
        · cases hmo
          have hlab1 := hlab.kept (HBw.out.block bm hlab.lt)
          have hrg := run_range_map (P := Try.prog) w1 40 9 9 bm es clock Try.underlying40 hlab1.hb
          have HR0 : Hid (RSt w1 (w1.alloc (.mapIter (some bm) clock #[] clock)) w1.heap.size bm es clock P R2 #[] 0) := ⟨heap_alloc_new w1 _, (Below.refl _ _).alloc (Nat.le_refl _) _, rfl, (fun e _ hc => by simp at hc), by simp [leftOf], Nat.le_refl _, fun b _ => by simp⟩
          have HLB : Hid (LabAt w1 bm es clock ls) := hlab1
          have HY1 : Hid (w1.cell? ⟨w.heap.size, 1, none⟩ = some (.slice (some ⟨g2, o2, none⟩) R2.length c2)) := y1
          clear hlab hlab1
          go_wp2
          generalize w1.alloc (.mapIter (some bm) clock #[] clock) = W1 at *
          generalize hit : w1.heap.size = it at *
          go_loopw [5, 6] (fun lk cv wr => ∃ (seen : Array Nat) (cm : Nat), seen.size ≤ ls.length ∧ cm ≤ 4611686018427387904 ∧ lk = .int .i64 ((R1.length + seen.size : Nat)) ∧ cv = .int .i64 cm ∧ Hid (RSt w1 wr it bm es clock P R2 seen cm)) (fun _ _ wr => (leftOf es (wr.iterSeen it)).size)
          case atStart => exact ⟨#[], 0, Nat.zero_le _, by omega, rfl, rfl, HR0⟩
          case round =>
            obtain ⟨seen, cm, hsz, hcm, rfl, rfl, HR⟩ := hrel
            clear HR0 hrg
            have hlab := HLB.out.kept (HR.out.bel.block bm HLB.out.lt)
            have law := run_next_at (P := Try.prog) wr 0 it bm clock clock seen es clock HR.out.iter hlab.hb hlab.st.1 (Nat.le_refl _)
            have hbw : Below w.heap.size w wr := HBw.out.trans (HR.out.bel.mono HBw.out.size)
            rcases law with ⟨h0, hrun⟩ | ⟨e, he, wn, hwn, hrun⟩
            · have hnx : ∀ ty, (Instr.next (.pointer (some ⟨it, 0, none⟩)) false ty).run Try.prog wr = .ok (.tuple #[.bool false]) wr := fun _ => hrun
              obtain ⟨ha, hcnt⟩ := HR.out.all HLB.out h0 HT.out.2.1
              have HF : Hid (RetSel P ls R1 R2 w (.returned (.tuple #[.bool true, .int .i64 ((R1.length + seen.size : Nat)), .int .i64 cm])) wr) := ⟨true, R1.length + seen.size, cm, rfl, ⟨fun _ => ⟨HA1.out, ha⟩, fun _ => rfl⟩, fun _ => .inr ⟨by omega, by rw [hcnt], by rw [← hcnt]; exact HR.out.m1, fun b hb => by rw [← hcnt]; exact HR.out.m2 b hb⟩, hbw⟩
              clear hrun ha hcnt hlab hbw HR h0
              go_wp2
              go_ret3
              exact HF.out
            · obtain ⟨j, hj, hje⟩ := List.mem_iff_getElem.1 (mem_left he).1
              obtain ⟨p, hp, ek, ev⟩ := hlab.get (j := j) (e := e) (by rw [List.getElem?_eq_getElem hj, hje])
              have hpm : p ∈ ls := List.mem_of_getElem? hp
              have hlp : labOf ls p.1 = some p.2 := (labOf_some hlab.keys).2 hpm
              have hiN : wn.heap[it]? = some (.mapIter (some bm) clock seen clock) := by rcases hwn with rfl | rfl <;> exact HR.out.iter
              have hbN : Below w1.heap.size w1 wn := by
                rcases hwn with rfl | rfl
                · exact HR.out.bel
                · exact HR.out.bel.drew
              have hi2 : (setBlock wn it (.mapIter (some bm) clock (seen.push e.born) clock)).heap[it]? = some (.mapIter (some bm) clock (seen.push e.born) clock) := setBlock_same hiN
              have hb2 : Below w1.heap.size w1 (setBlock wn it (.mapIter (some bm) clock (seen.push e.born) clock)) := Below.setBlock hbN (by rw [HR.out.low]; exact Nat.le_refl _) _
              have hnx : ∀ ty, (Instr.next (.pointer (some ⟨it, 0, none⟩)) false ty).run Try.prog wr = .ok (.tuple #[.bool true, encStr p.1, encStr p.2]) (setBlock wn it (.mapIter (some bm) clock (seen.push e.born) clock)) := fun _ => by rw [← ek, ← ev]; exact hrun
              clear hrun hbN hiN hwn
              generalize setBlock wn it (.mapIter (some bm) clock (seen.push e.born) clock) = W2 at *
              have hlab2 := HLB.out.kept (hb2.block bm HLB.out.lt)
              have hen : (Instr.entry (.pointer (some ⟨it, 0, none⟩))).run Try.prog W2 = .ok (.tuple #[encStr p.1, encStr p.2]) W2 := by
                rw [← ek, ← ev]; exact run_entry_at (P := Try.prog) W2 it bm clock seen es clock e hi2 hlab2.hb (mem_left he).1 hlab2.st.2.1
              have y2 : W2.cell? ⟨w.heap.size, 1, none⟩ = some (.slice (some ⟨g2, o2, none⟩) R2.length c2) := (hb2.cell (p := ⟨w.heap.size, 1, none⟩) (by show w.heap.size < w1.heap.size; rw [hit]; exact HX1.out)).trans HY1.out
              have hbw2 : Below w.heap.size w W2 := HBw.out.trans (hb2.mono HBw.out.size)
              have hrow2 := HR2.out.below hbw2
              have hfind := find37 g2 o2 c2 R2 p.1 W2 (by omega) (by omega) hrow2.cells hrow2.lt HT.out.2.2
              have hleft : 0 < (leftOf es seen).size := by
                have := List.length_pos_of_mem he
                simpa using this
              have hsz2 : seen.size + 1 ≤ ls.length := by have := HR.out.cnt; have := hlab.len; omega
              have hm2 := HR.out.m2 13 (by omega)
              have HSTEP : Hid (∀ (w' : World) (c : Nat), w'.heap[it]? = some (.mapIter (some bm) clock (seen.push e.born) clock) → Below w1.heap.size w1 w' → 1 ≤ c → (∀ b, R2.length < 2 ^ b → c ≤ b + 1) → (∀ r ∈ R2, r.k = p.1 → holdR (rsOf P r.k) p.2 = true) → RSt w1 w' it bm es clock P R2 (seen.push e.born) (cm + c)) := fun w' c a1 a2 a3 a4 a5 => HR.out.step hlab.st.2.1 he a1 a2 a3 a4 fun k v e1 e2 r hr hrk => by
                have h1 : k = p.1 := encStr_inj (e1.symm.trans ek)
                have h2 : v = p.2 := encStr_inj (e2.symm.trans ev)
                rw [h2]; exact a5 r hr (hrk.trans h1)
              have hmeas : (leftOf es (seen.push e.born)).size < (leftOf es (wr.iterSeen it)).size := by
                rw [iterSeen_of HR.out.iter]; exact left_shrinks es seen e he
              have HMeas : Hid ((leftOf es (seen.push e.born)).size < (leftOf es (wr.iterSeen it)).size) := hmeas
              have HI2 : Hid (W2.heap[it]? = some (.mapIter (some bm) clock (seen.push e.born) clock) ∧ Below w1.heap.size w1 W2 ∧ Below w.heap.size w W2) := ⟨hi2, hb2, hbw2⟩
              have HLP : Hid (labOf ls p.1 = some p.2) := hlp
              clear hmeas hi2 hb2 hbw2 hrow2 hlab hlab2 hbw HR hlp hpm hp hje hj ek ev he hleft
              obtain ⟨pk, pv⟩ := p
              simp only at *
              go_wp2_with fail
              refine hfind.mono ?_
              rintro e' w3 ⟨c, q1, q2, q3, hb3, hcase⟩
              have hc14 := q3 13 (by omega)
              have hlt2 : it < W2.heap.size := by
                rcases Nat.lt_or_ge it W2.heap.size with h | h
                · exact h
                · have h1 := HI2.out.1; rw [Array.getElem?_eq_none h] at h1; cases h1
              have hi3 : w3.heap[it]? = some (.mapIter (some bm) clock (seen.push e.born) clock) := (hb3.block it hlt2).trans HI2.out.1
              have hb31 : Below w1.heap.size w1 w3 := HI2.out.2.1.trans (hb3.mono HI2.out.2.1.size)
              have hb30 : Below w.heap.size w w3 := HI2.out.2.2.trans (hb3.mono HI2.out.2.2.size)
              rcases hcase with ⟨i, r, rfl, hr, hrk⟩ | ⟨rfl, hno⟩
              · have hrow3 := HR2.out.below hb30
                have hrm : r ∈ R2 := List.mem_of_getElem? hr
                have hcs := hrow3.cells i r hr
                have hcall := hold_at (hrow3.ok r hrm) HST.out (Below.refl _ _) pv (g := g2) (o := o2 + i * 5) (hcs 2 (by omega)) (hcs 3 (by omega)) (hcs 4 (by omega))
                have HUn : Hid (holdR (rsOf P r.k) pv = true → ∀ r' ∈ R2, r'.k = pk → holdR (rsOf P r'.k) pv = true) := fun h r' hr' hk' => by
                  rw [strict_inj HT.out.2.2 hr' hrm (hk'.trans hrk.symm)]; exact h
                have HNo : Hid (holdR (rsOf P r.k) pv = false → ¬ (AllSay P (labOf ls) R1 ∧ AllSay P (labOf ls) R2)) := fun h h' => by
                  have h1 := h'.2 r hrm
                  rw [hrk, HLP.out] at h1
                  rw [says_some rfl, ← hrk, h] at h1
                  cases h1
                have HI3 : Hid (w3.heap[it]? = some (.mapIter (some bm) clock (seen.push e.born) clock) ∧ Below w1.heap.size w1 w3 ∧ Below w.heap.size w w3) := ⟨hi3, hb31, hb30⟩
                have HQ : Hid (1 ≤ c ∧ ∀ b, R2.length < 2 ^ b → c ≤ b + 1) := ⟨q1, q3⟩
                clear hcs hrow3 hrm hr hrk hi3 hb31 hb30 hb3 q3 hfind
                cases hho : holdR (rsOf P r.k) pv with
                | true =>
                  rw [hho] at hcall
                  have HU2 : Hid (∀ r' ∈ R2, r'.k = pk → holdR (rsOf P r'.k) pv = true) := HUn.out hho
                  clear HUn HNo hho
                  go_wp2_with fail
                  refine hcall.mono ?_
                  rintro e' w4 ⟨rfl, q, rfl⟩
                  have HFin : Hid (RSt w1 (w3.drewN q) it bm es clock P R2 (seen.push e.born) (cm + c)) := HSTEP.out _ c HI3.out.1 (below_drewN HI3.out.2.1 q) HQ.out.1 HQ.out.2 HU2.out
                  generalize w3.drewN q = w5 at *
                  go_wp2
                  go_roundw
                  case rel => exact ⟨seen.push e.born, cm + c, by rw [Array.size_push]; exact hsz2, by omega, by rw [Array.size_push]; go_num, by go_num, HFin⟩
                  case measure => rw [iterSeen_of HFin.out.iter]; exact HMeas.out
                | false =>
                  rw [hho] at hcall
                  have HN2 : Hid (¬ (AllSay P (labOf ls) R1 ∧ AllSay P (labOf ls) R2)) := HNo.out hho
                  clear HUn HNo hho
                  go_wp2_with fail
                  refine hcall.mono ?_
                  rintro e' w4 ⟨rfl, q, rfl⟩
                  go_wp2
                  go_ret3
                  exact retSel_no (lk := R1.length + seen.size + 1) (cm := cm + c) HN2.out (below_drewN HI3.out.2.2 q)
              · have HFin : Hid (RSt w1 w3 it bm es clock P R2 (seen.push e.born) (cm + c)) := HSTEP.out _ c hi3 hb31 q1 q3 fun r hr hk => absurd hk (hno r hr)
                clear hno hi3 hb31 hb30 hb3 q3 hfind
                go_wp2
                go_roundw
                case rel => exact ⟨seen.push e.born, cm + c, by rw [Array.size_push]; exact hsz2, by omega, by rw [Array.size_push]; go_num, by go_num, HFin⟩
                case measure => rw [iterSeen_of HFin.out.iter]; exact HMeas.out

end Go.Proofs.Qxb6605201a.Rul
