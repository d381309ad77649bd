import Derived.Test.Qxb6605201aMLem
namespace Go.Proofs.Qxb6605201a.Rul
open Go.RowKit Go.Sort Go.Lib

set_option maxRecDepth 100000 in
set_option maxHeartbeats 8000000 in
theorem model11 (a : Option Addr) (cap : Nat) (Q : List Rq) (key : Str) (w : World) (hs : IsReqs w a Q) (hm : Q.length ≤ 4096) (hf : FitTo Q Q.length) :
    Calls Try.prog 11 #[.slice a Q.length cap, encStr key] w fun e w' => RetM (Q.map Rq.p) key w e w' := by
  have HS : Hid (IsReqs w a Q) := hs
  have HF : Hid (FitTo Q Q.length) := hf
  have hm0 := MSt.start w key
  have HM0 : Hid (MOut w.heap.size (w.heap.size + 1) w _ Q key 0 false (.slice none 0 0)) := ⟨_, _, _, _, _, hm0, MLaw.init, Nat.zero_le _⟩
  clear hs hf hm0
  go_enter Try.func11, Try.ntmps11
  go_wp2
  change Hid (MOut _ _ _ ((w.alloc (.cells #[.string ⟨#[]⟩, .bool false, .bool false, .slice none 0 0, .slice none 0 0] 35)).alloc (.cells #[.string ⟨key.toArray⟩, .bool false, .bool false, .slice none 0 0, .slice none 0 0] 35)) _ _ _ _ _) at HM0
  generalize ((w.alloc (.cells #[.string ⟨#[]⟩, .bool false, .bool false, .slice none 0 0, .slice none 0 0] 35)).alloc (.cells #[.string ⟨key.toArray⟩, .bool false, .bool false, .slice none 0 0, .slice none 0 0] 35)) = W0 at *
  generalize hg : w.heap.size + 1 = g at *
  generalize hB : w.heap.size = B at *
  have HB : Hid (w.heap.size = B) := hB
  clear hB
  go_loopw [6, 7, 16] (fun nv ov i wr => ∃ (k : Nat) (nm : Bool), k ≤ Q.length ∧ nv = .bool nm ∧ i = .int .i64 k ∧ Hid (MOut B g w wr Q key k nm ov)) (fun _ _ i _ => Q.length - (intOf i).toNat)
  case atStart => exact ⟨0, false, Nat.zero_le _, rfl, rfl, HM0⟩
  case round =>
    obtain ⟨k, nm, hk, rfl, rfl, HM⟩ := hrel
    clear HM0
    by_cases hlt : k < Q.length
    · obtain ⟨th, ab, ev, ol, el, hst, hlaw, hlen⟩ := HM.out
      have hbel : Below w.heap.size w wr := by rw [HB.out]; exact hst.bel
      obtain ⟨b, off, rfl, c0, c1, c2, hq⟩ := (HS.out.below hbel).at hlt
      have i1 : (0 : Int) ≤ (k : Int) := by omega
      have i2 : (k : Int) < (Q.length : Int) := by omega
      by_cases hkey : Q[k].key = key
      · have hfit : Q[k].p.Fit1 := HF.out.2 _ (by rw [List.take_length]; exact List.getElem_mem hlt)
        have hup := upTo_hit hlt hkey
        have hsl := sumL_take hlt
        have hll : Q[k].l.length ≤ 4096 := by
          have h1 := HF.out.1
          rw [List.take_length] at h1
          have := sumL_le Q (k + 1)
          omega
        have hlen2 : ol.length + el.length + Q[k].l.length ≤ sumL (Q.take (k + 1)) := by omega
        have hfs : sumL (Q.take (k + 1)) ≤ 4096 := by
          have h1 := HF.out.1
          rw [List.take_length] at h1
          have := sumL_le Q (k + 1)
          omega
        have HNx : Hid (∀ (nm' th' ab' : Bool) (ol' el' : List Str) (wx : World) (ov' ev' : Value), MSt B g w wx key th' ab' (.slice none 0 0) ov' ev' ol' el' → MLaw (upTo Q key k ++ [Q[k].p]) nm' th' ab' ol' el' → ol'.length + el'.length ≤ ol.length + el.length + Q[k].l.length → MOut B g w wx Q key (k + 1) nm' ov') := fun nm' th' ab' ol' el' wx ov' ev' h1 h2 h3 => ⟨th', ab', ev', ol', el', h1, by rw [hup]; exact h2, by omega⟩
        have HLw : Hid (MLaw (upTo Q key k) nm th ab ol el) := hlaw
        have HSt : Hid (MSt B g w wr key th ab (.slice none 0 0) u7 ev ol el) := hst
        have HQ : Hid (∀ wx : World, Below w.heap.size w wx → Strs wx Q[k].v Q[k].l ∧ wx.cell? ⟨b, off + k * 3 + 2, none⟩ = some Q[k].v) := fun wx hb => by
          obtain ⟨b', off', e, _, _, h3, h4⟩ := (HS.out.below hb).at hlt
          cases e
          exact ⟨h4, h3⟩
        have e1 : wr.cell? ⟨g, 1, none⟩ = some (.bool th) := hst.m.cell 1
        have e2 : wr.cell? ⟨g, 2, none⟩ = some (.bool ab) := hst.m.cell 2
        have f1 : wr.frozen? ⟨g, 1, none⟩ = false := hst.m.frozen 1
        have f2 : wr.frozen? ⟨g, 2, none⟩ = false := hst.m.frozen 2
        have hbg : ¬ b = g := by
          rcases HS.out with h | ⟨b', off', e, hb', _⟩
          · subst h; simp at hlt
          · cases e; rw [HB.out] at hb'; have := hst.hz.1; omega
        have hgb : ¬ g = b := fun e => hbg e.symm
        obtain ⟨av, cv, hv, _⟩ := hq.at
        have hop : (Q[k].op = 0 ∨ Q[k].op = 2) ∨ (Q[k].op = 1 ∨ Q[k].op = 3) ∨ Q[k].op = 4 ∨ Q[k].op = 5 := by
          rcases hfit with h | h | h | h | h | h <;> have := h.1 <;> simp only [Rq.p] at this <;> omega
        have hp : Q[k].p.op = Q[k].op ∧ Q[k].p.l = Q[k].l := ⟨rfl, rfl⟩
        rw [hkey] at c0
        rw [hv] at c2 HQ
        clear hst hlaw hlen hq hkey hup hsl hfit hv HM
        generalize Q[k].p = pq at *
        generalize Q[k].l = l at *
        generalize Q[k].op = op at *
        rcases hop with hop | hop | hop | hop
        · have HOP : Hid (pq.op = 0 ∨ pq.op = 2) := by rw [hp.1]; exact hop
          have HST1 : Hid (MSt B g w (wr.setCell ⟨g, 1, none⟩ (.bool true)) key true ab (.slice none 0 0) u7 ev ol el) := HSt.out.put (HSt.out.m.setTh true)
          have HI0 : Hid (MInn B g w (wr.setCell ⟨g, 1, none⟩ (.bool true)) l key 0 ab u7 ev ol el) := ⟨ol, HST1.out, fun s => by simp, Nat.le_refl _⟩
          rcases hop with rfl | rfl
          all_goals
            go_wp2
            generalize wr.setCell ⟨g, 1, none⟩ (.bool true) = W1 at *
            clear c0 c1 c2 e1 e2 f1 f2 hbel HSt HST1
            generalize wr = wA at *
            go_loopw [7, 41] (fun ov i wr => ∃ j : Nat, j ≤ l.length ∧ i = .int .i64 j ∧ Hid (MInn B g w wr l key j ab ov ev ol el)) (fun _ i _ => l.length - (intOf i).toNat)
            case atStart => exact ⟨0, Nat.zero_le _, rfl, HI0⟩
            case round =>
              obtain ⟨j, hj, rfl, HI⟩ := hrel
              clear HI0
              obtain ⟨ol', hst, hmem, hln⟩ := HI.out
              have hbel : Below w.heap.size w wr := by rw [HB.out]; exact hst.bel
              obtain ⟨hstr, c2⟩ := HQ.out wr hbel
              obtain ⟨av', cv', e, hat⟩ := hstr.at
              cases e
              by_cases hjl : j < l.length
              · obtain ⟨b2, o2, rfl, cj⟩ := hat j hjl
                have hcall := insert10 B u7 ol' l[j] wr hst.oo hst.os (by omega) hst.B_le
                have HSTEP : Hid (∀ v' l' w', Insd B wr w' u7 v' ol' l' l[j] → MInn B g w w' l key (j + 1) ab v' ev ol el) := fun v' l' w' hi => MInn.step hst hmem hln hjl hi
                clear hst hmem hln hat hstr HI hbel
                generalize l[j] = y at *
                go_wp2_with (first | (go_at_call 10; refine hcall.mono ?_; rintro e w2 ⟨v', l', rfl, hins⟩))
                go_roundw
                case rel => exact ⟨j + 1, by omega, by go_num, HSTEP.out _ _ _ hins⟩
                case measure => simp [intOf]; omega
              · obtain rfl : j = l.length := by omega
                have HN : Hid (MOut B g w wr Q key (k + 1) true u7) := HNx.out true true ab ol' el wr u7 ev hst (HLw.out.eq pq HOP.out (fun s => by rw [hmem, List.take_length, hp.2])) (by omega)
                clear hst hmem hln hat hstr HI hbel c2
                go_wp2
                go_roundw
                case rel => exact ⟨k + 1, true, by omega, rfl, by go_num, HN⟩
                case measure => simp [intOf]; omega
        · have HOP : Hid (pq.op = 1 ∨ pq.op = 3) := by rw [hp.1]; exact hop
          have HI0 : Hid (MInE B g w wr l key 0 th ab u7 ol el) := ⟨ev, el, HSt.out, fun s => by simp, Nat.le_refl _⟩
          rcases hop with rfl | rfl
          all_goals
            go_wp2
            clear c0 c1 c2 e1 e2 f1 f2 hbel HSt
            generalize wr = wA at *
            go_loopw [64] (fun i wr => ∃ j : Nat, j ≤ l.length ∧ i = .int .i64 j ∧ Hid (MInE B g w wr l key j th ab u7 ol el)) (fun i _ => l.length - (intOf i).toNat)
            case atStart => exact ⟨0, Nat.zero_le _, rfl, HI0⟩
            case round =>
              obtain ⟨j, hj, rfl, HI⟩ := hrel
              clear HI0
              obtain ⟨ev', el', hst, hmem, hln⟩ := HI.out
              have hbel : Below w.heap.size w wr := by rw [HB.out]; exact hst.bel
              obtain ⟨hstr, c2⟩ := HQ.out wr hbel
              obtain ⟨av', cv', e, hat⟩ := hstr.at
              cases e
              by_cases hjl : j < l.length
              · obtain ⟨b2, o2, rfl, cj⟩ := hat j hjl
                have e4 : wr.cell? ⟨g, 4, none⟩ = some ev' := hst.m.cell 4
                have hcall : ∀ wx : World, OwnS B wx ev' el' → B ≤ wx.heap.size → Calls Try.prog 10 #[ev', encStr l[j]] wx fun e w' => RetI B wx ev' el' l[j] e w' := fun wx h1 h2 => insert10 B ev' el' l[j] wx h1 hst.es (by omega) h2
                have HSTEP : Hid (∀ v' l' w', Insd B wr w' ev' v' el' l' l[j] → MInE B g w (w'.setCell ⟨g, 4, none⟩ v') l key (j + 1) th ab u7 ol el ∧ w'.cell? ⟨g, 4, none⟩ = some ev' ∧ w'.frozen? ⟨g, 4, none⟩ = false) := fun v' l' w' hi => by
                  have hm : MAt w' g key th ab (.slice none 0 0) ev' := hst.m.kept (hi.kept.block g hst.m.lt fun e => hst.d2 g e.symm rfl)
                  exact ⟨MInE.step hst hmem hln hjl hi, hm.cell 4, hm.frozen 4⟩
                have HO4 : Hid (OwnS B wr ev' el' ∧ B ≤ wr.heap.size) := ⟨hst.eo, hst.B_le⟩
                have j1 : (0 : Int) ≤ (j : Int) := by omega
                have j2 : (j : Int) < (l.length : Int) := by omega
                clear hst hmem hln hat hstr HI hbel
                generalize l[j] = y at *
                go_wp2_with fail
                go_region_with (go_at_call 10; refine (hcall wr.drew HO4.out.1 HO4.out.2).mono ?_; rintro e w2 ⟨v', l', rfl, hins⟩; obtain ⟨av2, cv2, rfl⟩ := hins.own.slice; have hin2 := HSTEP.out _ _ _ (insd_drew hins); have x4 := hin2.2.1; have y4 := hin2.2.2; have HM4 := (show Hid _ from hin2.1); clear hin2 hins)
                all_goals
                  go_wp2
                  go_roundw
                  case rel => exact ⟨j + 1, by omega, by go_num, HM4⟩
                  case measure => simp [intOf]; omega
              · obtain rfl : j = l.length := by omega
                have HN : Hid (MOut B g w wr Q key (k + 1) nm u7) := HNx.out nm th ab ol el' wr u7 ev' hst (HLw.out.ne pq HOP.out (fun s => by rw [hmem, List.take_length, hp.2])) (by omega)
                clear hst hmem hln hat hstr HI hbel c2
                go_wp2
                go_roundw
                case rel => exact ⟨k + 1, nm, by omega, rfl, by go_num, HN⟩
                case measure => simp [intOf]; omega
        · subst hop
          have HST1 : Hid (MSt B g w (wr.setCell ⟨g, 1, none⟩ (.bool true)) key true ab (.slice none 0 0) u7 ev ol el) := HSt.out.put (HSt.out.m.setTh true)
          have HN : Hid (MOut B g w (wr.setCell ⟨g, 1, none⟩ (.bool true)) Q key (k + 1) nm u7) := HNx.out nm true ab ol el _ u7 ev HST1.out (HLw.out.four pq hp.1) (by omega)
          clear HST1 HSt
          go_wp2
          go_roundw
          case rel => exact ⟨k + 1, nm, by omega, rfl, by go_num, HN⟩
          case measure => simp [intOf]; omega
        · subst hop
          have HST1 : Hid (MSt B g w (wr.setCell ⟨g, 2, none⟩ (.bool true)) key th true (.slice none 0 0) u7 ev ol el) := HSt.out.put (HSt.out.m.setAb true)
          have HN : Hid (MOut B g w (wr.setCell ⟨g, 2, none⟩ (.bool true)) Q key (k + 1) nm u7) := HNx.out nm th true ol el _ u7 ev HST1.out (HLw.out.five pq hp.1) (by omega)
          clear HST1 HSt
          go_wp2
          go_roundw
          case rel => exact ⟨k + 1, nm, by omega, rfl, by go_num, HN⟩
          case measure => simp [intOf]; omega
      · have hb0 : (Q[k].key == key) = false := beq_false_of_ne hkey
        have HN : Hid (MOut B g w wr Q key (k + 1) nm u7) := ⟨th, ab, ev, ol, el, hst, by rw [upTo_miss hlt hkey]; exact hlaw, by rw [sumL_take hlt]; omega⟩
        clear hst hlaw hlen hq c1 c2 hkey
        generalize Q[k].key = y at *
        go_wp2
        go_roundw
        case rel => exact ⟨k + 1, nm, by omega, rfl, by go_num, HN⟩
        case measure => simp [intOf]; omega
    · obtain rfl : k = Q.length := by omega
      obtain ⟨th, ab, ev, ol, el, hst, hlaw, hlen⟩ := HM.out
      rw [upTo_all] at hlaw
      rw [List.take_length] at hlen
      have hol : ol.length ≤ 4096 := by have h1 := HF.out.1; rw [List.take_length] at h1; omega
      have HFt : Hid (∀ q ∈ Q, q.p.Fit) := fun q hq => (HF.out.2 q (by rw [List.take_length]; exact hq)).fit
      cases nm with
      | false =>
        have HR : Hid (RetM (Q.map Rq.p) key w (.returned (.agg #[encStr key, .bool th, .bool ab, .slice none 0 0, ev])) (five wr B (encStr key) (.bool th) (.bool ab) (.slice none 0 0) ev)) := retM hst HB.out (model_none hlaw hst.es HFt.out) (OwnS.nil _ _) (fun j hj => by cases hj) ⟨fun _ => rfl, fun _ => rfl⟩
        obtain ⟨zs, z1, z2⟩ := hst.z0
        have HH : Hid ((five wr B (encStr key) (.bool th) (.bool ab) (.slice none 0 0) ev).heap[B]? = some (.cells #[encStr key, .bool th, .bool ab, .slice none 0 0, ev] 35 (0, 0))) := five_heap z1 z2 _ _ _ _ _
        obtain ⟨cz, fz⟩ := hst.cells5
        obtain ⟨y0, x0⟩ := cz 0 (by omega)
        obtain ⟨y1, x1⟩ := cz 1 (by omega)
        obtain ⟨y2, x2⟩ := cz 2 (by omega)
        obtain ⟨y3, x3⟩ := cz 3 (by omega)
        obtain ⟨y4, x4⟩ := cz 4 (by omega)
        have f0 := fz 0
        have f1 := fz 1
        have f2 := fz 2
        have f3 := fz 3
        have f4 := fz 4
        have k0 : wr.cell? ⟨g, 0, none⟩ = some (encStr key) := hst.m.cell 0
        have k1 : wr.cell? ⟨g, 1, none⟩ = some (.bool th) := hst.m.cell 1
        have k2 : wr.cell? ⟨g, 2, none⟩ = some (.bool ab) := hst.m.cell 2
        have k3 : wr.cell? ⟨g, 3, none⟩ = some (.slice none 0 0) := hst.m.cell 3
        have k4 : wr.cell? ⟨g, 4, none⟩ = some ev := hst.m.cell 4
        obtain ⟨ae, ce, rfl⟩ := hst.eo.slice
        clear hst hlaw hlen cz fz z1 z2 HM
        go_wp2
        (try simp only [Exit.inBlock, Exit.then])
        exact bodyPost_ret (results_cell_row rfl _ _ B 35 #[encStr key, .bool th, .bool ab, .slice none 0 0, .slice ae el.length ce] (0, 0) _ rfl HH.out Try.underlying35 rfl Try.size35) rfl HR.out
      | true =>
        obtain ⟨ao, co, rfl⟩ := hst.oo.slice
        have HF0 : Hid (MFin B g w ((wr.alloc (.cells #[] 9)).setCell ⟨g, 3, none⟩ (.slice (some ⟨wr.heap.size, 0, none⟩) 0 0)) Q key th ab wr.heap.size 0 (.slice ao ol.length co) ev ol el [] 0) := MFin.start hst
        rw [World.setCell_alloc_past _ _ _ _ hst.m.lt] at HF0
        have HLw : Hid (MLaw (onKey (Q.map Rq.p) key) true th ab ol el) := hlaw
        have HES : Hid (Strict el) := hst.es
        have hgw : g < wr.heap.size := hst.m.lt
        have hne : ¬ g = wr.heap.size := by omega
        have e3 : wr.cell? ⟨g, 3, none⟩ = some (.slice none 0 0) := hst.m.cell 3
        have f3 : wr.frozen? ⟨g, 3, none⟩ = false := hst.m.frozen 3
        clear hst hlaw hlen HM
        go_wp2
        generalize (wr.setCell ⟨g, 3, none⟩ (.slice (some ⟨wr.heap.size, 0, none⟩) 0 0)).alloc (.cells #[] 9) = W1 at *
        generalize wr.heap.size = gv0 at *
        clear e3 f3 hne hgw
        generalize wr = wA at *
        go_loopw [92] (fun i wr => ∃ (k gv cv : Nat) (vl : List Str), k ≤ ol.length ∧ i = .int .i64 k ∧ Hid (MFin B g w wr Q key th ab gv cv (.slice ao ol.length co) ev ol el vl k)) (fun i _ => ol.length - (intOf i).toNat)
        case atStart => exact ⟨0, gv0, 0, [], Nat.zero_le _, rfl, HF0⟩
        case round =>
          obtain ⟨k, gv, cv, vl, hk2, rfl, HFn⟩ := hrel
          clear HF0
          have hst := HFn.out.st
          by_cases hkl : k < ol.length
          · have hbel : Below w.heap.size w wr := by rw [HB.out]; exact hst.bel
            obtain ⟨ao', co', e, hat⟩ := hst.oo.strs.at
            cases e
            obtain ⟨b2, o2, rfl, cj⟩ := hat k hkl
            have hcall := named24 a cap Q key ol[k] wr (HS.out.below hbel) hm (fun q hq => by
              obtain ⟨j, hj, rfl⟩ := List.mem_iff_getElem.1 hq
              have h1 := HF.out.1
              rw [List.take_length] at h1
              have h2 := sumL_le Q (j + 1)
              rw [sumL_take hj] at h2
              omega)
            have e3 : wr.cell? ⟨g, 3, none⟩ = some (.slice (some ⟨gv, 0, none⟩) vl.length cv) := hst.m.cell 3
            have f3 : wr.frozen? ⟨g, 3, none⟩ = false := hst.m.frozen 3
            have hvl : vl.length ≤ 4096 := by have := HFn.out.len; omega
            have hgw : g < wr.heap.size := hst.m.lt
            have hne : ¬ g = wr.heap.size := by omega
            have j1 : (0 : Int) ≤ (k : Int) := by omega
            have j2 : (k : Int) < (ol.length : Int) := by omega
            clear hst hat hbel
            by_cases hN : NamedBy Q key ol[k]
            · have hc2 : Calls Try.prog 24 #[.slice a Q.length cap, encStr key, encStr ol[k]] wr fun e w' => e = .returned (.bool true) ∧ wr = w' := hcall.mono (fun e w' ⟨⟨r, he, hr⟩, hw⟩ => ⟨by rw [he, hr.2 hN], hw⟩)
              have HSTEP : Hid (∀ (g' c' : Nat) (w' : World) (o : Obj), w'.ownsRow B 9 1 (.slice (some ⟨g', 0, none⟩) (vl.length + 1) c') (vl.length + 1) (vl.map encStr ++ [encStr ol[k]]) → (wr.drew.alloc o).grownBy w' (Value.slice (some ⟨gv, 0, none⟩) vl.length cv).ownBlock → ((Value.slice (some ⟨gv, 0, none⟩) vl.length cv).ownBlock = some g' ∨ g' = (wr.drew.alloc o).heap.size) → g' < w'.heap.size →
                MFin B g w (w'.setCell ⟨g, 3, none⟩ (.slice (some ⟨g', 0, none⟩) (vl.length + 1) c')) Q key th ab g' c' (.slice (some ⟨b2, o2, none⟩) ol.length co) ev ol el (vl ++ [ol[k]]) (k + 1) ∧ w'.cell? ⟨g, 3, none⟩ = some (.slice (some ⟨gv, 0, none⟩) vl.length cv) ∧ w'.frozen? ⟨g, 3, none⟩ = false) := fun g' c' w' o h1 h2 h3 h4 => MFin.step HFn.out hkl hN h1 h2 h3 h4
              obtain ⟨i0, hi, hz0, hz1, hz2⟩ := info_parts Try.info9
              have HI : Hid (Try.prog.info? 9 = some i0 ∧ i0.zero = some (.string ⟨#[]⟩) ∧ i0.size = 1 ∧ i0.bytes = 16) := ⟨hi, hz0, hz1, hz2⟩
              have HVO : Hid (OwnS B (wr.drew.alloc (.cells #[encStr ol[k]] 9)) (.slice (some ⟨gv, 0, none⟩) vl.length cv) vl) := World.ownsRow.alloc (World.ownsRow.drew HFn.out.vo) _
              have HC1 : Hid (∀ u ∈ [encStr ol[k]], u.oneCell' = true) := by intro u hu; rw [List.mem_singleton.1 hu]; rfl
              have HC2 : Hid (∀ j u, [encStr ol[k]][j]? = some u → (wr.drew.alloc (.cells #[encStr ol[k]] 9)).cell? ((⟨wr.heap.size, 0, none⟩ : Addr).add j) = some u) := by
                intro j u hu
                have := World.ownsRow.cells (World.ownsRow_lit (base := 0) (e := 9) (size := 1) wr.drew #[encStr ol[k]] 1 (Nat.zero_le _) (by unfold maxLen; omega) rfl) rfl j u hu
                exact this
              have HL3 : Hid (vl.length + 1 ≤ maxLen) := by show _ ≤ maxLen; unfold maxLen; omega
              have HL4 : Hid ((vl.length + 1) * 16 ≤ 140737488355328) := by show _ ≤ _; omega
              have HL5 : Hid (B ≤ (wr.drew.alloc (.cells #[encStr ol[k]] 9)).heap.size) := Nat.le_trans HFn.out.st.B_le (Nat.le_of_lt (size_alloc_lt wr.drew _))
              clear hcall hi hz0 hz1 hz2 hN
              generalize ol[k] = y at *
              go_wp2_with (first | (go_at_call 24; refine hc2.mono ?_; rintro e w2 ⟨rfl, rfl⟩))
              go_region_law (refine step_append_lies _ rfl (.tmp 103) (.tmp 108) 29 rfl B 9 i0 (.string ⟨#[]⟩) 1 16 Try.underlying29 HI.out.1 HI.out.2.1 HI.out.2.2.1 HI.out.2.2.2 rfl (by decide) (.slice (some ⟨gv, 0, none⟩) vl.length cv) vl.length (vl.map encStr) (by simp [Act.eval]) HVO.out ⟨wr.heap.size, 0, none⟩ 1 1 [encStr y] (by simp [Act.eval]) (by simp) HC2.out HC1.out (by decide) HL3.out HL4.out HL5.out _ rfl ?_; intro g' c' w' o1 o2' o3 o4; have HG := HSTEP.out _ _ _ _ o1 o2' o3 o4; have p4 := HG.2.1; have g4 := HG.2.2; have HG' := (show Hid _ from HG.1); clear HG o1 o2' o3 o4)
              all_goals
                go_wp2
                exact ⟨⟨k + 1, g', c', vl ++ [y], by omega, by go_num, HG'⟩, by simp [intOf]; omega⟩
            · have hc2 : Calls Try.prog 24 #[.slice a Q.length cap, encStr key, encStr ol[k]] wr fun e w' => e = .returned (.bool false) ∧ wr = w' := hcall.mono (fun e w' ⟨⟨r, he, hr⟩, hw⟩ => ⟨by rw [he]; cases r with | false => rfl | true => exact absurd (hr.1 rfl) hN, hw⟩)
              have HN : Hid (MFin B g w wr Q key th ab gv cv (.slice (some ⟨b2, o2, none⟩) ol.length co) ev ol el vl (k + 1)) := HFn.out.skip hkl hN
              clear hcall hN
              generalize ol[k] = y at *
              go_wp2_with (first | (go_at_call 24; refine hc2.mono ?_; rintro e w2 ⟨rfl, rfl⟩))
              go_roundw
              case rel => exact ⟨k + 1, gv, cv, vl, by omega, by go_num, HN⟩
              case measure => simp [intOf]; omega
          · obtain rfl : k = ol.length := by omega
            have hvm := HFn.out.vm
            rw [List.take_length] at hvm
            have HR : Hid (RetM (Q.map Rq.p) key w (.returned (.agg #[encStr key, .bool th, .bool ab, .slice (some ⟨gv, 0, none⟩) vl.length cv, ev])) (five wr B (encStr key) (.bool th) (.bool ab) (.slice (some ⟨gv, 0, none⟩) vl.length cv) ev)) := retM hst HB.out (model_some HLw.out HES.out HFn.out.vs hvm HFt.out) HFn.out.vo (fun j hj => by cases hj; exact Nat.ne_of_gt HFn.out.dv.1) ⟨(fun e => by cases e), (fun e => by cases e)⟩
            obtain ⟨zs, z1, z2⟩ := hst.z0
            have HH : Hid ((five wr B (encStr key) (.bool th) (.bool ab) (.slice (some ⟨gv, 0, none⟩) vl.length cv) ev).heap[B]? = some (.cells #[encStr key, .bool th, .bool ab, .slice (some ⟨gv, 0, none⟩) vl.length cv, ev] 35 (0, 0))) := five_heap z1 z2 _ _ _ _ _
            obtain ⟨cz, fz⟩ := hst.cells5
            obtain ⟨y0, x0⟩ := cz 0 (by omega)
            obtain ⟨y1, x1⟩ := cz 1 (by omega)
            obtain ⟨y2, x2⟩ := cz 2 (by omega)
            obtain ⟨y3, x3⟩ := cz 3 (by omega)
            obtain ⟨y4, x4⟩ := cz 4 (by omega)
            have f0 := fz 0
            have f1 := fz 1
            have f2 := fz 2
            have f3 := fz 3
            have f4 := fz 4
            have k0 : wr.cell? ⟨g, 0, none⟩ = some (encStr key) := hst.m.cell 0
            have k1 : wr.cell? ⟨g, 1, none⟩ = some (.bool th) := hst.m.cell 1
            have k2 : wr.cell? ⟨g, 2, none⟩ = some (.bool ab) := hst.m.cell 2
            have k3 : wr.cell? ⟨g, 3, none⟩ = some (.slice (some ⟨gv, 0, none⟩) vl.length cv) := hst.m.cell 3
            have k4 : wr.cell? ⟨g, 4, none⟩ = some ev := hst.m.cell 4
            obtain ⟨ae, ce, rfl⟩ := hst.eo.slice
            clear hst hvm cz fz z1 z2 HFn
            go_wp2
            (try simp only [Exit.inBlock, Exit.then])
            exact bodyPost_ret (results_cell_row rfl _ _ B 35 #[encStr key, .bool th, .bool ab, .slice (some ⟨gv, 0, none⟩) vl.length cv, .slice ae el.length ce] (0, 0) _ rfl HH.out Try.underlying35 rfl Try.size35) rfl HR.out

end Go.Proofs.Qxb6605201a.Rul
