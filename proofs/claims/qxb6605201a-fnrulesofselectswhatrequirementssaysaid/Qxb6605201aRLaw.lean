import Derived.Test.Qxb6605201aRPre
namespace Go.Proofs.Qxb6605201a.Rul
open Go.RowKit Go.Sort Go.Lib

/-- The rules, as they stand in w2. -/
structure Ruled (B gr : Nat) (w2 : World) (P : List Pq) (KL : List Str) (R : List RV) : Prop where
  lt : gr < w2.heap.size
  cells : ∀ i r, R[i]? = some r → RuleCells w2 gr i r
  ok : ∀ r ∈ R, RuleOk B w2 P r
  keys : R.map (fun r => r.k) = (KL.filter fun k => (rsOf P k).th) ++ (KL.filter fun k => !(rsOf P k).th)

theorem Ruled.len {B gr : Nat} {w2 : World} {P : List Pq} {KL : List Str} {R : List RV} (h : Ruled B gr w2 P KL R) : R.length = KL.length := by
  have := congrArg List.length h.keys
  rw [List.length_map, List.length_append] at this
  rw [this]
  exact part_len KL fun k => (rsOf P k).th

set_option maxRecDepth 100000 in
set_option maxHeartbeats 8000000 in
theorem law_walk (a : Option Addr) (cap : Nat) (Q : List Rq) (w : World) (hs : IsReqs w a Q) (hm : Q.length ≤ 9223372036854775807) :
    Calls Try.prog 3 #[.slice a Q.length cap] w fun e w' => e = .returned (.bool true) ∧ Below w.heap.size w w' := by
  have HS : Hid (IsReqs w a Q) := hs
  clear hs
  go_enter Try.func3, Try.ntmps3
  go_wp2_with fail
  refine (zzBytes6 a cap Q w HS.out hm).mono ?_
  rintro e w' ⟨⟨r, rfl, _⟩, rfl⟩
  cases r
  · go_wp2
    go_ret
    exact ⟨rfl, Below.refl _ _⟩
  by_cases q1 : 4096 < Q.length
  · have d1 : decide ((4096 : Int) < (Q.length : Int)) = true := by simp; omega
    go_wp2
    go_ret
    exact ⟨rfl, Below.refl _ _⟩
  have d1 : decide ((4096 : Int) < (Q.length : Int)) = false := by simp; omega
  go_wp2_with fail
  refine (reqsFit7 a cap Q w HS.out hm).mono ?_
  rintro e w' ⟨⟨r, rfl, hfit⟩, rfl⟩
  cases r
  · clear hfit
    go_wp2
    go_ret
    exact ⟨rfl, Below.refl _ _⟩
  have HF : Hid (FitTo Q Q.length) := (hfit rfl).2
  clear hfit d1
  have hm4 : Q.length ≤ 4096 := by omega
  clear q1 hm
  have HL : Hid (∀ q ∈ Q, q.l.length ≤ 4096) := fun q hq => by
    obtain ⟨j, hj, rfl⟩ := List.mem_iff_getElem.1 hq
    have h1 := HF.out.1
    rw [List.take_length] at h1
    have h2 := sumL_le Q (j + 1)
    rw [sumL_take hj] at h2
    omega
  go_wp2_with fail
  refine (copy8 w.heap.size a cap Q w HS.out hm4 HL.out rfl).mono ?_
  rintro e w1 ⟨gin, Q', rfl, hlen, hcpy⟩
  have hsame : Q'.map Rq.p = Q.map Rq.p := by rw [hcpy.same, hlen, List.take_length]
  have hfit' : ∀ q ∈ Q', q.p.Fit := by
    intro q hq
    have : q.p ∈ Q.map Rq.p := by rw [← hsame]; exact List.mem_map.2 ⟨q, hq, rfl⟩
    obtain ⟨q0, h0, e0⟩ := List.mem_map.1 this
    rw [← e0]
    exact (HF.out.2 q0 (by rw [List.take_length]; exact h0)).fit
  have hsum' : (Q'.map fun q => q.l.length).sum ≤ 4096 := by
    have e1 : ∀ L : List Rq, (L.map fun q => q.l.length) = (L.map Rq.p).map fun p => p.l.length := fun L => by rw [List.map_map]; rfl
    have h1 := HF.out.1
    rw [List.take_length] at h1
    unfold sumL at h1
    rw [e1, hsame, ← e1]; exact h1
  have hc9 := zzRules9 w.heap.size gin Q' w1 hcpy.row.reqAt hcpy.row.lt (by omega) hcpy.own hcpy.nd hcpy.bel.size hfit' hsum'
  rw [hlen, hsame] at hc9
  have HB1 : Hid (Below w.heap.size w w1) := hcpy.bel
  clear hcpy hsum' hfit' hsame hlen
  generalize hP : Q.map Rq.p = P at *
  have HP : Hid (Q.map Rq.p = P) := hP
  clear hP
  go_wp2_with fail
  refine hc9.mono ?_
  rintro e w2 ⟨⟨gr, R, rfl, r1, r2, r3, r4⟩, hb2⟩
  clear hc9
  have hR : Ruled w.heap.size gr w2 P (sortC (P.map fun q => q.key)) R := ⟨r1, r2, r3, r4⟩
  clear r1 r2 r3 r4
  generalize hKL : sortC (P.map fun q => q.key) = KL at *
  have HKL : Hid (sortC (P.map fun q => q.key) = KL) := hKL
  clear hKL
  rw [hR.len]
  have hT : (KL.filter fun k => (rsOf P k).th).length ≤ KL.length := List.length_filter_le _ _
  have HR : Hid (Ruled w.heap.size gr w2 P KL R) := hR
  clear hR
  generalize hTT : (KL.filter fun k => (rsOf P k).th).length = T at *
  have HT : Hid ((KL.filter fun k => (rsOf P k).th).length = T) := hTT
  clear hTT
  have HB2 : Hid (Below w.heap.size w w2) := HB1.out.trans hb2
  clear hb2 HB1
  have HK0 : Hid (KSt w2.heap.size w2 w2 (.slice none 0 0) [] Q 0) := ⟨OwnS.nil _ _, List.Pairwise.nil, by simp, Nat.le_refl _, Below.refl _ _⟩
  go_wp2
  go_loopw [6, 32] (fun kv i wr => ∃ (k : Nat) (kl : List Str), k ≤ Q.length ∧ i = .int .i64 k ∧ Hid (KSt w2.heap.size w2 wr kv kl Q k)) (fun _ i _ => Q.length - (intOf i).toNat)
  case atStart => exact ⟨0, [], Nat.zero_le _, rfl, HK0⟩
  case round =>
    obtain ⟨k, kl, hk, rfl, HK⟩ := hrel
    clear HK0
    have hbw : Below w.heap.size w wr := HB2.out.trans (HK.out.bel.mono HB2.out.size)
    by_cases hlt : k < Q.length
    · obtain ⟨b, off, rfl, c0, _, _, _⟩ := (HS.out.below hbw).at hlt
      have hcall := insert10 w2.heap.size u6 kl Q[k].key wr HK.out.own HK.out.st (by have := HK.out.len; omega) HK.out.bel.size
      have HSTEP : Hid (∀ v' l' w', Insd w2.heap.size wr w' u6 v' kl l' Q[k].key → KSt w2.heap.size w2 w' v' l' Q (k + 1)) := fun v' l' w' hi => HK.out.step hlt HK.out.bel.size hi
      clear HK hbw
      generalize Q[k].key = y at *
      go_wp2_with (first | (go_at_call 10; refine hcall.mono ?_; rintro e w2 ⟨v', l', rfl, hins⟩))
      go_roundw
      case rel => exact ⟨k + 1, _, by omega, by go_num, HSTEP.out _ _ _ hins⟩
      case measure => simp [intOf]; omega
    · obtain rfl : k = Q.length := by omega
      have hkl : kl = KL := by rw [HK.out.all, HP.out, HKL.out]
      subst hkl
      obtain ⟨ak, ck, rfl⟩ := HK.out.own.slice
      have hn4 : kl.length ≤ 4096 := by have := HK.out.len; omega
      have d2 : decide ((kl.length : Int) < (T : Int)) = false := by simp; omega
      have d3 : decide ((T : Int) < 0) = false := by simp
      obtain ⟨i1, hi, hz0, hz1, hz2⟩ := info_parts Try.info35
      generalize wr = w3 at *
      generalize hgm : w3.heap.size = gm at *
      go_wp2_with (at_make; refine wpList_make_full _ rfl (.tmp 59) (.tmp 59) 33 rfl gm 35 i1 _ 5 Try.underlying33 hi hz0 hz1 .i64 .i64 _ _ kl.length rfl rfl rfl rfl ?c1 ?c2 ?c3 ?_)
      case c1 => first | omega | (rw [hz2]; omega)
      case c2 => unfold maxLen; omega
      case c3 => omega
      intro w4 hown hgrow
      have HM0 : Hid (ModSt w.heap.size gm kl.length P kl w3 w4 []) := ⟨RowM.made hown, by simp, by simp, by simp, (Below.refl _ _).grown hgrow (Nat.le_refl _) (by simp), by omega, hbw.size⟩
      clear hown hgrow hi hz0 hz1 hz2 d2 d3
      have HG : Hid (w3.heap.size = gm) := hgm
      clear hgm
      go_wp2
      go_loopw [9, 63] (fun mu i wr => ∃ Ms : List RV, Ms.length ≤ kl.length ∧ i = .int .i64 Ms.length ∧ mu = .int .i64 ((kl.take Ms.length).filter fun k => (rsOf P k).th).length ∧ Hid (ModSt w.heap.size gm kl.length P kl w3 wr Ms)) (fun _ i _ => kl.length - (intOf i).toNat)
      case atStart => exact ⟨[], Nat.zero_le _, rfl, rfl, HM0⟩
      case round =>
        obtain ⟨Ms, hMs, rfl, rfl, HM⟩ := hrel
        clear HM0
        by_cases hlm : Ms.length < kl.length
        · have hbr : Below w.heap.size w wr := hbw.trans (HM.out.bel.mono hbw.size)
          obtain ⟨ak', ck', e, hat⟩ := (HK.out.own.strs.below HM.out.bel).at
          cases e
          obtain ⟨b2, o2, rfl, cj⟩ := hat Ms.length hlm
          have hcall := model11 a cap Q kl[Ms.length] wr (HS.out.below hbr) hm4 HF.out
          rw [HP.out] at hcall
          obtain ⟨⟨z0, x0⟩, f0⟩ := HM.out.row.at (Ms.length * 5) (by omega)
          obtain ⟨⟨z1, x1⟩, f1⟩ := HM.out.row.at (Ms.length * 5 + 1) (by omega)
          obtain ⟨⟨z2, x2⟩, f2⟩ := HM.out.row.at (Ms.length * 5 + 2) (by omega)
          obtain ⟨⟨z3, x3⟩, f3⟩ := HM.out.row.at (Ms.length * 5 + 3) (by omega)
          obtain ⟨⟨z4, x4⟩, f4⟩ := HM.out.row.at (Ms.length * 5 + 4) (by omega)
          have hgw : gm < wr.heap.size := HM.out.row.lt
          have hfs := filter_step (p := fun k => (rsOf P k).th) hlm
          have hfl := filter_len_le (l := kl) (p := fun k => (rsOf P k).th) Ms.length
          clear hat
          have j1 : (0 : Int) ≤ (Ms.length : Int) := by omega
          have j2 : (Ms.length : Int) < (kl.length : Int) := by omega
          go_wp2_with fail
          refine hcall.mono ?_
          rintro e w5 ⟨vv, ev, rfl, ho, hn, heo, hb5, ⟨av, nv, cv, rfl⟩, ⟨ae, ne, ce, rfl⟩⟩
          have HST : Hid _ := HM.out.step hlm hlm ho hn heo hb5
          have y0 := (hb5.cell (p := ⟨gm, Ms.length * 5, none⟩) hgw).trans x0
          have y1 := (hb5.cell (p := ⟨gm, Ms.length * 5 + 1, none⟩) hgw).trans x1
          have y2 := (hb5.cell (p := ⟨gm, Ms.length * 5 + 2, none⟩) hgw).trans x2
          have y3 := (hb5.cell (p := ⟨gm, Ms.length * 5 + 3, none⟩) hgw).trans x3
          have y4 := (hb5.cell (p := ⟨gm, Ms.length * 5 + 4, none⟩) hgw).trans x4
          have g0 := (hb5.frozen (p := ⟨gm, Ms.length * 5, none⟩) hgw).trans f0
          have g1 := (hb5.frozen (p := ⟨gm, Ms.length * 5 + 1, none⟩) hgw).trans f1
          have g2 := (hb5.frozen (p := ⟨gm, Ms.length * 5 + 2, none⟩) hgw).trans f2
          have g3 := (hb5.frozen (p := ⟨gm, Ms.length * 5 + 3, none⟩) hgw).trans f3
          have g4 := (hb5.frozen (p := ⟨gm, Ms.length * 5 + 4, none⟩) hgw).trans f4
          clear hcall ho hn heo hb5 x0 x1 x2 x3 x4 f0 f1 f2 f3 f4 cj
          generalize hkk : kl[Ms.length] = key at *
          cases hth : (rsOf P key).th with
          | true =>
            rw [hth] at HST
            rw [if_pos hth] at hfs
            have HFS : Hid (((kl.take (Ms.length + 1)).filter fun k => (rsOf P k).th).length = ((kl.take Ms.length).filter fun k => (rsOf P k).th).length + 1) := hfs
            clear hfs
            go_wp2
            refine ⟨⟨_, ?_, ?_, ?_, HST⟩, ?_⟩
            · simp; omega
            · simp
            · rw [List.length_append, List.length_singleton, HFS.out]; go_num
            · simp [intOf]; omega
          | false =>
            rw [hth] at HST
            rw [if_neg (by rw [hth]; simp)] at hfs
            have HFS : Hid (((kl.take (Ms.length + 1)).filter fun k => (rsOf P k).th).length = ((kl.take Ms.length).filter fun k => (rsOf P k).th).length) := hfs
            clear hfs
            go_wp2
            refine ⟨⟨_, ?_, ?_, ?_, HST⟩, ?_⟩
            · simp; omega
            · simp
            · rw [List.length_append, List.length_singleton, HFS.out]
            · simp [intOf]; omega
        · have hMl : Ms.length = kl.length := by omega
          rw [hMl, List.take_length, HT.out]
          have HMs : Hid (Ms.length = kl.length) := hMl
          clear hMl hlm hMs
          generalize wr = w4 at *
          have hb4 : Below w.heap.size w w4 := hbw.trans (HM.out.bel.mono hbw.size)
          have HB4 : Hid (Below w.heap.size w w4) := hb4
          have HB24 : Hid (Below w2.heap.size w2 w4) := HK.out.bel.trans (HM.out.bel.mono HK.out.bel.size)
          clear hb4
          go_wp2
          go_loopw [11, 12, 89] (fun f b i wr => ∃ k : Nat, k ≤ kl.length ∧ i = .int .i64 k ∧ f = .int .i64 ((kl.take k).filter fun k => (rsOf P k).th).length ∧ b = .int .i64 ((T + ((kl.take k).filter fun k => !(rsOf P k).th).length : Nat)) ∧ Hid (Below w4.heap.size w4 wr)) (fun _ _ i _ => kl.length - (intOf i).toNat)
          case atStart => exact ⟨0, Nat.zero_le _, rfl, rfl, by simp, Below.refl _ _⟩
          case round =>
            obtain ⟨k, hk, rfl, rfl, rfl, HB5⟩ := hrel
            by_cases hkl : k < kl.length
            · have hkm : k < Ms.length := by rw [HMs.out]; exact hkl
              have hmk : Ms[k].k = kl[k] := by
                have h1 := congrArg (fun L => L[k]?) HM.out.keys
                simp only [List.getElem?_map, List.getElem?_eq_getElem hkm, Option.map_some] at h1
                rw [HMs.out, List.take_length, List.getElem?_eq_getElem hkl] at h1
                exact Option.some.inj h1
              have hmc : RuleCells wr gm k Ms[k] := fun f hf => (HB5.out.cell (p := ⟨gm, k * 5 + f, none⟩) HM.out.row.lt).trans (HM.out.row.cells (List.getElem?_eq_getElem hkm) f hf)
              have hmo := HM.out.ok _ (List.getElem_mem hkm)
              have hfs1 := filter_step (p := fun k => (rsOf P k).th) hkl
              have hfs2 := filter_step (p := fun k => !(rsOf P k).th) hkl
              have hb25 : Below w2.heap.size w2 wr := HB24.out.trans (HB5.out.mono HB24.out.size)
              have hgmw : gm < wr.heap.size := Nat.lt_of_lt_of_le HM.out.row.lt HB5.out.size
              have hgrw : gr < wr.heap.size := Nat.lt_of_lt_of_le HR.out.lt hb25.size
              have hlens := rsOf_len Q Ms[k].k
              rw [HP.out] at hlens
              have hsl : sumL Q ≤ 4096 := by have h1 := HF.out.1; rw [List.take_length] at h1; exact h1
              have j1 : (0 : Int) ≤ (k : Int) := by omega
              have j2 : (k : Int) < (kl.length : Int) := by omega
              cases hth : (rsOf P kl[k]).th with
              | true =>
                obtain ⟨r, hr, hrk, hrl⟩ := rule_front HR.out.keys hkl hth
                rw [if_pos hth] at hfs1
                rw [if_neg (by simp [hth])] at hfs2
                have HFS : Hid (((kl.take (k + 1)).filter fun k => (rsOf P k).th).length = ((kl.take k).filter fun k => (rsOf P k).th).length + 1 ∧ ((kl.take (k + 1)).filter fun k => !(rsOf P k).th).length = ((kl.take k).filter fun k => !(rsOf P k).th).length) := ⟨hfs1, hfs2⟩
                clear hfs1 hfs2
                rw [HR.out.len] at hrl
                have hro := HR.out.ok r (List.mem_of_getElem? hr)
                obtain ⟨s1, s2, s3, s4, s5, s6, s7⟩ := same_rules hro hmo (hrk.trans hmk.symm) hb25 HB5.out
                have hrc := HR.out.cells _ _ hr
                have hmt : Ms[k].th = true := by rw [hmo.th, hmk, hth]
                clear hro hmo hr
                generalize Ms[k] = m at *
                generalize hff : ((kl.take k).filter fun k => (rsOf P k).th).length = f at *
                generalize hbb : T + ((kl.take k).filter fun k => !(rsOf P k).th).length = bk at *
                have HFF : Hid (((kl.take k).filter fun k => (rsOf P k).th).length = f ∧ T + ((kl.take k).filter fun k => !(rsOf P k).th).length = bk) := ⟨hff, hbb⟩
                clear hff hbb
                generalize kl[k] = key at *
                obtain ⟨rk, rth, rab, rva, rvn, rvc, rea, ren, rec⟩ := r
                obtain ⟨mk, mth, mab, mva, mvn, mvc, mea, men, mec⟩ := m
                simp only at hrk hmk hmt s1 s2 s7 hlens
                subst hmt s1 s2 hrk hmk
                have hcall : Calls Try.prog 12 #[.agg #[encStr mk, .bool true, .bool rab, .slice rva rvn rvc, .slice rea ren rec], .agg #[encStr mk, .bool true, .bool rab, .slice mva mvn mvc, .slice mea men mec]] wr.drew fun e w' => e = .returned (.bool true) ∧ Below wr.heap.size wr w' :=
                  (sameRule12 mk true rab rva mva rea mea rvn mvn rvc mvc ren men rec mec _ _ wr.drew s3 s4 s5 s6 s7 (Nat.le_trans hlens.2 (by omega)) (Nat.le_trans hlens.1 (by omega))).mono fun e w' h => ⟨h.1, h.2.os, h.2.tape, h.2.output, h.2.size, h.2.block⟩
                have t0 : wr.cell? ⟨gr, f * 5, none⟩ = some (encStr mk) := (hb25.cell (p := ⟨gr, f * 5, none⟩) HR.out.lt).trans (hrc 0 (by omega))
                have t1 : wr.cell? ⟨gr, f * 5 + 1, none⟩ = some (.bool true) := (hb25.cell (p := ⟨gr, f * 5 + 1, none⟩) HR.out.lt).trans (hrc 1 (by omega))
                have t2 : wr.cell? ⟨gr, f * 5 + 2, none⟩ = some (.bool rab) := (hb25.cell (p := ⟨gr, f * 5 + 2, none⟩) HR.out.lt).trans (hrc 2 (by omega))
                have t3 : wr.cell? ⟨gr, f * 5 + 3, none⟩ = some (.slice rva rvn rvc) := (hb25.cell (p := ⟨gr, f * 5 + 3, none⟩) HR.out.lt).trans (hrc 3 (by omega))
                have t4 : wr.cell? ⟨gr, f * 5 + 4, none⟩ = some (.slice rea ren rec) := (hb25.cell (p := ⟨gr, f * 5 + 4, none⟩) HR.out.lt).trans (hrc 4 (by omega))
                have y0 : wr.cell? ⟨gm, k * 5, none⟩ = some (encStr mk) := hmc 0 (by omega)
                have y1 : wr.cell? ⟨gm, k * 5 + 1, none⟩ = some (.bool true) := hmc 1 (by omega)
                have y2 : wr.cell? ⟨gm, k * 5 + 2, none⟩ = some (.bool rab) := hmc 2 (by omega)
                have y3 : wr.cell? ⟨gm, k * 5 + 3, none⟩ = some (.slice mva mvn mvc) := hmc 3 (by omega)
                have y4 : wr.cell? ⟨gm, k * 5 + 4, none⟩ = some (.slice mea men mec) := hmc 4 (by omega)
                have j3 : (0 : Int) ≤ (f : Int) := by omega
                have j4 : (f : Int) < (kl.length : Int) := by omega
                clear hrc hmc s3 s4 s5 s6 s7 hlens hb25 hsl
                go_wp2_with fail
                go_region_held3 (fun w' => w'.cell? ⟨gr, f * 5, none⟩ = some (encStr mk) ∧ w'.cell? ⟨gr, f * 5 + 1, none⟩ = some (.bool true) ∧ w'.cell? ⟨gr, f * 5 + 2, none⟩ = some (.bool rab) ∧ w'.cell? ⟨gr, f * 5 + 3, none⟩ = some (.slice rva rvn rvc) ∧ w'.cell? ⟨gr, f * 5 + 4, none⟩ = some (.slice rea ren rec) ∧ w'.cell? ⟨gm, k * 5, none⟩ = some (encStr mk) ∧ w'.cell? ⟨gm, k * 5 + 1, none⟩ = some (.bool true) ∧ w'.cell? ⟨gm, k * 5 + 2, none⟩ = some (.bool rab) ∧ w'.cell? ⟨gm, k * 5 + 3, none⟩ = some (.slice mva mvn mvc) ∧ w'.cell? ⟨gm, k * 5 + 4, none⟩ = some (.slice mea men mec)) (go_keep)
                  (first | (go_at_call 12; refine hcall.mono ?_; rintro e w6 ⟨rfl, hb6⟩; have t0' := (hb6.cell (p := ⟨gr, f * 5, none⟩) hgrw).trans t0; have t1' := (hb6.cell (p := ⟨gr, f * 5 + 1, none⟩) hgrw).trans t1; have t2' := (hb6.cell (p := ⟨gr, f * 5 + 2, none⟩) hgrw).trans t2; have t3' := (hb6.cell (p := ⟨gr, f * 5 + 3, none⟩) hgrw).trans t3; have t4' := (hb6.cell (p := ⟨gr, f * 5 + 4, none⟩) hgrw).trans t4; have y0' := (hb6.cell (p := ⟨gm, k * 5, none⟩) hgmw).trans y0; have y1' := (hb6.cell (p := ⟨gm, k * 5 + 1, none⟩) hgmw).trans y1; have y2' := (hb6.cell (p := ⟨gm, k * 5 + 2, none⟩) hgmw).trans y2; have y3' := (hb6.cell (p := ⟨gm, k * 5 + 3, none⟩) hgmw).trans y3; have y4' := (hb6.cell (p := ⟨gm, k * 5 + 4, none⟩) hgmw).trans y4))
                go_wp2
                refine ⟨⟨k + 1, by omega, by go_num, ?_, ?_, HB5.out.trans (hb6.mono HB5.out.size)⟩, ?_⟩
                · rw [HFS.out.1]; try go_num
                · rw [HFS.out.2, ← HFF.out.2]; try go_num
                · simp [intOf]; omega
              | false =>
                obtain ⟨r, hr, hrk, hrl⟩ := rule_back HR.out.keys hkl hth
                rw [HT.out] at hr hrl
                rw [if_neg (by simp [hth])] at hfs1
                rw [if_pos (by simp [hth])] at hfs2
                have HFS : Hid (((kl.take (k + 1)).filter fun k => (rsOf P k).th).length = ((kl.take k).filter fun k => (rsOf P k).th).length ∧ ((kl.take (k + 1)).filter fun k => !(rsOf P k).th).length = ((kl.take k).filter fun k => !(rsOf P k).th).length + 1) := ⟨hfs1, hfs2⟩
                clear hfs1 hfs2
                rw [HR.out.len] at hrl
                have hro := HR.out.ok r (List.mem_of_getElem? hr)
                obtain ⟨s1, s2, s3, s4, s5, s6, s7⟩ := same_rules hro hmo (hrk.trans hmk.symm) hb25 HB5.out
                have hrc := HR.out.cells _ _ hr
                have hmt : Ms[k].th = false := by rw [hmo.th, hmk, hth]
                clear hro hmo hr
                generalize Ms[k] = m at *
                generalize hff : ((kl.take k).filter fun k => (rsOf P k).th).length = f at *
                generalize hbb : T + ((kl.take k).filter fun k => !(rsOf P k).th).length = bk at *
                have HFF : Hid (((kl.take k).filter fun k => (rsOf P k).th).length = f ∧ T + ((kl.take k).filter fun k => !(rsOf P k).th).length = bk) := ⟨hff, hbb⟩
                clear hff hbb
                generalize kl[k] = key at *
                obtain ⟨rk, rth, rab, rva, rvn, rvc, rea, ren, rec⟩ := r
                obtain ⟨mk, mth, mab, mva, mvn, mvc, mea, men, mec⟩ := m
                simp only at hrk hmk hmt s1 s2 s7 hlens
                subst hmt s1 s2 hrk hmk
                have hcall : Calls Try.prog 12 #[.agg #[encStr mk, .bool false, .bool rab, .slice rva rvn rvc, .slice rea ren rec], .agg #[encStr mk, .bool false, .bool rab, .slice mva mvn mvc, .slice mea men mec]] wr.drew fun e w' => e = .returned (.bool true) ∧ Below wr.heap.size wr w' :=
                  (sameRule12 mk false rab rva mva rea mea rvn mvn rvc mvc ren men rec mec _ _ wr.drew s3 s4 s5 s6 s7 (Nat.le_trans hlens.2 (by omega)) (Nat.le_trans hlens.1 (by omega))).mono fun e w' h => ⟨h.1, h.2.os, h.2.tape, h.2.output, h.2.size, h.2.block⟩
                have t0 : wr.cell? ⟨gr, bk * 5, none⟩ = some (encStr mk) := (hb25.cell (p := ⟨gr, bk * 5, none⟩) HR.out.lt).trans (hrc 0 (by omega))
                have t1 : wr.cell? ⟨gr, bk * 5 + 1, none⟩ = some (.bool false) := (hb25.cell (p := ⟨gr, bk * 5 + 1, none⟩) HR.out.lt).trans (hrc 1 (by omega))
                have t2 : wr.cell? ⟨gr, bk * 5 + 2, none⟩ = some (.bool rab) := (hb25.cell (p := ⟨gr, bk * 5 + 2, none⟩) HR.out.lt).trans (hrc 2 (by omega))
                have t3 : wr.cell? ⟨gr, bk * 5 + 3, none⟩ = some (.slice rva rvn rvc) := (hb25.cell (p := ⟨gr, bk * 5 + 3, none⟩) HR.out.lt).trans (hrc 3 (by omega))
                have t4 : wr.cell? ⟨gr, bk * 5 + 4, none⟩ = some (.slice rea ren rec) := (hb25.cell (p := ⟨gr, bk * 5 + 4, none⟩) HR.out.lt).trans (hrc 4 (by omega))
                have y0 : wr.cell? ⟨gm, k * 5, none⟩ = some (encStr mk) := hmc 0 (by omega)
                have y1 : wr.cell? ⟨gm, k * 5 + 1, none⟩ = some (.bool false) := hmc 1 (by omega)
                have y2 : wr.cell? ⟨gm, k * 5 + 2, none⟩ = some (.bool rab) := hmc 2 (by omega)
                have y3 : wr.cell? ⟨gm, k * 5 + 3, none⟩ = some (.slice mva mvn mvc) := hmc 3 (by omega)
                have y4 : wr.cell? ⟨gm, k * 5 + 4, none⟩ = some (.slice mea men mec) := hmc 4 (by omega)
                have j3 : (0 : Int) ≤ (bk : Int) := by omega
                have j4 : (bk : Int) < (kl.length : Int) := by omega
                clear hrc hmc s3 s4 s5 s6 s7 hlens hb25 hsl
                go_wp2_with fail
                go_region_held3 (fun w' => w'.cell? ⟨gr, bk * 5, none⟩ = some (encStr mk) ∧ w'.cell? ⟨gr, bk * 5 + 1, none⟩ = some (.bool false) ∧ w'.cell? ⟨gr, bk * 5 + 2, none⟩ = some (.bool rab) ∧ w'.cell? ⟨gr, bk * 5 + 3, none⟩ = some (.slice rva rvn rvc) ∧ w'.cell? ⟨gr, bk * 5 + 4, none⟩ = some (.slice rea ren rec) ∧ w'.cell? ⟨gm, k * 5, none⟩ = some (encStr mk) ∧ w'.cell? ⟨gm, k * 5 + 1, none⟩ = some (.bool false) ∧ w'.cell? ⟨gm, k * 5 + 2, none⟩ = some (.bool rab) ∧ w'.cell? ⟨gm, k * 5 + 3, none⟩ = some (.slice mva mvn mvc) ∧ w'.cell? ⟨gm, k * 5 + 4, none⟩ = some (.slice mea men mec)) (go_keep)
                  (first | (go_at_call 12; refine hcall.mono ?_; rintro e w6 ⟨rfl, hb6⟩; have t0' := (hb6.cell (p := ⟨gr, bk * 5, none⟩) hgrw).trans t0; have t1' := (hb6.cell (p := ⟨gr, bk * 5 + 1, none⟩) hgrw).trans t1; have t2' := (hb6.cell (p := ⟨gr, bk * 5 + 2, none⟩) hgrw).trans t2; have t3' := (hb6.cell (p := ⟨gr, bk * 5 + 3, none⟩) hgrw).trans t3; have t4' := (hb6.cell (p := ⟨gr, bk * 5 + 4, none⟩) hgrw).trans t4; have y0' := (hb6.cell (p := ⟨gm, k * 5, none⟩) hgmw).trans y0; have y1' := (hb6.cell (p := ⟨gm, k * 5 + 1, none⟩) hgmw).trans y1; have y2' := (hb6.cell (p := ⟨gm, k * 5 + 2, none⟩) hgmw).trans y2; have y3' := (hb6.cell (p := ⟨gm, k * 5 + 3, none⟩) hgmw).trans y3; have y4' := (hb6.cell (p := ⟨gm, k * 5 + 4, none⟩) hgmw).trans y4))
                go_wp2
                refine ⟨⟨k + 1, by omega, by go_num, ?_, ?_, HB5.out.trans (hb6.mono HB5.out.size)⟩, ?_⟩
                · rw [HFS.out.1]; try go_num
                · rw [HFS.out.2, ← HFF.out.2]; try go_num
                · simp [intOf]; omega
            · go_wp2
              go_ret
              exact ⟨rfl, HB4.out.trans (HB5.out.mono HB4.out.size)⟩

end Go.Proofs.Qxb6605201a.Rul
