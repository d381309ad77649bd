import Derived.Test.Qxb6605201aSel
import Derived.Test.Qxb6605201aRLaw
namespace Go.Proofs.Qxb6605201a.Rul
open Go.RowKit Go.Sort Go.Lib

/-- ZZSelectsLabels. -/
theorem zzSelects13 (B g1 o1 c1 g2 o2 c2 : Nat) (R1 R2 : List RV) (P : List Pq) (mo : Option Nat) (ls : List (Str × Str)) (w : World) (h1 : Row B g1 o1 w P R1) (h2 : Row B g2 o2 w P R2) (hs : Sets P) (hm : Labels w (.map mo) ls)
    (t1 : ∀ r ∈ R1, (rsOf P r.k).th = true) (t2 : ∀ r ∈ R2, (rsOf P r.k).th = false) (s2 : Strict (R2.map fun r => r.k)) (n1 : R1.length + R2.length ≤ 4096) (nl : ls.length ≤ 65536) :
    Calls Try.prog 13 #[.slice (some ⟨g1, o1, none⟩) R1.length c1, .slice (some ⟨g2, o2, none⟩) R2.length c2, .map mo] w fun e w' => RetSel P ls R1 R2 w e w' := by
  have hcall := selects27 B g1 o1 c1 g2 o2 c2 R1 R2 P mo ls w h1 h2 hs hm t1 t2 s2 n1 nl
  clear h1 h2 hs hm t1 t2 s2 nl
  go_enter Try.func13, Try.ntmps13
  go_wp2_with fail
  refine hcall.mono ?_
  rintro e w' ⟨sel, lk, cm, rfl, hsel, hlk, hb⟩
  have HF : Hid (RetSel P ls R1 R2 w (.returned (.tuple #[.bool sel, .int .i64 lk, .int .i64 cm])) w') := ⟨sel, lk, cm, rfl, hsel, hlk, hb⟩
  clear hsel hlk hb hcall
  go_wp2
  go_ret3
  exact HF.out

theorem rows_split {B gr : Nat} {w2 : World} {P : List Pq} {KL : List Str} {R : List RV} (h : Ruled B gr w2 P KL R) (hKL : Strict KL) : ∃ R1 R2, R = R1 ++ R2 ∧ R1.length = (KL.filter fun k => (rsOf P k).th).length ∧ Row B gr 0 w2 P R1 ∧ Row B gr (R1.length * 5) w2 P R2 ∧ (∀ r ∈ R1, (rsOf P r.k).th = true) ∧ (∀ r ∈ R2, (rsOf P r.k).th = false) ∧ Strict (R2.map fun r => r.k) ∧
    (∀ lab : Str → Option Str, (AllSay P lab R1 ∧ AllSay P lab R2) ↔ ∀ k ∈ KL, ruleSays (rsOf P k) (lab k) = true) := by
  generalize hT : (KL.filter fun k => (rsOf P k).th).length = T
  have hk := h.keys
  have hTl : T ≤ R.length := by rw [h.len, ← hT]; exact List.length_filter_le _ _
  have e1 : (R.take T).map (fun r => r.k) = KL.filter fun k => (rsOf P k).th := by
    rw [List.map_take, hk, ← hT, List.take_left]
  have e2 : (R.drop T).map (fun r => r.k) = KL.filter fun k => !(rsOf P k).th := by
    rw [List.map_drop, hk, ← hT, List.drop_left]
  have hl1 : (R.take T).length = T := by rw [List.length_take]; omega
  refine ⟨R.take T, R.drop T, (List.take_append_drop T R).symm, hl1, ⟨h.lt, fun i r hr f hf => ?_, fun r hr => h.ok r (List.mem_of_mem_take hr)⟩, ⟨h.lt, fun i r hr f hf => ?_, fun r hr => h.ok r (List.mem_of_mem_drop hr)⟩, fun r hr => ?_, fun r hr => ?_, ?_, fun lab => ?_⟩
  · rw [Nat.zero_add]
    rw [List.getElem?_take] at hr
    split at hr
    · exact h.cells i r hr f hf
    · cases hr
  · rw [List.getElem?_drop] at hr
    have := h.cells (T + i) r hr f hf
    rw [hl1, ← Nat.add_mul]
    exact this
  · have : r.k ∈ KL.filter fun k => (rsOf P k).th := by rw [← e1]; exact List.mem_map.2 ⟨r, hr, rfl⟩
    exact (List.mem_filter.1 this).2
  · have : r.k ∈ KL.filter fun k => !(rsOf P k).th := by rw [← e2]; exact List.mem_map.2 ⟨r, hr, rfl⟩
    have := (List.mem_filter.1 this).2
    simpa using this
  · rw [e2]; exact strict_filter hKL _
  · have a1 : AllSay P lab (R.take T) ↔ ∀ k ∈ KL.filter fun k => (rsOf P k).th, ruleSays (rsOf P k) (lab k) = true := by
      rw [← e1]; exact ⟨fun h k hk => by obtain ⟨r, hr, rfl⟩ := List.mem_map.1 hk; exact h r hr, fun h r hr => h _ (List.mem_map.2 ⟨r, hr, rfl⟩)⟩
    have a2 : AllSay P lab (R.drop T) ↔ ∀ k ∈ KL.filter fun k => !(rsOf P k).th, ruleSays (rsOf P k) (lab k) = true := by
      rw [← e2]; exact ⟨fun h k hk => by obtain ⟨r, hr, rfl⟩ := List.mem_map.1 hk; exact h r hr, fun h r hr => h _ (List.mem_map.2 ⟨r, hr, rfl⟩)⟩
    rw [a1, a2]
    constructor
    · rintro ⟨h1, h2⟩ k hk'
      cases ht : (rsOf P k).th with
      | true => exact h1 k (List.mem_filter.2 ⟨hk', ht⟩)
      | false => exact h2 k (List.mem_filter.2 ⟨hk', by rw [ht]; rfl⟩)
    · intro h3
      exact ⟨fun k hk' => h3 k (List.mem_filter.1 hk').1, fun k hk' => h3 k (List.mem_filter.1 hk').1⟩

set_option maxRecDepth 100000 in
set_option maxHeartbeats 8000000 in
theorem law_sel (a : Option Addr) (cap : Nat) (Q : List Rq) (mo : Option Nat) (ls : List (Str × Str)) (w : World) (hs : IsReqs w a Q) (hm : Q.length ≤ 9223372036854775807) (hl : Labels w (.map mo) ls) :
    Calls Try.prog 4 #[.slice a Q.length cap, .map mo] w fun e w' => e = .returned (.bool true) ∧ Below w.heap.size w w' := by
  have HS : Hid (IsReqs w a Q) := hs
  have HM : Hid (Labels w (.map mo) ls) := hl
  have hlen := fun ty => hl.lenRun ty
  clear hs hl
  go_enter Try.func4, Try.ntmps4
  by_cases q1 : 4096 < Q.length
  · have d1 : decide ((4096 : Int) < (Q.length : Int)) = true := by simp; omega
    go_wp2
    go_ret
    exact ⟨rfl, Below.refl _ _⟩
  have d1 : decide ((4096 : Int) < (Q.length : Int)) = false := by simp; omega
  by_cases q2 : 65536 < ls.length
  · have d2 : decide ((65536 : Int) < (ls.length : Int)) = true := by simp; omega
    go_wp2
    go_ret
    exact ⟨rfl, Below.refl _ _⟩
  have d2 : decide ((65536 : Int) < (ls.length : Int)) = false := by simp; omega
  go_wp2_with fail
  refine (reqsFit7 a cap Q w HS.out hm).mono ?_
  rintro e w' ⟨⟨r, rfl, hfit⟩, rfl⟩
  cases r
  · clear hfit
    go_wp2
    go_ret
    exact ⟨rfl, Below.refl _ _⟩
  have HF : Hid (FitTo Q Q.length) := (hfit rfl).2
  clear hfit d1 d2 hlen
  have hm4 : Q.length ≤ 4096 := by omega
  have hl6 : ls.length ≤ 65536 := by omega
  clear q1 q2 hm
  have HL : Hid (∀ q ∈ Q, q.l.length ≤ 4096) := fun q hq => by
    obtain ⟨j, hj, rfl⟩ := List.mem_iff_getElem.1 hq
    have h1 := HF.out.1
    rw [List.take_length] at h1
    have h2 := sumL_le Q (j + 1)
    rw [sumL_take hj] at h2
    omega
  have HFt : Hid (∀ q ∈ Q, q.p.Fit) := fun q hq => (HF.out.2 q (by rw [List.take_length]; exact hq)).fit
  go_wp2_with fail
  refine (copy8 w.heap.size a cap Q w HS.out hm4 HL.out rfl).mono ?_
  rintro e w1 ⟨gin, Q', rfl, hlen, hcpy⟩
  have hsame : Q'.map Rq.p = Q.map Rq.p := by rw [hcpy.same, hlen, List.take_length]
  have hfit' : ∀ q ∈ Q', q.p.Fit := by
    intro q hq
    have : q.p ∈ Q.map Rq.p := by rw [← hsame]; exact List.mem_map.2 ⟨q, hq, rfl⟩
    obtain ⟨q0, h0, e0⟩ := List.mem_map.1 this
    rw [← e0]
    exact HFt.out q0 h0
  have hsl : sumL Q ≤ 4096 := by have h1 := HF.out.1; rw [List.take_length] at h1; exact h1
  have hsum' : (Q'.map fun q => q.l.length).sum ≤ 4096 := by
    have e1 : ∀ L : List Rq, (L.map fun q => q.l.length) = (L.map Rq.p).map fun p => p.l.length := fun L => by rw [List.map_map]; rfl
    have h1 := hsl
    unfold sumL at h1
    rw [e1, hsame, ← e1]; exact h1
  have hc9 := zzRules9 w.heap.size gin Q' w1 hcpy.row.reqAt hcpy.row.lt (by omega) hcpy.own hcpy.nd hcpy.bel.size hfit' hsum'
  rw [hlen, hsame] at hc9
  have HB1 : Hid (Below w.heap.size w w1) := hcpy.bel
  have HSets : Hid (Sets (Q.map Rq.p)) := sets_of Q HFt.out hsl
  have HSay : Hid ((∀ q ∈ Q.map Rq.p, reqSays q (labOf ls q.key) = true) ↔ ∀ k ∈ sortC ((Q.map Rq.p).map fun q => q.key), ruleSays (rsOf (Q.map Rq.p) k) (labOf ls k) = true) := says_all (fun q hq => by obtain ⟨q', h1, rfl⟩ := List.mem_map.1 hq; exact HFt.out q' h1) (labOf ls)
  have hKlen : (sortC ((Q.map Rq.p).map fun q => q.key)).length ≤ 4096 := by
    have h1 : (sortC ((Q.map Rq.p).map fun q => q.key)).length ≤ ((Q.map Rq.p).map fun q => q.key).length := by
      have := compact_len ((((Q.map Rq.p).map fun q => q.key)).mergeSort fun x y => decide (x ≤ y)); rw [List.length_mergeSort] at this; exact this
    rw [List.length_map, List.length_map] at h1; omega
  clear hcpy hsum' hfit' hsame hlen
  generalize hP : Q.map Rq.p = P at *
  have HP : Hid (Q.map Rq.p = P) := hP
  clear hP
  go_wp2_with fail
  refine hc9.mono ?_
  rintro e w2 ⟨⟨gr, R, rfl, r1, r2, r3, r4⟩, hb2⟩
  clear hc9
  have hR : Ruled w.heap.size gr w2 P (sortC (P.map fun q => q.key)) R := ⟨r1, r2, r3, r4⟩
  clear r1 r2 r3 r4
  have hKs : Strict (sortC (P.map fun q => q.key)) := (sortC_law _).1
  generalize sortC (P.map fun q => q.key) = KL at *
  have hRl := hR.len
  obtain ⟨R1, R2, rfl, hR1, hw1, hw2, ht1, ht2, hs2, hall⟩ := rows_split hR hKs
  rw [← hR1]
  rw [List.length_append]
  rw [List.length_append] at hRl
  have HB2 : Hid (Below w.heap.size w w2) := HB1.out.trans hb2
  have HSel : Hid ((AllSay P (labOf ls) R1 ∧ AllSay P (labOf ls) R2) ↔ ∀ q ∈ P, reqSays q (labOf ls q.key) = true) := (hall (labOf ls)).trans HSay.out.symm
  have hn12 : R1.length + R2.length ≤ 4096 := by omega
  have hc13 := fun c1 g2 o2 c2 (h2 : Row w.heap.size g2 o2 w2.drew P R2) => zzSelects13 w.heap.size gr 0 c1 g2 o2 c2 R1 R2 P mo ls w2.drew ⟨hw1.lt, hw1.cells, fun r hr => ⟨(hw1.ok r hr).th, (hw1.ok r hr).ab, (hw1.ok r hr).vo, (hw1.ok r hr).vn, (hw1.ok r hr).eo⟩⟩ h2 HSets.out (HM.out.below HB2.out.drew) ht1 ht2 hs2 hn12 hl6
  have hcall : ∀ a2, (∃ o, a2 = some ⟨gr, o, none⟩ ∧ Row w.heap.size gr o w2.drew P R2) → Calls Try.prog 13 #[.slice (some ⟨gr, 0, none⟩) R1.length (R1.length + R2.length), .slice a2 R2.length R2.length, .map mo] w2.drew fun e w' => RetSel P ls R1 R2 w2.drew e w' := by
    rintro a2 ⟨o, rfl, h2⟩
    exact hc13 _ gr o _ h2
  have hdr : ∀ r ∈ R2, RuleOk w.heap.size w2.drew P r := fun r hr => ⟨(hw2.ok r hr).th, (hw2.ok r hr).ab, (hw2.ok r hr).vo, (hw2.ok r hr).vn, (hw2.ok r hr).eo⟩
  have HW2 : Hid (Row w.heap.size gr (R1.length * 5) w2.drew P R2) := ⟨hw2.lt, hw2.cells, hdr⟩
  have HW0 : Hid (R2 = [] → Row w.heap.size gr 0 w2.drew P R2) := fun h => ⟨hw2.lt, (fun i r hr => by rw [h] at hr; cases hr), hdr⟩
  clear hR hR1 hw1 hw2 ht1 ht2 hs2 hall HB1 hb2 hRl hKs HSay hKlen hc13 hdr
  have d3 : decide (((R1.length + R2.length : Nat) : Int) < (R1.length : Int)) = false := by simp; omega
  have i1 : (0 : Int) ≤ (R1.length : Int) := by omega
  have i2 : (R1.length : Int) ≤ ((R1.length + R2.length : Nat) : Int) := by omega
  rcases Classical.em (R2 = []) with rfl | hR2
  · go_wp2_with fail
    go_region_held3 (fun _ => True) (trivial) (first | (go_at_call 13; refine (hcall _ ⟨0, rfl, HW0.out trivial⟩).mono ?_; rintro e w3 ⟨sel, lk, cm, rfl, hsel, hlk, hb3⟩; have HQ := (show Hid _ from And.intro hsel hlk); have HB3 := (show Hid _ from hb3); clear hsel hlk hb3))
    have HBw : Hid (Below w.heap.size w w3) := HB2.out.drew.trans (HB3.out.mono HB2.out.size)
    clear hcall HW0 HW2 HB3 HB2
    go_wp2
    go_loopw [11, 57] (fun wv i wr => ∃ (k : Nat) (b : Bool), k ≤ Q.length ∧ wv = .bool b ∧ i = .int .i64 k ∧ Hid (b = true ↔ ∀ q ∈ Q.take k, reqSays q.p (labOf ls q.key) = true) ∧ Hid (Below w.heap.size w wr)) (fun _ i _ => Q.length - (intOf i).toNat)
    case atStart => exact ⟨0, true, Nat.zero_le _, rfl, rfl, ⟨fun _ q hq => by simp at hq, fun _ => rfl⟩, HBw⟩
    case round =>
      obtain ⟨k, b, hk, rfl, rfl, HK, HB⟩ := hrel
      by_cases hlt : k < Q.length
      · obtain ⟨bb, off, rfl, x0, x1, x2, hst⟩ := (HS.out.below HB.out).at hlt
        have hfit1 : Q[k].p.Fit1 := HF.out.2 _ (by rw [List.take_length]; exact List.getElem_mem hlt)
        have hcall := reqHolds14 Q[k] (labOf ls Q[k].key) wr hfit1 hst (HL.out _ (List.getElem_mem hlt))
        have hlook := (HM.out.below HB.out).look Q[k].key
        have HN1 : Hid (reqSays Q[k].p (labOf ls Q[k].key) = true → (b = true ↔ ∀ q ∈ Q.take (k + 1), reqSays q.p (labOf ls q.key) = true)) := fun h => by
          rw [HK.out, List.take_succ_eq_append_getElem hlt]
          constructor
          · intro h1 q hq
            rcases List.mem_append.1 hq with h2 | h2
            · exact h1 q h2
            · rw [List.mem_singleton.1 h2]; exact h
          · intro h1 q hq; exact h1 q (List.mem_append_left _ hq)
        have HN0 : Hid (reqSays Q[k].p (labOf ls Q[k].key) = false → (false = true ↔ ∀ q ∈ Q.take (k + 1), reqSays q.p (labOf ls q.key) = true)) := fun h => by
          refine ⟨(fun h1 => by cases h1), fun h1 => ?_⟩
          have h2 := h1 Q[k] (by rw [List.take_succ_eq_append_getElem hlt]; exact List.mem_append_right _ (List.mem_singleton.2 rfl))
          rw [h] at h2; cases h2
        obtain ⟨av, cv, hv, _⟩ := hst.at
        rw [hv] at x2 hcall
        have i5 : (0 : Int) ≤ (k : Int) := by omega
        have i6 : (k : Int) < (Q.length : Int) := by omega
        clear hst hfit1 hv HK
        generalize Q[k].key = key at *
        generalize Q[k].op = op at *
        generalize Q[k].l = l at *
        generalize Q[k].p = pq at *
        generalize (labOf ls key).getD [] = dv at *
        generalize (labOf ls key).isSome = ok at *
        cases hr : reqSays pq (labOf ls key) with
        | true =>
          rw [hr] at hcall
          have HN : Hid (b = true ↔ ∀ q ∈ Q.take (k + 1), reqSays q.p (labOf ls q.key) = true) := HN1.out hr
          clear HN1 HN0 hr
          go_wp2_with fail
          refine hcall.mono ?_
          rintro e w4 ⟨rfl, hb4⟩
          have HB4 : Hid (Below w.heap.size w w4) := HB.out.trans (hb4.mono HB.out.size)
          clear hb4 hlook x0 x1 x2
          go_wp2
          go_roundw
          case rel => exact ⟨k + 1, b, by omega, rfl, by go_num, HN, HB4⟩
          case measure => simp [intOf]; omega
        | false =>
          rw [hr] at hcall
          have HN : Hid (false = true ↔ ∀ q ∈ Q.take (k + 1), reqSays q.p (labOf ls q.key) = true) := HN0.out hr
          clear HN1 HN0 hr
          go_wp2_with fail
          refine hcall.mono ?_
          rintro e w4 ⟨rfl, hb4⟩
          have HB4 : Hid (Below w.heap.size w w4) := HB.out.trans (hb4.mono HB.out.size)
          clear hb4 hlook x0 x1 x2
          go_wp2
          go_roundw
          case rel => exact ⟨k + 1, false, by omega, rfl, by go_num, HN, HB4⟩
          case measure => simp [intOf]; omega
      · obtain rfl : k = Q.length := by omega
        have hsb : sel = b := by
          have h1 : (b = true ↔ ∀ q ∈ P, reqSays q (labOf ls q.key) = true) := by
            rw [HK.out, List.take_length, ← HP.out]
            constructor
            · intro h q hq
              obtain ⟨q', h2, rfl⟩ := List.mem_map.1 hq
              exact h q' h2
            · intro h q hq
              exact h q.p (List.mem_map.2 ⟨q, hq, rfl⟩)
          have h2 : sel = true ↔ b = true := (HQ.out.1.trans HSel.out).trans h1.symm
          exact Bool.eq_iff_iff.2 h2
        subst hsb
        have hlen := fun ty => (HM.out.below HB.out).lenRun ty
        clear HK
        cases sel with
        | false =>
          go_wp2
          go_ret
          exact ⟨rfl, HB.out⟩
        | true =>
          have hq := HQ.out.2 rfl
          clear HQ
          rcases hq with ⟨h1, rfl, rfl⟩ | ⟨h1, _⟩
          · have d5 : decide ((0 : Int) ≤ (ls.length : Int)) = true := by simp
            clear h1
            go_wp2
            go_ret
            exact ⟨rfl, HB.out⟩
          · exact absurd h1 (by simp)
  · go_wp2_with fail
    go_region_held3 (fun _ => True) (trivial) (first | (go_at_call 13; refine (hcall _ ⟨_, rfl, HW2.out⟩).mono ?_; rintro e w3 ⟨sel, lk, cm, rfl, hsel, hlk, hb3⟩; have HQ := (show Hid _ from And.intro hsel hlk); have HB3 := (show Hid _ from hb3); clear hsel hlk hb3))
    have HBw : Hid (Below w.heap.size w w3) := HB2.out.drew.trans (HB3.out.mono HB2.out.size)
    clear hcall HW0 HW2 HB3 HB2
    go_wp2
    go_loopw [11, 57] (fun wv i wr => ∃ (k : Nat) (b : Bool), k ≤ Q.length ∧ wv = .bool b ∧ i = .int .i64 k ∧ Hid (b = true ↔ ∀ q ∈ Q.take k, reqSays q.p (labOf ls q.key) = true) ∧ Hid (Below w.heap.size w wr)) (fun _ i _ => Q.length - (intOf i).toNat)
    case atStart => exact ⟨0, true, Nat.zero_le _, rfl, rfl, ⟨fun _ q hq => by simp at hq, fun _ => rfl⟩, HBw⟩
    case round =>
      obtain ⟨k, b, hk, rfl, rfl, HK, HB⟩ := hrel
      by_cases hlt : k < Q.length
      · obtain ⟨bb, off, rfl, x0, x1, x2, hst⟩ := (HS.out.below HB.out).at hlt
        have hfit1 : Q[k].p.Fit1 := HF.out.2 _ (by rw [List.take_length]; exact List.getElem_mem hlt)
        have hcall := reqHolds14 Q[k] (labOf ls Q[k].key) wr hfit1 hst (HL.out _ (List.getElem_mem hlt))
        have hlook := (HM.out.below HB.out).look Q[k].key
        have HN1 : Hid (reqSays Q[k].p (labOf ls Q[k].key) = true → (b = true ↔ ∀ q ∈ Q.take (k + 1), reqSays q.p (labOf ls q.key) = true)) := fun h => by
          rw [HK.out, List.take_succ_eq_append_getElem hlt]
          constructor
          · intro h1 q hq
            rcases List.mem_append.1 hq with h2 | h2
            · exact h1 q h2
            · rw [List.mem_singleton.1 h2]; exact h
          · intro h1 q hq; exact h1 q (List.mem_append_left _ hq)
        have HN0 : Hid (reqSays Q[k].p (labOf ls Q[k].key) = false → (false = true ↔ ∀ q ∈ Q.take (k + 1), reqSays q.p (labOf ls q.key) = true)) := fun h => by
          refine ⟨(fun h1 => by cases h1), fun h1 => ?_⟩
          have h2 := h1 Q[k] (by rw [List.take_succ_eq_append_getElem hlt]; exact List.mem_append_right _ (List.mem_singleton.2 rfl))
          rw [h] at h2; cases h2
        obtain ⟨av, cv, hv, _⟩ := hst.at
        rw [hv] at x2 hcall
        have i5 : (0 : Int) ≤ (k : Int) := by omega
        have i6 : (k : Int) < (Q.length : Int) := by omega
        clear hst hfit1 hv HK
        generalize Q[k].key = key at *
        generalize Q[k].op = op at *
        generalize Q[k].l = l at *
        generalize Q[k].p = pq at *
        generalize (labOf ls key).getD [] = dv at *
        generalize (labOf ls key).isSome = ok at *
        cases hr : reqSays pq (labOf ls key) with
        | true =>
          rw [hr] at hcall
          have HN : Hid (b = true ↔ ∀ q ∈ Q.take (k + 1), reqSays q.p (labOf ls q.key) = true) := HN1.out hr
          clear HN1 HN0 hr
          go_wp2_with fail
          refine hcall.mono ?_
          rintro e w4 ⟨rfl, hb4⟩
          have HB4 : Hid (Below w.heap.size w w4) := HB.out.trans (hb4.mono HB.out.size)
          clear hb4 hlook x0 x1 x2
          go_wp2
          go_roundw
          case rel => exact ⟨k + 1, b, by omega, rfl, by go_num, HN, HB4⟩
          case measure => simp [intOf]; omega
        | false =>
          rw [hr] at hcall
          have HN : Hid (false = true ↔ ∀ q ∈ Q.take (k + 1), reqSays q.p (labOf ls q.key) = true) := HN0.out hr
          clear HN1 HN0 hr
          go_wp2_with fail
          refine hcall.mono ?_
          rintro e w4 ⟨rfl, hb4⟩
          have HB4 : Hid (Below w.heap.size w w4) := HB.out.trans (hb4.mono HB.out.size)
          clear hb4 hlook x0 x1 x2
          go_wp2
          go_roundw
          case rel => exact ⟨k + 1, false, by omega, rfl, by go_num, HN, HB4⟩
          case measure => simp [intOf]; omega
      · obtain rfl : k = Q.length := by omega
        have hsb : sel = b := by
          have h1 : (b = true ↔ ∀ q ∈ P, reqSays q (labOf ls q.key) = true) := by
            rw [HK.out, List.take_length, ← HP.out]
            constructor
            · intro h q hq
              obtain ⟨q', h2, rfl⟩ := List.mem_map.1 hq
              exact h q' h2
            · intro h q hq
              exact h q.p (List.mem_map.2 ⟨q, hq, rfl⟩)
          have h2 : sel = true ↔ b = true := (HQ.out.1.trans HSel.out).trans h1.symm
          exact Bool.eq_iff_iff.2 h2
        subst hsb
        have hlen := fun ty => (HM.out.below HB.out).lenRun ty
        clear HK
        cases sel with
        | false =>
          go_wp2
          go_ret
          exact ⟨rfl, HB.out⟩
        | true =>
          have hq := HQ.out.2 rfl
          clear HQ
          have e5 : ((R1.length : Int) + (R2.length : Int) - (R1.length : Int)) = (R2.length : Int) := by omega
          rcases hq with ⟨h1, rfl, rfl⟩ | ⟨h1, rfl, h3, h4⟩
          · have d5 : decide ((R2.length : Int) ≤ (ls.length : Int)) = true := by simp; omega
            go_wp2
            go_ret
            exact ⟨rfl, HB.out⟩
          · have d5 : decide ((R2.length : Int) ≤ (ls.length : Int)) = false := by simp; omega
            have d6 : decide ((ls.length : Int) ≤ (cm : Int)) = true := by simp; omega
            have hbl := bitLen15 R2.length wr (by omega)
            have H4 : Hid (∀ b, R2.length < 2 ^ b → cm ≤ ls.length * (b + 1)) := h4
            clear h4
            go_wp2_with fail
            refine hbl.mono ?_
            rintro e w4 ⟨⟨c, rfl, hc1, hc2⟩, rfl⟩
            have h6 := H4.out c hc1
            have h7 : ls.length * (c + 1) ≤ 65536 * 4097 := Nat.mul_le_mul hl6 (by omega)
            have e7 : (ls.length : Int) * ((c : Int) + 1) = ((ls.length * (c + 1) : Nat) : Int) := by simp
            generalize ls.length * (c + 1) = N at *
            have d7 : decide ((cm : Int) ≤ (N : Int)) = true := by simp; omega
            clear hc1
            go_wp2
            go_ret
            exact ⟨rfl, HB.out⟩

end Go.Proofs.Qxb6605201a.Rul
