import Derived.Test.Qxb6605201aRev
namespace Go.Proofs.Qxb6605201a.Rul
open Go.RowKit Go.Sort Go.Lib

/-- The rules, as rulesOf hands them back. -/
def RetR (e : Ending) (w' : World) (B : Nat) (P : List Pq) : Prop := ∃ (gr : Nat) (R : List RV),
  e = .returned (.tuple #[.slice (some ⟨gr, 0, none⟩) R.length R.length, .int .i64 ((sortC (P.map fun q => q.key)).filter fun k => (rsOf P k).th).length]) ∧ gr < w'.heap.size ∧
    (∀ i r, R[i]? = some r → RuleCells w' gr i r) ∧ (∀ r ∈ R, RuleOk B w' P r) ∧ R.map (fun r => r.k) = ((sortC (P.map fun q => q.key)).filter fun k => (rsOf P k).th) ++ ((sortC (P.map fun q => q.key)).filter fun k => !(rsOf P k).th)

theorem rsOf_perm {P P' : List Pq} (h : P.Perm P') (hf : ∀ q ∈ P, q.Fit) (k : Str) : rsOf P k = rsOf P' k := by
  have h1 := (rsOf_ok P k hf).same (G' := onKey P' k) (fun q => (List.Perm.filter _ h).mem_iff)
  exact h1.unique (rsOf_ok P' k (fun q hq => hf q (h.mem_iff.2 hq))) (rsOf_strict _ _) (rsOf_strict _ _)

theorem keys_eq {S Q : List Rq} (h : S.Perm Q) (ho : KeyOrd S) : compactUpTo (keysA S) S.length = sortC ((Q.map Rq.p).map fun q => q.key) := by
  have hsz : (keysA S).size = S.length := by simp [keysA]
  have hl := compactUpTo_law (keysA S) (fun i j hij hj => by
    rw [keysA_get S i (by omega), keysA_get S j (by omega)]
    exact ho i j (by omega) (by omega) hij) S.length (by omega)
  refine strict_unique hl.1 (sortC_law _).1 fun s => ?_
  rw [hl.2.1, (sortC_law _).2]
  constructor
  · rintro ⟨j, hj, rfl⟩
    rw [keysA_get S j hj]
    exact List.mem_map.2 ⟨S[j].p, List.mem_map.2 ⟨S[j], h.mem_iff.1 (List.getElem_mem hj), rfl⟩, rfl⟩
  · intro hs
    obtain ⟨q, h1, rfl⟩ := List.mem_map.1 hs
    obtain ⟨q', h2, rfl⟩ := List.mem_map.1 h1
    obtain ⟨j, hj, e⟩ := List.mem_iff_getElem.1 (h.mem_iff.2 h2)
    exact ⟨j, hj, by rw [keysA_get S j hj, e]; rfl⟩

theorem ret_of {B gin gs gr m : Nat} {w1 w w' : World} {S Q : List Rq} {F Bk : List RV} (h : Out B gin gs gr m w1 S S.length F Bk w) (hp : S.Perm Q) (ho : KeyOrd S) (hf : ∀ q ∈ Q, q.p.Fit) (hm : F.length + Bk.length = m)
    (hc : ∀ i r, (F ++ Bk)[i]? = some r → RuleCells w' gr i r) (hK : Kept (fun j => j = gr) w w') : RetR (.returned (.tuple #[.slice (some ⟨gr, 0, none⟩) m m, .int .i64 F.length])) w' B (Q.map Rq.p) ∧ Below B w1 w' := by
  have hfs : ∀ q ∈ S.map Rq.p, q.Fit := by
    intro q hq
    obtain ⟨q', h1, rfl⟩ := List.mem_map.1 hq
    exact hf q' (hp.mem_iff.1 h1)
  have hrs : ∀ k, rsOf (S.map Rq.p) k = rsOf (Q.map Rq.p) k := fun k => rsOf_perm (hp.map _) hfs k
  have hk := keys_eq hp ho
  have hkF := h.kF
  have hkB := h.kB
  rw [hk] at hkF hkB
  simp only [hrs] at hkF hkB
  have hgr : ∀ j ∈ bks (slicesOf (F ++ Bk)), j ≠ gr := by
    have n1 := (List.nodup_append.1 h.nd).2.1
    intro j hj e
    exact (List.nodup_append.1 n1).2.2 j hj gr (by simp) e
  refine ⟨⟨gr, F ++ Bk, ?_, ?_, hc, ?_, ?_⟩, ?_⟩
  · rw [List.length_append, hm, ← hkF, List.length_map]
  · exact Nat.lt_of_lt_of_le h.row.lt hK.size
  · intro r hr
    have h1 : RuleOk B w' (S.map Rq.p) r := (h.done r hr).kept fun j hj hl => hK.block j hl (hgr j (bks_slices hr j hj))
    exact ⟨by rw [h1.th, hrs], by rw [h1.ab, hrs], by rw [← hrs]; exact h1.vo, by rw [← hrs]; exact h1.vn, by rw [← hrs]; exact h1.eo⟩
  · rw [List.map_append, hkF, hkB]
  · refine h.bel.trans (below_kept hK ?_ (Nat.le_trans h.hB h.bel.size))
    rintro j e
    rw [e]; exact h.low

set_option maxHeartbeats 4000000 in
set_option maxRecDepth 100000 in
theorem rulesOf23 (B gin : Nat) (Q : List Rq) (w : World) (hR : ReqAt w gin Q) (hg : gin < w.heap.size) (hlen : Q.length ≤ 4096) (ho : ∀ q ∈ Q, OwnS B w q.v q.l) (nd : (bks (Q.map (·.v)) ++ [gin]).Nodup) (hB : B ≤ w.heap.size) (hf : ∀ q ∈ Q, q.p.Fit) (hsum : (Q.map fun q => q.l.length).sum ≤ 4096) :
    Calls Try.prog 23 #[.slice (some ⟨gin, 0, none⟩) Q.length Q.length] w fun e w' => RetR e w' B (Q.map Rq.p) ∧ Below B w w' := by
  have HR : Hid (ReqAt w gin Q) := hR
  have HIN : Hid ((∀ q ∈ Q, OwnS B w q.v q.l) ∧ (bks (Q.map (·.v)) ++ [gin]).Nodup ∧ B ≤ w.heap.size ∧ (∀ q ∈ Q, q.p.Fit) ∧ (Q.map fun q => q.l.length).sum ≤ 4096) := ⟨ho, nd, hB, hf, hsum⟩
  clear hR ho nd hB hf hsum
  obtain ⟨i0, hi, hz0, hz1, hz2⟩ := info_parts Try.info70
  go_enter Try.func23, Try.ntmps23
  go_wp2_with (at_make; refine wpList_make_full _ rfl (.tmp 13) (.tmp 13) 69 rfl w.heap.size 70 i0 _ 1 Try.underlying69 hi hz0 hz1 .i64 .i64 _ _ Q.length rfl rfl rfl rfl ?c1 ?c2 ?c3 ?_)
  case c1 => first | omega | (rw [hz2]; omega)
  case c2 => unfold maxLen; omega
  case c3 => exact Nat.le_refl _
  intro w1 hown hgrow
  have HP1 : Hid (PtrRow w1 w.heap.size gin Q.length 0) := PtrRow.made hown
  have HB1 : Hid (Below w.heap.size w w1) := (Below.refl _ _).grown hgrow (Nat.le_refl _) (by simp)
  clear hown hgrow hi hz0 hz1 hz2
  generalize hg0 : w.heap.size = gs at *
  have HG : Hid (w.heap.size = gs) := hg0
  clear hg0
  go_wp2
  go_loopw [17] (fun i wr => ∃ k : Nat, k ≤ Q.length ∧ i = .int .i64 k ∧ Hid (PtrRow wr gs gin Q.length k) ∧ Hid (Below gs w wr)) (fun i _ => Q.length - (intOf i).toNat)
  case atStart => exact ⟨0, Nat.zero_le _, rfl, HP1, HB1⟩
  case round =>
    obtain ⟨k, hk, rfl, HPk, HBk⟩ := hrel
    by_cases hlt : k < Q.length
    · obtain ⟨⟨x0, c0⟩, f0⟩ := HPk.out.at k hlt
      have hP2 := HPk.out.set hlt
      have HP2 : Hid (PtrRow (wr.setCell ⟨gs, k, none⟩ (.pointer (some ⟨gin, k * 3, none⟩))) gs gin Q.length (k + 1)) := hP2
      clear hP2
      have i1 : (0 : Int) ≤ (k : Int) := by omega
      have i2 : (k : Int) < (Q.length : Int) := by omega
      go_wp2
      go_roundw
      case rel => exact ⟨k + 1, by omega, by go_num, HP2, HBk.out.setCell (p := ⟨gs, k, none⟩) (Nat.le_refl _) _⟩
      case measure => simp [intOf]; omega
    · obtain rfl : k = Q.length := by omega
      have hsz : gin < wr.heap.size := Nat.lt_of_lt_of_le (by rw [HG.out]; exact hg) HBk.out.size
      have hRr : ReqAt wr gin Q := HR.out.kept (HBk.out.block gin (by omega))
      have hsort := sortS gs gin Q wr hRr hsz (by omega) hlen HPk.out
      clear hsz
      go_wp2_with fail
      refine hsort.mono ?_
      rintro e w3 ⟨rfl, S, hperm, hord, hptr, hK⟩
      have hR3 : ReqAt w3 gin Q := hRr.kept (hK.block gin (Nat.lt_of_lt_of_le (by rw [HG.out]; exact hg) HBk.out.size) (by omega))
      have HS3 : Hid (S.Perm Q ∧ KeyOrd S ∧ PtrTo w3 gs gin Q S ∧ ReqAt w3 gin Q ∧ Kept (fun j => j = gs) wr w3) := ⟨hperm, hord, hptr, hR3, hK⟩
      have hSl : Q.length = S.length := hperm.length_eq.symm
      clear hsort hperm hord hptr hK hR3 hRr
      clear HP1 HB1 hk hlt
      generalize wr = wA at *
      rw [hSl] at hlen
      have HSl : Hid (Q.length = S.length) := hSl
      go_wp2_with fail
      clear hSl
      go_loopw [6, 31] (fun c i wk => ∃ k : Nat, k ≤ S.length ∧ i = .int .i64 k ∧ c = .int .i64 (compactUpTo (keysA S) k).length ∧ Hid (Kept (fun _ => False) w3 wk)) (fun _ i _ => S.length - (intOf i).toNat)
      case atStart => exact ⟨0, Nat.zero_le _, rfl, rfl, Kept.refl _ _⟩
      case round =>
        obtain ⟨k, hk, rfl, rfl, HK4⟩ := hrel
        by_cases hlt : k < S.length
        · obtain ⟨a, ca, qa⟩ := HS3.out.2.2.1 k hlt
          have ca' : wr.cell? ⟨gs, k, none⟩ = some (.pointer (some ⟨gin, a * 3, none⟩)) := kept_cell HK4.out ca
          have ka' : wr.cell? ⟨gin, a * 3, none⟩ = some (encStr S[k].key) := kept_cell HK4.out (HS3.out.2.2.2.1 a _ qa).1
          clear ca qa
          have i1 : (0 : Int) ≤ (k : Int) := by omega
          have i2 : (k : Int) < (S.length : Int) := by omega
          have hcl : (compactUpTo (keysA S) (k + 1)).length = (compactUpTo (keysA S) k).length + (if keeps (keysA S) k = true then 1 else 0) := by
            rw [compactUpTo_succ, List.length_append]; split <;> rfl
          have hcb : (compactUpTo (keysA S) k).length ≤ k := compactUpTo_len _ _
          have hkeep := keeps_iff S k hlt
          generalize hcc : (compactUpTo (keysA S) k).length = cc at *
          cases k with
          | zero =>
            have hk1 : keeps (keysA S) 0 = true := by simp [keeps]
            rw [hk1, if_pos rfl] at hcl
            have HCL : Hid ((compactUpTo (keysA S) 1).length = cc + 1) := hcl
            clear hcl hkeep hcc
            go_wp2_with fail
            go_quiet (fail)
            have HK5 : Hid (Kept (fun _ => False) w3 (wr.drewN nq)) := HK4.out.drewN nq
            generalize wr.drewN nq = wq at *
            go_wp2
            go_roundw
            case rel => exact ⟨1, by omega, by go_num, by rw [HCL.out]; go_num, HK5⟩
            case measure => simp [intOf]; omega
          | succ k =>
            obtain ⟨b, cb, qb⟩ := HS3.out.2.2.1 k (by omega)
            have cb' : wr.cell? ⟨gs, k, none⟩ = some (.pointer (some ⟨gin, b * 3, none⟩)) := kept_cell HK4.out cb
            have kb' : wr.cell? ⟨gin, b * 3, none⟩ = some (encStr S[k].key) := kept_cell HK4.out (HS3.out.2.2.2.1 b _ qb).1
            clear cb qb
            have g1 : ((k : Int) + 1 == 0) = false := by rw [beq_eq_false_iff_ne]; omega
            have gw : IntKind.i64.wrap (k : Int) = (k : Int) := by rw [IntKind.wrap_i64]; omega
            have g2 : (0 : Int) ≤ (k : Int) := by omega
            have g3 : (k : Int) < (S.length : Int) := by omega
            have hkk : keeps (keysA S) (k + 1) = true ↔ S[k + 1].key ≠ S[k].key := by rw [hkeep]; simp
            by_cases hne : S[k + 1].key = S[k].key
            · rw [hne] at ka'
              rw [if_neg (by rw [hkk]; simp [hne])] at hcl
              have HCL : Hid ((compactUpTo (keysA S) (k + 1 + 1)).length = cc) := hcl
              clear hcl hkeep hcc hkk hne
              generalize S[k].key = y at *
              go_wp2_with fail
              go_quiet (fail)
              have HK5 : Hid (Kept (fun _ => False) w3 (wr.drewN nq)) := HK4.out.drewN nq
              generalize wr.drewN nq = wq at *
              go_wp2
              go_roundw
              case rel => exact ⟨k + 1 + 1, by omega, by go_num, by rw [HCL.out], HK5⟩
              case measure => simp [intOf]; omega
            · have hb0 : (S[k + 1].key == S[k].key) = false := beq_false_of_ne hne
              rw [if_pos (by rw [hkk]; exact hne)] at hcl
              have HCL : Hid ((compactUpTo (keysA S) (k + 1 + 1)).length = cc + 1) := hcl
              clear hcl hkeep hcc hkk hne
              generalize S[k + 1].key = x at *
              generalize S[k].key = y at *
              go_wp2_with fail
              go_quiet (fail)
              have HK5 : Hid (Kept (fun _ => False) w3 (wr.drewN nq)) := HK4.out.drewN nq
              generalize wr.drewN nq = wq at *
              go_wp2
              go_roundw
              case rel => exact ⟨k + 1 + 1, by omega, by go_num, by rw [HCL.out]; go_num, HK5⟩
              case measure => simp [intOf]; omega
        · obtain rfl : k = S.length := by omega
          have hm4 : (compactUpTo (keysA S) S.length).length ≤ 4096 := Nat.le_trans (compactUpTo_len _ _) hlen
          obtain ⟨i1, hi, hz0, hz1, hz2⟩ := info_parts Try.info39
          generalize wr = wC at *
          generalize hgr : wC.heap.size = gr at *
          go_wp2_with (at_make; refine wpList_make_full _ rfl (.tmp 56) (.tmp 56) 26 rfl gr 39 i1 _ 5 Try.underlying26 hi hz0 hz1 .i64 .i64 _ _ (compactUpTo (keysA S) S.length).length rfl rfl rfl rfl ?c1 ?c2 ?c3 ?_)
          case c1 => first | omega | (rw [hz2]; omega)
          case c2 => unfold maxLen; omega
          case c3 => omega
          intro w5 hown hgrow
          have h5 : Kept (fun _ => False) wC w5 := (kept_of_grown hgrow).mono fun k _ e => by simp at e
          have hkA : Kept (fun j => j = gs) w w3 := ((kept_of_below_lt HBk.out (by rw [HG.out]; exact Nat.le_refl _)).mono fun _ _ e => e.elim).trans HS3.out.2.2.2.2
          have hgs3 : gs < w3.heap.size := Nat.lt_of_lt_of_le HPk.out.lt HS3.out.2.2.2.2.size
          have HO0 : Hid (Out B gin gs gr (compactUpTo (keysA S) S.length).length w3 S 0 [] [] w5) := out_start HS3.out.1 HIN.out.1 HIN.out.2.1 hg HG.out hkA (HK4.out.trans h5) hgs3 (by rw [← hgr]; exact HK4.out.size) (RowR.made hown) (by rw [HG.out]; exact HIN.out.2.2.1)
          have HKA : Hid (Kept (fun j => j = gs) w w3) := hkA
          clear hown hgrow hi hz0 hz1 hz2 h5 hkA hgs3 HK4 hgr
          generalize hmm : (compactUpTo (keysA S) S.length).length = m at *
          have HM : Hid ((compactUpTo (keysA S) S.length).length = m) := hmm
          clear hmm
          go_wp2_with fail
          go_loopw [3, 9, 10] (fun t o i wr => ∃ (k : Nat) (F Bk : List RV), k ≤ S.length ∧ t = .int .i64 F.length ∧ o = .int .i64 ((m - Bk.length : Nat)) ∧ i = .int .i64 k ∧ Hid (Out B gin gs gr m w3 S k F Bk wr)) (fun _ _ i _ => S.length - (intOf i).toNat)
          case atStart => exact ⟨0, [], [], Nat.zero_le _, rfl, by simp, rfl, HO0⟩
          case round =>
            obtain ⟨k, F, Bk, hk, rfl, rfl, rfl, HO⟩ := hrel
            by_cases hlt : k < S.length
            · obtain ⟨a, ca, qa⟩ := HS3.out.2.2.1 k hlt
              have ca' : wr.cell? ⟨gs, k, none⟩ = some (.pointer (some ⟨gin, a * 3, none⟩)) := (World.cell?_of_block HO.out.hgs).trans ca
              have ka' : wr.cell? ⟨gin, a * 3, none⟩ = some (encStr S[k].key) := (World.cell?_of_block HO.out.hin).trans (HS3.out.2.2.2.1 a _ qa).1
              clear ca qa
              have i1 : (0 : Int) ≤ (k : Int) := by omega
              have i2 : (k : Int) < (S.length : Int) := by omega
              have hI0 := HO.out.begin S[k].key (ruleAt_alloc wr S[k].key) ((Below.refl _ _).alloc (Nat.le_refl _) _)
              have hOF : Hid (F.map (·.k) = ((compactUpTo (keysA S) k).filter fun k => (rsOf (S.map Rq.p) k).th) ∧ Bk.map (·.k) = ((compactUpTo (keysA S) k).filter fun k => !(rsOf (S.map Rq.p) k).th) ∧ (∀ a ∈ S.take k, ∀ b ∈ S.drop k, a.key ≠ b.key)) := ⟨HO.out.kF, HO.out.kB, HO.out.bnd⟩
              have HI0 : Hid (Inn B gin gs gr m w3 S k k F Bk wr.heap.size S[k].key (.slice none 0 0) (.slice none 0 0) (wr.alloc (.cells #[encStr S[k].key, .bool false, .bool false, .slice none 0 0, .slice none 0 0] 39))) := hI0
              clear hI0 HO
              go_wp2_with fail
              generalize wr.alloc (.cells #[encStr S[k].key, .bool false, .bool false, .slice none 0 0, .slice none 0 0] 39) = w6 at *
              generalize wr.heap.size = rb at *
              clear ca' ka'
              generalize hkey : S[k].key = key at *
              go_loopw [10] (fun i wr => ∃ (j : Nat) (vv ev : Value), k ≤ j ∧ j ≤ S.length ∧ i = .int .i64 j ∧ Hid (Inn B gin gs gr m w3 S k j F Bk rb key vv ev wr)) (fun i _ => S.length - (intOf i).toNat)
              case atStart => exact ⟨k, _, _, Nat.le_refl _, by omega, rfl, HI0⟩
              case round =>
                obtain ⟨j, vv, ev, hkj, hj, rfl, HI⟩ := hrel
                have hrk : wr.cell? ⟨rb, 0, none⟩ = some (encStr key) := HI.out.rule.cells.cell 0
                by_cases hcont : ∃ h : j < S.length, S[j].key = key
                · obtain ⟨hjl, hjk⟩ := hcont
                  obtain ⟨a, ca, qa⟩ := HS3.out.2.2.1 j hjl
                  have ca' : wr.cell? ⟨gs, j, none⟩ = some (.pointer (some ⟨gin, a * 3, none⟩)) := (World.cell?_of_block HI.out.hgs).trans ca
                  have ka' : wr.cell? ⟨gin, a * 3, none⟩ = some (encStr key) := by rw [← hjk]; exact (World.cell?_of_block HI.out.hin).trans (HS3.out.2.2.2.1 a _ qa).1
                  have i1' : (0 : Int) ≤ (j : Int) := by omega
                  have i2' : (j : Int) < (S.length : Int) := by omega
                  have oa' : wr.cell? ⟨gin, a * 3 + 1, none⟩ = some (.int .i64 S[j].op) := (World.cell?_of_block HI.out.hin).trans (HS3.out.2.2.2.1 a _ qa).2.1
                  have va' : wr.cell? ⟨gin, a * 3 + 2, none⟩ = some S[j].v := (World.cell?_of_block HI.out.hin).trans (HS3.out.2.2.2.1 a _ qa).2.2
                  clear ca qa
                  go_wp2_with fail
                  go_quiet (fail)
                  have hadd := (HI.out.drewN nq).add hjl hkj hjk (HIN.out.2.2.2.1 S[j] (HS3.out.1.mem_iff.1 (List.getElem_mem hjl))) (by have := (HS3.out.1.map fun q => q.l.length).sum_nat; rw [this]; exact HIN.out.2.2.2.2)
                  have ca2 : (wr.drewN nq).cell? ⟨gs, j, none⟩ = some (.pointer (some ⟨gin, a * 3, none⟩)) := ca'
                  have ka2 : (wr.drewN nq).cell? ⟨gin, a * 3, none⟩ = some (encStr key) := ka'
                  have oa2 : (wr.drewN nq).cell? ⟨gin, a * 3 + 1, none⟩ = some (.int .i64 S[j].op) := oa'
                  have va2 : (wr.drewN nq).cell? ⟨gin, a * 3 + 2, none⟩ = some S[j].v := va'
                  clear ca' ka' oa' va' hrk HI
                  generalize wr.drewN nq = wq at *
                  go_wp2_with fail
                  refine hadd.mono ?_
                  rintro e w7 ⟨rfl, vv', ev', hI7⟩
                  have HI7 : Hid (Inn B gin gs gr m w3 S k (j + 1) F Bk rb key vv' ev' w7) := hI7
                  clear hI7 hadd ca2 ka2 oa2 va2
                  go_wp2
                  go_roundw
                  case rel => exact ⟨j + 1, vv', ev', by omega, by omega, by go_num, HI7⟩
                  case measure => simp [intOf]; omega
                · have hjk : k < j := by
                    rcases Nat.lt_or_ge k j with h | h
                    · exact h
                    · obtain rfl : k = j := by omega
                      exact absurd ⟨hlt, hkey⟩ hcont
                  have hend : j = S.length ∨ ∃ h : j < S.length, S[j].key ≠ key := by
                    rcases Nat.lt_or_ge j S.length with h | h
                    · exact .inr ⟨h, fun e => hcont ⟨h, e⟩⟩
                    · exact .inl (by omega)
                  clear hcont
                  have hkeyj : ∀ t (ht : t < S.length), k ≤ t → t < j → S[t].key = key := fun t ht h1 h2 => HI.out.keys S[t] (by
                    rw [List.mem_iff_getElem]
                    exact ⟨t - k, by rw [List.length_drop, List.length_take]; omega, by simp only [List.getElem_drop, List.getElem_take]; congr 1; omega⟩)
                  have hb1 : ∀ a ∈ S.take j, ∀ b ∈ S.drop j, a.key ≠ b.key := bnd_next HS3.out.2.1 (by omega) hj (fun h => by
                    rcases hend with e | ⟨h1, e⟩
                    · omega
                    · rw [hkeyj (j - 1) (by omega) (by omega) (by omega)]; exact e)
                  have hfS : ∀ q ∈ S, q.p.Fit := fun q hq => HIN.out.2.2.2.1 q (HS3.out.1.mem_iff.1 hq)
                  have hsS : (S.map fun q => q.l.length).sum ≤ 4096 := by have := (HS3.out.1.map fun q => q.l.length).sum_nat; rw [this]; exact HIN.out.2.2.2.2
                  have hgk : compactUpTo (keysA S) j = compactUpTo (keysA S) k ++ [key] := by
                    have h1 := group_keys hlt (i0 := k) (by
                      rcases Nat.eq_zero_or_pos k with h | h
                      · exact .inl h
                      · exact .inr fun h2 => hOF.out.2.2 (S[k - 1]) (by rw [List.mem_iff_getElem]; exact ⟨k - 1, by rw [List.length_take]; omega, by simp⟩) S[k] (by rw [drop_cons hlt]; exact List.mem_cons_self)) j hjk hj (fun t ht a b => by rw [hkey]; exact hkeyj t ht a b)
                    rw [h1, hkey]
                  have hroom : F.length + Bk.length < m := by
                    have h1 := congrArg List.length hOF.out.1
                    have h2 := congrArg List.length hOF.out.2.1
                    rw [List.length_map] at h1 h2
                    have h3 := part_len (compactUpTo (keysA S) k) (fun k => (rsOf (S.map Rq.p) k).th)
                    have h4 := congrArg List.length hgk
                    rw [List.length_append, List.length_singleton] at h4
                    have h5 := compactUpTo_mono (keysA S) j S.length hj
                    rw [HM.out] at h5
                    omega
                  have HX : Hid ((∀ a ∈ S.take j, ∀ b ∈ S.drop j, a.key ≠ b.key) ∧ (∀ q ∈ S, q.p.Fit) ∧ (S.map fun q => q.l.length).sum ≤ 4096 ∧ compactUpTo (keysA S) j = compactUpTo (keysA S) k ++ [key]) := ⟨hb1, hfS, hsS, hgk⟩
                  clear hb1 hfS hsS hgk hkeyj
                  rcases hend with hend | ⟨hjl, hend⟩
                  · subst hend
                    clear hkey
                    go_wp2_with fail
                    go_quiet (fail)
                    have hIq := HI.out.drewN nq
                    generalize wr.drewN nq = wq at *
                    clear hrk HI
                    have hsx := hIq.sortEx hjk hj hOF.out.2.2 HX.out.1 HX.out.2.1 HX.out.2.2.1
                    clear hIq
                    go_wp2_with fail
                    refine hsx.mono ?_
                    rintro e w8 ⟨rfl, ⟨rk, rth, rab, va, vn, vc, ea, en, ec⟩, rfl, hcl⟩
                    clear hsx
                    have s0 : w8.cell? ⟨rb, 0, none⟩ = some (encStr rk) := hcl.cells.cell 0
                    have s1 : w8.cell? ⟨rb, 1, none⟩ = some (.bool rth) := hcl.cells.cell 1
                    have s2 : w8.cell? ⟨rb, 2, none⟩ = some (.bool rab) := hcl.cells.cell 2
                    have s3 : w8.cell? ⟨rb, 3, none⟩ = some (.slice va vn vc) := hcl.cells.cell 3
                    have s4 : w8.cell? ⟨rb, 4, none⟩ = some (.slice ea en ec) := hcl.cells.cell 4
                    cases rth with
                    | true =>
                      have ⟨⟨x0, g0⟩, f0⟩ := hcl.row.at (F.length * 5) (by omega)
                      have ⟨⟨x1, g1⟩, f1⟩ := hcl.row.at (F.length * 5 + 1) (by omega)
                      have ⟨⟨x2, g2⟩, f2⟩ := hcl.row.at (F.length * 5 + 2) (by omega)
                      have ⟨⟨x3, g3⟩, f3⟩ := hcl.row.at (F.length * 5 + 3) (by omega)
                      have ⟨⟨x4, g4⟩, f4⟩ := hcl.row.at (F.length * 5 + 4) (by omega)
                      have HO2 := hcl.front rfl hroom hOF.out.1 hOF.out.2.1 HX.out.2.2.2 HX.out.1
                      have HO3 : Hid (Out B gin gs gr m w3 S _ (F ++ [⟨rk, true, rab, va, vn, vc, ea, en, ec⟩]) Bk (((((w8.setCell ⟨gr, F.length * 5, none⟩ (encStr rk)).setCell ⟨gr, F.length * 5 + 1, none⟩ (.bool true)).setCell ⟨gr, F.length * 5 + 2, none⟩ (.bool rab)).setCell ⟨gr, F.length * 5 + 3, none⟩ (.slice va vn vc)).setCell ⟨gr, F.length * 5 + 4, none⟩ (.slice ea en ec))) := HO2
                      clear HO2 hcl
                      have j1 : (0 : Int) ≤ (F.length : Int) := by omega
                      have j2 : (F.length : Int) < (m : Int) := by omega
                      go_wp2
                      go_roundw
                      case rel => exact ⟨_, F ++ [⟨rk, true, rab, va, vn, vc, ea, en, ec⟩], Bk, hj, by simp, rfl, rfl, HO3⟩
                      case measure => simp [intOf]; omega
                    | false =>
                      obtain ⟨o, ho1, ho2⟩ : ∃ o, m - Bk.length = o + 1 ∧ m - 1 - Bk.length = o := ⟨m - 1 - Bk.length, by omega, rfl⟩
                      have ⟨⟨x0, g0⟩, f0⟩ := hcl.row.at (o * 5) (by omega)
                      have ⟨⟨x1, g1⟩, f1⟩ := hcl.row.at (o * 5 + 1) (by omega)
                      have ⟨⟨x2, g2⟩, f2⟩ := hcl.row.at (o * 5 + 2) (by omega)
                      have ⟨⟨x3, g3⟩, f3⟩ := hcl.row.at (o * 5 + 3) (by omega)
                      have ⟨⟨x4, g4⟩, f4⟩ := hcl.row.at (o * 5 + 4) (by omega)
                      have HO2 := hcl.back rfl hroom hOF.out.1 hOF.out.2.1 HX.out.2.2.2 HX.out.1
                      rw [ho2] at HO2
                      have HO3 : Hid (Out B gin gs gr m w3 S _ F (Bk ++ [⟨rk, false, rab, va, vn, vc, ea, en, ec⟩]) (((((w8.setCell ⟨gr, o * 5, none⟩ (encStr rk)).setCell ⟨gr, o * 5 + 1, none⟩ (.bool false)).setCell ⟨gr, o * 5 + 2, none⟩ (.bool rab)).setCell ⟨gr, o * 5 + 3, none⟩ (.slice va vn vc)).setCell ⟨gr, o * 5 + 4, none⟩ (.slice ea en ec))) := HO2
                      clear HO2 hcl
                      rw [ho1]
                      have j1 : (0 : Int) ≤ (o : Int) := by omega
                      have j2 : (o : Int) < (m : Int) := by omega
                      have ho3 : m - (Bk.length + 1) = o := by omega
                      have HO4 : Hid (m - (Bk.length + 1) = o) := ho3
                      clear ho1 ho2 ho3
                      go_wp2
                      go_roundw
                      case rel => exact ⟨_, F, Bk ++ [⟨rk, false, rab, va, vn, vc, ea, en, ec⟩], hj, rfl, by rw [List.length_append, List.length_singleton, HO4.out], rfl, HO3⟩
                      case measure => simp [intOf]; omega
                  · obtain ⟨a, ca, qa⟩ := HS3.out.2.2.1 j hjl
                    have ca' : wr.cell? ⟨gs, j, none⟩ = some (.pointer (some ⟨gin, a * 3, none⟩)) := (World.cell?_of_block HI.out.hgs).trans ca
                    have ka' : wr.cell? ⟨gin, a * 3, none⟩ = some (encStr S[j].key) := (World.cell?_of_block HI.out.hin).trans (HS3.out.2.2.2.1 a _ qa).1
                    have i1' : (0 : Int) ≤ (j : Int) := by omega
                    have i2' : (j : Int) < (S.length : Int) := by omega
                    have gk : (S[j].key == key) = false := beq_false_of_ne hend
                    clear ca qa hend hkey
                    generalize S[j].key = y at *
                    go_wp2_with fail
                    go_quiet (fail)
                    have hIq := HI.out.drewN nq
                    generalize wr.drewN nq = wq at *
                    clear hrk HI ca' ka' gk i1' i2'
                    have hsx := hIq.sortEx hjk hj hOF.out.2.2 HX.out.1 HX.out.2.1 HX.out.2.2.1
                    clear hIq
                    go_wp2_with fail
                    refine hsx.mono ?_
                    rintro e w8 ⟨rfl, ⟨rk, rth, rab, va, vn, vc, ea, en, ec⟩, rfl, hcl⟩
                    clear hsx
                    have s0 : w8.cell? ⟨rb, 0, none⟩ = some (encStr rk) := hcl.cells.cell 0
                    have s1 : w8.cell? ⟨rb, 1, none⟩ = some (.bool rth) := hcl.cells.cell 1
                    have s2 : w8.cell? ⟨rb, 2, none⟩ = some (.bool rab) := hcl.cells.cell 2
                    have s3 : w8.cell? ⟨rb, 3, none⟩ = some (.slice va vn vc) := hcl.cells.cell 3
                    have s4 : w8.cell? ⟨rb, 4, none⟩ = some (.slice ea en ec) := hcl.cells.cell 4
                    cases rth with
                    | true =>
                      have ⟨⟨x0, g0⟩, f0⟩ := hcl.row.at (F.length * 5) (by omega)
                      have ⟨⟨x1, g1⟩, f1⟩ := hcl.row.at (F.length * 5 + 1) (by omega)
                      have ⟨⟨x2, g2⟩, f2⟩ := hcl.row.at (F.length * 5 + 2) (by omega)
                      have ⟨⟨x3, g3⟩, f3⟩ := hcl.row.at (F.length * 5 + 3) (by omega)
                      have ⟨⟨x4, g4⟩, f4⟩ := hcl.row.at (F.length * 5 + 4) (by omega)
                      have HO2 := hcl.front rfl hroom hOF.out.1 hOF.out.2.1 HX.out.2.2.2 HX.out.1
                      have HO3 : Hid (Out B gin gs gr m w3 S _ (F ++ [⟨rk, true, rab, va, vn, vc, ea, en, ec⟩]) Bk (((((w8.setCell ⟨gr, F.length * 5, none⟩ (encStr rk)).setCell ⟨gr, F.length * 5 + 1, none⟩ (.bool true)).setCell ⟨gr, F.length * 5 + 2, none⟩ (.bool rab)).setCell ⟨gr, F.length * 5 + 3, none⟩ (.slice va vn vc)).setCell ⟨gr, F.length * 5 + 4, none⟩ (.slice ea en ec))) := HO2
                      clear HO2 hcl
                      have j1 : (0 : Int) ≤ (F.length : Int) := by omega
                      have j2 : (F.length : Int) < (m : Int) := by omega
                      go_wp2
                      go_roundw
                      case rel => exact ⟨_, F ++ [⟨rk, true, rab, va, vn, vc, ea, en, ec⟩], Bk, hj, by simp, rfl, rfl, HO3⟩
                      case measure => simp [intOf]; omega
                    | false =>
                      obtain ⟨o, ho1, ho2⟩ : ∃ o, m - Bk.length = o + 1 ∧ m - 1 - Bk.length = o := ⟨m - 1 - Bk.length, by omega, rfl⟩
                      have ⟨⟨x0, g0⟩, f0⟩ := hcl.row.at (o * 5) (by omega)
                      have ⟨⟨x1, g1⟩, f1⟩ := hcl.row.at (o * 5 + 1) (by omega)
                      have ⟨⟨x2, g2⟩, f2⟩ := hcl.row.at (o * 5 + 2) (by omega)
                      have ⟨⟨x3, g3⟩, f3⟩ := hcl.row.at (o * 5 + 3) (by omega)
                      have ⟨⟨x4, g4⟩, f4⟩ := hcl.row.at (o * 5 + 4) (by omega)
                      have HO2 := hcl.back rfl hroom hOF.out.1 hOF.out.2.1 HX.out.2.2.2 HX.out.1
                      rw [ho2] at HO2
                      have HO3 : Hid (Out B gin gs gr m w3 S _ F (Bk ++ [⟨rk, false, rab, va, vn, vc, ea, en, ec⟩]) (((((w8.setCell ⟨gr, o * 5, none⟩ (encStr rk)).setCell ⟨gr, o * 5 + 1, none⟩ (.bool false)).setCell ⟨gr, o * 5 + 2, none⟩ (.bool rab)).setCell ⟨gr, o * 5 + 3, none⟩ (.slice va vn vc)).setCell ⟨gr, o * 5 + 4, none⟩ (.slice ea en ec))) := HO2
                      clear HO2 hcl
                      rw [ho1]
                      have j1 : (0 : Int) ≤ (o : Int) := by omega
                      have j2 : (o : Int) < (m : Int) := by omega
                      have ho3 : m - (Bk.length + 1) = o := by omega
                      have HO4 : Hid (m - (Bk.length + 1) = o) := ho3
                      clear ho1 ho2 ho3
                      go_wp2
                      go_roundw
                      case rel => exact ⟨_, F, Bk ++ [⟨rk, false, rab, va, vn, vc, ea, en, ec⟩], hj, rfl, by rw [List.length_append, List.length_singleton, HO4.out], rfl, HO3⟩
                      case measure => simp [intOf]; omega
            · obtain rfl : k = S.length := by omega
              have hFB : F.length + Bk.length = m := by
                have h1 := congrArg List.length HO.out.kF
                have h2 := congrArg List.length HO.out.kB
                rw [List.length_map] at h1 h2
                have h3 := part_len (compactUpTo (keysA S) S.length) (fun k => (rsOf (S.map Rq.p) k).th)
                rw [HM.out] at h3
                omega
              have hbw : Below B w w3 := ⟨HKA.out.os, HKA.out.tape, HKA.out.output, HKA.out.size, fun j hj => HKA.out.block j (by rw [HG.out]; have := HIN.out.2.2.1; omega) (by have := HIN.out.2.2.1; omega)⟩
              have hret := fun (w' : World) (hc : ∀ i r, (F ++ Bk)[i]? = some r → RuleCells w' gr i r) (hK : Kept (fun j => j = gr) wr w') => ret_of HO.out HS3.out.1 HS3.out.2.1 HIN.out.2.2.2.1 hFB hc hK
              by_cases hb0 : Bk.length = 0
              · have hFm : m = F.length := by omega
                have HF0 : Hid (Bk = []) := List.eq_nil_of_length_eq_zero hb0
                have HRet : Hid (∀ (w' : World), (∀ i r, (F ++ Bk)[i]? = some r → RuleCells w' gr i r) → Kept (fun j => j = gr) wr w' → RetR (.returned (.tuple #[.slice (some ⟨gr, 0, none⟩) m m, .int .i64 F.length])) w' B (Q.map Rq.p) ∧ Below B w3 w') := hret
                have HBW : Hid (Below B w w3) := hbw
                clear hret hbw
                go_wp2_with fail
                refine (AnyQ.slices_Reverse_empty Try.revRule (some ⟨gr, 0, none⟩) 0 wr).mono ?_
                rintro e w9 ⟨rfl, rfl⟩
                go_wp2
                go_ret2
                have hfin := HRet.out _ (fun i r hi => HO.out.row.cellF (by rw [HF0.out, List.append_nil] at hi; exact hi)) (Kept.refl _ _)
                rw [hFm] at hfin
                exact ⟨hfin.1, HBW.out.trans hfin.2⟩
              · have HRet : Hid (∀ (w' : World), (∀ i r, (F ++ Bk)[i]? = some r → RuleCells w' gr i r) → Kept (fun j => j = gr) wr w' → RetR (.returned (.tuple #[.slice (some ⟨gr, 0, none⟩) m m, .int .i64 F.length])) w' B (Q.map Rq.p) ∧ Below B w3 w') := hret
                have HBW : Hid (Below B w w3) := hbw
                have hrev := rev35 gr m (m - F.length) F Bk wr HO.out.row hFB hm4
                rw [show Bk.length = m - F.length by omega] at hrev
                clear hret hbw
                go_wp2_with fail
                refine hrev.mono ?_
                rintro e w9 ⟨rfl, hc9, hK9⟩
                have HR9 := HRet.out w9 hc9 hK9
                have HR10 : Hid (RetR (.returned (.tuple #[.slice (some ⟨gr, 0, none⟩) m m, .int .i64 F.length])) w9 B (Q.map Rq.p) ∧ Below B w3 w9) := HR9
                clear HR9 hrev hc9 hK9
                go_wp2
                go_ret2
                exact ⟨HR10.out.1, HBW.out.trans HR10.out.2⟩
end Go.Proofs.Qxb6605201a.Rul
