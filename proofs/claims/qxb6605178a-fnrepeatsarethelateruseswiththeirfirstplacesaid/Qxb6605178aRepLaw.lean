import Derived.Test.Qxb6605178aZZ
namespace Go.Proofs.Qxb6605178a
open Go.RowKit

theorem Try.info30 : (Try.prog.info? 30).map (fun i => (i.zero, i.size, i.bytes)) = some (some (.agg #[.string ⟨#[]⟩, .string ⟨#[]⟩, .int .i64 0]), 3, 40) := by kernel_rfl

theorem IsUses.below {w w' : World} {a : Option Addr} {U : List Use} (h : IsUses w a U) (hb : Below w.heap.size w w') : IsUses w' a U := by
  rcases h with h | ⟨b, off, ha, hlt, hc⟩
  · exact .inl h
  · refine .inr ⟨b, off, ha, Nat.lt_of_lt_of_le hlt hb.size, fun j u hu => ?_⟩
    rw [hb.cell (p := ⟨b, off + j * 3, none⟩) hlt, hb.cell (p := ⟨b, off + j * 3 + 1, none⟩) hlt, hb.cell (p := ⟨b, off + j * 3 + 2, none⟩) hlt]
    exact hc j u hu

set_option maxRecDepth 100000 in
set_option maxHeartbeats 400000 in
theorem law_nil (cap : Nat) (w : World) :
    Calls Try.prog 3 #[.slice none 0 cap] w fun e w' => e = .returned (.bool true) ∧ Below w.heap.size w w' := by
  have hneq := fun wx n c => run_neq_slice_nil_any (P := Try.prog) wx 22 25 none n c 0 0 Try.underlying22
  have HZ5 : Hid (Calls Try.prog 5 #[.slice none 0 cap] w fun e w' => RetB e (fun _ => True) ∧ w = w') := zzBytes5 none cap [] w (.inl rfl) (by simp)
  go_enter Try.func3, Try.ntmps3
  go_wp2_with fail
  refine HZ5.out.mono ?_
  rintro e w' ⟨⟨r, rfl, _⟩, rfl⟩
  clear HZ5
  cases r
  · go_wp2
    go_ret
    exact ⟨rfl, Below.refl _ _⟩
  go_wp2
  refine wp_loop_rounds 1 ?_
  rw [rounds_succ]
  go_wp2
  refine wp_loop_rounds 1 ?_
  rw [rounds_succ]
  go_wp2_with fail
  refine (zz_nil 0 w).mono ?_
  rintro e w2 ⟨⟨v, rfl, a2, c2, rfl, _⟩, hb2⟩
  have HB2 : Hid (Below w.heap.size w w2) := hb2
  clear hb2 hneq
  have hl : (reps [] 0).length = 0 := rfl
  rw [hl]
  clear hl
  go_wp2
  refine wp_loop_rounds 1 ?_
  rw [rounds_succ]
  go_wp2
  go_ret
  exact ⟨rfl, HB2⟩

theorem rep_found (U : List Use) (i m : Nat) (hi : i < U.length) (hm : m < i) (he : (U[m]'(by omega)).name = U[i].name) (hn : ∀ m' u, m' < m → U[m']? = some u → u.name ≠ U[i].name) :
    reps U (i + 1) = reps U i ++ [⟨U[i], (U[m]'(by omega)).file, (U[m]'(by omega)).line⟩] ∧ (reps U U.length)[(reps U i).length]? = some ⟨U[i], (U[m]'(by omega)).file, (U[m]'(by omega)).line⟩ := by
  have hf := first_of_least U i m U[i].name hm (by omega) he (fun m' hm' => hn m' _ hm' (List.getElem?_eq_getElem (by omega)))
  have h1 : reps U (i + 1) = reps U i ++ [⟨U[i], (U[m]'(by omega)).file, (U[m]'(by omega)).line⟩] := by rw [reps, repAt_some U i hi _ hf]
  refine ⟨h1, ?_⟩
  obtain ⟨t, ht⟩ := reps_prefix U (i + 1) (U.length - (i + 1))
  rw [show i + 1 + (U.length - (i + 1)) = U.length by omega] at ht
  rw [ht, h1]
  simp
theorem rep_skipped (U : List Use) (i : Nat) (hi : i < U.length) (hn : ∀ m' u, m' < i → U[m']? = some u → u.name ≠ U[i].name) : reps U (i + 1) = reps U i := by
  rw [reps, repAt_none U i hi (first_none U i _ (by omega) (fun m' hm' => hn m' _ hm' (List.getElem?_eq_getElem (by omega)))), List.append_nil]

theorem name_ne {a b : ByteArray} (h : ¬ a = b) : (a.toList == b.toList) = false := by
  rw [beq_eq_false_iff_ne]
  intro e
  rw [ByteArray.toList_eq, ByteArray.toList_eq] at e
  exact h (bytes_inj e)

set_option maxRecDepth 100000 in
set_option maxHeartbeats 1000000 in
theorem law_some (x : Addr) (cap : Nat) (U : List Use) (w : World) (hs : IsUses w (some x) U) (hm : U.length ≤ 9223372036854775807) (hsz : ∀ u ∈ U, u.name.size ≤ 9223372036854775807) :
    Calls Try.prog 3 #[.slice (some x) U.length cap] w fun e w' => e = .returned (.bool true) ∧ Below w.heap.size w w' := by
  have HS : Hid (IsUses w (some x) U) := hs
  have HZ : Hid (∀ u ∈ U, u.name.size ≤ 9223372036854775807) := hsz
  clear hs hsz
  have hneq := fun wx n c => run_neq_slice_nil_any (P := Try.prog) wx 22 25 (some x) n c 0 0 Try.underlying22
  obtain ⟨i0, hi, hz0, hz1, hz2⟩ := info_parts Try.info30
  go_enter Try.func3, Try.ntmps3
  go_wp2_with fail
  refine (zzBytes5 (some x) cap U w HS.out hm).mono ?_
  rintro e w' ⟨⟨r, rfl, _⟩, rfl⟩
  cases r
  · go_wp2
    go_ret
    exact ⟨rfl, Below.refl _ _⟩
  by_cases hbig : 4096 < U.length
  · go_wp2
    go_ret
    exact ⟨rfl, Below.refl _ _⟩
  clear hm
  go_wp2
  go_loopw [3, 4] (fun n i wr => ∃ (z : Int) (k : Nat), k ≤ U.length ∧ i = .int .i64 k ∧ n = .int .i64 z ∧ Hid (Below w.heap.size w wr)) (fun _ i _ => U.length - (intOf i).toNat)
  case atStart => exact ⟨0, 0, Nat.zero_le _, rfl, rfl, Below.refl _ _⟩
  case round =>
    obtain ⟨z, k, hk, rfl, rfl, HB1⟩ := hrel
    by_cases hlt : k < U.length
    · obtain ⟨b, off, hx, hb, h0, h1, h2⟩ := HS.out.at hlt
      cases hx
      have c0 := (HB1.out.cell (p := ⟨b, off + k * 3, none⟩) hb).trans h0
      have c1 := (HB1.out.cell (p := ⟨b, off + k * 3 + 1, none⟩) hb).trans h1
      clear h0 h1 h2 HS HZ hi hz0 hz1 hz2 hneq
      generalize U[k].name = nm at *
      generalize U[k].file = fl at *
      have i1 : (0 : Int) ≤ (k : Int) := by omega
      have i2 : (k : Int) < (U.length : Int) := by omega
      go_wp2
      go_quiet (fail)
      go_wp2
      go_roundw
      case rel => exact ⟨_, k + 1, by omega, by go_num, rfl, below_drewN HB1.out nq⟩
      case measure => simp [intOf]; omega
    · obtain rfl : k = U.length := by omega
      by_cases hz : 1048576 < z
      · go_wp2
        go_ret
        exact ⟨rfl, HB1⟩
      · go_wp2_with (at_make; refine wpList_make_full _ rfl (.tmp 45) (.tmp 45) 26 rfl wr.heap.size 30 i0 _ 3 Try.underlying26 hi hz0 hz1 .i64 .i64 _ _ U.length rfl rfl rfl rfl ?c1 ?c2 ?c3 ?_)
        case c1 => first | omega | (rw [hz2]; omega)
        case c2 => unfold maxLen; omega
        intro w1 hown hgrow
        have HF : Hid (Filled w1 wr.heap.size 30 [] (U.length * 3)) := Filled.made hown
        have HB2 : Hid (Below w.heap.size w w1) := HB1.out.grown hgrow HB1.out.size (by simp)
        have hgw : w.heap.size ≤ wr.heap.size := HB1.out.size
        clear hown hgrow hi hz0 hz1 hz2 hneq HB1
        generalize wr.heap.size = g at *
        clear hz
        generalize hW : w.heap.size = W at *
        have HW : Hid (w.heap.size = W) := hW
        clear hW
        go_wp2
        go_loopw [6] (fun i wr => ∃ k : Nat, k ≤ U.length ∧ i = .int .i64 k ∧ Hid (Filled wr g 30 (usesCells (U.take k)) ((U.length - k) * 3)) ∧ Hid (Below W w wr)) (fun i _ => U.length - (intOf i).toNat)
        case atStart => exact ⟨0, Nat.zero_le _, rfl, HF, HB2⟩
        case round =>
          obtain ⟨k, hk, rfl, HFk, HBk⟩ := hrel
          by_cases hlt : k < U.length
          · obtain ⟨b, off, hx, hb, h0, h1, h2⟩ := HS.out.at hlt
            cases hx
            rw [HW.out] at hb
            have c0 := (HBk.out.cell (p := ⟨b, off + k * 3, none⟩) hb).trans h0
            have c1 := (HBk.out.cell (p := ⟨b, off + k * 3 + 1, none⟩) hb).trans h1
            have c2 := (HBk.out.cell (p := ⟨b, off + k * 3 + 2, none⟩) hb).trans h2
            clear h0 h1 h2
            have hlen : (usesCells (U.take k)).length = k * 3 := by rw [usesCells_length, List.length_take, Nat.min_eq_left hk]
            have hm3 : (U.length - k) * 3 = (U.length - (k + 1)) * 3 + 1 + 1 + 1 := by omega
            have hF := HFk.out
            rw [hm3] at hF
            have ⟨⟨x0, g0⟩, f0⟩ := hF.at 0 (by omega)
            have ⟨⟨x1, g1⟩, f1⟩ := hF.at 1 (by omega)
            have ⟨⟨x2, g2⟩, f2⟩ := hF.at 2 (by omega)
            rw [hlen] at g0 f0 g1 f1 g2 f2
            rw [Nat.add_zero] at g0 f0
            have hF2 := ((hF.one _ hlen.symm (.string U[k].name)).one (k * 3 + 1) (by simp [hlen]) (.string U[k].file)).one (k * 3 + 2) (by simp [hlen]) (.int .i64 U[k].line)
            have HF2 : Hid (Filled (((wr.setCell ⟨g, k * 3, none⟩ (.string U[k].name)).setCell ⟨g, k * 3 + 1, none⟩ (.string U[k].file)).setCell ⟨g, k * 3 + 2, none⟩ (.int .i64 U[k].line)) g 30 (usesCells (U.take (k + 1))) ((U.length - (k + 1)) * 3)) := by
              show Filled _ _ _ _ _
              rw [usesCells_take U k hlt]
              simpa [useCells] using hF2
            clear hF2 hF hlen hm3 HFk HF HB2 HS HZ
            generalize U[k].name = nm at *
            generalize U[k].file = fl at *
            generalize U[k].line = ln at *
            have hbg : ¬ b = g := by omega
            have hgb : ¬ g = b := by omega
            have i1 : (0 : Int) ≤ (k : Int) := by omega
            have i2 : (k : Int) < (U.length : Int) := by omega
            go_wp2
            go_region_held3 (fun w' => w'.cell? ⟨b, off + k * 3, none⟩ = some (.string nm) ∧ w'.cell? ⟨b, off + k * 3 + 1, none⟩ = some (.string fl) ∧ w'.cell? ⟨b, off + k * 3 + 2, none⟩ = some (.int .i64 ln)) (go_keep) (fail)
            go_wp2
            go_roundw
            case rel => exact ⟨k + 1, by omega, by go_num, HF2, (((HBk.out.setCell (p := ⟨g, k * 3, none⟩) hgw _).setCell (p := ⟨g, k * 3 + 1, none⟩) hgw _).setCell (p := ⟨g, k * 3 + 2, none⟩) hgw _).drew⟩
            case measure => simp [intOf]; omega
          · obtain rfl : k = U.length := by omega
            have hr := HFk.out
            rw [Nat.sub_self, Nat.zero_mul, List.take_length] at hr
            have HU1 : Hid (IsUses wr (some ⟨g, 0, none⟩) U) := isUses_of_row hr.done
            have HB0 : Hid (Below w.heap.size w wr) := by rw [HW.out]; exact HBk
            have HSr : Hid (IsUses wr (some x) U) := HS.out.below HB0.out
            clear hr HFk HF HB2 HBk HS
            go_wp2_with fail
            refine (zz_some _ _ U wr HU1.out (by omega) HZ.out).mono ?_
            rintro e w3 ⟨⟨v, rfl, hreps⟩, hb3⟩
            have HB3 : Hid (Below w.heap.size w w3) := below_to HB0.out hb3 HB0.out.size
            have HS3 : Hid (IsUses w3 (some x) U) := HSr.out.below hb3
            clear hb3 HB0 HU1 HSr HZ
            obtain ⟨ar, cr, rfl, hat⟩ := hreps
            have HAT : Hid (reps U U.length = [] ∨ ∃ g, ar = some ⟨g, 0, none⟩ ∧ g < w3.heap.size ∧ RepAt w3 g (reps U U.length)) := hat
            have hrl := reps_le U U.length
            clear hat
            go_wp2
            go_loopw [8, 9] (fun kv iv wx => ∃ i : Nat, i ≤ U.length ∧ iv = .int .i64 i ∧ kv = .int .i64 ((reps U i).length : Nat) ∧ Hid (Below w3.heap.size w3 wx)) (fun _ iv _ => U.length - (intOf iv).toNat)
            case atStart => exact ⟨0, Nat.zero_le _, rfl, rfl, Below.refl _ _⟩
            case round =>
              obtain ⟨i, hi, rfl, rfl, HBo⟩ := hrel
              obtain ⟨wo, rfl⟩ : ∃ wo : World, wo = wr := ⟨_, rfl⟩
              by_cases hil : i < U.length
              · go_wp2
                go_loopw [10] (fun jv wx => ∃ m : Nat, m ≤ i ∧ jv = .int .i64 m ∧ Hid (∀ m' u, m' < m → U[m']? = some u → u.name ≠ U[i].name) ∧ Hid (Below w3.heap.size w3 wx)) (fun jv _ => i - (intOf jv).toNat)
                case atStart => exact ⟨0, Nat.zero_le _, rfl, fun _ _ h => by omega, HBo⟩
                case round =>
                  obtain ⟨m, hm, rfl, HN, HBi⟩ := hrel
                  by_cases hmi : m < i
                  · obtain ⟨b, off, hx, hb, h0, h1, h2⟩ := HS3.out.at hil
                    cases hx
                    obtain ⟨b', off', hx', _, h0', h1', h2'⟩ := HS3.out.at (show m < U.length by omega)
                    cases hx'
                    have ci0 := (HBi.out.cell (p := ⟨b, off + i * 3, none⟩) hb).trans h0
                    have ci1 := (HBi.out.cell (p := ⟨b, off + i * 3 + 1, none⟩) hb).trans h1
                    have ci2 := (HBi.out.cell (p := ⟨b, off + i * 3 + 2, none⟩) hb).trans h2
                    have cm0 := (HBi.out.cell (p := ⟨b, off + m * 3, none⟩) hb).trans h0'
                    have cm1 := (HBi.out.cell (p := ⟨b, off + m * 3 + 1, none⟩) hb).trans h1'
                    have cm2 := (HBi.out.cell (p := ⟨b, off + m * 3 + 2, none⟩) hb).trans h2'
                    clear h0 h1 h2 h0' h1' h2'
                    have i1 : (0 : Int) ≤ (m : Int) := by omega
                    have i2 : (m : Int) < (U.length : Int) := by omega
                    have i3 : (i : Int) < (U.length : Int) := by omega
                    have i4 : (m : Int) < (i : Int) := by omega
                    by_cases heq : (U[m]'(by omega)).name = U[i].name
                    · obtain ⟨hr1, hr2⟩ := rep_found U i m hil hmi heq HN.out
                      have HR1 : Hid (reps U (i + 1) = reps U i ++ [⟨U[i], (U[m]'(by omega)).file, (U[m]'(by omega)).line⟩]) := hr1
                      have hkl : (reps U i).length < (reps U U.length).length := (List.getElem?_eq_some_iff.1 hr2).1
                      obtain ⟨gr, har, hgr, hcells⟩ : ∃ g, ar = some ⟨g, 0, none⟩ ∧ g < w3.heap.size ∧ RepAt w3 g (reps U U.length) := by
                        rcases HAT.out with h | h
                        · rw [h] at hkl; simp at hkl
                        · exact h
                      subst har
                      obtain ⟨r0, r1, r2, r3, r4⟩ := (hcells.below HBi.out hgr) _ _ hr2
                      rw [heq] at cm0
                      have hme : ((m : Int) == (i : Int)) = false := by rw [beq_eq_false_iff_ne]; omega
                      clear hr1 hr2 hcells HAT HS3 HN heq HBo
                      generalize U[i].name = ni at *
                      generalize U[i].file = fi at *
                      generalize U[i].line = li at *
                      generalize (U[m]'(by omega)).file = fm at *
                      generalize (U[m]'(by omega)).line = lm at *
                      have hkl2 : ((reps U i).length : Int) < ((reps U U.length).length : Int) := by omega
                      have hrl2 : (reps U U.length).length ≤ 4096 := by omega
                      go_wp2
                      go_quiet (fail)
                      have q0 : (wr.drewN nq).cell? ⟨b, off + i * 3, none⟩ = some (.string ni) := by simpa using ci0
                      have q1 : (wr.drewN nq).cell? ⟨b, off + i * 3 + 1, none⟩ = some (.string fi) := by simpa using ci1
                      have q2 : (wr.drewN nq).cell? ⟨b, off + i * 3 + 2, none⟩ = some (.int .i64 li) := by simpa using ci2
                      have q3 : (wr.drewN nq).cell? ⟨b, off + m * 3 + 1, none⟩ = some (.string fm) := by simpa using cm1
                      have q4 : (wr.drewN nq).cell? ⟨b, off + m * 3 + 2, none⟩ = some (.int .i64 lm) := by simpa using cm2
                      have s0 : (wr.drewN nq).cell? ⟨gr, (reps U i).length * 5, none⟩ = some (.string ni) := by simpa using r0
                      have s1 : (wr.drewN nq).cell? ⟨gr, (reps U i).length * 5 + 1, none⟩ = some (.string fi) := by simpa using r1
                      have s2 : (wr.drewN nq).cell? ⟨gr, (reps U i).length * 5 + 2, none⟩ = some (.int .i64 li) := by simpa using r2
                      have s3 : (wr.drewN nq).cell? ⟨gr, (reps U i).length * 5 + 3, none⟩ = some (.string fm) := by simpa using r3
                      have s4 : (wr.drewN nq).cell? ⟨gr, (reps U i).length * 5 + 4, none⟩ = some (.int .i64 lm) := by simpa using r4
                      have HBq : Hid (Below w3.heap.size w3 (wr.drewN nq)) := below_drewN HBi.out nq
                      clear ci0 ci1 ci2 cm0 cm1 cm2 r0 r1 r2 r3 r4 HBi
                      generalize wr.drewN nq = wq at *
                      have hbq : b < wq.heap.size := Nat.lt_of_lt_of_le hb HBq.out.size
                      have hgq : gr < wq.heap.size := Nat.lt_of_lt_of_le hgr HBq.out.size
                      go_wp2
                      go_quiet (fail)
                      go_wp2
                      go_quiet (fail)
                      go_wp2
                      go_roundw
                      case rel =>
                        have hb4 : Below w3.heap.size w3 (wq.alloc (Obj.cells #[.string ni, .string fi, .int .i64 li, .string fm, .int .i64 lm] 34)) := HBq.out.alloc HBq.out.size _
                        exact ⟨i + 1, by omega, by go_num, by rw [HR1.out]; simp, below_drewN hb4 _⟩
                      case measure => simp [intOf]; omega
                    · have HNe : Hid (¬ (U[m]'(by omega)).name = U[i].name) := heq
                      have hne : ((U[m]'(by omega)).name.toList == U[i].name.toList) = false := name_ne heq
                      have HUm : Hid (U[m]? = some (U[m]'(by omega))) := List.getElem?_eq_getElem (by omega)
                      clear heq ci1 ci2 cm1 cm2 HS3 HAT
                      go_wp2
                      go_quiet (fail)
                      go_wp2
                      go_roundw
                      case rel =>
                        refine ⟨m + 1, by omega, by go_num, ?_, below_drewN HBi.out nq⟩
                        intro m' u hm' hu
                        rcases Nat.lt_or_ge m' m with h | h
                        · exact HN.out m' u h hu
                        · obtain rfl : m' = m := by omega
                          rw [HUm.out] at hu
                          cases hu
                          exact HNe.out
                      case measure => simp [intOf]; omega
                  · obtain rfl : m = i := by omega
                    have HR1 : Hid (reps U (m + 1) = reps U m) := rep_skipped U m hil HN.out
                    have hd : decide ((m : Int) < (m : Int)) = false := by simp
                    clear HS3 HAT HN HBo
                    go_wp2
                    go_quiet (fail)
                    go_wp2
                    go_roundw
                    case rel => exact ⟨m + 1, by omega, by go_num, by rw [HR1.out], below_drewN HBi.out _⟩
                    case measure => simp [intOf]; omega
              · obtain rfl : i = U.length := by omega
                clear HS3 HAT
                go_wp2
                go_ret
                exact ⟨rfl, below_to HB3.out HBo.out HB3.out.size⟩
end Go.Proofs.Qxb6605178a
