import Derived.Test.Qxb6605178aReps
namespace Go.Proofs.Qxb6605178a
open Go.RowKit

/-- Block g of the world holds just the cells cs, of elements e. -/
def RowIs (wr : World) (g : Nat) (e : TypeId) (cs : List Value) : Prop := wr.heap[g]? = some (.cells cs.toArray e (0, 0))

theorem RowIs.lt {wr : World} {g : Nat} {e : TypeId} {cs : List Value} (h : RowIs wr g e cs) : g < wr.heap.size := by
  unfold RowIs at h
  rcases Nat.lt_or_ge g wr.heap.size with h1 | h1
  · exact h1
  · rw [Array.getElem?_eq_none h1] at h; cases h
theorem RowIs.cell {wr : World} {g : Nat} {e : TypeId} {cs : List Value} (h : RowIs wr g e cs) (j : Nat) : wr.cell? ⟨g, j, none⟩ = cs[j]? := by
  rw [cell_of_row wr g j _ e (0, 0) h]; simp
theorem RowIs.frozen {wr : World} {g : Nat} {e : TypeId} {cs : List Value} (h : RowIs wr g e cs) (j : Nat) : wr.frozen? ⟨g, j, none⟩ = false := frozen_of_row wr g j _ e h
theorem RowIs.set {wr : World} {g : Nat} {e : TypeId} {cs : List Value} (h : RowIs wr g e cs) (j : Nat) (u : Value) : RowIs (wr.setCell ⟨g, j, none⟩ u) g e (cs.set j u) := by
  have := heap_setCell_same wr g j _ e u h
  simpa [RowIs] using this
theorem RowIs.below {w w' : World} {B g : Nat} {e : TypeId} {cs : List Value} (h : RowIs w g e cs) (hb : Below B w w') (hg : g < B) : RowIs w' g e cs := (hb.block g hg).trans h

/-- The row holds A, then m cells that are not yet written. -/
def Filled (wr : World) (g : Nat) (e : TypeId) (A : List Value) (m : Nat) : Prop := ∃ rest, RowIs wr g e (A ++ rest) ∧ rest.length = m

theorem Filled.made {w1 : World} {B g n size : Nat} {e : TypeId} {X : List Value} (hown : w1.ownsRow B e size (.slice (some ⟨g, 0, none⟩) n n) n X) : Filled w1 g e [] (n * size) := by
  obtain ⟨_, h | ⟨g', cap, cur, hv, _, hh, _, _, hsz, _⟩⟩ := hown
  · cases h.1
  · cases hv
    exact ⟨cur.toList, by simpa [RowIs] using hh, by simpa using hsz⟩
theorem Filled.at {wr : World} {g : Nat} {e : TypeId} {A : List Value} {m : Nat} (h : Filled wr g e A m) (j : Nat) (hj : j < m) : (∃ x, wr.cell? ⟨g, A.length + j, none⟩ = some x) ∧ wr.frozen? ⟨g, A.length + j, none⟩ = false := by
  obtain ⟨rest, hr, hl⟩ := h
  refine ⟨?_, hr.frozen _⟩
  rw [hr.cell, List.getElem?_append_right (by omega), List.getElem?_eq_getElem (by omega)]
  exact ⟨_, rfl⟩
theorem Filled.one {wr : World} {g : Nat} {e : TypeId} {A : List Value} {m : Nat} (h : Filled wr g e A (m + 1)) (p : Nat) (hp : p = A.length) (y : Value) : Filled (wr.setCell ⟨g, p, none⟩ y) g e (A ++ [y]) m := by
  obtain ⟨rest, hr, hl⟩ := h
  subst hp
  cases rest with
  | nil => simp at hl
  | cons x r =>
    refine ⟨r, ?_, by simpa using hl⟩
    have := hr.set A.length y
    rw [List.set_append_right _ _ (Nat.le_refl _), Nat.sub_self, List.set_cons_zero] at this
    rw [List.append_assoc]
    exact this
theorem Filled.done {wr : World} {g : Nat} {e : TypeId} {A : List Value} (h : Filled wr g e A 0) : RowIs wr g e A := by
  obtain ⟨rest, hr, hl⟩ := h
  rw [List.eq_nil_of_length_eq_zero hl, List.append_nil] at hr
  exact hr

def useCells (u : Use) : List Value := [.string u.name, .string u.file, .int .i64 u.line]
def usesCells (U : List Use) : List Value := (U.map useCells).flatten
theorem usesCells_length (U : List Use) : (usesCells U).length = U.length * 3 := by
  induction U with
  | nil => rfl
  | cons r R ih => simp only [usesCells, List.map_cons, List.flatten_cons, List.length_append, List.length_cons] at ih ⊢; rw [ih]; simp [useCells]; omega
theorem usesCells_take (U : List Use) (k : Nat) (h : k < U.length) : usesCells (U.take (k + 1)) = usesCells (U.take k) ++ useCells U[k] := by
  rw [List.take_succ_eq_append_getElem h, usesCells, List.map_append, List.flatten_append]; simp [usesCells]

theorem Try.info57 : (Try.prog.info? 57).map (fun i => (i.zero, i.size, i.bytes)) = some (some (.agg #[.string ⟨#[]⟩, .string ⟨#[]⟩, .int .i64 0]), 3, 40) := by kernel_rfl
theorem Try.info34 : (Try.prog.info? 34).map (fun i => (i.zero, i.size, i.bytes)) = some (some (.agg #[.string ⟨#[]⟩, .string ⟨#[]⟩, .int .i64 0, .string ⟨#[]⟩, .int .i64 0]), 5, 64) := by kernel_rfl

theorem usesCells_at (U : List Use) (j : Nat) (u : Use) (h : U[j]? = some u) : (usesCells U)[j * 3]? = some (.string u.name) ∧ (usesCells U)[j * 3 + 1]? = some (.string u.file) ∧ (usesCells U)[j * 3 + 2]? = some (.int .i64 u.line) := by
  induction U generalizing j with
  | nil => simp at h
  | cons v V ih =>
    have e : usesCells (v :: V) = useCells v ++ usesCells V := by simp [usesCells]
    have hl : (useCells v).length = 3 := rfl
    cases j with
    | zero =>
      simp at h; subst h
      rw [e]
      exact ⟨rfl, rfl, rfl⟩
    | succ j =>
      have := ih j (by simpa using h)
      rw [e]
      refine ⟨?_, ?_, ?_⟩
      · rw [List.getElem?_append_right (by omega), show (j + 1) * 3 - (useCells v).length = j * 3 by omega]; exact this.1
      · rw [List.getElem?_append_right (by omega), show (j + 1) * 3 + 1 - (useCells v).length = j * 3 + 1 by omega]; exact this.2.1
      · rw [List.getElem?_append_right (by omega), show (j + 1) * 3 + 2 - (useCells v).length = j * 3 + 2 by omega]; exact this.2.2

theorem isUses_of_row {w : World} {g : Nat} {e : TypeId} {U : List Use} (h : RowIs w g e (usesCells U)) : IsUses w (some ⟨g, 0, none⟩) U := by
  refine .inr ⟨g, 0, rfl, h.lt, fun j u hu => ?_⟩
  have := usesCells_at U j u hu
  simp only [Nat.zero_add]
  rw [h.cell, h.cell, h.cell]
  exact this

theorem repsCells_at (R : List Rep) (j : Nat) (r : Rep) (h : R[j]? = some r) : (repsCells R)[j * 5]? = some (.string r.use.name) ∧ (repsCells R)[j * 5 + 1]? = some (.string r.use.file) ∧ (repsCells R)[j * 5 + 2]? = some (.int .i64 r.use.line) ∧
    (repsCells R)[j * 5 + 3]? = some (.string r.ffile) ∧ (repsCells R)[j * 5 + 4]? = some (.int .i64 r.fline) := by
  induction R generalizing j with
  | nil => simp at h
  | cons v V ih =>
    have e : repsCells (v :: V) = repCells v ++ repsCells V := by simp [repsCells]
    have hl : (repCells v).length = 5 := rfl
    cases j with
    | zero =>
      simp at h; subst h
      rw [e]
      exact ⟨rfl, rfl, rfl, rfl, rfl⟩
    | succ j =>
      have := ih j (by simpa using h)
      rw [e]
      refine ⟨?_, ?_, ?_, ?_, ?_⟩
      · rw [List.getElem?_append_right (by omega), show (j + 1) * 5 - (repCells v).length = j * 5 by omega]; exact this.1
      · rw [List.getElem?_append_right (by omega), show (j + 1) * 5 + 1 - (repCells v).length = j * 5 + 1 by omega]; exact this.2.1
      · rw [List.getElem?_append_right (by omega), show (j + 1) * 5 + 2 - (repCells v).length = j * 5 + 2 by omega]; exact this.2.2.1
      · rw [List.getElem?_append_right (by omega), show (j + 1) * 5 + 3 - (repCells v).length = j * 5 + 3 by omega]; exact this.2.2.2.1
      · rw [List.getElem?_append_right (by omega), show (j + 1) * 5 + 4 - (repCells v).length = j * 5 + 4 by omega]; exact this.2.2.2.2
theorem repsCells_take (R : List Rep) (k : Nat) (h : k < R.length) : repsCells (R.take (k + 1)) = repsCells (R.take k) ++ repCells R[k] := by
  rw [List.take_succ_eq_append_getElem h, repsCells_snoc]

/-- The five cells of the j-th repeat, from the head of block g. -/
def RepAt (w : World) (g : Nat) (R : List Rep) : Prop := ∀ j r, R[j]? = some r →
  w.cell? ⟨g, j * 5, none⟩ = some (.string r.use.name) ∧ w.cell? ⟨g, j * 5 + 1, none⟩ = some (.string r.use.file) ∧ w.cell? ⟨g, j * 5 + 2, none⟩ = some (.int .i64 r.use.line) ∧
  w.cell? ⟨g, j * 5 + 3, none⟩ = some (.string r.ffile) ∧ w.cell? ⟨g, j * 5 + 4, none⟩ = some (.int .i64 r.fline)

theorem RepAt.below {w w' : World} {B g : Nat} {R : List Rep} (h : RepAt w g R) (hb : Below B w w') (hg : g < B) : RepAt w' g R := by
  intro j r hr
  have := h j r hr
  rw [hb.cell (p := ⟨g, j * 5, none⟩) hg, hb.cell (p := ⟨g, j * 5 + 1, none⟩) hg, hb.cell (p := ⟨g, j * 5 + 2, none⟩) hg, hb.cell (p := ⟨g, j * 5 + 3, none⟩) hg, hb.cell (p := ⟨g, j * 5 + 4, none⟩) hg]
  exact this

/-- The slice v is of the repeats R. -/
def IsReps (w : World) (v : Value) (R : List Rep) : Prop := ∃ a c, v = .slice a R.length c ∧ (R = [] ∨ ∃ g, a = some ⟨g, 0, none⟩ ∧ g < w.heap.size ∧ RepAt w g R)

theorem isReps_of_row {w : World} {g : Nat} {R : List Rep} (h : RowIs w g 34 (repsCells R)) : IsReps w (.slice (some ⟨g, 0, none⟩) R.length R.length) R := by
  refine ⟨_, _, rfl, .inr ⟨g, rfl, h.lt, fun j r hr => ?_⟩⟩
  have := repsCells_at R j r hr
  rw [h.cell, h.cell, h.cell, h.cell, h.cell]
  exact this

theorem found_shape {w : World} {B : Nat} {v : Value} {R : List Rep} (h : w.ownsRow B 61 5 v R.length (repsCells R)) : (v = .slice none 0 0 ∧ R = []) ∨ ∃ g c, v = .slice (some ⟨g, 0, none⟩) R.length c ∧ g < w.heap.size ∧ RepAt w g R := by
  rcases id h with ⟨_, ⟨hv, hn⟩ | ⟨g, cap, cur, hv, hb, hh, hr⟩⟩
  · exact .inl ⟨hv, List.eq_nil_of_length_eq_zero hn⟩
  · refine .inr ⟨g, cap, hv, ?_, fun j r hr => ?_⟩
    · exact (h.lt g (by rw [hv]; rfl)).2
    · have hj : j < R.length := (List.getElem?_eq_some_iff.1 hr).1
      have := repsCells_at R j r hr
      subst hv
      rw [h.cellAt (j * 5) (by omega), h.cellAt (j * 5 + 1) (by omega), h.cellAt (j * 5 + 2) (by omega), h.cellAt (j * 5 + 3) (by omega), h.cellAt (j * 5 + 4) (by omega)]
      exact this

theorem below_to {w w1 w2 : World} {B : Nat} (h : Below B w w1) (h2 : Below w1.heap.size w1 w2) (hB : B ≤ w1.heap.size) : Below B w w2 := h.trans (h2.mono hB)

set_option maxHeartbeats 800000 in
theorem zz_nil (cap : Nat) (w : World) :
    Calls Try.prog 6 #[.slice none 0 cap] w fun e w' => RetV e (fun v => IsReps w' v (reps [] 0)) ∧ Below w.heap.size w w' := by
  obtain ⟨U, hU⟩ : ∃ U : List Use, U = [] := ⟨_, rfl⟩
  have hUl : U.length = 0 := by rw [hU]; rfl
  have HU : Hid (U = []) := hU
  have HUl : Hid (U.length = 0) := hUl
  have hm : U.length ≤ 1048576 := by omega
  clear hU
  have key : Calls Try.prog 6 #[.slice none 0 cap] w fun e w' => RetV e (fun v => IsReps w' v (reps U U.length)) ∧ Below w.heap.size w w' := by
    clear hUl
    have hneq := fun wx n c => run_neq_slice_nil_any (P := Try.prog) wx 26 30 none n c 0 0 Try.underlying26
    have HCall : Hid (∀ W : World, Calls Try.prog 12 #[.slice none 0 0] W fun e w' => RetV e (fun v => w'.ownsRow (W.heap.size + 1) 61 5 v (reps U U.length).length (repsCells (reps U U.length))) ∧ Below W.heap.size W w') := fun W => by
      have h := repeats_any none 0 U W (.inl HU.out) hm (by rw [HU.out]; simp)
      rw [HUl.out] at h ⊢
      exact h
    go_enter Try.func6, Try.ntmps6
    go_wp2
    refine wp_loop_rounds 1 ?_
    rw [rounds_succ]
    go_wp2_with fail
    refine (HCall.out w).mono ?_
    rintro e w2 ⟨⟨v, rfl, hrow⟩, hb2⟩
    have HB2 : Hid (Below w.heap.size w w2) := hb2
    clear hb2 HCall hneq

    -- behind the call: w2 is the world that it left, HB2 : Hid (Below w.heap.size w w2)
    generalize hRR : reps U U.length = R at *
    have HRR : Hid (reps U U.length = R) := hRR
    clear hRR
    rcases found_shape hrow with ⟨rfl, hR⟩ | ⟨gf, cf, rfl, hgf, hat⟩
    · have HR0 : Hid (R = []) := hR
      clear hrow hR
      have hneq2 := fun wx n c => run_neq_slice_nil_any (P := Try.prog) wx 58 61 none n c 0 0 Try.underlying58
      go_wp2
      refine wp_loop_rounds 1 ?_
      rw [rounds_succ]
      go_wp2
      go_ret
      refine ⟨retV ?_, HB2⟩
      show IsReps _ _ (reps U U.length)
      rw [HRR.out, HR0.out]
      exact ⟨none, 0, rfl, .inl rfl⟩
    · have HAT : Hid (RepAt w2 gf R) := hat
      clear hrow hat
      have hneq2 := fun wx n c => run_neq_slice_nil_any (P := Try.prog) wx 58 61 (some ⟨gf, 0, none⟩) n c 0 0 Try.underlying58
      obtain ⟨i1, hi, hz0, hz1, hz2⟩ := info_parts Try.info34
      have hRl : R.length ≤ 1048576 := by have := reps_le U U.length; rw [HRR.out] at this; omega
      go_wp2_with (at_make; refine wpList_make_full _ rfl (.tmp 38) (.tmp 38) 31 rfl w2.heap.size 34 i1 _ 5 Try.underlying31 hi hz0 hz1 .i64 .i64 _ _ R.length rfl rfl rfl rfl ?e1 ?e2 ?e3 ?_)
      case e1 => first | omega | (rw [hz2]; omega)
      case e2 => unfold maxLen; omega
      case e3 => exact Nat.le_refl _
      intro w3 hown hgrow
      have HF : Hid (Filled w3 w2.heap.size 34 [] (R.length * 5)) := Filled.made hown
      have HB3 : Hid (Below w2.heap.size w2 w3) := (Below.refl _ _).grown hgrow (Nat.le_refl _) (by simp)
      clear hown hgrow hi hz0 hz1 hz2 hneq2
      generalize hg3 : w2.heap.size = g3 at *
      have HG3 : Hid (w2.heap.size = g3) := hg3
      clear hg3
      go_wp2
      go_loopw [7] (fun i wr => ∃ k : Nat, k ≤ R.length ∧ i = .int .i64 k ∧ Hid (Filled wr g3 34 (repsCells (R.take k)) ((R.length - k) * 5)) ∧ Hid (Below g3 w2 wr)) (fun i _ => R.length - (intOf i).toNat)
      case atStart => exact ⟨0, Nat.zero_le _, rfl, HF, HB3⟩
      case round =>
        obtain ⟨k, hk, rfl, HFk, HBk⟩ := hrel
        by_cases hlt : k < R.length
        · obtain ⟨c0, c1, c2, c3, c4⟩ := HAT.out.below HBk.out hgf k R[k] (List.getElem?_eq_getElem hlt)
          have hlen : (repsCells (R.take k)).length = k * 5 := by rw [repsCells_length, List.length_take, Nat.min_eq_left hk]
          have hm5 : (R.length - k) * 5 = (R.length - (k + 1)) * 5 + 1 + 1 + 1 + 1 + 1 := by omega
          have hF := HFk.out
          rw [hm5] at hF
          have ⟨⟨x0, g0⟩, f0⟩ := hF.at 0 (by omega)
          have ⟨⟨x1, g1⟩, f1⟩ := hF.at 1 (by omega)
          have ⟨⟨x2, g2⟩, f2⟩ := hF.at 2 (by omega)
          have ⟨⟨x3, g3'⟩, f3⟩ := hF.at 3 (by omega)
          have ⟨⟨x4, g4⟩, f4⟩ := hF.at 4 (by omega)
          rw [hlen] at g0 f0 g1 f1 g2 f2 g3' f3 g4 f4
          rw [Nat.add_zero] at g0 f0
          have hF2 := ((((hF.one _ hlen.symm (.string R[k].use.name)).one (k * 5 + 1) (by simp [hlen]) (.string R[k].use.file)).one (k * 5 + 2) (by simp [hlen]) (.int .i64 R[k].use.line)).one (k * 5 + 3) (by simp [hlen]) (.string R[k].ffile)).one (k * 5 + 4) (by simp [hlen]) (.int .i64 R[k].fline)
          have HF2 : Hid (Filled (((((wr.setCell ⟨g3, k * 5, none⟩ (.string R[k].use.name)).setCell ⟨g3, k * 5 + 1, none⟩ (.string R[k].use.file)).setCell ⟨g3, k * 5 + 2, none⟩ (.int .i64 R[k].use.line)).setCell ⟨g3, k * 5 + 3, none⟩ (.string R[k].ffile)).setCell ⟨g3, k * 5 + 4, none⟩ (.int .i64 R[k].fline)) g3 34 (repsCells (R.take (k + 1))) ((R.length - (k + 1)) * 5)) := by
            show Filled _ _ _ _ _
            rw [repsCells_take R k hlt]
            simpa [repCells] using hF2
          clear hF2 hF hlen hm5 HFk HF HB3 HAT
          generalize R[k].use.name = nm at *
          generalize R[k].use.file = fl at *
          generalize R[k].use.line = ln at *
          generalize R[k].ffile = ff at *
          generalize R[k].fline = fn at *
          have hbg : ¬ gf = g3 := by omega
          have hgb : ¬ g3 = gf := by omega
          have i1 : (0 : Int) ≤ (k : Int) := by omega
          have i2 : (k : Int) < (R.length : Int) := by omega
          go_wp2
          go_region_held3 (fun w' => w'.cell? ⟨gf, k * 5, none⟩ = some (.string nm) ∧ w'.cell? ⟨gf, k * 5 + 1, none⟩ = some (.string fl) ∧ w'.cell? ⟨gf, k * 5 + 2, none⟩ = some (.int .i64 ln) ∧ w'.cell? ⟨gf, k * 5 + 3, none⟩ = some (.string ff) ∧ w'.cell? ⟨gf, k * 5 + 4, none⟩ = some (.int .i64 fn)) (go_keep) (fail)
          go_wp2
          go_roundw
          case rel => exact ⟨k + 1, by omega, by go_num, HF2, (((((HBk.out.setCell (p := ⟨g3, k * 5, none⟩) (Nat.le_refl _) _).setCell (p := ⟨g3, k * 5 + 1, none⟩) (Nat.le_refl _) _).setCell (p := ⟨g3, k * 5 + 2, none⟩) (Nat.le_refl _) _).setCell (p := ⟨g3, k * 5 + 3, none⟩) (Nat.le_refl _) _).setCell (p := ⟨g3, k * 5 + 4, none⟩) (Nat.le_refl _) _).drew⟩
          case measure => simp [intOf]; omega
        · obtain rfl : k = R.length := by omega
          have hr := HFk.out
          rw [Nat.sub_self, Nat.zero_mul, List.take_length] at hr
          have HR2 : Hid (RowIs wr g3 34 (repsCells R)) := hr.done
          clear hr HFk
          go_wp2
          go_ret
          refine ⟨retV ?_, ?_⟩
          · show IsReps _ _ (reps U U.length)
            rw [HRR.out]
            exact isReps_of_row HR2.out
          · have h3 := HBk.out
            rw [← HG3.out] at h3
            exact below_to HB2.out h3 HB2.out.size

  rw [HU.out] at key
  exact key

set_option maxHeartbeats 800000 in
theorem zz_some (x : Addr) (cap : Nat) (U : List Use) (w : World) (hs : IsUses w (some x) U) (hm : U.length ≤ 1048576) (hsz : ∀ u ∈ U, u.name.size ≤ 9223372036854775807) :
    Calls Try.prog 6 #[.slice (some x) U.length cap] w fun e w' => RetV e (fun v => IsReps w' v (reps U U.length)) ∧ Below w.heap.size w w' := by
  have HS : Hid (IsUses w (some x) U) := hs
  have HZ : Hid (∀ u ∈ U, u.name.size ≤ 9223372036854775807) := hsz
  clear hs hsz
  have hneq := fun wx n c => run_neq_slice_nil_any (P := Try.prog) wx 26 30 (some x) n c 0 0 Try.underlying26
  obtain ⟨i0, hi, hz0, hz1, hz2⟩ := info_parts Try.info57
  go_enter Try.func6, Try.ntmps6
  go_wp2_with (at_make; refine wpList_make_full _ rfl (.tmp 11) (.tmp 11) 55 rfl w.heap.size 57 i0 _ 3 Try.underlying55 hi hz0 hz1 .i64 .i64 _ _ U.length rfl rfl rfl rfl ?c1 ?c2 ?c3 ?_)
  case c1 => first | omega | (rw [hz2]; omega)
  case c2 => unfold maxLen; omega
  case c3 => exact Nat.le_refl _
  intro w1 hown hgrow
  have HF : Hid (Filled w1 w.heap.size 57 [] (U.length * 3)) := Filled.made hown
  have HB1 : Hid (Below w.heap.size w w1) := (Below.refl _ _).grown hgrow (Nat.le_refl _) (by simp)
  clear hown hgrow hi hz0 hz1 hz2 hneq
  generalize hg : w.heap.size = g at *
  have HG : Hid (w.heap.size = g) := hg
  clear hg
  go_wp2
  go_loopw [4] (fun i wr => ∃ k : Nat, k ≤ U.length ∧ i = .int .i64 k ∧ Hid (Filled wr g 57 (usesCells (U.take k)) ((U.length - k) * 3)) ∧ Hid (Below g w wr)) (fun i _ => U.length - (intOf i).toNat)
  case atStart => exact ⟨0, Nat.zero_le _, rfl, HF, HB1⟩
  case round =>
    obtain ⟨k, hk, rfl, HFk, HBk⟩ := hrel
    by_cases hlt : k < U.length
    · obtain ⟨b, off, hx, hb, h0, h1, h2⟩ := HS.out.at hlt
      cases hx
      rw [HG.out] at hb
      have c0 := (HBk.out.cell (p := ⟨b, off + k * 3, none⟩) hb).trans h0
      have c1 := (HBk.out.cell (p := ⟨b, off + k * 3 + 1, none⟩) hb).trans h1
      have c2 := (HBk.out.cell (p := ⟨b, off + k * 3 + 2, none⟩) hb).trans h2
      clear h0 h1 h2
      have hlen : (usesCells (U.take k)).length = k * 3 := by rw [usesCells_length, List.length_take, Nat.min_eq_left hk]
      have hm3 : (U.length - k) * 3 = (U.length - (k + 1)) * 3 + 1 + 1 + 1 := by omega
      have hF := HFk.out
      rw [hm3] at hF
      have ⟨⟨x0, g0⟩, f0⟩ := hF.at 0 (by omega)
      have ⟨⟨x1, g1⟩, f1⟩ := hF.at 1 (by omega)
      have ⟨⟨x2, g2⟩, f2⟩ := hF.at 2 (by omega)
      rw [hlen] at g0 f0 g1 f1 g2 f2
      rw [Nat.add_zero] at g0 f0
      have hF2 := ((hF.one _ hlen.symm (.string U[k].name)).one (k * 3 + 1) (by simp [hlen]) (.string U[k].file)).one (k * 3 + 2) (by simp [hlen]) (.int .i64 U[k].line)
      have HF2 : Hid (Filled (((wr.setCell ⟨g, k * 3, none⟩ (.string U[k].name)).setCell ⟨g, k * 3 + 1, none⟩ (.string U[k].file)).setCell ⟨g, k * 3 + 2, none⟩ (.int .i64 U[k].line)) g 57 (usesCells (U.take (k + 1))) ((U.length - (k + 1)) * 3)) := by
        show Filled _ _ _ _ _
        rw [usesCells_take U k hlt]
        simpa [useCells] using hF2
      clear hF2 hF hlen hm3 HFk HF HB1 HS HZ
      generalize U[k].name = nm at *
      generalize U[k].file = fl at *
      generalize U[k].line = ln at *
      have hbg : ¬ b = g := by omega
      have hgb : ¬ g = b := by omega
      have i1 : (0 : Int) ≤ (k : Int) := by omega
      have i2 : (k : Int) < (U.length : Int) := by omega
      go_wp2
      go_region_held3 (fun w' => w'.cell? ⟨b, off + k * 3, none⟩ = some (.string nm) ∧ w'.cell? ⟨b, off + k * 3 + 1, none⟩ = some (.string fl) ∧ w'.cell? ⟨b, off + k * 3 + 2, none⟩ = some (.int .i64 ln)) (go_keep) (fail)
      go_wp2
      go_roundw
      case rel => exact ⟨k + 1, by omega, by go_num, HF2, (((HBk.out.setCell (p := ⟨g, k * 3, none⟩) (Nat.le_refl _) _).setCell (p := ⟨g, k * 3 + 1, none⟩) (Nat.le_refl _) _).setCell (p := ⟨g, k * 3 + 2, none⟩) (Nat.le_refl _) _).drew⟩
      case measure => simp [intOf]; omega
    · obtain rfl : k = U.length := by omega
      have hr := HFk.out
      rw [Nat.sub_self, Nat.zero_mul, List.take_length] at hr
      have HU1 : Hid (IsUses wr (some ⟨g, 0, none⟩) U) := isUses_of_row hr.done
      have HB0 : Hid (Below w.heap.size w wr) := by rw [HG.out]; exact HBk
      clear hr HFk HF HB1
      go_wp2_with fail
      refine (repeats_any _ _ U wr HU1.out hm HZ.out).mono ?_
      rintro e w2 ⟨⟨v, rfl, hrow⟩, hb2⟩
      have HB2 : Hid (Below w.heap.size w w2) := below_to HB0.out hb2 HB0.out.size
      clear hb2 HB0 HU1

      -- behind the call: w2 is the world that it left, HB2 : Hid (Below w.heap.size w w2)
      generalize hRR : reps U U.length = R at *
      have HRR : Hid (reps U U.length = R) := hRR
      clear hRR
      rcases found_shape hrow with ⟨rfl, hR⟩ | ⟨gf, cf, rfl, hgf, hat⟩
      · have HR0 : Hid (R = []) := hR
        clear hrow hR
        have hneq2 := fun wx n c => run_neq_slice_nil_any (P := Try.prog) wx 58 61 none n c 0 0 Try.underlying58
        go_wp2
        refine wp_loop_rounds 1 ?_
        rw [rounds_succ]
        go_wp2
        go_ret
        refine ⟨retV ?_, HB2⟩
        show IsReps _ _ (reps U U.length)
        rw [HRR.out, HR0.out]
        exact ⟨none, 0, rfl, .inl rfl⟩
      · have HAT : Hid (RepAt w2 gf R) := hat
        clear hrow hat
        have hneq2 := fun wx n c => run_neq_slice_nil_any (P := Try.prog) wx 58 61 (some ⟨gf, 0, none⟩) n c 0 0 Try.underlying58
        obtain ⟨i1, hi, hz0, hz1, hz2⟩ := info_parts Try.info34
        have hRl : R.length ≤ 1048576 := by have := reps_le U U.length; rw [HRR.out] at this; omega
        go_wp2_with (at_make; refine wpList_make_full _ rfl (.tmp 38) (.tmp 38) 31 rfl w2.heap.size 34 i1 _ 5 Try.underlying31 hi hz0 hz1 .i64 .i64 _ _ R.length rfl rfl rfl rfl ?e1 ?e2 ?e3 ?_)
        case e1 => first | omega | (rw [hz2]; omega)
        case e2 => unfold maxLen; omega
        case e3 => exact Nat.le_refl _
        intro w3 hown hgrow
        have HF : Hid (Filled w3 w2.heap.size 34 [] (R.length * 5)) := Filled.made hown
        have HB3 : Hid (Below w2.heap.size w2 w3) := (Below.refl _ _).grown hgrow (Nat.le_refl _) (by simp)
        clear hown hgrow hi hz0 hz1 hz2 hneq2
        generalize hg3 : w2.heap.size = g3 at *
        have HG3 : Hid (w2.heap.size = g3) := hg3
        clear hg3
        go_wp2
        go_loopw [7] (fun i wr => ∃ k : Nat, k ≤ R.length ∧ i = .int .i64 k ∧ Hid (Filled wr g3 34 (repsCells (R.take k)) ((R.length - k) * 5)) ∧ Hid (Below g3 w2 wr)) (fun i _ => R.length - (intOf i).toNat)
        case atStart => exact ⟨0, Nat.zero_le _, rfl, HF, HB3⟩
        case round =>
          obtain ⟨k, hk, rfl, HFk, HBk⟩ := hrel
          by_cases hlt : k < R.length
          · obtain ⟨c0, c1, c2, c3, c4⟩ := HAT.out.below HBk.out hgf k R[k] (List.getElem?_eq_getElem hlt)
            have hlen : (repsCells (R.take k)).length = k * 5 := by rw [repsCells_length, List.length_take, Nat.min_eq_left hk]
            have hm5 : (R.length - k) * 5 = (R.length - (k + 1)) * 5 + 1 + 1 + 1 + 1 + 1 := by omega
            have hF := HFk.out
            rw [hm5] at hF
            have ⟨⟨x0, g0⟩, f0⟩ := hF.at 0 (by omega)
            have ⟨⟨x1, g1⟩, f1⟩ := hF.at 1 (by omega)
            have ⟨⟨x2, g2⟩, f2⟩ := hF.at 2 (by omega)
            have ⟨⟨x3, g3'⟩, f3⟩ := hF.at 3 (by omega)
            have ⟨⟨x4, g4⟩, f4⟩ := hF.at 4 (by omega)
            rw [hlen] at g0 f0 g1 f1 g2 f2 g3' f3 g4 f4
            rw [Nat.add_zero] at g0 f0
            have hF2 := ((((hF.one _ hlen.symm (.string R[k].use.name)).one (k * 5 + 1) (by simp [hlen]) (.string R[k].use.file)).one (k * 5 + 2) (by simp [hlen]) (.int .i64 R[k].use.line)).one (k * 5 + 3) (by simp [hlen]) (.string R[k].ffile)).one (k * 5 + 4) (by simp [hlen]) (.int .i64 R[k].fline)
            have HF2 : Hid (Filled (((((wr.setCell ⟨g3, k * 5, none⟩ (.string R[k].use.name)).setCell ⟨g3, k * 5 + 1, none⟩ (.string R[k].use.file)).setCell ⟨g3, k * 5 + 2, none⟩ (.int .i64 R[k].use.line)).setCell ⟨g3, k * 5 + 3, none⟩ (.string R[k].ffile)).setCell ⟨g3, k * 5 + 4, none⟩ (.int .i64 R[k].fline)) g3 34 (repsCells (R.take (k + 1))) ((R.length - (k + 1)) * 5)) := by
              show Filled _ _ _ _ _
              rw [repsCells_take R k hlt]
              simpa [repCells] using hF2
            clear hF2 hF hlen hm5 HFk HF HB3 HAT
            generalize R[k].use.name = nm at *
            generalize R[k].use.file = fl at *
            generalize R[k].use.line = ln at *
            generalize R[k].ffile = ff at *
            generalize R[k].fline = fn at *
            have hbg : ¬ gf = g3 := by omega
            have hgb : ¬ g3 = gf := by omega
            have i1 : (0 : Int) ≤ (k : Int) := by omega
            have i2 : (k : Int) < (R.length : Int) := by omega
            go_wp2
            go_region_held3 (fun w' => w'.cell? ⟨gf, k * 5, none⟩ = some (.string nm) ∧ w'.cell? ⟨gf, k * 5 + 1, none⟩ = some (.string fl) ∧ w'.cell? ⟨gf, k * 5 + 2, none⟩ = some (.int .i64 ln) ∧ w'.cell? ⟨gf, k * 5 + 3, none⟩ = some (.string ff) ∧ w'.cell? ⟨gf, k * 5 + 4, none⟩ = some (.int .i64 fn)) (go_keep) (fail)
            go_wp2
            go_roundw
            case rel => exact ⟨k + 1, by omega, by go_num, HF2, (((((HBk.out.setCell (p := ⟨g3, k * 5, none⟩) (Nat.le_refl _) _).setCell (p := ⟨g3, k * 5 + 1, none⟩) (Nat.le_refl _) _).setCell (p := ⟨g3, k * 5 + 2, none⟩) (Nat.le_refl _) _).setCell (p := ⟨g3, k * 5 + 3, none⟩) (Nat.le_refl _) _).setCell (p := ⟨g3, k * 5 + 4, none⟩) (Nat.le_refl _) _).drew⟩
            case measure => simp [intOf]; omega
          · obtain rfl : k = R.length := by omega
            have hr := HFk.out
            rw [Nat.sub_self, Nat.zero_mul, List.take_length] at hr
            have HR2 : Hid (RowIs wr g3 34 (repsCells R)) := hr.done
            clear hr HFk
            go_wp2
            go_ret
            refine ⟨retV ?_, ?_⟩
            · show IsReps _ _ (reps U U.length)
              rw [HRR.out]
              exact isReps_of_row HR2.out
            · have h3 := HBk.out
              rw [← HG3.out] at h3
              exact below_to HB2.out h3 HB2.out.size

end Go.Proofs.Qxb6605178a
