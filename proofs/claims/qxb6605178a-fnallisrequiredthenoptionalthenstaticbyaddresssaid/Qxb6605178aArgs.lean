import Derived.Test.Qxb6605178aDecls
namespace Go.Proofs.Qxb6605178a.All
open Go.RowKit

set_option maxHeartbeats 400000 in
theorem declsBytes8 (a : Option Addr) (cap : Nat) (D : List Decl) (w : World) (hs : IsDecls w a D) (hm : D.length ≤ 9223372036854775807) :
    Calls Try.prog 8 #[.slice a D.length cap] w fun e w' => RetI e ∧ Below w.heap.size w w' := by
  have HS : Hid (IsDecls w a D) := hs
  clear hs
  go_enter Try.func8, Try.ntmps8
  go_wp2
  go_loopw [3, 4] (fun n i wr => ∃ (z : Int) (k : Nat), k ≤ D.length ∧ i = .int .i64 k ∧ n = .int .i64 z ∧ Hid (Below w.heap.size w wr)) (fun _ i _ => D.length - (intOf i).toNat)
  case atStart => exact ⟨0, 0, Nat.zero_le _, rfl, rfl, Below.refl _ _⟩
  case round =>
    obtain ⟨z, k, hk, rfl, rfl, HB⟩ := hrel
    by_cases hlt : k < D.length
    · obtain ⟨b, off, rfl, hb, hc⟩ := HS.out.at hlt
      obtain ⟨e0, e1, e2, e3, _⟩ := hc.below HB.out hb k _ (List.getElem?_eq_getElem hlt)
      clear HS hc
      generalize D[k].name = x0 at *
      generalize D[k].desc = x1 at *
      generalize D[k].dflt = x2 at *
      generalize D[k].file = x3 at *
      have i1 : (0 : Int) ≤ (k : Int) := by omega
      have i2 : (k : Int) < (D.length : Int) := by omega
      go_wp2
      go_quiet (fail)
      go_wp2
      go_roundw
      case rel => exact ⟨_, k + 1, by omega, by go_num, rfl, below_drewN HB.out nq⟩
      case measure => simp [intOf]; omega
    · go_wp2
      go_ret
      exact ⟨retI, HB⟩

/-- Block g of the world holds just the cells cs, of elements e. -/
def RowIs (wr : World) (g : Nat) (e : TypeId) (cs : List Value) : Prop := wr.heap[g]? = some (.cells cs.toArray e (0, 0))

theorem RowIs.lt {wr : World} {g : Nat} {e : TypeId} {cs : List Value} (h : RowIs wr g e cs) : g < wr.heap.size := by
  unfold RowIs at h
  rcases Nat.lt_or_ge g wr.heap.size with h1 | h1
  · exact h1
  · rw [Array.getElem?_eq_none h1] at h; cases h
theorem RowIs.cell {wr : World} {g : Nat} {e : TypeId} {cs : List Value} (h : RowIs wr g e cs) (j : Nat) : wr.cell? ⟨g, j, none⟩ = cs[j]? := by
  rw [cell_of_row wr g j _ e (0, 0) h]; simp
theorem RowIs.frozen {wr : World} {g : Nat} {e : TypeId} {cs : List Value} (h : RowIs wr g e cs) (j : Nat) : wr.frozen? ⟨g, j, none⟩ = false := frozen_of_row wr g j _ e h
theorem RowIs.set {wr : World} {g : Nat} {e : TypeId} {cs : List Value} (h : RowIs wr g e cs) (j : Nat) (u : Value) : RowIs (wr.setCell ⟨g, j, none⟩ u) g e (cs.set j u) := by
  have := heap_setCell_same wr g j _ e u h
  simpa [RowIs] using this
theorem RowIs.below {w w' : World} {B g : Nat} {e : TypeId} {cs : List Value} (h : RowIs w g e cs) (hb : Below B w w') (hg : g < B) : RowIs w' g e cs := (hb.block g hg).trans h

/-- The row holds A, then m cells that are not yet written. -/
def Filled (wr : World) (g : Nat) (e : TypeId) (A : List Value) (m : Nat) : Prop := ∃ rest, RowIs wr g e (A ++ rest) ∧ rest.length = m

theorem Filled.made {w1 : World} {B g n size : Nat} {e : TypeId} {X : List Value} (hown : w1.ownsRow B e size (.slice (some ⟨g, 0, none⟩) n n) n X) : Filled w1 g e [] (n * size) := by
  obtain ⟨_, h | ⟨g', cap, cur, hv, _, hh, _, _, hsz, _⟩⟩ := hown
  · cases h.1
  · cases hv
    exact ⟨cur.toList, by simpa [RowIs] using hh, by simpa using hsz⟩
theorem Filled.at {wr : World} {g : Nat} {e : TypeId} {A : List Value} {m : Nat} (h : Filled wr g e A m) (j : Nat) (hj : j < m) : (∃ x, wr.cell? ⟨g, A.length + j, none⟩ = some x) ∧ wr.frozen? ⟨g, A.length + j, none⟩ = false := by
  obtain ⟨rest, hr, hl⟩ := h
  refine ⟨?_, hr.frozen _⟩
  rw [hr.cell, List.getElem?_append_right (by omega), List.getElem?_eq_getElem (by omega)]
  exact ⟨_, rfl⟩
theorem Filled.one {wr : World} {g : Nat} {e : TypeId} {A : List Value} {m : Nat} (h : Filled wr g e A (m + 1)) (p : Nat) (hp : p = A.length) (y : Value) : Filled (wr.setCell ⟨g, p, none⟩ y) g e (A ++ [y]) m := by
  obtain ⟨rest, hr, hl⟩ := h
  subst hp
  cases rest with
  | nil => simp at hl
  | cons x r =>
    refine ⟨r, ?_, by simpa using hl⟩
    have := hr.set A.length y
    rw [List.set_append_right _ _ (Nat.le_refl _), Nat.sub_self, List.set_cons_zero] at this
    rw [List.append_assoc]
    exact this
theorem Filled.drew {wr : World} {g : Nat} {e : TypeId} {A : List Value} {m : Nat} (h : Filled wr g e A m) : Filled wr.drew g e A m := h
theorem Filled.done {wr : World} {g : Nat} {e : TypeId} {A : List Value} (h : Filled wr g e A 0) : RowIs wr g e A := by
  obtain ⟨rest, hr, hl⟩ := h
  rw [List.eq_nil_of_length_eq_zero hl, List.append_nil] at hr
  exact hr

/-- An ArgDecl's seven cells: its source (file, line, no lines, nothing unknown), its name, desc and default. -/
def argCells (d : Decl) : List Value := [.string d.file, .int .i64 d.line, .map none, .slice none 0 0, .string d.name, .string d.desc, .string d.dflt]
def argsCells (D : List Decl) : List Value := (D.map argCells).flatten
theorem argsCells_length (D : List Decl) : (argsCells D).length = D.length * 7 := by
  induction D with
  | nil => rfl
  | cons r R ih => simp only [argsCells, List.map_cons, List.flatten_cons, List.length_append, List.length_cons] at ih ⊢; rw [ih]; simp [argCells]; omega
theorem argsCells_take (D : List Decl) (k : Nat) (h : k < D.length) : argsCells (D.take (k + 1)) = argsCells (D.take k) ++ argCells D[k] := by
  rw [List.take_succ_eq_append_getElem h, argsCells, List.map_append, List.flatten_append]; simp [argsCells]

theorem argsCells_at (D : List Decl) (j : Nat) (d : Decl) (h : D[j]? = some d) (i : Nat) (hi : i < 7) : (argsCells D)[j * 7 + i]? = (argCells d)[i]? := by
  induction D generalizing j with
  | nil => simp at h
  | cons v V ih =>
    have e : argsCells (v :: V) = argCells v ++ argsCells V := by simp [argsCells]
    have hl : (argCells v).length = 7 := rfl
    cases j with
    | zero =>
      simp at h; subst h
      rw [e, List.getElem?_append_left (by omega)]
      simp
    | succ j =>
      have := ih j (by simpa using h)
      rw [e, List.getElem?_append_right (by omega), show (j + 1) * 7 + i - (argCells v).length = j * 7 + i by omega]
      exact this

/-- The seven cells of each ArgDecl of a row. -/
def ArgAt (w : World) (g : Nat) (D : List Decl) : Prop := ∀ j d, D[j]? = some d →
  w.cell? ⟨g, j * 7, none⟩ = some (.string d.file) ∧ w.cell? ⟨g, j * 7 + 1, none⟩ = some (.int .i64 d.line) ∧ w.cell? ⟨g, j * 7 + 2, none⟩ = some (.map none) ∧ w.cell? ⟨g, j * 7 + 3, none⟩ = some (.slice none 0 0) ∧
  w.cell? ⟨g, j * 7 + 4, none⟩ = some (.string d.name) ∧ w.cell? ⟨g, j * 7 + 5, none⟩ = some (.string d.desc) ∧ w.cell? ⟨g, j * 7 + 6, none⟩ = some (.string d.dflt)

theorem ArgAt.below {w w' : World} {g : Nat} {D : List Decl} (h : ArgAt w g D) (hb : Below w.heap.size w w') (hlt : g < w.heap.size) : ArgAt w' g D := by
  intro j d hd
  have := h j d hd
  rw [hb.cell (p := ⟨g, j * 7, none⟩) hlt, hb.cell (p := ⟨g, j * 7 + 1, none⟩) hlt, hb.cell (p := ⟨g, j * 7 + 2, none⟩) hlt, hb.cell (p := ⟨g, j * 7 + 3, none⟩) hlt, hb.cell (p := ⟨g, j * 7 + 4, none⟩) hlt, hb.cell (p := ⟨g, j * 7 + 5, none⟩) hlt, hb.cell (p := ⟨g, j * 7 + 6, none⟩) hlt]
  exact this

theorem argAt_of_row {w : World} {g : Nat} {D : List Decl} (h : RowIs w g 53 (argsCells D)) : ArgAt w g D := by
  intro j d hd
  have k := argsCells_at D j d hd
  have k0 := k 0 (by omega)
  rw [Nat.add_zero] at k0
  rw [h.cell, h.cell, h.cell, h.cell, h.cell, h.cell, h.cell, k0, k 1 (by omega), k 2 (by omega), k 3 (by omega), k 4 (by omega), k 5 (by omega), k 6 (by omega)]
  exact ⟨rfl, rfl, rfl, rfl, rfl, rfl, rfl⟩

/-- A slice of ArgDecls that the call has made. -/
def IsArgs (w : World) (v : Value) (D : List Decl) (g : Nat) : Prop := ∃ a c, v = .slice a D.length c ∧ D.length ≤ c ∧ (D = [] ∨ (a = some ⟨g, 0, none⟩ ∧ g < w.heap.size ∧ ArgAt w g D))

theorem IsArgs.below {w w' : World} {v : Value} {D : List Decl} {g : Nat} (h : IsArgs w v D g) (hb : Below w.heap.size w w') : IsArgs w' v D g := by
  obtain ⟨a, c, hv, hc, h | ⟨ha, hg, hat⟩⟩ := h
  · exact ⟨a, c, hv, hc, .inl h⟩
  · exact ⟨a, c, hv, hc, .inr ⟨ha, Nat.lt_of_lt_of_le hg hb.size, hat.below hb hg⟩⟩

theorem Try.info53 : (Try.prog.info? 53).map (fun i => (i.zero, i.size, i.bytes)) = some (some (.agg #[.string ⟨#[]⟩, .int .i64 0, .map none, .slice none 0 0, .string ⟨#[]⟩, .string ⟨#[]⟩, .string ⟨#[]⟩]), 7, 104) := by kernel_rfl

/-- It returned a value of which p holds. -/
def RetV (e : Ending) (p : Value → Prop) : Prop := ∃ v, e = .returned v ∧ p v
theorem retV {v : Value} {p : Value → Prop} (h : p v) : RetV (.returned v) p := ⟨v, rfl, h⟩

set_option maxHeartbeats 400000 in
theorem toArg_nil (n cap : Nat) (w : World) : Calls Try.prog 9 #[.slice none n cap] w fun e w' => e = .returned (.slice none 0 0) ∧ w = w' := by
  have heq := fun wx n c => Lib.run_eql_slice_nil (P := Try.prog) wx 35 51 none n c 0 0 Try.underlying35
  go_enter Try.func9, Try.ntmps9
  go_wp2
  go_ret
  exact ⟨rfl, rfl⟩

set_option maxHeartbeats 800000 in
theorem toArg_some (x : Addr) (cap : Nat) (D : List Decl) (w : World) (hs : IsDecls w (some x) D) (hm : D.length ≤ 1048576) :
    Calls Try.prog 9 #[.slice (some x) D.length cap] w fun e w' => e = .returned (.slice (some ⟨w.heap.size, 0, none⟩) D.length D.length) ∧ RowIs w' w.heap.size 53 (argsCells D) ∧ Below w.heap.size w w' := by
  have heq := fun wx n c => Lib.run_eql_slice_nil (P := Try.prog) wx 35 51 (some x) n c 0 0 Try.underlying35
  have HS : Hid (IsDecls w (some x) D) := hs
  clear hs
  obtain ⟨i0, hi, hz0, hz1, hz2⟩ := info_parts Try.info53
  go_enter Try.func9, Try.ntmps9
  go_wp2_with (at_make; refine wpList_make_full _ rfl (.tmp 8) (.tmp 8) 43 rfl w.heap.size 53 i0 _ 7 Try.underlying43 hi hz0 hz1 .i64 .i64 _ _ D.length rfl rfl rfl rfl ?c1 ?c2 ?c3 ?_)
  case c1 => first | omega | (rw [hz2]; omega)
  case c2 => unfold maxLen; omega
  case c3 => exact Nat.le_refl _
  intro w1 hown hgrow
  have HF : Hid (Filled w1 w.heap.size 53 [] (D.length * 7)) := Filled.made hown
  have HB1 : Hid (Below w.heap.size w w1) := (Below.refl _ _).grown hgrow (Nat.le_refl _) (by simp)
  clear hown hgrow hi hz0 hz1 hz2 heq
  generalize hg : w.heap.size = g at *
  have HG : Hid (w.heap.size = g) := hg
  clear hg
  go_wp2
  go_loopw [4] (fun i wr => ∃ k : Nat, k ≤ D.length ∧ i = .int .i64 k ∧ Hid (Filled wr g 53 (argsCells (D.take k)) ((D.length - k) * 7)) ∧ Hid (Below g w wr)) (fun i _ => D.length - (intOf i).toNat)
  case atStart => exact ⟨0, Nat.zero_le _, rfl, HF, HB1⟩
  case round =>
    obtain ⟨k, hk, rfl, HFk, HBk⟩ := hrel
    by_cases hlt : k < D.length
    · obtain ⟨b, off, hx, hb, hc⟩ := HS.out.at hlt
      cases hx
      have HBw : Below w.heap.size w wr := by rw [HG.out]; exact HBk
      obtain ⟨c0, c1, c2, c3, c4⟩ := hc.below HBw hb k _ (List.getElem?_eq_getElem hlt)
      rw [HG.out] at hb
      clear hc HBw
      have hlen : (argsCells (D.take k)).length = k * 7 := by rw [argsCells_length, List.length_take, Nat.min_eq_left hk]
      have hm7 : (D.length - k) * 7 = (D.length - (k + 1)) * 7 + 1 + 1 + 1 + 1 + 1 + 1 + 1 := by omega
      have hF := HFk.out
      rw [hm7] at hF
      have ⟨⟨x0, g0⟩, f0⟩ := hF.at 0 (by omega)
      have ⟨⟨x1, g1⟩, f1⟩ := hF.at 1 (by omega)
      have ⟨⟨x2, g2⟩, f2⟩ := hF.at 2 (by omega)
      have ⟨⟨x3, g3⟩, f3⟩ := hF.at 3 (by omega)
      have ⟨⟨x4, g4⟩, f4⟩ := hF.at 4 (by omega)
      have ⟨⟨x5, g5⟩, f5⟩ := hF.at 5 (by omega)
      have ⟨⟨x6, g6⟩, f6⟩ := hF.at 6 (by omega)
      rw [hlen] at g0 f0 g1 f1 g2 f2 g3 f3 g4 f4 g5 f5 g6 f6
      rw [Nat.add_zero] at g0 f0
      have hF2 := (((((((hF.one _ hlen.symm (.string D[k].file)).one (k * 7 + 1) (by simp [hlen]) (.int .i64 D[k].line)).one (k * 7 + 2) (by simp [hlen]) (.map none)).one (k * 7 + 3) (by simp [hlen]) (.slice none 0 0)).one (k * 7 + 4) (by simp [hlen]) (.string D[k].name)).one (k * 7 + 5) (by simp [hlen]) (.string D[k].desc)).one (k * 7 + 6) (by simp [hlen]) (.string D[k].dflt))
      have HF2 : Hid (Filled (((((((wr.setCell ⟨g, k * 7, none⟩ (.string D[k].file)).setCell ⟨g, k * 7 + 1, none⟩ (.int .i64 D[k].line)).setCell ⟨g, k * 7 + 2, none⟩ (.map none)).setCell ⟨g, k * 7 + 3, none⟩ (.slice none 0 0)).setCell ⟨g, k * 7 + 4, none⟩ (.string D[k].name)).setCell ⟨g, k * 7 + 5, none⟩ (.string D[k].desc)).setCell ⟨g, k * 7 + 6, none⟩ (.string D[k].dflt)) g 53 (argsCells (D.take (k + 1))) ((D.length - (k + 1)) * 7)) := by
        show Filled _ _ _ _ _
        rw [argsCells_take D k hlt]
        simpa [argCells] using hF2
      clear hF2 hF hlen hm7 HFk HF HB1 HS
      generalize D[k].name = nm at *
      generalize D[k].desc = ds at *
      generalize D[k].dflt = df at *
      generalize D[k].file = fl at *
      generalize D[k].line = ln at *
      have hbg : ¬ b = g := by omega
      have hgb : ¬ g = b := by omega
      have i1 : (0 : Int) ≤ (k : Int) := by omega
      have i2 : (k : Int) < (D.length : Int) := by omega
      go_wp2
      go_region_held3 (fun w' => w'.cell? ⟨b, off + k * 5, none⟩ = some (.string nm) ∧ w'.cell? ⟨b, off + k * 5 + 1, none⟩ = some (.string ds) ∧ w'.cell? ⟨b, off + k * 5 + 2, none⟩ = some (.string df) ∧ w'.cell? ⟨b, off + k * 5 + 3, none⟩ = some (.string fl) ∧ w'.cell? ⟨b, off + k * 5 + 4, none⟩ = some (.int .i64 ln)) (go_keep) (fail)
      go_wp2
      go_roundw
      case rel => exact ⟨k + 1, by omega, by go_num, HF2.out.drew, (((((((HBk.out.setCell (p := ⟨g, k * 7, none⟩) (Nat.le_refl _) _).setCell (p := ⟨g, k * 7 + 1, none⟩) (Nat.le_refl _) _).setCell (p := ⟨g, k * 7 + 2, none⟩) (Nat.le_refl _) _).setCell (p := ⟨g, k * 7 + 3, none⟩) (Nat.le_refl _) _).setCell (p := ⟨g, k * 7 + 4, none⟩) (Nat.le_refl _) _).setCell (p := ⟨g, k * 7 + 5, none⟩) (Nat.le_refl _) _).setCell (p := ⟨g, k * 7 + 6, none⟩) (Nat.le_refl _) _).drew⟩
      case measure => simp [intOf]; omega
    · obtain rfl : k = D.length := by omega
      have hr := HFk.out
      rw [Nat.sub_self, Nat.zero_mul, List.take_length] at hr
      have HR2 : Hid (RowIs wr g 53 (argsCells D)) := hr.done
      clear hr HFk
      go_wp2
      go_ret
      rw [HG.out]
      exact ⟨rfl, HR2, HBk⟩

theorem toArg_any (a : Option Addr) (cap : Nat) (D : List Decl) (w : World) (hs : IsDecls w a D) (hm : D.length ≤ 1048576) (hnil : a = none → D = []) :
    Calls Try.prog 9 #[.slice a D.length cap] w fun e w' => RetV e (fun v => IsArgs w' v D w.heap.size) ∧ Below w.heap.size w w' := by
  cases a with
  | none =>
    have := hnil rfl
    subst this
    refine (toArg_nil _ cap w).mono ?_
    rintro e w' ⟨rfl, rfl⟩
    exact ⟨retV ⟨none, 0, rfl, Nat.le_refl _, .inl rfl⟩, Below.refl _ _⟩
  | some x =>
    refine (toArg_some x cap D w hs hm).mono ?_
    rintro e w' ⟨rfl, hrow, hb⟩
    exact ⟨retV ⟨_, _, rfl, Nat.le_refl _, .inr ⟨rfl, hrow.lt, argAt_of_row hrow⟩⟩, hb⟩
end Go.Proofs.Qxb6605178a.All
