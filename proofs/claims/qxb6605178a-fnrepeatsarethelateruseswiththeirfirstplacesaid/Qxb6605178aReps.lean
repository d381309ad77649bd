import Derived.Test.Qxb6605178aBase
namespace Go.Proofs.Qxb6605178a
open Go.RowKit
open Go.Maps (Keyed string_keyed)

theorem law9 : Keyed Try.prog 9 := string_keyed Try.underlying9
theorem zero28 (w : World) : (zeroValue 28).run Try.prog w = .ok (.agg #[.string ⟨#[]⟩, .int .i64 0]) w := by kernel_rfl
theorem Try.info61 : (Try.prog.info? 61).map (fun i => (i.zero, i.size, i.bytes)) = some (some (.agg #[.string ⟨#[]⟩, .string ⟨#[]⟩, .int .i64 0, .string ⟨#[]⟩, .int .i64 0]), 5, 64) := by kernel_rfl

def repCells (r : Rep) : List Value := [.string r.use.name, .string r.use.file, .int .i64 r.use.line, .string r.ffile, .int .i64 r.fline]
def repsCells (R : List Rep) : List Value := (R.map repCells).flatten
theorem repsCells_length (R : List Rep) : (repsCells R).length = R.length * 5 := by
  induction R with
  | nil => rfl
  | cons r R ih => simp only [repsCells, List.map_cons, List.flatten_cons, List.length_append, List.length_cons] at ih ⊢; rw [ih]; simp [repCells]; omega
theorem repsCells_snoc (R : List Rep) (r : Rep) : repsCells (R ++ [r]) = repsCells R ++ repCells r := by simp [repsCells]

/-- The look-up in the call's own map of places, the value's shape written out. -/
theorem lookup_place (w : World) {ops : Array Oper} {rest : List Oper} {o : Oper} {a : Act} {Q : Exit → Act → World → Prop} (hg : o.guard = none) (m x : Operand) (hop : o.op = Op.lookup 63 m x true)
    (b n : Nat) (D : DataW Unit) (U : List Use) (hm : a.eval m = .map (some b)) (hown : w.ownsMap Try.prog 9 placeElem b n D) (hD : Holds D U) (s : ByteArray) (hx : a.eval x = .string s) (hs : s.size ≤ maxLen) (p : ByteArray × Int) (ok : Bool) (hok : (first U s).isSome = ok) (hp : (first U s).getD zp = p)
    (hK : wpList Try.prog ops Q rest (a.put o.dst (.tuple #[.agg #[.string p.1, .int .i64 p.2], .bool ok])) w) :
    wpList Try.prog ops Q (o :: rest) a w := by
  refine wpList_lookup_own_ok w hg m x 63 hop 9 28 law9 Try.underlying63 placeElem (zero28 w) (pd zp) [] (placeElem_mk _ _) b n D hm hown _ (kl s) hx (WideMaps.keyOf_string_mk Try.underlying9 hs) ?_
  intro v ps hv
  obtain ⟨f, l, rfl, hz⟩ := placeElem_inv hv
  have h := hD.2 s
  simp only [Prod.mk.injEq] at hz
  rw [h.2] at hz
  rw [h.1, hok]
  have hpe := pd_inj hz.1
  rw [hp] at hpe
  subst hpe
  exact hK

/-- It returned a value of which p holds. -/
def RetV (e : Ending) (p : Value → Prop) : Prop := ∃ v, e = .returned v ∧ p v
theorem retV {v : Value} {p : Value → Prop} (h : p v) : RetV (.returned v) p := ⟨v, rfl, h⟩

/-- What stands at the head of round k: the map, the rows found, old memory. -/
def Inv (w : World) (B : Nat) (U : List Use) (k : Nat) (v : Value) (wr : World) : Prop :=
  ∃ D, wr.ownsMap Try.prog 9 placeElem B k D ∧ Holds D (U.take k) ∧ wr.ownsRow (B + 1) 61 5 v (reps U k).length (repsCells (reps U k)) ∧ Below B w wr ∧ B + 1 ≤ wr.heap.size

theorem inv_start (w : World) (U : List Use) : Inv w w.heap.size U 0 (.slice none 0 0) (w.alloc (.map #[] 0)) :=
  ⟨_, World.ownsMap_made _ _ _ _, holds_start, World.ownsRow_nil _ _ _ _, (Below.refl _ _).alloc (Nat.le_refl _) _, by simp⟩

theorem inv_new {w wr w1 : World} {B k : Nat} {U : List Use} {v : Value} {D : DataW Unit} {o1 o2 : Obj} (hown1 : w1.ownsMap Try.prog 9 placeElem B (k + 1) D) (hD : Holds D (U.take (k + 1))) (hR : reps U (k + 1) = reps U k)
    (hrow : wr.ownsRow (B + 1) 61 5 v (reps U k).length (repsCells (reps U k))) (hbel : Below B w wr) (hsz : B + 1 ≤ wr.heap.size) (hg : ((wr.alloc o1).alloc o2).grownBy w1 (some B)) : Inv w B U (k + 1) v w1 := by
  have hr2 := (hrow.alloc o1).alloc o2
  have hb2 := (hbel.alloc (by omega) o1).alloc (by simp; omega) o2
  refine ⟨D, hown1, hD, ?_, hb2.grown hg (by simp; omega) (by intro j hj; cases hj; exact Nat.le_refl _), ?_⟩
  · rw [hR]
    refine hr2.kept hg (.inr fun e => ?_)
    have := (hr2.lt _ e).1
    omega
  · have := hg.size
    simp at this
    omega

theorem inv_rep {w wr w1 : World} {B k : Nat} {U : List Use} {v v' : Value} {D : DataW Unit} {o1 o2 o3 : Obj} {r : Rep} (hown : wr.ownsMap Try.prog 9 placeElem B k D) (hD : Holds D (U.take (k + 1))) (hR : reps U (k + 1) = reps U k ++ [r])
    (hrow : wr.ownsRow (B + 1) 61 5 v (reps U k).length (repsCells (reps U k))) (hbel : Below B w wr) (hsz : B + 1 ≤ wr.heap.size)
    (hrow1 : w1.ownsRow (B + 1) 61 5 v' ((reps U k).length + 1) (repsCells (reps U k) ++ repCells r)) (hg : (((wr.alloc o1).alloc o2).alloc o3).grownBy w1 v.ownBlock) : Inv w B U (k + 1) v' w1 := by
  have hr2 := ((hrow.alloc o1).alloc o2).alloc o3
  have hb2 := ((hbel.alloc (by omega) o1).alloc (by simp; omega) o2).alloc (by simp; omega) o3
  refine ⟨D, ((((hown.alloc o1).alloc o2).alloc o3).kept hg (fun e => ?_)).mono (Nat.le_succ _), hD, ?_, hb2.grown hg (by simp; omega) (by intro j hj; have := (hr2.lt j hj).1; omega), ?_⟩
  · have := (hr2.lt B e.symm).1
    omega
  · rw [hR, repsCells_snoc, List.length_append]
    exact hrow1
  · have := hg.size
    simp at this
    omega

set_option maxHeartbeats 400000 in
theorem repeats_any (a : Option Addr) (cap : Nat) (U : List Use) (w : World) (hs : IsUses w a U) (hm : U.length ≤ 1048576) (hsz : ∀ u ∈ U, u.name.size ≤ 9223372036854775807) :
    Calls Try.prog 12 #[.slice a U.length cap] w fun e w' => RetV e (fun v => w'.ownsRow (w.heap.size + 1) 61 5 v (reps U U.length).length (repsCells (reps U U.length))) ∧ Below w.heap.size w w' := by
  have HS : Hid (IsUses w a U) := hs
  have HZ : Hid (∀ u ∈ U, u.name.size ≤ 9223372036854775807) := hsz
  clear hs hsz
  have hmm := @run_makeMap Try.prog
  obtain ⟨i0, hi, hz0, hz1, hz2⟩ := info_parts Try.info61
  have HI : Hid (Inv w w.heap.size U 0 (.slice none 0 0) (w.alloc (.map #[] 0))) := inv_start w U
  go_enter Try.func12, Try.ntmps12
  go_wp2
  clear hmm
  generalize hB : w.heap.size = B at *
  have HB : Hid (w.heap.size = B) := hB
  clear hB
  go_loopw [4, 12] (fun v i wr => ∃ k : Nat, k ≤ U.length ∧ i = .int .i64 k ∧ Inv w B U k v wr) (fun _ i _ => U.length - (intOf i).toNat)
  case atStart => exact ⟨0, Nat.zero_le _, rfl, HI⟩
  case round =>
    obtain ⟨k, hk, rfl, hinv⟩ := hrel
    clear HI
    by_cases hlt : k < U.length
    · obtain ⟨b, off, rfl, hb, h0, h1, h2⟩ := HS.out.at hlt
      obtain ⟨D, hown, hD, hrow, hbel, hsz⟩ := hinv
      rw [HB.out] at hb
      have hnm : U[k].name.size ≤ maxLen := HZ.out _ (List.getElem_mem hlt)
      have c0 := (hbel.cell (p := ⟨b, off + k * 3, none⟩) hb).trans h0
      have c1 := (hbel.cell (p := ⟨b, off + k * 3 + 1, none⟩) hb).trans h1
      have c2 := (hbel.cell (p := ⟨b, off + k * 3 + 2, none⟩) hb).trans h2
      clear h0 h1 h2 HS HZ
      cases hf : first (U.take k) U[k].name with
      | none =>
        have HN : Hid (Holds (D.put (kl U[k].name) (pd (U[k].file, U[k].line))) (U.take (k + 1))) := holds_new hD hlt hf
        have HR : Hid (reps U (k + 1) = reps U k) := by show _ = _; rw [reps, repAt_none U k hlt hf, List.append_nil]
        have hD1 : Hid (Holds D (U.take k)) := hD
        have HO : Hid (wr.ownsMap Try.prog 9 placeElem B k D) := hown
        have HW : Hid (wr.ownsRow (B + 1) 61 5 u4 (reps U k).length (repsCells (reps U k))) := hrow
        have HBl : Hid (Below B w wr) := hbel
        clear hD hown hrow hbel hi hz0 hz1 hz2
        have HF1 : Hid ((first (U.take k) U[k].name).isSome = false) := by show _ = _; rw [hf]; rfl
        have HF2 : Hid ((first (U.take k) U[k].name).getD zp = (⟨#[]⟩, 0)) := by show _ = _; rw [hf]; rfl
        clear hf
        generalize U[k].name = nm at *
        generalize U[k].file = fl at *
        generalize U[k].line = ln at *
        go_wp2_with (first
          | (at_lookup; refine lookup_place _ rfl (.tmp 17) (.tmp 19) rfl B k D (U.take k) rfl (HO.out.alloc _) hD1.out nm rfl hnm (⟨#[]⟩, 0) false HF1.out HF2.out ?_)
          | (at_mapUpdate; refine wpList_mapUpdate_own _ rfl (.tmp 30) (.tmp 32) (.tmp 34) 63 rfl 9 28 law9 Try.underlying63 placeElem B k D rfl ((HO.out.alloc _).alloc _) (by unfold maxLen; omega) _ _ (kl nm) rfl rfl (WideMaps.keyOf_string_mk Try.underlying9 hnm) (pd (fl, ln)) [] (placeElem_mk _ _) ?_; intro w1 hown1 hgrow1))
        have HI2 : Hid (Inv w B U (k + 1) u4 w1) := inv_new hown1 HN.out HR.out HW.out HBl.out hsz hgrow1
        clear hown1 hgrow1
        go_roundw
        case rel => exact ⟨k + 1, by omega, by go_num, HI2⟩
        case measure => simp [intOf]; omega
      | some p =>
        have HN : Hid (Holds D (U.take (k + 1))) := holds_old hD hlt hf
        have HR : Hid (reps U (k + 1) = reps U k ++ [⟨⟨U[k].name, U[k].file, U[k].line⟩, p.1, p.2⟩]) := by show _ = _; rw [reps, repAt_some U k hlt p hf]
        have hD1 : Hid (Holds D (U.take k)) := hD
        have HO : Hid (wr.ownsMap Try.prog 9 placeElem B k D) := hown
        have HW : Hid (wr.ownsRow (B + 1) 61 5 u4 (reps U k).length (repsCells (reps U k))) := hrow
        have HBl : Hid (Below B w wr) := hbel
        have hrl := reps_le U k
        have HF1 : Hid ((first (U.take k) U[k].name).isSome = true) := by show _ = _; rw [hf]; rfl
        have HF2 : Hid ((first (U.take k) U[k].name).getD zp = p) := by show _ = _; rw [hf]; rfl
        clear hD hown hrow hbel hf
        generalize U[k].name = nm at *
        generalize U[k].file = fl at *
        generalize U[k].line = ln at *
        obtain ⟨pf, pl⟩ := p
        go_wp2_with (first
          | (at_lookup; refine lookup_place _ rfl (.tmp 17) (.tmp 19) rfl B k D (U.take k) rfl (HO.out.alloc _) hD1.out nm rfl hnm (pf, pl) true HF1.out HF2.out ?_)
          | (at_builtin; refine wpList_append_own _ rfl (.tmp 24) (.tmp 28) 58 rfl (B + 1) 61 i0 _ 5 64 Try.underlying58 hi hz0 hz1 hz2 rfl (by decide) _ _ _ rfl (((HW.out.alloc _).alloc _).alloc _) ⟨wr.heap.size + 2, 0, none⟩ 1 1 [.string nm, .string fl, .int .i64 ln, .string pf, .int .i64 pl] rfl rfl ?c1 ?c2 ?c3 ?c4 ?c5 ?_))
        case c2 => exact ⟨rfl, rfl, rfl, rfl, rfl⟩
        case c3 => unfold maxLen; omega
        case c4 => omega
        case c5 => omega
        intro v' w1 hrow1 hgrow1 _
        have HI2 : Hid (Inv w B U (k + 1) v' w1) := inv_rep HO.out HN.out HR.out HW.out HBl.out hsz hrow1 hgrow1
        clear hrow1 hgrow1
        go_wp2
        go_roundw
        case rel => exact ⟨k + 1, by omega, by go_num, HI2⟩
        case measure => simp [intOf]; omega
    · obtain rfl : k = U.length := by omega
      have HV : Hid (Inv w B U U.length u4 wr) := hinv
      clear hinv
      go_wp2
      go_ret
      obtain ⟨D, _, _, hrow, hbel, _⟩ := HV.out
      rw [HB.out]
      exact ⟨retV hrow, hbel⟩
end Go.Proofs.Qxb6605178a
