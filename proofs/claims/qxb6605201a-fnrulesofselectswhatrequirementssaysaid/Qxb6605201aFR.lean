import Derived.Test.Qxb6605201aHold
namespace Go.Proofs.Qxb6605201a.Rul
open Go.RowKit Go.Sort Go.Lib

theorem compareBytes_zero : ∀ (a b : Str), compareBytes a b = 0 ↔ a = b
  | [], [] => by simp [compareBytes]
  | [], b :: ys => by simp [compareBytes]
  | a :: xs, [] => by simp [compareBytes]
  | a :: xs, b :: ys => by
    unfold compareBytes
    by_cases h : a < b
    · rw [if_pos h]
      have : a ≠ b := by rintro rfl; exact UInt8.lt_irrefl _ h
      simp [this]
    · rw [if_neg h]
      by_cases k : b < a
      · rw [if_pos k]
        have : a ≠ b := by rintro rfl; exact h k
        simp [this]
      · rw [if_neg k]
        have e : a = b := by
          have h1 : ¬ a.toNat < b.toNat := h
          have h2 : ¬ b.toNat < a.toNat := k
          exact UInt8.toNat_inj.1 (by omega)
        rw [compareBytes_zero xs ys]
        simp [e]

/-- The counter of comparisons. -/
def Ctr (w : World) (cb c : Nat) : Prop := w.heap[cb]? = some (.cells #[.int .i64 c] 3 (0, 0))
theorem Ctr.lt {w : World} {cb c : Nat} (h : Ctr w cb c) : cb < w.heap.size := by
  unfold Ctr at h
  rcases Nat.lt_or_ge cb w.heap.size with h1 | h1
  · exact h1
  · rw [Array.getElem?_eq_none h1] at h; cases h
theorem Ctr.cell {w : World} {cb c : Nat} (h : Ctr w cb c) : w.cell? ⟨cb, 0, none⟩ = some (.int .i64 c) := by
  unfold Ctr at h
  simp [World.cell?, h]
theorem Ctr.frozen {w : World} {cb c : Nat} (h : Ctr w cb c) : w.frozen? ⟨cb, 0, none⟩ = false := frozen_of_row w cb 0 _ 3 h
theorem Ctr.set {w : World} {cb c : Nat} (h : Ctr w cb c) (d : Nat) : Ctr (w.setCell ⟨cb, 0, none⟩ (.int .i64 d)) cb d := by
  unfold Ctr at h ⊢
  rw [Sort.setCell_eq]
  show (w.heap.modify cb (onCells _))[cb]? = _
  rw [Array.getElem?_modify, if_pos rfl, h]; rfl
theorem Ctr.alloc {w : World} {cb c : Nat} (h : Ctr w cb c) (o : Obj) : Ctr (w.alloc o) cb c := (Below.heap_alloc w o cb h.lt).trans h

/-- What one counted comparison does to the world. -/
def Ticked (cb c : Nat) (w w' : World) : Prop := Ctr w' cb c ∧ Kept (fun j => j = cb) w w'

set_option maxHeartbeats 1000000 in
/-- The literal in findRule: one comparison, counted. -/
theorem cmp47 (cb c : Nat) (k x : Str) (th ab : Bool) (av ae : Option Addr) (nv cv ne ce : Nat) (w : World) (hc : Ctr w cb c) (hl : c < 4611686018427387904) :
    Calls Try.prog 47 #[.agg #[encStr k, .bool th, .bool ab, .slice av nv cv, .slice ae ne ce], encStr x, .pointer (some ⟨cb, 0, none⟩)] w fun e w' => e = .returned (.int .i64 (compareBytes k x)) ∧ Ticked cb (c + 1) w w' := by
  have hcmp : ∀ w, Calls Try.prog 32 #[encStr k, encStr x] w fun e w' => e = .returned (.int .i64 (compareBytes k x)) ∧ w' = w := fun w => Try.strings_Compare ⟨k.toArray⟩ ⟨x.toArray⟩ w
  have c0 := hc.cell
  have f0 := hc.frozen
  have hcb := hc.lt
  have hne : ¬ cb = w.heap.size := by omega
  have HT : Hid (Ticked cb (c + 1) w ((w.setCell ⟨cb, 0, none⟩ (.int .i64 ((c : Int) + 1))).alloc (.cells #[encStr k, .bool th, .bool ab, .slice av nv cv, .slice ae ne ce] 39))) := by
    have h1 := (hc.set (c + 1)).alloc (.cells #[encStr k, .bool th, .bool ab, .slice av nv cv, .slice ae ne ce] 39)
    refine ⟨h1, (kept_set w cb 0 _).trans ((kept_of_below ((Below.refl _ _).alloc (Nat.le_refl _) _)).mono fun _ _ e => e.elim)⟩
  clear hc
  generalize compareBytes k x = r at hcmp ⊢
  go_enter Try.func47, Try.ntmps47
  go_wp2_with fail
  refine (hcmp _).mono ?_
  rintro e w' ⟨rfl, rfl⟩
  go_wp2
  go_ret
  exact ⟨rfl, HT.out⟩

/-- A rule's cells at an offset. -/
def CellsR (w : World) (gr off : Nat) (R : List RV) : Prop := ∀ i r, R[i]? = some r → ∀ f, f < 5 → w.cell? ⟨gr, off + i * 5 + f, none⟩ = (encRV r)[f]?
theorem CellsR.kept {w w' : World} {gr off : Nat} {R : List RV} (h : CellsR w gr off R) (hb : w'.heap[gr]? = w.heap[gr]?) : CellsR w' gr off R := fun i r hr f hf => (World.cell?_of_block (a := ⟨gr, off + i * 5 + f, none⟩) hb).trans (h i r hr f hf)

/-- The state of the halving. -/
structure BS (cb : Nat) (R : List RV) (x : Str) (w wr : World) (i j c : Nat) : Prop where
  lt : ∀ t (h : t < R.length), t < i → R[t].k < x
  ge : ∀ t (h : t < R.length), j ≤ t → ¬ R[t].k < x
  ctr : Ctr wr cb c
  kept : Kept (fun j => j = cb) w wr
  fst : c = 0 → i = 0 ∧ j = R.length
  pw : 2 ^ c * (j - i) ≤ R.length
  pv : 0 < c → 2 ^ (c - 1) ≤ R.length

theorem strict_at {R : List RV} (hs : Strict (R.map fun r => r.k)) {s t : Nat} (hs' : s < R.length) (ht : t < R.length) (h : s < t) : R[s].k < R[t].k := by
  have := List.pairwise_iff_getElem.1 hs s t (by simpa using hs') (by simpa using ht) h
  simpa using this

theorem BS.step {cb : Nat} {R : List RV} {x : Str} {w wr w' : World} {i j c : Nat} (h : BS cb R x w wr i j c) (hij : i < j) (hs : Strict (R.map fun r => r.k)) (ht : Ticked cb (c + 1) wr w') (hm : (i + j) / 2 < R.length) :
    (R[(i + j) / 2].k < x → BS cb R x w w' ((i + j) / 2 + 1) j (c + 1)) ∧ (¬ R[(i + j) / 2].k < x → BS cb R x w w' i ((i + j) / 2) (c + 1)) := by
  have hp : 2 ^ (c + 1) = 2 ^ c * 2 := Nat.pow_succ 2 c
  have hpos : 0 < 2 ^ c := Nat.pos_of_ne_zero (by simp)
  have hv : 2 ^ c ≤ R.length := by
    have := h.pw
    have h1 : 2 ^ c * 1 ≤ 2 ^ c * (j - i) := Nat.mul_le_mul_left _ (by omega)
    omega
  constructor
  · intro hk
    refine ⟨fun t h1 h2 => ?_, h.ge, ht.1, h.kept.trans ht.2, fun e => by omega, ?_, fun _ => by simpa using hv⟩
    · rcases Nat.lt_or_ge t ((i + j) / 2) with h3 | h3
      · exact lt_tr (strict_at hs h1 hm h3) hk
      · have : t = (i + j) / 2 := by omega
        subst this; exact hk
    · have h1 : 2 ^ c * (2 * (j - ((i + j) / 2 + 1))) ≤ 2 ^ c * (j - i) := Nat.mul_le_mul_left _ (by omega)
      rw [hp, Nat.mul_assoc]
      exact Nat.le_trans h1 h.pw
  · intro hk
    refine ⟨h.lt, fun t h1 h2 h3 => ?_, ht.1, h.kept.trans ht.2, fun e => by omega, ?_, fun _ => by simpa using hv⟩
    · rcases Nat.lt_or_ge ((i + j) / 2) t with h4 | h4
      · exact hk (lt_tr (strict_at hs hm h1 h4) h3)
      · have : t = (i + j) / 2 := by omega
        subst this; exact hk h3
    · have h1 : 2 ^ c * (2 * ((i + j) / 2 - i)) ≤ 2 ^ c * (j - i) := Nat.mul_le_mul_left _ (by omega)
      rw [hp, Nat.mul_assoc]
      exact Nat.le_trans h1 h.pw

/-- BinarySearchFunc's ending. -/
def RetF (cb : Nat) (R : List RV) (x : Str) (w : World) (e : Ending) (w' : World) : Prop := ∃ (i c : Nat) (f : Bool), e = .returned (.tuple #[.int .i64 i, .bool f]) ∧ (f = true → ∃ r, R[i]? = some r ∧ r.k = x) ∧ (f = false → ∀ r ∈ R, r.k ≠ x) ∧
  Ctr w' cb c ∧ 1 ≤ c ∧ c ≤ 4611686018427387904 ∧ (∀ b, R.length < 2 ^ b → c ≤ b + 1) ∧ Kept (fun j => j = cb) w w'

theorem BS.bound {cb : Nat} {R : List RV} {x : Str} {w wr : World} {i j c : Nat} (h : BS cb R x w wr i j c) (b : Nat) (hb : R.length < 2 ^ b) : c ≤ b := by
  rcases Nat.eq_zero_or_pos c with h0 | h0
  · omega
  · have h1 := h.pv h0
    have h2 : 2 ^ (c - 1) < 2 ^ b := by omega
    have := (Nat.pow_lt_pow_iff_right (by omega : 1 < 2)).1 h2
    omega

theorem BS.small {cb : Nat} {R : List RV} {x : Str} {w wr : World} {i j c : Nat} (h : BS cb R x w wr i j c) (hn : R.length ≤ 4096) : c ≤ 13 := h.bound 13 (by omega)

set_option maxRecDepth 100000 in
set_option maxHeartbeats 4000000 in
/-- slices.BinarySearchFunc over rules, with findRule's literal. -/
theorem find46 (gr off cap cb : Nat) (R : List RV) (x : Str) (w : World) (hn : R.length ≤ 4096) (h0 : 0 < R.length) (hc : CellsR w gr off R) (hgr : gr < w.heap.size) (hne : gr ≠ cb) (hs : Strict (R.map fun r => r.k)) (hcb : Ctr w cb 0) :
    Calls Try.prog 46 #[.slice (some ⟨gr, off, none⟩) R.length cap, encStr x, .func (.func 47) #[] #[.pointer (some ⟨cb, 0, none⟩)]] w fun e w' => RetF cb R x w e w' := by
  have HC : Hid (CellsR w gr off R) := hc
  have HST : Hid (Strict (R.map fun r => r.k)) := hs
  have HB0 : Hid (BS cb R x w w 0 R.length 0) := ⟨fun t _ h => by omega, fun t h1 h2 => by omega, hcb, Kept.refl _ _, fun _ => ⟨rfl, rfl⟩, by simp, fun h => by omega⟩
  clear hc hs hcb
  go_enter Try.func46, Try.ntmps46
  go_wp2
  go_loopw [9, 10] (fun iv jv wr => ∃ i j c : Nat, i ≤ j ∧ j ≤ R.length ∧ iv = .int .i64 i ∧ jv = .int .i64 j ∧ Hid (BS cb R x w wr i j c)) (fun iv jv _ => (intOf jv).toNat - (intOf iv).toNat)
  case atStart => exact ⟨0, R.length, 0, Nat.zero_le _, Nat.le_refl _, rfl, rfl, HB0⟩
  case round =>
    obtain ⟨i, j, c, hij, hj, rfl, rfl, HB⟩ := hrel
    clear HB0
    have hcl := HB.out.small hn
    by_cases hlt : i < j
    · have hm : (i + j) / 2 < R.length := by omega
      have hcs := (HC.out.kept (HB.out.kept.block gr hgr hne)) _ _ (List.getElem?_eq_getElem hm)
      have HS2 : Hid (∀ w', Ticked cb (c + 1) wr w' → (R[(i + j) / 2].k < x → BS cb R x w w' ((i + j) / 2 + 1) j (c + 1)) ∧ (¬ R[(i + j) / 2].k < x → BS cb R x w w' i ((i + j) / 2) (c + 1))) := fun w' ht => HB.out.step hlt HST.out ht hm
      have hcall := fun th ab av ae nv cv ne ce => cmp47 cb c R[(i + j) / 2].k x th ab av ae nv cv ne ce wr HB.out.ctr (by omega)
      have hneg := compareBytes_neg R[(i + j) / 2].k x
      generalize R[(i + j) / 2] = r at *
      obtain ⟨rk, rth, rab, rva, rvn, rvc, rea, ren, rec⟩ := r
      have c0 : wr.cell? ⟨gr, off + (i + j) / 2 * 5, none⟩ = some (encStr rk) := hcs 0 (by omega)
      have c1 : wr.cell? ⟨gr, off + (i + j) / 2 * 5 + 1, none⟩ = some (.bool rth) := hcs 1 (by omega)
      have c2 : wr.cell? ⟨gr, off + (i + j) / 2 * 5 + 2, none⟩ = some (.bool rab) := hcs 2 (by omega)
      have c3 : wr.cell? ⟨gr, off + (i + j) / 2 * 5 + 3, none⟩ = some (.slice rva rvn rvc) := hcs 3 (by omega)
      have c4 : wr.cell? ⟨gr, off + (i + j) / 2 * 5 + 4, none⟩ = some (.slice rea ren rec) := hcs 4 (by omega)
      have hcall2 := hcall rth rab rva rea rvn rvc ren rec
      clear hcs hcall
      simp only at hneg hcall2 HS2
      generalize compareBytes rk x = cr at *
      have i1 : (0 : Int) ≤ (((i + j) / 2 : Nat) : Int) := by omega
      have i2 : (((i + j) / 2 : Nat) : Int) < (R.length : Int) := by omega
      by_cases hk : rk < x
      · have d1 : decide (cr < 0) = true := decide_eq_true (hneg.2 hk)
        clear hneg
        go_wp2_with fail
        refine hcall2.mono ?_
        rintro e w2 ⟨rfl, ht⟩
        have HT2 : Hid (BS cb R x w w2 ((i + j) / 2 + 1) j (c + 1)) := (HS2.out _ ht).1 hk
        clear ht HS2
        go_wp2
        go_roundw
        case rel => exact ⟨(i + j) / 2 + 1, j, c + 1, by omega, hj, by rw [show ((i : Int) + (j : Int)) / 2 + 1 = (((i + j) / 2 + 1 : Nat) : Int) by omega], rfl, HT2⟩
        case measure => simp [intOf]; omega
      · have d1 : decide (cr < 0) = false := decide_eq_false (fun h => hk (hneg.1 h))
        clear hneg
        go_wp2_with fail
        refine hcall2.mono ?_
        rintro e w2 ⟨rfl, ht⟩
        have HT2 : Hid (BS cb R x w w2 i ((i + j) / 2) (c + 1)) := (HS2.out _ ht).2 hk
        clear ht HS2
        go_wp2
        go_roundw
        case rel => exact ⟨i, (i + j) / 2, c + 1, by omega, by omega, rfl, by rw [show ((i : Int) + (j : Int)) / 2 = (((i + j) / 2 : Nat) : Int) by omega], HT2⟩
        case measure => simp [intOf]; omega
    · obtain rfl : i = j := by omega
      by_cases hin : i < R.length
      · have hcs := (HC.out.kept (HB.out.kept.block gr hgr hne)) _ _ (List.getElem?_eq_getElem hin)
        have hcall := fun th ab av ae nv cv ne ce => cmp47 cb c R[i].k x th ab av ae nv cv ne ce wr HB.out.ctr (by omega)
        have hzero := compareBytes_zero R[i].k x
        have HF : Hid (∀ w', Ticked cb (c + 1) wr w' → RetF cb R x w (.returned (.tuple #[.int .i64 i, .bool (decide (R[i].k = x))])) w') := fun w' ht => by
          refine ⟨i, c + 1, _, rfl, fun h => ⟨R[i], List.getElem?_eq_getElem hin, of_decide_eq_true h⟩, fun h r hr e => ?_, ht.1, by omega, by omega, fun b hb => ?_, HB.out.kept.trans ht.2⟩
          · obtain ⟨t, ht', rfl⟩ := List.mem_iff_getElem.1 hr
            have hne' : R[i].k ≠ x := of_decide_eq_false h
            rcases Nat.lt_trichotomy t i with h1 | h1 | h1
            · have := HB.out.lt t ht' h1
              rw [e] at this; exact lt_irr x this
            · subst h1; exact hne' e
            · have h2 := strict_at HST.out hin ht' h1
              rw [e] at h2
              exact HB.out.ge i hin (Nat.le_refl _) h2
          · have := HB.out.bound b hb; omega
        generalize R[i] = r at *
        obtain ⟨rk, rth, rab, rva, rvn, rvc, rea, ren, rec⟩ := r
        have c0 : wr.cell? ⟨gr, off + i * 5, none⟩ = some (encStr rk) := hcs 0 (by omega)
        have c1 : wr.cell? ⟨gr, off + i * 5 + 1, none⟩ = some (.bool rth) := hcs 1 (by omega)
        have c2 : wr.cell? ⟨gr, off + i * 5 + 2, none⟩ = some (.bool rab) := hcs 2 (by omega)
        have c3 : wr.cell? ⟨gr, off + i * 5 + 3, none⟩ = some (.slice rva rvn rvc) := hcs 3 (by omega)
        have c4 : wr.cell? ⟨gr, off + i * 5 + 4, none⟩ = some (.slice rea ren rec) := hcs 4 (by omega)
        have hcall2 := hcall rth rab rva rea rvn rvc ren rec
        clear hcs hcall
        simp only at hzero hcall2 HF
        generalize compareBytes rk x = cr at *
        have i1 : (0 : Int) ≤ (i : Int) := by omega
        have i2 : (i : Int) < (R.length : Int) := by omega
        by_cases hk : rk = x
        · have d1 : (cr == 0) = true := by rw [hzero.2 hk]; rfl
          rw [decide_eq_true hk] at HF
          clear hzero hk
          go_wp2_with fail
          refine hcall2.mono ?_
          rintro e w2 ⟨rfl, ht⟩
          have HF2 : Hid _ := HF.out _ ht
          clear ht HF
          go_wp2
          go_ret2
          exact HF2.out
        · have d1 : (cr == 0) = false := beq_false_of_ne fun h => hk (hzero.1 h)
          rw [decide_eq_false hk] at HF
          clear hzero hk
          go_wp2_with fail
          refine hcall2.mono ?_
          rintro e w2 ⟨rfl, ht⟩
          have HF2 : Hid _ := HF.out _ ht
          clear ht HF
          go_wp2
          go_ret2
          exact HF2.out
      · obtain rfl : i = R.length := by omega
        have HF : Hid (RetF cb R x w (.returned (.tuple #[.int .i64 R.length, .bool false])) wr) := by
          refine ⟨R.length, c, false, rfl, (fun h => by cases h), fun _ r hr e => ?_, HB.out.ctr, ?_, by omega, fun b hb => ?_, HB.out.kept⟩
          · obtain ⟨t, ht', rfl⟩ := List.mem_iff_getElem.1 hr
            have := HB.out.lt t ht' ht'
            rw [e] at this; exact lt_irr x this
          · rcases Nat.eq_zero_or_pos c with h1 | h1
            · have := (HB.out.fst h1).1; omega
            · exact h1
          · have := HB.out.bound b hb; omega
        go_wp2
        go_ret2
        exact HF.out

/-- findRule's ending. -/
def RetP (gr off : Nat) (R : List RV) (x : Str) (w : World) (e : Ending) (w' : World) : Prop := ∃ c : Nat, 1 ≤ c ∧ c ≤ 4611686018427387904 ∧ (∀ b, R.length < 2 ^ b → c ≤ b + 1) ∧ Below w.heap.size w w' ∧
  ((∃ i r, e = .returned (.tuple #[.pointer (some ⟨gr, off + i * 5, none⟩), .int .i64 c]) ∧ R[i]? = some r ∧ r.k = x) ∨ (e = .returned (.tuple #[.pointer none, .int .i64 c]) ∧ ∀ r ∈ R, r.k ≠ x))

theorem results_tmp_cell {fn : Func} {t p : Tmp} {ty : TypeId} (h : fn.results = #[.tmp t, .cell p ty]) (tmps : Array Value) (P : Program) (w : World) (a : Addr) (v : Value) (hp : tmps.getD p undef = .pointer (some a)) (hl : (loadVar ty a).run P w = .ok v w) :
    (results fn tmps).run P w = .ok (.tuple #[tmps.getD t undef, v]) w := by
  have hp' : tmps[p]?.getD undef = .pointer (some a) := by simpa using hp
  simp [results, h, hp', asAddr, hl, Result.andThen]

end Go.Proofs.Qxb6605201a.Rul
