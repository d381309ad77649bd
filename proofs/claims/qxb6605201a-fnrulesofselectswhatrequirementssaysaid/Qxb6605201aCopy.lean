import Derived.Test.Qxb6605201aIns
import Derived.Deep.RegionHeld3
import Derived.Lib.SliceRun
namespace Go.Proofs.Qxb6605201a.Rul
open Go.RowKit Go.Sort Go.Lib

theorem Try.info56 : (Try.prog.info? 56).map (fun i => (i.zero, i.size, i.bytes)) = some (some (.agg #[.string ⟨#[]⟩, .int .i64 0, .slice none 0 0]), 3, 48) := by kernel_rfl

/-- The copy of a slice of strings, filled up to k. -/
def FillS (w : World) (g : Nat) (l : List Str) (k : Nat) : Prop := ∃ cur : Array Value, w.heap[g]? = some (.cells cur 9 (0, 0)) ∧ cur.size = l.length ∧ ∀ j (hj : j < l.length), j < k → cur[j]? = some (encStr l[j])

theorem FillS.made {w1 : World} {B g : Nat} {l : List Str} {X : List Value} (hown : w1.ownsRow B 9 1 (.slice (some ⟨g, 0, none⟩) l.length l.length) l.length X) : FillS w1 g l 0 := by
  obtain ⟨_, h | ⟨g', cap, cur, hv, _, hh, _, _, hsz, _⟩⟩ := hown
  · cases h.1
  · cases hv
    exact ⟨cur, hh, by simpa using hsz, fun j _ hj => by omega⟩
theorem FillS.lt {w : World} {g : Nat} {l : List Str} {k : Nat} (h : FillS w g l k) : g < w.heap.size := by
  obtain ⟨cur, h2, _⟩ := h
  rcases Nat.lt_or_ge g w.heap.size with h1 | h1
  · exact h1
  · rw [Array.getElem?_eq_none h1] at h2; cases h2
theorem FillS.at {w : World} {g : Nat} {l : List Str} {k : Nat} (h : FillS w g l k) (p : Nat) (hp : p < l.length) : (∃ x, w.cell? ⟨g, p, none⟩ = some x) ∧ w.frozen? ⟨g, p, none⟩ = false := by
  obtain ⟨cur, h2, h3, _⟩ := h
  refine ⟨⟨cur[p]'(by omega), ?_⟩, frozen_of_row w g p cur 9 h2⟩
  simp [World.cell?, h2]
theorem FillS.set {w : World} {g : Nat} {l : List Str} {k : Nat} (h : FillS w g l k) (hk : k < l.length) : FillS (w.setCell ⟨g, k, none⟩ (encStr l[k])) g l (k + 1) := by
  obtain ⟨cur, h2, h3, h4⟩ := h
  refine ⟨cur.setIfInBounds k (encStr l[k]), ?_, by simpa using h3, ?_⟩
  · rw [Sort.setCell_eq]
    show (w.heap.modify g (onCells _))[g]? = _
    rw [Array.getElem?_modify, if_pos rfl, h2]; rfl
  · intro j hj hjk
    rw [Array.getElem?_setIfInBounds]
    by_cases e : k = j
    · subst e; rw [if_pos rfl, if_pos (by omega)]
    · rw [if_neg e]; exact h4 j hj (by omega)
theorem FillS.own {w : World} {g B : Nat} {l : List Str} (h : FillS w g l l.length) (hB : B ≤ g) (hm : l.length ≤ maxLen) : OwnS B w (.slice (some ⟨g, 0, none⟩) l.length l.length) l := by
  obtain ⟨cur, h2, h3, h4⟩ := h
  refine ⟨by simp, .inr ⟨g, l.length, cur, rfl, hB, h2, Nat.le_refl _, hm, by omega, ?_⟩⟩
  apply List.ext_getElem?
  intro k
  rw [List.getElem?_take, List.getElem?_map]
  by_cases hk : k < l.length
  · rw [if_pos (by omega), Array.getElem?_toList, h4 k hk hk, List.getElem?_eq_getElem hk]; rfl
  · rw [if_neg (by omega), List.getElem?_eq_none (by omega)]; rfl

/-- The row of the copied requirements. -/
def RowQ (w : World) (g n : Nat) (Q : List Rq) : Prop := Q.length ≤ n ∧ ∃ cur : Array Value, w.heap[g]? = some (.cells cur 56 (0, 0)) ∧ cur.size = n * 3 ∧
  ∀ i q, Q[i]? = some q → cur[i * 3]? = some (encStr q.key) ∧ cur[i * 3 + 1]? = some (.int .i64 q.op) ∧ cur[i * 3 + 2]? = some q.v
theorem RowQ.made {w1 : World} {B g n : Nat} {X : List Value} (hown : w1.ownsRow B 56 3 (.slice (some ⟨g, 0, none⟩) n n) n X) : RowQ w1 g n [] := by
  obtain ⟨_, h | ⟨g', cap, cur, hv, _, hh, _, _, hsz, _⟩⟩ := hown
  · cases h.1
  · cases hv
    exact ⟨Nat.zero_le _, cur, hh, hsz, fun i q hq => by simp at hq⟩
theorem RowQ.lt {w : World} {g n : Nat} {Q : List Rq} (h : RowQ w g n Q) : g < w.heap.size := by
  obtain ⟨_, cur, h2, _⟩ := h
  rcases Nat.lt_or_ge g w.heap.size with h1 | h1
  · exact h1
  · rw [Array.getElem?_eq_none h1] at h2; cases h2
theorem RowQ.at {w : World} {g n : Nat} {Q : List Rq} (h : RowQ w g n Q) (p : Nat) (hp : p < n * 3) : (∃ x, w.cell? ⟨g, p, none⟩ = some x) ∧ w.frozen? ⟨g, p, none⟩ = false := by
  obtain ⟨_, cur, h2, h3, _⟩ := h
  refine ⟨⟨cur[p]'(by omega), ?_⟩, frozen_of_row w g p cur 56 h2⟩
  simp [World.cell?, h2]
theorem RowQ.reqAt {w : World} {g n : Nat} {Q : List Rq} (h : RowQ w g n Q) : ReqAt w g Q := by
  obtain ⟨_, cur, h2, h3, h4⟩ := h
  intro i q hq
  obtain ⟨a, b, c⟩ := h4 i q hq
  refine ⟨?_, ?_, ?_⟩ <;> simp [World.cell?, h2, a, b, c]
theorem RowQ.kept {w w' : World} {g n : Nat} {Q : List Rq} (h : RowQ w g n Q) (hb : w'.heap[g]? = w.heap[g]?) : RowQ w' g n Q := by
  obtain ⟨h1, cur, h2, r⟩ := h
  exact ⟨h1, cur, hb.trans h2, r⟩

/-- The three stores of a requirement. -/
def put3 (w : World) (g p : Nat) (q : Rq) : World :=
  ((w.setCell ⟨g, p, none⟩ (encStr q.key)).setCell ⟨g, p + 1, none⟩ (.int .i64 q.op)).setCell ⟨g, p + 2, none⟩ q.v
theorem put3_kept (w : World) (g p : Nat) (q : Rq) : Kept (fun j => j = g) w (put3 w g p q) :=
  ((kept_set w g p _).trans (kept_set _ g (p + 1) _)).trans (kept_set _ g (p + 2) _)
theorem RowQ.put {w : World} {g n : Nat} {Q : List Rq} (h : RowQ w g n Q) (hlt : Q.length < n) (q : Rq) : RowQ (put3 w g (Q.length * 3) q) g n (Q ++ [q]) := by
  obtain ⟨_, cur, h2, h3, h4⟩ := h
  refine ⟨by simp; omega, ((cur.setIfInBounds (Q.length * 3) (encStr q.key)).setIfInBounds (Q.length * 3 + 1) (.int .i64 q.op)).setIfInBounds (Q.length * 3 + 2) q.v, ?_, by simpa using h3, ?_⟩
  · unfold put3
    rw [Sort.setCell_eq, Sort.setCell_eq, Sort.setCell_eq, mapBlock_mapBlock, mapBlock_mapBlock]
    show (w.heap.modify g (onCells _))[g]? = _
    rw [Array.getElem?_modify, if_pos rfl, h2]; rfl
  · intro i q' hi
    rcases Nat.lt_or_ge i Q.length with hlt' | hge
    · rw [List.getElem?_append_left hlt'] at hi
      simp only [Array.getElem?_setIfInBounds]
      rw [if_neg (by omega), if_neg (by omega), if_neg (by omega), if_neg (by omega), if_neg (by omega), if_neg (by omega), if_neg (by omega), if_neg (by omega), if_neg (by omega)]
      exact h4 i q' hi
    · rw [List.getElem?_append_right hge] at hi
      have e0 : i - Q.length = 0 := by
        have := (List.getElem?_eq_some_iff.1 hi).1; simp at this; omega
      rw [e0] at hi
      simp at hi
      subst hi
      rw [show i = Q.length by omega]
      refine ⟨?_, ?_, ?_⟩ <;> simp [Array.getElem?_setIfInBounds] <;> omega

/-- The copy in the making. -/
structure Cpy (B gin n : Nat) (Q Q' : List Rq) (w wr : World) : Prop where
  row : RowQ wr gin n Q'
  same : Q'.map Rq.p = (Q.take Q'.length).map Rq.p
  own : ∀ q ∈ Q', OwnS B wr q.v q.l
  nd : (bks (Q'.map (·.v)) ++ [gin]).Nodup
  bel : Below B w wr
  low : B ≤ gin

theorem Cpy.step {B gin n : Nat} {Q Q' : List Rq} {w wr wc : World} (h : Cpy B gin n Q Q' w wr) (hB : B ≤ wr.heap.size) (hlt : Q'.length < n) (hn : n = Q.length) (vv : Value) (ho : OwnS wr.heap.size wc vv (Q[Q'.length]'(by omega)).l) (hb : Below wr.heap.size wr wc) :
    Cpy B gin n Q (Q' ++ [⟨(Q[Q'.length]'(by omega)).key, (Q[Q'.length]'(by omega)).op, vv, (Q[Q'.length]'(by omega)).l⟩]) w (put3 wc gin (Q'.length * 3) ⟨(Q[Q'.length]'(by omega)).key, (Q[Q'.length]'(by omega)).op, vv, (Q[Q'.length]'(by omega)).l⟩) := by
  have hg := h.row.lt
  have hlq : Q'.length < Q.length := by omega
  generalize hq : (⟨Q[Q'.length].key, Q[Q'.length].op, vv, Q[Q'.length].l⟩ : Rq) = q
  have hqv : q.v = vv := by rw [← hq]
  have hql : q.l = Q[Q'.length].l := by rw [← hq]
  have hqp : q.p = Q[Q'.length].p := by rw [← hq]; rfl
  have hK := put3_kept wc gin (Q'.length * 3) q
  have hold : ∀ q' ∈ Q', ∀ k, q'.v.ownBlock = some k → k < wr.heap.size ∧ k ≠ gin := by
    intro q' hq' k hk
    refine ⟨((h.own q' hq').lt k hk).2, fun e => ?_⟩
    exact (List.nodup_append.1 h.nd).2.2 k (mem_bks (List.mem_map.2 ⟨q', hq', rfl⟩) hk) gin (by simp) e
  have hnew : ∀ k, vv.ownBlock = some k → wr.heap.size ≤ k ∧ k < wc.heap.size := fun k hk => ho.lt k hk
  refine ⟨(h.row.kept (hb.block gin hg)).put hlt q, ?_, ?_, ?_, ?_, h.low⟩
  · rw [List.length_append, List.length_singleton, List.take_succ_eq_append_getElem hlq, List.map_append, List.map_append, h.same]
    simp [hqp]
  · intro q' hq'
    rcases List.mem_append.1 hq' with h1 | h1
    · refine (h.own q' h1).kept fun k hk => ?_
      obtain ⟨k1, k2⟩ := hold q' h1 k hk
      exact (hK.block k (Nat.lt_of_lt_of_le k1 hb.size) k2).trans (hb.block k k1)
    · rw [List.mem_singleton.1 h1, hqv, hql]
      refine (ho.mono hB).kept fun k hk => hK.block k (hnew k hk).2 fun e => ?_
      have := (hnew k hk).1
      omega
  · rw [List.map_append, show ([q].map (·.v)) = [vv] by simp [hqv], bks_append]
    have hbv : bks [vv] = vv.ownBlock.toList := by rw [bks_cons]; simp [bks]
    rw [hbv]
    have hnd := List.nodup_append.1 h.nd
    cases hvb : vv.ownBlock with
    | none => simpa using h.nd
    | some k =>
      have hk := hnew k hvb
      refine List.nodup_append.2 ⟨List.nodup_append.2 ⟨hnd.1, by simp, ?_⟩, by simp, ?_⟩
      · intro a ha b hb' e
        simp at hb'
        obtain ⟨v', hv', ha'⟩ := List.mem_filterMap.1 ha
        obtain ⟨q', hq', rfl⟩ := List.mem_map.1 hv'
        have := (hold q' hq' a ha').1
        omega
      · intro a ha b hb' e
        simp at hb'
        rcases List.mem_append.1 ha with h1 | h1
        · exact hnd.2.2 a h1 b (by simp [hb']) e
        · simp at h1; omega
  · refine h.bel.trans ((hb.mono hB).trans (below_kept hK (fun j e => by rw [e]; exact h.low) (Nat.le_trans hB hb.size)))

theorem Cpy.drew {B gin n : Nat} {Q Q' : List Rq} {w wr : World} (h : Cpy B gin n Q Q' w wr) : Cpy B gin n Q Q' w wr.drew := ⟨h.row, h.same, h.own, h.nd, h.bel.drew, h.low⟩

/-- copyReqs's ending. -/
def RetC (B : Nat) (Q : List Rq) (w : World) (e : Ending) (w' : World) : Prop := ∃ (gin : Nat) (Q' : List Rq), e = .returned (.slice (some ⟨gin, 0, none⟩) Q.length Q.length) ∧ Q'.length = Q.length ∧ Cpy B gin Q.length Q Q' w w'

theorem StrsNil {w : World} {v : Value} {l : List Str} (h : Strs w v l) (hn : ∃ n c, v = .slice none n c) : l = [] := by
  obtain ⟨a, c, rfl, h1 | ⟨b, off, rfl, _⟩⟩ := h
  · exact h1
  · obtain ⟨n, c', e⟩ := hn; cases e

set_option maxRecDepth 100000 in
set_option maxHeartbeats 8000000 in
theorem copy8 (B : Nat) (a : Option Addr) (cap : Nat) (Q : List Rq) (w : World) (hs : IsReqs w a Q) (hm : Q.length ≤ 4096) (hl : ∀ q ∈ Q, q.l.length ≤ 4096) (hB : B = w.heap.size) :
    Calls Try.prog 8 #[.slice a Q.length cap] w fun e w' => RetC B Q w e w' := by
  have HS : Hid (IsReqs w a Q) := hs
  have HL : Hid (∀ q ∈ Q, q.l.length ≤ 4096) := hl
  clear hs hl
  obtain ⟨i0, hi, hz0, hz1, hz2⟩ := info_parts Try.info56
  go_enter Try.func8, Try.ntmps8
  go_wp2_with (at_make; refine wpList_make_full _ rfl (.tmp 8) (.tmp 8) 24 rfl B 56 i0 _ 3 Try.underlying24 hi hz0 hz1 .i64 .i64 _ _ Q.length rfl rfl rfl rfl ?c1 ?c2 ?c3 ?_)
  case c1 => first | omega | (rw [hz2]; omega)
  case c2 => unfold maxLen; omega
  case c3 => omega
  intro w1 hown hgrow
  subst hB
  have HC0 : Hid (Cpy w.heap.size w.heap.size Q.length Q [] w w1) := ⟨RowQ.made hown, by simp, (fun q hq => by simp at hq), by simp [bks], (Below.refl _ _).grown hgrow (Nat.le_refl _) (by simp), Nat.le_refl _⟩
  clear hown hgrow hi hz0 hz1 hz2
  generalize hg0 : w.heap.size = gin at *
  have HG : Hid (w.heap.size = gin) := hg0
  clear hg0
  go_wp2
  go_loopw [12] (fun i wr => ∃ Q' : List Rq, Q'.length ≤ Q.length ∧ i = .int .i64 Q'.length ∧ Hid (Cpy gin gin Q.length Q Q' w wr)) (fun i _ => Q.length - (intOf i).toNat)
  case atStart => exact ⟨[], Nat.zero_le _, rfl, HC0⟩
  case round =>
    obtain ⟨Q', hk, rfl, HC⟩ := hrel
    clear HC0
    by_cases hlt : Q'.length < Q.length
    · have hbel : Below w.heap.size w wr := by rw [HG.out]; exact HC.out.bel
      have hBr : gin ≤ wr.heap.size := Nat.le_of_lt HC.out.row.lt
      have hlk := HL.out _ (List.getElem_mem hlt)
      obtain ⟨b, off, rfl, c0, c1, c2, hst⟩ := (HS.out.below hbel).at hlt
      have hbw : b < wr.heap.size := by
        rcases HS.out with h | ⟨b', off', e, hb', _⟩
        · subst h; simp at hlt
        · cases e; exact Nat.lt_of_lt_of_le hb' hbel.size
      have hgw : gin < wr.heap.size := HC.out.row.lt
      have hne : b ≠ gin := by
        rcases HS.out with h | ⟨b', off', e, hb', _⟩
        · subst h; simp at hlt
        · cases e; have := HG.out; omega
      have hne1 : ¬ gin = b := fun e => hne e.symm
      have HSt : Hid (Strs wr Q[Q'.length].v Q[Q'.length].l) := hst
      have HStep := HC.out.step hBr hlt rfl (wc := wr)
      clear HStep
      obtain ⟨av, cv, hv, hat⟩ := hst.at
      rw [hv] at c2
      have i1 : (0 : Int) ≤ (Q'.length : Int) := by omega
      have i2 : (Q'.length : Int) < (Q.length : Int) := by omega
      obtain ⟨⟨z0, d0⟩, f0⟩ := HC.out.row.at (Q'.length * 3) (by omega)
      obtain ⟨⟨z1, d1⟩, f1⟩ := HC.out.row.at (Q'.length * 3 + 1) (by omega)
      obtain ⟨⟨z2, d2⟩, f2⟩ := HC.out.row.at (Q'.length * 3 + 2) (by omega)
      cases av with
      | none =>
        have hnil : Q[Q'.length].l = [] := StrsNil HSt.out ⟨_, _, hv⟩
        have heq := fun wx n c => run_neq_slice_nil_any (P := Try.prog) wx 29 9 none n c 0 0 Try.underlying29
        clear hat hst
        go_wp2_with fail
        go_region_held3 (fun w' => w'.cell? ⟨b, off + Q'.length * 3, none⟩ = some (encStr Q[Q'.length].key) ∧ w'.cell? ⟨b, off + Q'.length * 3 + 1, none⟩ = some (.int .i64 Q[Q'.length].op)) (go_keep) (first | (go_at_call 22; refine (make22 Q[Q'.length].key Q[Q'.length].op (.slice none 0 0) _ ⟨_, _, _, rfl⟩).mono ?_; rintro e wc ⟨rfl, hbc⟩; have k0 := (hbc.cell (p := ⟨b, off + Q'.length * 3, none⟩) hbw).trans c0; have k1 := (hbc.cell (p := ⟨b, off + Q'.length * 3 + 1, none⟩) hbw).trans c1; have e0 := (hbc.cell (p := ⟨gin, Q'.length * 3, none⟩) hgw).trans d0; have e1 := (hbc.cell (p := ⟨gin, Q'.length * 3 + 1, none⟩) hgw).trans d1; have e2 := (hbc.cell (p := ⟨gin, Q'.length * 3 + 2, none⟩) hgw).trans d2; have n0 := (hbc.frozen (p := ⟨gin, Q'.length * 3, none⟩) hgw).trans f0; have n1 := (hbc.frozen (p := ⟨gin, Q'.length * 3 + 1, none⟩) hgw).trans f1; have n2 := (hbc.frozen (p := ⟨gin, Q'.length * 3 + 2, none⟩) hgw).trans f2))
        go_wp2
        refine ⟨⟨_, ?_, ?_, HC.out.step hBr hlt rfl (.slice none 0 0) (by rw [hnil]; exact OwnS.nil _ _) ⟨hbc.os, hbc.tape, hbc.output, hbc.size, hbc.block⟩⟩, ?_⟩
        · simp; omega
        · simp
        · simp [intOf]; omega
      | some ad =>
        obtain ⟨i1', hi, hz0, hz1, hz2⟩ := info_parts Try.info9
        have heq := fun wx n c => run_neq_slice_nil_any (P := Try.prog) wx 29 9 (some ad) n c 0 0 Try.underlying29
        have HAT : Hid (∀ j (hj : j < Q[Q'.length].l.length), ∃ b off, some ad = some ⟨b, off, none⟩ ∧ wr.cell? ⟨b, off + j, none⟩ = some (encStr Q[Q'.length].l[j])) := hat
        clear hat hst
        generalize hgv : wr.heap.size = gv at *
        go_wp2_with (at_make; refine wpList_make_full _ rfl (.tmp 26) (.tmp 26) 29 rfl gv 9 i1' _ 1 Try.underlying29 hi hz0 hz1 .i64 .i64 _ _ Q[Q'.length].l.length rfl rfl rfl rfl ?c1 ?c2 ?c3 ?_)
        case c1 => first | omega | (rw [hz2]; omega)
        case c2 => unfold maxLen; omega
        case c3 => omega
        intro w2 hown hgrow
        have HF0 : Hid (FillS w2 gv Q[Q'.length].l 0) := FillS.made hown
        have HB0 : Hid (Below gv wr w2) := by rw [← hgv]; exact (Below.refl _ _).grown hgrow (Nat.le_refl _) (by simp)
        clear hown hgrow hi hz0 hz1 hz2 heq
        have HGV : Hid (wr.heap.size = gv) := hgv
        clear hgv
        generalize wr = wA at *
        clear d0 d1 d2 f0 f1 f2
        go_wp2
        go_loopw [30] (fun i wr => ∃ j : Nat, j ≤ Q[Q'.length].l.length ∧ i = .int .i64 j ∧ Hid (FillS wr gv Q[Q'.length].l j) ∧ Hid (Below gv wA wr)) (fun i _ => Q[Q'.length].l.length - (intOf i).toNat)
        case atStart => exact ⟨0, Nat.zero_le _, rfl, HF0, HB0⟩
        case round =>
          obtain ⟨j, hj, rfl, HF, HB⟩ := hrel
          have a0 : wr.cell? ⟨b, off + Q'.length * 3, none⟩ = some (encStr Q[Q'.length].key) := (HB.out.cell (p := ⟨b, off + Q'.length * 3, none⟩) hbw).trans c0
          have a1 : wr.cell? ⟨b, off + Q'.length * 3 + 1, none⟩ = some (.int .i64 Q[Q'.length].op) := (HB.out.cell (p := ⟨b, off + Q'.length * 3 + 1, none⟩) hbw).trans c1
          have a2 : wr.cell? ⟨b, off + Q'.length * 3 + 2, none⟩ = some (.slice (some ad) Q[Q'.length].l.length cv) := (HB.out.cell (p := ⟨b, off + Q'.length * 3 + 2, none⟩) hbw).trans c2
          by_cases hjl : j < Q[Q'.length].l.length
          · obtain ⟨b2, o2, hab, ca⟩ := HAT.out j hjl
            simp only [Option.some.injEq] at hab
            subst hab
            have hb2 : b2 < gv := by
              rcases HSt.out with ⟨a3, c3, e3, h3 | ⟨b3, o3, rfl, hlt3, _⟩⟩
              · rw [h3] at hjl; simp at hjl
              · rw [hv] at e3; cases e3; rw [← HGV.out]; exact hlt3
            have ca' : wr.cell? ⟨b2, o2 + j, none⟩ = some (encStr Q[Q'.length].l[j]) := (HB.out.cell (p := ⟨b2, o2 + j, none⟩) hb2).trans ca
            obtain ⟨⟨y0, t0⟩, t1⟩ := HF.out.at j hjl
            have HF2 : Hid (FillS (wr.setCell ⟨gv, j, none⟩ (encStr Q[Q'.length].l[j])) gv Q[Q'.length].l (j + 1)) := HF.out.set hjl
            have j1 : (0 : Int) ≤ (j : Int) := by omega
            have j2 : (j : Int) < (Q[Q'.length].l.length : Int) := by omega
            clear ca c0 c1 c2
            go_wp2
            go_roundw
            case rel => exact ⟨j + 1, by omega, by go_num, HF2, HB.out.setCell (p := ⟨gv, j, none⟩) (Nat.le_refl _) _⟩
            case measure => simp [intOf]; omega
          · obtain rfl : j = Q[Q'.length].l.length := by omega
            have HOW : Hid (OwnS gv wr (.slice (some ⟨gv, 0, none⟩) Q[Q'.length].l.length Q[Q'.length].l.length) Q[Q'.length].l) := HF.out.own (Nat.le_refl _) (by unfold maxLen; omega)
            have hgv2 : gv < wr.heap.size := HF.out.lt
            obtain ⟨⟨z0, d0⟩, f0⟩ := (HC.out.row.kept (HB.out.block gin hgw)).at (Q'.length * 3) (by omega)
            obtain ⟨⟨z1, d1⟩, f1⟩ := (HC.out.row.kept (HB.out.block gin hgw)).at (Q'.length * 3 + 1) (by omega)
            obtain ⟨⟨z2, d2⟩, f2⟩ := (HC.out.row.kept (HB.out.block gin hgw)).at (Q'.length * 3 + 2) (by omega)
            have hbw2 : b < wr.heap.size := Nat.lt_of_lt_of_le hbw (Nat.le_of_lt hgv2)
            have hgw2 : gin < wr.heap.size := Nat.lt_of_lt_of_le hgw (Nat.le_of_lt hgv2)
            clear c0 c1 c2 HF HAT
            go_wp2_with fail
            go_region_held3 (fun w' => w'.cell? ⟨b, off + Q'.length * 3, none⟩ = some (encStr Q[Q'.length].key) ∧ w'.cell? ⟨b, off + Q'.length * 3 + 1, none⟩ = some (.int .i64 Q[Q'.length].op)) (go_keep) (first | (go_at_call 22; refine (make22 Q[Q'.length].key Q[Q'.length].op (.slice (some ⟨gv, 0, none⟩) Q[Q'.length].l.length Q[Q'.length].l.length) _ ⟨_, _, _, rfl⟩).mono ?_; rintro e wc ⟨rfl, hbc⟩; have k0 := (hbc.cell (p := ⟨b, off + Q'.length * 3, none⟩) hbw2).trans a0; have k1 := (hbc.cell (p := ⟨b, off + Q'.length * 3 + 1, none⟩) hbw2).trans a1; have e0 := (hbc.cell (p := ⟨gin, Q'.length * 3, none⟩) hgw2).trans d0; have e1 := (hbc.cell (p := ⟨gin, Q'.length * 3 + 1, none⟩) hgw2).trans d1; have e2 := (hbc.cell (p := ⟨gin, Q'.length * 3 + 2, none⟩) hgw2).trans d2; have n0 := (hbc.frozen (p := ⟨gin, Q'.length * 3, none⟩) hgw2).trans f0; have n1 := (hbc.frozen (p := ⟨gin, Q'.length * 3 + 1, none⟩) hgw2).trans f1; have n2 := (hbc.frozen (p := ⟨gin, Q'.length * 3 + 2, none⟩) hgw2).trans f2))
            go_wp2
            have hbc2 : Below wr.heap.size wr wc := ⟨hbc.os, hbc.tape, hbc.output, hbc.size, hbc.block⟩
            have hOc : OwnS wA.heap.size wc (.slice (some ⟨gv, 0, none⟩) Q[Q'.length].l.length Q[Q'.length].l.length) Q[Q'.length].l := by
              rw [HGV.out]
              exact HOW.out.kept fun k hk => hbc2.block k (by cases hk; exact hgv2)
            have hBc : Below wA.heap.size wA wc := by
              rw [HGV.out]
              exact HB.out.trans (hbc2.mono (Nat.le_of_lt hgv2))
            refine ⟨⟨_, ?_, ?_, HC.out.step (by rw [HGV.out]; exact hBr) hlt rfl _ hOc hBc⟩, ?_⟩
            · simp; omega
            · simp
            · simp [intOf]; omega
    · have hfin : Q'.length = Q.length := by omega
      go_wp2
      go_ret
      exact ⟨gin, Q', rfl, hfin, by rw [HG.out]; exact HC.out⟩

end Go.Proofs.Qxb6605201a.Rul
