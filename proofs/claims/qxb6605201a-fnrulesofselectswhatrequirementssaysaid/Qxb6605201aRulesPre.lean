import Derived.Test.Qxb6605201aFin
namespace Go.Proofs.Qxb6605201a.Rul
open Go.RowKit Go.Sort Go.Lib

theorem Try.info70 : (Try.prog.info? 70).map (fun i => (i.zero, i.size, i.bytes)) = some (some (.pointer none), 1, 8) := by kernel_rfl
theorem Try.info39 : (Try.prog.info? 39).map (fun i => (i.zero, i.size, i.bytes)) = some (some (.agg #[.string ⟨#[]⟩, .bool false, .bool false, .slice none 0 0, .slice none 0 0]), 5, 72) := by kernel_rfl

/-- The row of pointers, filled up to k. -/
def PtrRow (w : World) (gs g n k : Nat) : Prop := ∃ cur : Array Value, w.heap[gs]? = some (.cells cur 70 (0, 0)) ∧ cur.size = n ∧ ∀ j, j < k → cur[j]? = some (.pointer (some ⟨g, j * 3, none⟩))

theorem PtrRow.made {w1 : World} {B gs g n : Nat} {X : List Value} (hown : w1.ownsRow B 70 1 (.slice (some ⟨gs, 0, none⟩) n n) n X) : PtrRow w1 gs g n 0 := by
  obtain ⟨_, h | ⟨g', cap, cur, hv, _, hh, _, _, hsz, _⟩⟩ := hown
  · cases h.1
  · cases hv
    exact ⟨cur, hh, by simpa using hsz, fun j hj => by omega⟩
theorem PtrRow.lt {w : World} {gs g n k : Nat} (h : PtrRow w gs g n k) : gs < w.heap.size := by
  obtain ⟨cur, h2, _⟩ := h
  rcases Nat.lt_or_ge gs w.heap.size with h1 | h1
  · exact h1
  · rw [Array.getElem?_eq_none h1] at h2; cases h2
theorem PtrRow.at {w : World} {gs g n k : Nat} (h : PtrRow w gs g n k) (p : Nat) (hp : p < n) : (∃ x, w.cell? ⟨gs, p, none⟩ = some x) ∧ w.frozen? ⟨gs, p, none⟩ = false := by
  obtain ⟨cur, h2, h3, _⟩ := h
  refine ⟨⟨cur[p]'(by omega), ?_⟩, frozen_of_row w gs p cur 70 h2⟩
  simp [World.cell?, h2]
theorem PtrRow.set {w : World} {gs g n k : Nat} (h : PtrRow w gs g n k) (hk : k < n) : PtrRow (w.setCell ⟨gs, k, none⟩ (.pointer (some ⟨g, k * 3, none⟩))) gs g n (k + 1) := by
  obtain ⟨cur, h2, h3, h4⟩ := h
  refine ⟨cur.setIfInBounds k (.pointer (some ⟨g, k * 3, none⟩)), ?_, by simpa using h3, ?_⟩
  · rw [Sort.setCell_eq]
    show (w.heap.modify gs (onCells _))[gs]? = _
    rw [Array.getElem?_modify, if_pos rfl, h2]; rfl
  · intro j hj
    rw [Array.getElem?_setIfInBounds]
    by_cases e : k = j
    · subst e; rw [if_pos rfl, if_pos (by omega)]
    · rw [if_neg e]; exact h4 j (by omega)
theorem PtrRow.cell {w : World} {gs g n k : Nat} (h : PtrRow w gs g n k) (j : Nat) (hj : j < k) : w.cell? ⟨gs, j, none⟩ = some (.pointer (some ⟨g, j * 3, none⟩)) := by
  obtain ⟨cur, h2, h3, h4⟩ := h
  simp [World.cell?, h2, h4 j hj]

/-- The requirements in the order of the sorted pointers. -/
def PtrTo (w : World) (gs g : Nat) (Q S : List Rq) : Prop := ∀ j (hj : j < S.length), ∃ a : Nat, w.cell? ⟨gs, j, none⟩ = some (.pointer (some ⟨g, a * 3, none⟩)) ∧ Q[a]? = some S[j]
def KeyOrd (S : List Rq) : Prop := ∀ i j (hi : i < S.length) (hj : j < S.length), i < j → ¬ S[j].key < S[i].key

theorem sorted_of {gs g : Nat} {Q : List Rq} {w' : World} {σ : List Nat} (hp : σ.Perm (List.range Q.length)) (hs : ∀ i j (hi : i < σ.length) (hj : j < σ.length) (a b : Rq), i < j → Q[σ[i]]? = some a → Q[σ[j]]? = some b → ¬ b.key < a.key)
    (hc : ∀ j (hj : j < σ.length), w'.cell? ⟨gs, j, none⟩ = some (.pointer (some ⟨g, σ[j] * 3, none⟩))) : ∃ S : List Rq, S.Perm Q ∧ KeyOrd S ∧ PtrTo w' gs g Q S := by
  have hlt : ∀ i ∈ σ, i < Q.length := fun i hi => List.mem_range.1 (hp.mem_iff.1 hi)
  refine ⟨σ.pmap (fun i (h : i < Q.length) => Q[i]) hlt, ?_, ?_, ?_⟩
  · refine (hp.pmap (fun i (h : i < Q.length) => Q[i]) (H₁ := hlt) (H₂ := fun i hi => List.mem_range.1 hi)).trans (List.Perm.of_eq ?_)
    apply List.ext_getElem
    · simp
    · intro i h1 h2; simp
  · intro i j hi hj hij
    rw [List.length_pmap] at hi hj
    simp only [List.getElem_pmap]
    exact hs i j hi hj _ _ hij (List.getElem?_eq_getElem _) (List.getElem?_eq_getElem _)
  · intro j hj
    rw [List.length_pmap] at hj
    refine ⟨σ[j], hc j hj, ?_⟩
    rw [List.getElem_pmap]
    exact List.getElem?_eq_getElem _

theorem holds_ptr {w : World} {gs g n : Nat} (h : PtrRow w gs g n n) : ∀ j, j < n → w.cell? ⟨gs, j, none⟩ = some (.pointer (some ⟨g, j * 3, none⟩)) ∧ w.frozen? ⟨gs, j, none⟩ = false := fun j hj => ⟨h.cell j hj, (h.at j hj).2⟩

/-- sort30 with the requirements in their new order. -/
theorem sortS (gs g : Nat) (Q : List Rq) (w : World) (hR : ReqAt w g Q) (hg : g < w.heap.size) (hne : g ≠ gs) (hn : Q.length ≤ 4096) (hH : PtrRow w gs g Q.length Q.length) :
    Calls Try.prog 30 #[.slice (some ⟨gs, 0, none⟩) Q.length Q.length, .func (.func 31) #[] #[]] w fun e w' => e = .returned (.tuple #[]) ∧
      ∃ S : List Rq, S.Perm Q ∧ KeyOrd S ∧ PtrTo w' gs g Q S ∧ Kept (fun j => j = gs) w w' := by
  refine (sort30 gs g Q w hR hg hH.lt hne (by omega) (holds_ptr hH)).mono ?_
  rintro e w' ⟨he, σ, h1, h2, h3, h4⟩
  obtain ⟨S, k1, k2, k3⟩ := sorted_of h1 h2 h3
  exact ⟨he, S, k1, k2, k3, h4⟩

theorem Kept.drewN {S : Nat → Prop} {w w' : World} (h : Kept S w w') (n : Nat) : Kept S w (w'.drewN n) := ⟨h.os, h.tape, h.output, h.size, h.block⟩

theorem kept_cell {w w' : World} {S : Nat → Prop} {a : Addr} {v : Value} (h : Kept S w w') (hc : w.cell? a = some v) (hn : ¬ S a.block := by simp) : w'.cell? a = some v :=
  (World.cell?_of_block (h.block a.block (World.block_lt_of_cell? w a hc) hn)).trans hc

theorem compactUpTo_len (d : Array Str) (m : Nat) : (compactUpTo d m).length ≤ m := by
  have := List.length_filter_le (keeps d) (List.range m)
  simpa [compactUpTo] using this

theorem keysA_get (S : List Rq) (j : Nat) (hj : j < S.length) : (keysA S)[j]! = S[j].key := by
  unfold keysA
  rw [get_list _ j (by simpa using hj)]; simp

theorem keeps_iff (S : List Rq) (k : Nat) (hk : k < S.length) : keeps (keysA S) k = true ↔ (k = 0 ∨ S[k].key ≠ (S[k - 1]'(by omega)).key) := by
  unfold keeps
  rw [decide_eq_true_eq, keysA_get S k hk, keysA_get S (k - 1) (by omega)]

/-- Ahead of the first group. -/
theorem out_start {B gin gs gr m : Nat} {w w3 w5 : World} {Q S : List Rq} (hperm : S.Perm Q) (ho : ∀ q ∈ Q, OwnS B w q.v q.l) (nd : (bks (Q.map (·.v)) ++ [gin]).Nodup) (hg : gin < gs) (hgs : w.heap.size = gs)
    (h3 : Kept (fun j => j = gs) w w3) (h5 : Kept (fun _ => False) w3 w5) (hlt : gs < w3.heap.size) (hgr : w3.heap.size ≤ gr) (hrow : RowR w5 gr m [] []) (hB : B ≤ w.heap.size) : Out B gin gs gr m w3 S 0 [] [] w5 := by
  have h35 : ∀ j, j < w3.heap.size → w5.heap[j]? = w3.heap[j]? := fun j hj => h5.block j hj (fun e => e)
  have hl : ∀ j ∈ bks (S.map (fun q : Rq => q.v)), j < gs := by
    intro j hj
    obtain ⟨v, hv, he⟩ := List.mem_filterMap.1 hj
    obtain ⟨q, hq, rfl⟩ := List.mem_map.1 hv
    have := ((ho q (hperm.mem_iff.1 hq)).lt j he).2
    omega
  have hp : (bks (S.map (fun q : Rq => q.v))).Perm (bks (Q.map (fun q : Rq => q.v))) := List.Perm.filterMap _ (hperm.map _)
  have hgl := hrow.lt
  refine ⟨h35 gin (by omega), h35 gs hlt, hrow, ?_, by simp, ?_, ?_, by simp [compactUpTo], by simp [compactUpTo], by simp, ?_, by have := h3.size; omega, by have := h3.size; omega⟩
  · intro q hq
    rw [List.drop_zero] at hq
    have h1 := ho q (hperm.mem_iff.1 hq)
    refine h1.kept fun j hj => ?_
    have := (h1.lt j hj).2
    exact (h35 j (by have := h3.size; omega)).trans (h3.block j this (by omega))
  · rw [List.drop_zero]
    show (bks (S.map (fun q : Rq => q.v)) ++ ([] ++ [gin, gs, gr])).Nodup
    rw [List.nil_append]
    have n1 := (List.Perm.nodup_iff (hp.append_right [gin])).2 nd
    obtain ⟨a1, a2, a3⟩ := List.nodup_append.1 n1
    refine List.nodup_append.2 ⟨a1, by simp; omega, ?_⟩
    intro x hx y hy
    have hx' := hl x hx
    simp only [List.mem_cons, List.not_mem_nil, or_false] at hy
    rcases hy with rfl | rfl | rfl
    · exact a3 x hx y (by simp)
    · omega
    · omega
  · rw [List.drop_zero]
    intro j hj
    have hs5 := h5.size
    rcases List.mem_append.1 hj with h1 | h1
    · have := hl j h1; omega
    · simp [slicesOf, bks] at h1
      rcases h1 with rfl | rfl | rfl
      · omega
      · omega
      · exact hgl
  · exact ⟨h5.os, h5.tape, h5.output, h5.size, fun k hk => h35 k (by have := h3.size; omega)⟩

theorem RowR.made {w1 : World} {B gr m : Nat} {X : List Value} (hown : w1.ownsRow B 39 5 (.slice (some ⟨gr, 0, none⟩) m m) m X) : RowR w1 gr m [] [] := by
  obtain ⟨_, h | ⟨g', cap, cur, hv, _, hh, _, _, hsz, _⟩⟩ := hown
  · cases h.1
  · cases hv
    exact ⟨by simp, cur, hh, hsz, by simp, by simp⟩

theorem Below.drewN' {B : Nat} {w w' : World} (h : Below B w w') (n : Nat) : Below B w (w'.drewN n) := ⟨h.os, h.tape, h.output, h.size, h.block⟩

theorem Inn.drewN {B gin gs gr m : Nat} {w1 : World} {S : List Rq} {i0 i : Nat} {F Bk : List RV} {rb : Nat} {k : Str} {vv ev : Value} {w : World} (h : Inn B gin gs gr m w1 S i0 i F Bk rb k vv ev w) (n : Nat) : Inn B gin gs gr m w1 S i0 i F Bk rb k vv ev (w.drewN n) :=
  ⟨h.hin, h.hgs, h.row, h.todo, fun r hr => ⟨(h.done r hr).th, (h.done r hr).ab, (h.done r hr).vo, (h.done r hr).vn, (h.done r hr).eo⟩, h.nd, h.lts, ⟨h.rule.cells, h.rule.vo, h.rule.vn, h.rule.eo, h.rule.st⟩, h.keys, Below.drewN' h.bel n, h.hB, h.low, h.rlow⟩

theorem ruleAt_alloc (w : World) (k : Str) : RuleAt (w.alloc (.cells #[encStr k, .bool false, .bool false, .slice none 0 0, .slice none 0 0] 39)) w.heap.size k false false (.slice none 0 0) (.slice none 0 0) := by
  unfold RuleAt World.alloc
  simp

/-- The lengths stay small: what is excluded, and what is left of the values. -/
theorem foldR_len : ∀ (G : List Rq), (foldR G).es.length ≤ (G.map fun q => q.l.length).sum ∧ ((foldR G).vs.getD []).length ≤ (G.map fun q => q.l.length).sum := by
  intro G
  have key : ∀ (G : List Rq) (r : RS) (n : Nat), r.es.length ≤ n → (r.vs.getD []).length ≤ n → ((G.map Rq.p).foldl (fun r q => r.step q.op q.l) r).es.length ≤ n + (G.map fun q => q.l.length).sum ∧ (((G.map Rq.p).foldl (fun r q => r.step q.op q.l) r).vs.getD []).length ≤ n + (G.map fun q => q.l.length).sum := by
    intro G
    induction G with
    | nil => intro r n h1 h2; simpa using ⟨h1, h2⟩
    | cons q G ih =>
      intro r n h1 h2
      have hsc : ∀ l : List Str, (sortC l).length ≤ l.length := fun l => by
        have := compact_len (l.mergeSort fun x y => decide (x ≤ y)); rw [List.length_mergeSort] at this; exact this
      have h3 : (r.step q.op q.l).es.length ≤ n + q.l.length ∧ ((r.step q.op q.l).vs.getD []).length ≤ n + q.l.length := by
        unfold RS.step
        split
        · refine ⟨by show r.es.length ≤ _; omega, ?_⟩
          have hs := hsc q.l
          cases r.vs with
          | none => simp; omega
          | some l =>
            have := List.length_filter_le (fun x => decide (x ∈ l)) (sortC q.l)
            simp only [Option.getD_some]; omega
        · split
          · refine ⟨by simp; omega, by show (r.vs.getD []).length ≤ _; omega⟩
          · split
            · exact ⟨by show r.es.length ≤ _; omega, by show (r.vs.getD []).length ≤ _; omega⟩
            · exact ⟨by show r.es.length ≤ _; omega, by show (r.vs.getD []).length ≤ _; omega⟩
      have := ih (r.step q.op q.l) (n + q.l.length) h3.1 h3.2
      simp only [List.map_cons, List.sum_cons, List.foldl_cons]
      rw [← Nat.add_assoc]
      exact this
  have := key G RS.init 0 (by simp [RS.init]) (by simp [RS.init])
  simpa [foldR] using this

theorem sum_part {S : List Rq} {i0 i : Nat} (h : i < S.length) : (((S.take i).drop i0).map fun q => q.l.length).sum + S[i].l.length ≤ (S.map fun q => q.l.length).sum := by
  have e : S = S.take i ++ S[i] :: S.drop (i + 1) := by rw [← drop_cons h, List.take_append_drop]
  have e2 : S.take i = (S.take i).take i0 ++ (S.take i).drop i0 := (List.take_append_drop _ _).symm
  have h1 : (S.map fun q => q.l.length).sum = ((S.take i).map fun q => q.l.length).sum + (S[i].l.length + ((S.drop (i + 1)).map fun q => q.l.length).sum) := by
    have := congrArg (fun L : List Rq => (L.map fun q => q.l.length).sum) e
    simp only [List.map_append, List.sum_append, List.map_cons, List.sum_cons] at this
    exact this
  have h2 : ((S.take i).map fun q => q.l.length).sum = (((S.take i).take i0).map fun q => q.l.length).sum + (((S.take i).drop i0).map fun q => q.l.length).sum := by
    conv => lhs; rw [e2]
    rw [List.map_append, List.sum_append]
  omega

theorem Inn.nd3 {B gin gs gr m : Nat} {w1 : World} {S : List Rq} {i0 i : Nat} {F Bk : List RV} {rb : Nat} {k : Str} {vv ev : Value} {w : World} (h : Inn B gin gs gr m w1 S i0 i F Bk rb k vv ev w) (hi : i < S.length) : (rb :: bks [vv, ev, S[i].v]).Nodup := by
  have hnd := h.nd
  rw [drop_cons hi, List.map_cons, bks_cons S[i].v] at hnd
  have e1 : bks [vv, ev] ++ ((S[i].v.ownBlock.toList ++ bks ((S.drop (i + 1)).map (·.v))) ++ (bks (slicesOf (F ++ Bk)) ++ [gin, gs, gr])) = bks [vv, ev, S[i].v] ++ (bks ((S.drop (i + 1)).map (·.v)) ++ (bks (slicesOf (F ++ Bk)) ++ [gin, gs, gr])) := by
    rw [show [vv, ev, S[i].v] = [vv, ev] ++ [S[i].v] from rfl, bks_append, bks_cons S[i].v]
    simp [bks, List.append_assoc]
  rw [e1] at hnd
  obtain ⟨a1, a2⟩ := List.nodup_cons.1 hnd
  exact List.nodup_cons.2 ⟨fun e => a1 (List.mem_append_left _ e), (List.nodup_append.1 a2).1⟩

/-- The call of add, inside a group. -/
theorem Inn.add {B gin gs gr m : Nat} {w1 : World} {S : List Rq} {i0 i : Nat} {F Bk : List RV} {rb : Nat} {k : Str} {vv ev : Value} {w : World} (h : Inn B gin gs gr m w1 S i0 i F Bk rb k vv ev w) (hi : i < S.length) (h0 : i0 ≤ i) (hk : S[i].key = k)
    (hf : S[i].p.Fit) (hsum : (S.map fun q => q.l.length).sum ≤ 4096) :
    Calls Try.prog 33 #[.pointer (some ⟨rb, 0, none⟩), .agg #[encStr k, .int .i64 S[i].op, S[i].v]] w fun e w' => e = .returned (.tuple #[]) ∧ ∃ vv' ev', Inn B gin gs gr m w1 S i0 (i + 1) F Bk rb k vv' ev' w' := by
  have hl := foldR_len ((S.take i).drop i0)
  have hp := sum_part (i0 := i0) hi
  refine (add33 B rb k k (foldR ((S.take i).drop i0)) vv ev S[i].v S[i].l S[i].op w h.rule (h.todo S[i] (by rw [drop_cons hi]; exact List.mem_cons_self)) ⟨hf.1, hf.2.1⟩ hf.2.2 (h.nd3 hi) (by omega) (by omega) (Nat.le_trans h.hB h.bel.size)).mono ?_
  rintro e w' ⟨he, vv', ev', h1, h2, h3⟩
  exact ⟨he, vv', ev', h.step hi h0 hk h1 h2 h3⟩

theorem compactUpTo_mono (d : Array Str) (a : Nat) : ∀ b, a ≤ b → (compactUpTo d a).length ≤ (compactUpTo d b).length := by
  intro b
  induction b with
  | zero => intro h; rw [Nat.le_zero.1 h]; exact Nat.le_refl _
  | succ b ih =>
    intro h
    by_cases e : a = b + 1
    · rw [e]; exact Nat.le_refl _
    · have := ih (by omega)
      rw [compactUpTo_succ, List.length_append]; omega

theorem part_len {α : Type} (l : List α) (p : α → Bool) : (l.filter p).length + (l.filter fun x => !p x).length = l.length := by
  induction l with
  | nil => rfl
  | cons a l ih => cases h : p a <;> simp [h] <;> omega

/-- The end of a group: what sortExcluded leaves, ready for the row. -/
theorem Inn.sortEx {B gin gs gr m : Nat} {w1 : World} {S : List Rq} {i0 i : Nat} {F Bk : List RV} {rb : Nat} {k : Str} {vv ev : Value} {w : World} (h : Inn B gin gs gr m w1 S i0 i F Bk rb k vv ev w) (h0 : i0 < i) (hi : i ≤ S.length)
    (b0 : ∀ a ∈ S.take i0, ∀ b ∈ S.drop i0, a.key ≠ b.key) (b1 : ∀ a ∈ S.take i, ∀ b ∈ S.drop i, a.key ≠ b.key) (hf : ∀ q ∈ S, q.p.Fit) (hsum : (S.map fun q => q.l.length).sum ≤ 4096) :
    Calls Try.prog 34 #[.pointer (some ⟨rb, 0, none⟩)] w fun e w' => e = .returned (.tuple #[]) ∧ ∃ rv : RV, rv.k = k ∧ Closed B gin gs gr m w1 S i F Bk rb rv w' := by
  have hl := (foldR_len ((S.take i).drop i0)).1
  have hp : (((S.take i).drop i0).map fun q => q.l.length).sum ≤ (S.map fun q => q.l.length).sum := by
    have := sum_part (S := S) (i0 := i0) (i := i - 1)
    have e1 : (((S.take i).drop i0).map fun q => q.l.length).sum = (((S.take (i - 1)).drop i0).map fun q => q.l.length).sum + (S[i - 1]'(by omega)).l.length := by
      obtain ⟨j, rfl⟩ : ∃ j, i = j + 1 := ⟨i - 1, by omega⟩
      rw [List.take_succ_eq_append_getElem (by omega), List.drop_append_of_le_length (by rw [List.length_take]; omega)]
      simp
    rw [e1]
    exact this (by omega)
  have nd := h.nd
  have n1 := (List.nodup_cons.1 nd).1
  have n2 := (List.nodup_append.1 (List.nodup_cons.1 nd).2).1
  have n3 : (rb :: bks [vv, ev, .slice none 0 0]).Nodup := List.nodup_cons.2 ⟨fun e => n1 (List.mem_append_left _ e), n2⟩
  obtain ⟨d1, d2, _⟩ := Rul.nd3 n3
  refine (sortEx34 B rb k (foldR ((S.take i).drop i0)) vv ev w h.rule (fun j hj => ⟨(d1 j hj).1, (d1 j hj).2.1⟩) (fun j hj => (d2 j hj).1) (by omega)).mono ?_
  rintro e w' ⟨he, ev', k1, k2, k3⟩
  obtain ⟨rv, r1, _, r3⟩ := h.close k1 k2 k3 (group_rs h0 hi h.keys b0 b1 hf)
  exact ⟨he, rv, r1, r3⟩

theorem kept_of_below_lt {B : Nat} {w w' : World} (h : Below B w w') (hB : w.heap.size ≤ B) : Kept (fun _ => False) w w' := ⟨h.os, h.tape, h.output, h.size, fun k hk _ => h.block k (by omega)⟩

end Go.Proofs.Qxb6605201a.Rul
