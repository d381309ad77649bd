import Derived.Test.Qxb6605201aRowR
namespace Go.Proofs.Qxb6605201a.Rul
open Go.RowKit Go.Sort Go.Lib

def keysA (S : List Rq) : Array Str := (S.map (·.key)).toArray
def slicesOf (L : List RV) : List Value := L.flatMap fun r => [r.vv, r.ev]
def foldR (G : List Rq) : RS := (G.map Rq.p).foldl (fun r q => r.step q.op q.l) RS.init

theorem foldR_snoc (G : List Rq) (q : Rq) : foldR (G ++ [q]) = (foldR G).step q.op q.l := by
  unfold foldR
  rw [List.map_append, List.foldl_append]; rfl

/-- A rule of the row: it is what the requirements on its key ask; its slices are the call's own. -/
structure RuleOk (B : Nat) (w : World) (P : List Pq) (r : RV) : Prop where
  th : r.th = (rsOf P r.k).th
  ab : r.ab = (rsOf P r.k).ab
  vo : OwnS B w r.vv ((rsOf P r.k).vs.getD [])
  vn : r.vv = .slice none 0 0 ↔ (rsOf P r.k).vs = none
  eo : OwnS B w r.ev (rsOf P r.k).es

theorem RuleOk.kept {B : Nat} {w w' : World} {P : List Pq} {r : RV} (h : RuleOk B w P r) (hb : ∀ j ∈ bks [r.vv, r.ev], j < w.heap.size → w'.heap[j]? = w.heap[j]?) : RuleOk B w' P r :=
  ⟨h.th, h.ab, h.vo.kept fun j hj => hb j (mem_bks (by simp) hj) (h.vo.lt j hj).2, h.vn, h.eo.kept fun j hj => hb j (mem_bks (by simp) hj) (h.eo.lt j hj).2⟩

theorem bks_append (L L' : List Value) : bks (L ++ L') = bks L ++ bks L' := by simp [bks]
theorem bks_slices {L : List RV} {r : RV} (h : r ∈ L) : ∀ j ∈ bks [r.vv, r.ev], j ∈ bks (slicesOf L) := by
  intro j hj
  obtain ⟨v, hv, he⟩ := List.mem_filterMap.1 hj
  exact mem_bks (List.mem_flatMap.2 ⟨r, h, hv⟩) he

/-- Between two groups. -/
structure Out (B gin gs gr m : Nat) (w1 : World) (S : List Rq) (i : Nat) (F Bk : List RV) (w : World) : Prop where
  hin : w.heap[gin]? = w1.heap[gin]?
  hgs : w.heap[gs]? = w1.heap[gs]?
  row : RowR w gr m F Bk
  todo : ∀ q ∈ S.drop i, OwnS B w q.v q.l
  done : ∀ r ∈ F ++ Bk, RuleOk B w (S.map Rq.p) r
  nd : (bks ((S.drop i).map (·.v)) ++ (bks (slicesOf (F ++ Bk)) ++ [gin, gs, gr])).Nodup
  lts : ∀ j ∈ bks ((S.drop i).map (·.v)) ++ (bks (slicesOf (F ++ Bk)) ++ [gin, gs, gr]), j < w.heap.size
  kF : F.map (·.k) = (compactUpTo (keysA S) i).filter fun k => (rsOf (S.map Rq.p) k).th
  kB : Bk.map (·.k) = (compactUpTo (keysA S) i).filter fun k => !(rsOf (S.map Rq.p) k).th
  bnd : ∀ a ∈ S.take i, ∀ b ∈ S.drop i, a.key ≠ b.key
  bel : Below B w1 w
  hB : B ≤ w1.heap.size
  low : B ≤ gr

/-- Inside a group: the requirements i0 .. i on the key k are in the rule. -/
structure Inn (B gin gs gr m : Nat) (w1 : World) (S : List Rq) (i0 i : Nat) (F Bk : List RV) (rb : Nat) (k : Str) (vv ev : Value) (w : World) : Prop where
  hin : w.heap[gin]? = w1.heap[gin]?
  hgs : w.heap[gs]? = w1.heap[gs]?
  row : RowR w gr m F Bk
  todo : ∀ q ∈ S.drop i, OwnS B w q.v q.l
  done : ∀ r ∈ F ++ Bk, RuleOk B w (S.map Rq.p) r
  nd : (rb :: (bks [vv, ev] ++ (bks ((S.drop i).map (·.v)) ++ (bks (slicesOf (F ++ Bk)) ++ [gin, gs, gr])))).Nodup
  lts : ∀ j ∈ bks ((S.drop i).map (·.v)) ++ (bks (slicesOf (F ++ Bk)) ++ [gin, gs, gr]), j < w.heap.size
  rule : RuleM B w rb k (foldR ((S.take i).drop i0)) vv ev
  keys : ∀ q ∈ (S.take i).drop i0, q.key = k
  bel : Below B w1 w
  hB : B ≤ w1.heap.size
  low : B ≤ gr
  rlow : B ≤ rb

theorem drop_cons {S : List Rq} {i : Nat} (h : i < S.length) : S.drop i = S[i] :: S.drop (i + 1) := List.drop_eq_getElem_cons h

theorem below_kept {B : Nat} {w w' : World} {S : Nat → Prop} (h : Kept S w w') (hs : ∀ j, S j → B ≤ j) (hB : B ≤ w.heap.size) : Below B w w' :=
  ⟨h.os, h.tape, h.output, h.size, fun k hk => h.block k (by omega) (fun e => by have := hs k e; omega)⟩

/-- One more requirement of the group. -/
theorem Inn.step {B gin gs gr m : Nat} {w1 : World} {S : List Rq} {i0 i : Nat} {F Bk : List RV} {rb : Nat} {k : Str} {vv ev : Value} {w w' : World} (h : Inn B gin gs gr m w1 S i0 i F Bk rb k vv ev w) (hi : i < S.length) (h0 : i0 ≤ i) (hk : S[i].key = k)
    {vv' ev' : Value} (hr : RuleM B w' rb k ((foldR ((S.take i).drop i0)).step S[i].op S[i].l) vv' ev') (hK : Kept (fun j => j = rb ∨ some j = ev.ownBlock ∨ some j = S[i].v.ownBlock) w w') (hM : Moves w rb [vv, ev, S[i].v] [vv', ev']) :
    Inn B gin gs gr m w1 S i0 (i + 1) F Bk rb k vv' ev' w' := by
  have hnd := h.nd
  have hlts := h.lts
  rw [drop_cons hi, List.map_cons, bks_cons S[i].v] at hnd hlts
  have e1 : bks [vv, ev] ++ ((S[i].v.ownBlock.toList ++ bks ((S.drop (i + 1)).map (·.v))) ++ (bks (slicesOf (F ++ Bk)) ++ [gin, gs, gr])) = bks [vv, ev, S[i].v] ++ (bks ((S.drop (i + 1)).map (·.v)) ++ (bks (slicesOf (F ++ Bk)) ++ [gin, gs, gr])) := by
    rw [show [vv, ev, S[i].v] = [vv, ev] ++ [S[i].v] from rfl, bks_append, bks_cons S[i].v]
    simp [bks, List.append_assoc]
  rw [e1] at hnd
  have hlts' : ∀ j ∈ bks ((S.drop (i + 1)).map (·.v)) ++ (bks (slicesOf (F ++ Bk)) ++ [gin, gs, gr]), j < w.heap.size := fun j hj => hlts j (by
    rw [List.append_assoc]; exact List.mem_append_right _ hj)
  have hnd' := hM _ hlts' hnd
  have hsame : ∀ j ∈ bks ((S.drop (i + 1)).map (·.v)) ++ (bks (slicesOf (F ++ Bk)) ++ [gin, gs, gr]), w'.heap[j]? = w.heap[j]? := by
    intro j hj
    refine hK.block j (hlts' j hj) ?_
    have n1 := (List.nodup_cons.1 hnd).1
    have n2 := (List.nodup_append.1 (List.nodup_cons.1 hnd).2).2.2
    rintro (e | e | e)
    · exact n1 (e ▸ List.mem_append_right _ hj)
    · exact n2 j (mem_bks (v := ev) (by simp) e.symm) j hj rfl
    · exact n2 j (mem_bks (v := S[i].v) (by simp) e.symm) j hj rfl
  have hS : (S.take (i + 1)).drop i0 = (S.take i).drop i0 ++ [S[i]] := by
    rw [List.take_succ_eq_append_getElem hi, List.drop_append_of_le_length (by rw [List.length_take]; omega)]
  refine ⟨(hsame gin (by simp)).trans h.hin, (hsame gs (by simp)).trans h.hgs, h.row.kept (hsame gr (by simp)), ?_, ?_, hnd', fun j hj => Nat.lt_of_lt_of_le (hlts' j hj) hK.size, ?_, ?_, ?_, h.hB, h.low, h.rlow⟩
  · intro q hq
    have ho := h.todo q (by rw [drop_cons hi]; exact List.mem_cons_of_mem _ hq)
    exact ho.kept fun j hj => hsame j (List.mem_append_left _ (mem_bks (List.mem_map.2 ⟨q, hq, rfl⟩) hj))
  · intro r hr'
    exact (h.done r hr').kept fun j hj _ => hsame j (List.mem_append_right _ (List.mem_append_left _ (bks_slices hr' j hj)))
  · rw [hS, foldR_snoc]; exact hr
  · intro q hq
    rw [hS] at hq
    rcases List.mem_append.1 hq with h1 | h1
    · exact h.keys q h1
    · rw [List.mem_singleton.1 h1]; exact hk
  · have hBw : B ≤ w.heap.size := Nat.le_trans h.hB h.bel.size
    refine h.bel.trans (below_kept hK ?_ hBw)
    rintro j (e | e | e)
    · rw [e]; exact h.rlow
    · exact (h.rule.eo.lt j e.symm).1
    · exact ((h.todo S[i] (by rw [drop_cons hi]; exact List.mem_cons_self)).lt j e.symm).1

/-- A group begins: a rule of its own, with the key alone. -/
theorem Out.begin {B gin gs gr m : Nat} {w1 : World} {S : List Rq} {i : Nat} {F Bk : List RV} {w w' : World} (h : Out B gin gs gr m w1 S i F Bk w) (k : Str) (hr : RuleAt w' w.heap.size k false false (.slice none 0 0) (.slice none 0 0)) (hb : Below w.heap.size w w') :
    Inn B gin gs gr m w1 S i i F Bk w.heap.size k (.slice none 0 0) (.slice none 0 0) w' := by
  have hsame : ∀ j ∈ bks ((S.drop i).map (·.v)) ++ (bks (slicesOf (F ++ Bk)) ++ [gin, gs, gr]), w'.heap[j]? = w.heap[j]? := fun j hj => hb.block j (h.lts j hj)
  have hz : (S.take i).drop i = [] := by rw [List.drop_eq_nil_iff, List.length_take]; omega
  have hBw : B ≤ w.heap.size := Nat.le_trans h.hB h.bel.size
  refine ⟨(hsame gin (by simp)).trans h.hin, (hsame gs (by simp)).trans h.hgs, h.row.kept (hsame gr (by simp)), ?_, ?_, ?_, fun j hj => Nat.lt_of_lt_of_le (h.lts j hj) hb.size, ?_, ?_, h.bel.trans (hb.mono hBw), h.hB, h.low, hBw⟩
  · intro q hq
    exact (h.todo q hq).kept fun j hj => hsame j (List.mem_append_left _ (mem_bks (List.mem_map.2 ⟨q, hq, rfl⟩) hj))
  · intro r hr'
    exact (h.done r hr').kept fun j hj _ => hsame j (List.mem_append_right _ (List.mem_append_left _ (bks_slices hr' j hj)))
  · rw [show bks [Value.slice none 0 0, Value.slice none 0 0] = [] from rfl, List.nil_append]
    exact List.nodup_cons.2 ⟨fun e => absurd (h.lts _ e) (by omega), h.nd⟩
  · rw [hz]
    exact ⟨hr, OwnS.nil B w', by simp [foldR, RS.init], OwnS.nil B w', by simp [foldR, RS.init]⟩
  · rw [hz]; simp

/-- The distinct keys up to the group's end. -/
theorem group_keys {S : List Rq} {i0 : Nat} (h0 : i0 < S.length) (hbnd : i0 = 0 ∨ ∀ (h : i0 - 1 < S.length), S[i0 - 1].key ≠ S[i0].key) : ∀ i, i0 < i → i ≤ S.length → (∀ j (hj : j < S.length), i0 ≤ j → j < i → S[j].key = S[i0].key) →
    compactUpTo (keysA S) i = compactUpTo (keysA S) i0 ++ [S[i0].key] := by
  have hg : ∀ j (hj : j < S.length), (keysA S)[j]! = S[j].key := by
    intro j hj
    unfold keysA
    rw [get_list _ j (by simpa using hj)]; simp
  intro i
  induction i with
  | zero => intro h; omega
  | succ i ih =>
    intro hlt hi hall
    rw [compactUpTo_succ]
    by_cases he : i = i0
    · subst he
      have : keeps (keysA S) i = true := by
        rcases hbnd with h | h
        · subst h; simp [keeps]
        · refine keeps_pos ?_
          rw [hg i h0, hg (i - 1) (by omega)]
          exact fun e => h (by omega) e.symm
      rw [if_pos this, hg i h0]
    · have h1 := ih (by omega) (by omega) (fun j hj a b => hall j hj a (by omega))
      have : keeps (keysA S) i = false := by
        refine keeps_neg (by omega) ?_
        rw [hg i (by omega), hg (i - 1) (by omega), hall i (by omega) (by omega) (by omega), hall (i - 1) (by omega) (by omega) (by omega)]
      rw [if_neg (by rw [this]; simp), List.append_nil, h1]

/-- The group's rule is what all requirements on its key ask. -/
theorem group_rs {S : List Rq} {i0 i : Nat} {k : Str} (h0 : i0 < i) (hi : i ≤ S.length) (hkeys : ∀ q ∈ (S.take i).drop i0, q.key = k) (b0 : ∀ a ∈ S.take i0, ∀ b ∈ S.drop i0, a.key ≠ b.key) (b1 : ∀ a ∈ S.take i, ∀ b ∈ S.drop i, a.key ≠ b.key)
    (hf : ∀ q ∈ S, q.p.Fit) : { foldR ((S.take i).drop i0) with es := sortC (foldR ((S.take i).drop i0)).es } = rsOf (S.map Rq.p) k := by
  have hsub : ∀ q ∈ (S.take i).drop i0, q ∈ S := fun q hq => List.mem_of_mem_take (List.mem_of_mem_drop hq)
  have hP : ∀ q ∈ S.map Rq.p, q.Fit := by
    intro q hq
    obtain ⟨q', h1, rfl⟩ := List.mem_map.1 hq
    exact hf q' h1
  have hG : ∀ q ∈ ((S.take i).drop i0).map Rq.p, q.Fit := by
    intro q hq
    obtain ⟨q', h1, rfl⟩ := List.mem_map.1 hq
    exact hf q' (hsub q' h1)
  have k1 := (fold_ok (((S.take i).drop i0).map Rq.p) [] RS.init RSOk.init hG).sorted
  rw [List.nil_append] at k1
  have hx : S[i0] ∈ (S.take i).drop i0 := by
    rw [List.mem_iff_getElem]
    refine ⟨0, by simp; omega, ?_⟩
    simp
  have k2 := k1.same (G' := onKey (S.map Rq.p) k) (by
    intro q
    constructor
    · intro hq
      obtain ⟨q', h1, rfl⟩ := List.mem_map.1 hq
      exact List.mem_filter.2 ⟨List.mem_map.2 ⟨q', hsub q' h1, rfl⟩, decide_eq_true (hkeys q' h1)⟩
    · intro hq
      obtain ⟨h1, h2⟩ := List.mem_filter.1 hq
      obtain ⟨q', h3, rfl⟩ := List.mem_map.1 h1
      have h2' : q'.key = k := of_decide_eq_true h2
      refine List.mem_map.2 ⟨q', ?_, rfl⟩
      rw [← List.take_append_drop i S] at h3
      rcases List.mem_append.1 h3 with h4 | h4
      · rw [← List.take_append_drop i0 (S.take i)] at h4
        rcases List.mem_append.1 h4 with h5 | h5
        · rw [List.take_take, Nat.min_eq_left (by omega)] at h5
          refine absurd (h2'.trans (hkeys _ hx).symm) (b0 q' h5 S[i0] ?_)
          rw [drop_cons (by omega)]; exact List.mem_cons_self
        · exact h5
      · refine absurd ((hkeys _ hx).trans h2'.symm) (b1 S[i0] ?_ q' h4)
        exact List.mem_of_mem_drop hx)
  exact k2.unique (rsOf_ok _ _ hP) (sortC_law _).1 (rsOf_strict _ _)

/-- Where the next key is another one, the groups are apart. -/
theorem bnd_next {S : List Rq} (hs : ∀ i j (hi : i < S.length) (hj : j < S.length), i < j → ¬ S[j].key < S[i].key) {i : Nat} (h0 : 0 < i) (hi : i ≤ S.length) (hn : ∀ (h : i < S.length), S[i].key ≠ S[i - 1].key) :
    ∀ a ∈ S.take i, ∀ b ∈ S.drop i, a.key ≠ b.key := by
  intro a ha b hb e
  obtain ⟨x, hx, rfl⟩ := List.mem_iff_getElem.1 ha
  obtain ⟨y, hy, rfl⟩ := List.mem_iff_getElem.1 hb
  simp only [List.getElem_take, List.getElem_drop] at e
  have hx' : x < i := by rw [List.length_take] at hx; omega
  have hy' : i + y < S.length := by rw [List.length_drop] at hy; omega
  have hii : i < S.length := by omega
  have a1 : ¬ S[i - 1].key < S[x].key := by
    by_cases h : x = i - 1
    · subst h; exact lt_irr _
    · exact hs x (i - 1) (by omega) (by omega) (by omega)
  have a2 : ¬ S[i].key < S[i - 1].key := hs (i - 1) i (by omega) hii (by omega)
  have a3 : ¬ S[i + y].key < S[i].key := by
    by_cases h : y = 0
    · subst h; exact lt_irr _
    · exact hs i (i + y) hii hy' (by omega)
  rcases lt_tri S[i - 1].key S[i].key with h | h | h
  · have h4 : S[x].key < S[i].key := le_lt a1 h
    have h5 := lt_le h4 a3
    rw [e] at h5
    exact lt_irr _ h5
  · exact hn hii h.symm
  · exact a2 h

end Go.Proofs.Qxb6605201a.Rul
