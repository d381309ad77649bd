import Derived.Test.Qxb6605201aOut
namespace Go.Proofs.Qxb6605201a.Rul
open Go.RowKit Go.Sort Go.Lib

/-- Behind sortExcluded: the rule stands, nothing else has turned. -/
structure Closed (B gin gs gr m : Nat) (w1 : World) (S : List Rq) (i : Nat) (F Bk : List RV) (rb : Nat) (rv : RV) (w : World) : Prop where
  hin : w.heap[gin]? = w1.heap[gin]?
  hgs : w.heap[gs]? = w1.heap[gs]?
  row : RowR w gr m F Bk
  todo : ∀ q ∈ S.drop i, OwnS B w q.v q.l
  done : ∀ r ∈ F ++ Bk, RuleOk B w (S.map Rq.p) r
  mine : RuleOk B w (S.map Rq.p) rv
  cells : RuleAt w rb rv.k rv.th rv.ab rv.vv rv.ev
  nd : (rb :: (bks [rv.vv, rv.ev] ++ (bks ((S.drop i).map (·.v)) ++ (bks (slicesOf (F ++ Bk)) ++ [gin, gs, gr])))).Nodup
  lts : ∀ j ∈ bks ((S.drop i).map (·.v)) ++ (bks (slicesOf (F ++ Bk)) ++ [gin, gs, gr]), j < w.heap.size
  bel : Below B w1 w
  hB : B ≤ w1.heap.size
  low : B ≤ gr

theorem bks_of_blocks {a b a' b' : Value} (h1 : a'.ownBlock = a.ownBlock) (h2 : b'.ownBlock = b.ownBlock) : bks [a', b'] = bks [a, b] := by
  rw [bks_cons, bks_cons, bks_cons a, bks_cons b, h1, h2]

theorem Inn.close {B gin gs gr m : Nat} {w1 : World} {S : List Rq} {i0 i : Nat} {F Bk : List RV} {rb : Nat} {k : Str} {vv ev : Value} {w w' : World} (h : Inn B gin gs gr m w1 S i0 i F Bk rb k vv ev w)
    {ev' : Value} (hr : RuleM B w' rb k { foldR ((S.take i).drop i0) with es := sortC (foldR ((S.take i).drop i0)).es } vv ev') (hob : ev'.ownBlock = ev.ownBlock) (hK : Kept (fun j => j = rb ∨ some j = ev.ownBlock) w w')
    (hrs : { foldR ((S.take i).drop i0) with es := sortC (foldR ((S.take i).drop i0)).es } = rsOf (S.map Rq.p) k) :
    ∃ rv : RV, rv.k = k ∧ rv.th = (rsOf (S.map Rq.p) k).th ∧ Closed B gin gs gr m w1 S i F Bk rb rv w' := by
  rw [hrs] at hr
  obtain ⟨a, c, hv⟩ := hr.vo.slice
  obtain ⟨a', c', he⟩ := hr.eo.slice
  have hsame : ∀ j ∈ bks ((S.drop i).map (·.v)) ++ (bks (slicesOf (F ++ Bk)) ++ [gin, gs, gr]), w'.heap[j]? = w.heap[j]? := by
    intro j hj
    refine hK.block j (h.lts j hj) ?_
    have n1 := (List.nodup_cons.1 h.nd).1
    have n2 := (List.nodup_append.1 (List.nodup_cons.1 h.nd).2).2.2
    rintro (e | e)
    · exact n1 (e ▸ List.mem_append_right _ hj)
    · exact n2 j (mem_bks (v := ev) (by simp) e.symm) j hj rfl
  have hBw : B ≤ w.heap.size := Nat.le_trans h.hB h.bel.size
  refine ⟨⟨k, (rsOf (S.map Rq.p) k).th, (rsOf (S.map Rq.p) k).ab, a, ((rsOf (S.map Rq.p) k).vs.getD []).length, c, a', (rsOf (S.map Rq.p) k).es.length, c'⟩, rfl, rfl, ?_⟩
  have e1 : bks [Value.slice a ((rsOf (S.map Rq.p) k).vs.getD []).length c, Value.slice a' (rsOf (S.map Rq.p) k).es.length c'] = bks [vv, ev] := bks_of_blocks (by rw [hv]) (by rw [← he]; exact hob)
  refine ⟨(hsame gin (by simp)).trans h.hin, (hsame gs (by simp)).trans h.hgs, h.row.kept (hsame gr (by simp)), ?_, ?_, ?_, ?_, ?_, fun j hj => Nat.lt_of_lt_of_le (h.lts j hj) hK.size, ?_, h.hB, h.low⟩
  · intro q hq
    exact (h.todo q hq).kept fun j hj => hsame j (List.mem_append_left _ (mem_bks (List.mem_map.2 ⟨q, hq, rfl⟩) hj))
  · intro r hr'
    exact (h.done r hr').kept fun j hj _ => hsame j (List.mem_append_right _ (List.mem_append_left _ (bks_slices hr' j hj)))
  · refine ⟨rfl, rfl, ?_, ?_, ?_⟩
    · have := hr.vo; rw [hv] at this; exact this
    · have := hr.vn; rw [hv] at this; exact this
    · have := hr.eo; rw [he] at this; exact this
  · have := hr.cells; rw [hv, he] at this; exact this
  · show (rb :: (bks [Value.slice a ((rsOf (S.map Rq.p) k).vs.getD []).length c, Value.slice a' (rsOf (S.map Rq.p) k).es.length c'] ++ _)).Nodup
    rw [e1]; exact h.nd
  · refine h.bel.trans (below_kept hK ?_ hBw)
    rintro j (e | e)
    · rw [e]; exact h.rlow
    · exact (h.rule.eo.lt j e.symm).1

theorem nodup_put {A X Y : List Nat} (rb : Nat) (h : (rb :: (A ++ (X ++ Y))).Nodup) : (X ++ (A ++ Y)).Nodup := by
  have h1 := (List.nodup_cons.1 h).2
  refine (List.Perm.nodup_iff ?_).1 h1
  rw [← List.append_assoc, ← List.append_assoc]
  exact List.Perm.append_right _ List.perm_append_comm

/-- What is put into the row. -/
theorem Closed.put {B gin gs gr m : Nat} {w1 : World} {S : List Rq} {i : Nat} {F Bk F' Bk' : List RV} {rb p : Nat} {rv : RV} {w : World} (h : Closed B gin gs gr m w1 S i F Bk rb rv w) (hrow : RowR (put5 w gr p rv) gr m F' Bk') (hper : (F' ++ Bk').Perm (rv :: (F ++ Bk)))
    (kF : F'.map (·.k) = (compactUpTo (keysA S) i).filter fun k => (rsOf (S.map Rq.p) k).th) (kB : Bk'.map (·.k) = (compactUpTo (keysA S) i).filter fun k => !(rsOf (S.map Rq.p) k).th)
    (bnd : ∀ a ∈ S.take i, ∀ b ∈ S.drop i, a.key ≠ b.key) : Out B gin gs gr m w1 S i F' Bk' (put5 w gr p rv) := by
  have hK := put5_kept w gr p rv
  have hBw : B ≤ w.heap.size := Nat.le_trans h.hB h.bel.size
  have hgr : ∀ j ∈ bks [rv.vv, rv.ev] ++ (bks ((S.drop i).map (·.v)) ++ bks (slicesOf (F ++ Bk))) ++ [gin, gs], j ≠ gr := by
    have n1 := (List.nodup_cons.1 h.nd).2
    intro j hj e
    have e2 : bks [rv.vv, rv.ev] ++ (bks ((S.drop i).map (·.v)) ++ (bks (slicesOf (F ++ Bk)) ++ [gin, gs, gr])) = (bks [rv.vv, rv.ev] ++ (bks ((S.drop i).map (·.v)) ++ bks (slicesOf (F ++ Bk))) ++ [gin, gs]) ++ [gr] := by simp [List.append_assoc]
    rw [e2] at n1
    exact (List.nodup_append.1 n1).2.2 j hj gr (by simp) e
  have hsame : ∀ j, j < w.heap.size → j ≠ gr → (put5 w gr p rv).heap[j]? = w.heap[j]? := fun j hj hn => hK.block j hj hn
  have hperm : (bks (slicesOf (F' ++ Bk'))).Perm (bks [rv.vv, rv.ev] ++ bks (slicesOf (F ++ Bk))) := by
    have e3 : slicesOf (rv :: (F ++ Bk)) = [rv.vv, rv.ev] ++ slicesOf (F ++ Bk) := by simp [slicesOf]
    rw [← bks_append, ← e3]
    exact List.Perm.filterMap _ (List.Perm.flatMap_right _ hper)
  have hnd := nodup_put rb h.nd
  have hP : (bks ((S.drop i).map (·.v)) ++ (bks (slicesOf (F' ++ Bk')) ++ [gin, gs, gr])).Perm (bks ((S.drop i).map (·.v)) ++ (bks [rv.vv, rv.ev] ++ (bks (slicesOf (F ++ Bk)) ++ [gin, gs, gr]))) := by
    refine List.Perm.append_left _ ?_
    rw [← List.append_assoc]
    exact List.Perm.append_right _ hperm
  have hmine : ∀ j ∈ bks [rv.vv, rv.ev], j < w.heap.size := by
    intro j hj
    obtain ⟨v, hv, he⟩ := List.mem_filterMap.1 hj
    simp at hv
    rcases hv with rfl | rfl
    · exact (h.mine.vo.lt j he).2
    · exact (h.mine.eo.lt j he).2
  have hin : gin ≠ gr := hgr gin (by simp)
  have hgs : gs ≠ gr := hgr gs (by simp)
  refine ⟨(hsame gin (h.lts gin (by simp)) hin).trans h.hin, (hsame gs (h.lts gs (by simp)) hgs).trans h.hgs, hrow, ?_, ?_, (hP.nodup_iff).2 hnd, ?_, kF, kB, bnd, ?_, h.hB, h.low⟩
  · intro q hq
    exact (h.todo q hq).kept fun j hj => hsame j ((h.todo q hq).lt j hj).2 (hgr j (by simp only [List.mem_append]; exact .inl (.inr (.inl (mem_bks (List.mem_map.2 ⟨q, hq, rfl⟩) hj)))))
  · intro r hr'
    rcases List.mem_cons.1 (hper.mem_iff.1 hr') with rfl | hr2
    · exact h.mine.kept fun j hj hl => hsame j hl (hgr j (by simp only [List.mem_append]; exact .inl (.inl hj)))
    · exact (h.done r hr2).kept fun j hj hl => hsame j hl (hgr j (by simp only [List.mem_append]; exact .inl (.inr (.inr (bks_slices hr2 j hj)))))
  · intro j hj
    have hj' := hP.mem_iff.1 hj
    refine Nat.lt_of_lt_of_le ?_ hK.size
    simp only [List.mem_append] at hj'
    rcases hj' with h1 | h1 | h1
    · exact h.lts j (by simp only [List.mem_append]; exact .inl h1)
    · exact hmine j h1
    · exact h.lts j (by simp only [List.mem_append]; exact .inr h1)
  · refine h.bel.trans (below_kept hK ?_ hBw)
    rintro j e
    rw [e]; exact h.low

/-- A rule that must be there goes to the front. -/
theorem Closed.front {B gin gs gr m : Nat} {w1 : World} {S : List Rq} {i0 i : Nat} {F Bk : List RV} {rb : Nat} {rv : RV} {w : World} (h : Closed B gin gs gr m w1 S i F Bk rb rv w) (hth : rv.th = true) (hlt : F.length + Bk.length < m)
    (kF : F.map (·.k) = (compactUpTo (keysA S) i0).filter fun k => (rsOf (S.map Rq.p) k).th) (kB : Bk.map (·.k) = (compactUpTo (keysA S) i0).filter fun k => !(rsOf (S.map Rq.p) k).th)
    (hc : compactUpTo (keysA S) i = compactUpTo (keysA S) i0 ++ [rv.k]) (bnd : ∀ a ∈ S.take i, ∀ b ∈ S.drop i, a.key ≠ b.key) : Out B gin gs gr m w1 S i (F ++ [rv]) Bk (put5 w gr (F.length * 5) rv) := by
  have hT : (rsOf (S.map Rq.p) rv.k).th = true := by rw [← h.mine.th]; exact hth
  refine h.put (h.row.front hlt rv) ?_ ?_ ?_ bnd
  · rw [List.append_assoc]
    exact List.perm_middle
  · rw [List.map_append, hc, List.filter_append, kF]; simp [hT]
  · rw [hc, List.filter_append, kB]; simp [hT]

/-- The others go to the back. -/
theorem Closed.back {B gin gs gr m : Nat} {w1 : World} {S : List Rq} {i0 i : Nat} {F Bk : List RV} {rb : Nat} {rv : RV} {w : World} (h : Closed B gin gs gr m w1 S i F Bk rb rv w) (hth : rv.th = false) (hlt : F.length + Bk.length < m)
    (kF : F.map (·.k) = (compactUpTo (keysA S) i0).filter fun k => (rsOf (S.map Rq.p) k).th) (kB : Bk.map (·.k) = (compactUpTo (keysA S) i0).filter fun k => !(rsOf (S.map Rq.p) k).th)
    (hc : compactUpTo (keysA S) i = compactUpTo (keysA S) i0 ++ [rv.k]) (bnd : ∀ a ∈ S.take i, ∀ b ∈ S.drop i, a.key ≠ b.key) : Out B gin gs gr m w1 S i F (Bk ++ [rv]) (put5 w gr ((m - 1 - Bk.length) * 5) rv) := by
  have hT : (rsOf (S.map Rq.p) rv.k).th = false := by rw [← h.mine.th]; exact hth
  refine h.put (h.row.back hlt rv) ?_ ?_ ?_ bnd
  · rw [← List.append_assoc]
    exact List.perm_append_comm
  · rw [hc, List.filter_append, kF]; simp [hT]
  · rw [List.map_append, hc, List.filter_append, kB]; simp [hT]

end Go.Proofs.Qxb6605201a.Rul
