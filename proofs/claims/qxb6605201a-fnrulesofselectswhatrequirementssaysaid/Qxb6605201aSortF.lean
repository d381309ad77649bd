import Derived.Test.Qxb6605201aSortEx
namespace Go.Proofs.Qxb6605201a.Rul
open Go.RowKit Go.Sort Go.Lib

/-- A requirement as it lies: its values' slice v holds l. -/
structure Rq where
  key : Str
  op : Int
  v : Value
  l : List Str

/-- The row of requirements. -/
def ReqAt (w : World) (g : Nat) (Q : List Rq) : Prop := ∀ i q, Q[i]? = some q →
  w.cell? ⟨g, i * 3, none⟩ = some (encStr q.key) ∧ w.cell? ⟨g, i * 3 + 1, none⟩ = some (.int .i64 q.op) ∧ w.cell? ⟨g, i * 3 + 2, none⟩ = some q.v

theorem ReqAt.kept {w w' : World} {g : Nat} {Q : List Rq} (h : ReqAt w g Q) (hb : w'.heap[g]? = w.heap[g]?) : ReqAt w' g Q := by
  intro i q hq
  obtain ⟨h1, h2, h3⟩ := h i q hq
  exact ⟨(World.cell?_of_block (a := ⟨g, i * 3, none⟩) hb).trans h1, (World.cell?_of_block (a := ⟨g, i * 3 + 1, none⟩) hb).trans h2, (World.cell?_of_block (a := ⟨g, i * 3 + 2, none⟩) hb).trans h3⟩

set_option maxHeartbeats 1000000 in
/-- The comparison of two requirements' keys. -/
theorem cmp31 (W : World) (g i j : Nat) (a b : Str) (h1 : W.cell? ⟨g, i * 3, none⟩ = some (encStr a)) (h2 : W.cell? ⟨g, j * 3, none⟩ = some (encStr b)) :
    Calls Try.prog 31 #[.pointer (some ⟨g, i * 3, none⟩), .pointer (some ⟨g, j * 3, none⟩)] W fun e w' => e = .returned (.int .i64 (compareBytes a b)) ∧ ∃ q, w' = W.drewN q := by
  have hc : ∀ w, Calls Try.prog 32 #[encStr a, encStr b] w fun e w' => e = .returned (.int .i64 (compareBytes a b)) ∧ ∃ q, w' = w.drewN q := fun w => (Try.strings_Compare ⟨a.toArray⟩ ⟨b.toArray⟩ w).mono fun _ _ h => ⟨h.1, 0, h.2⟩
  generalize compareBytes a b = r at hc ⊢
  go_enter Try.func31, Try.ntmps31
  go_wp2
  go_quiet (first | (go_at_call 32; refine Calls.quiet_of (hc _)))
  go_wp2
  go_ret
  exact ⟨rfl, _, rfl⟩

theorem swo_keys {n : Nat} (key : Fin n → Str) : SWO (ltOf fun i j => compareBytes (key i) (key j)) where
  irrefl x := by simp only [ltOf, decide_eq_false_iff_not, compareBytes_neg]; exact lt_irr _
  trans x y z h1 h2 := by simp only [ltOf, decide_eq_true_eq, compareBytes_neg] at *; exact lt_tr h1 h2
  ntrans x y z h1 h2 := by
    simp only [ltOf, decide_eq_false_iff_not, compareBytes_neg] at *
    intro h
    rcases lt_tri (key y) (key z) with h3 | h3 | h3
    · exact h2 h3
    · rw [← h3] at h; exact h1 h
    · exact h1 (lt_tr h h3)

/-- The pointers to the requirements, sorted by their keys. -/
theorem sort30 (gs g : Nat) (Q : List Rq) (w : World) (hR : ReqAt w g Q) (hg : g < w.heap.size) (hgs : gs < w.heap.size) (hne : g ≠ gs) (hn : Q.length < 4611686018427387904)
    (hH : ∀ j, j < Q.length → w.cell? ⟨gs, j, none⟩ = some (.pointer (some ⟨g, j * 3, none⟩)) ∧ w.frozen? ⟨gs, j, none⟩ = false) :
    Calls Try.prog 30 #[.slice (some ⟨gs, 0, none⟩) Q.length Q.length, .func (.func 31) #[] #[]] w fun e w' => e = .returned (.tuple #[]) ∧
      ∃ σ : List Nat, σ.Perm (List.range Q.length) ∧ (∀ i j (hi : i < σ.length) (hj : j < σ.length) (a b : Rq), i < j → Q[σ[i]]? = some a → Q[σ[j]]? = some b → ¬ b.key < a.key) ∧
        (∀ j (hj : j < σ.length), w'.cell? ⟨gs, j, none⟩ = some (.pointer (some ⟨g, σ[j] * 3, none⟩))) ∧ Kept (fun j => j = gs) w w' := by
  rcases Nat.eq_zero_or_pos Q.length with h0 | hpos
  · rw [h0]
    refine (AnyF.slices_SortFunc_none { Try.sortPtr with } (some ⟨gs, 0, none⟩) 0 (.func (.func 31) #[] #[]) w).mono ?_
    rintro e w' ⟨he, rfl⟩
    exact ⟨he, [], by simp, by simp, by simp, Kept.refl _ _⟩
  · haveI : Inhabited (Fin Q.length) := ⟨⟨0, hpos⟩⟩
    have eg : ∀ args w, (callFunc 31 args).run Try.prog w = .ok (.enter 31 args) w := enters_of Try.func31 (by kernel_rfl) rfl
    have hcmp : CmpReads Try.prog 31 #[] (fun i : Fin Q.length => Value.pointer (some ⟨g, i.val * 3, none⟩)) (fun i j => compareBytes Q[i].key Q[j].key) gs 0 (Array.ofFn (fun i : Fin Q.length => i)).size w := by
      intro m os dk _ x y
      have hb : ∀ a : Addr, a.block = g → (sortWorld (fun i : Fin Q.length => Value.pointer (some ⟨g, i.val * 3, none⟩)) w gs 0 m dk os).cell? a = w.cell? a := by
        intro a ha
        unfold sortWorld
        rw [cell?_grow _ _ _ (by rw [size_putRow, ha]; exact hg), cell?_putRow_other _ _ _ _ _ _ (.inl (by rw [ha]; exact hne))]
        rfl
      refine cmp31 _ g x.val y.val Q[x].key Q[y].key ?_ ?_
      · rw [hb _ rfl]; exact (hR x.val Q[x] (by simp)).1
      · rw [hb _ rfl]; exact (hR y.val Q[y] (by simp)).1
    have hHolds : Holds (fun i : Fin Q.length => Value.pointer (some ⟨g, i.val * 3, none⟩)) w gs 0 (Array.ofFn (fun i : Fin Q.length => i)) := by
      intro j hj
      have hj' : j < Q.length := by simpa using hj
      rw [getElem!_pos _ j hj, Array.getElem_ofFn, Nat.zero_add]
      exact hH j hj'
    have hcon := Any.slices_SortFunc Try.sortPtr (fun i : Fin Q.length => Value.pointer (some ⟨g, i.val * 3, none⟩)) (fun _ => rfl) (fun i j => compareBytes Q[i].key Q[j].key) (swo_keys fun i => Q[i].key) 31 #[] gs 0 Q.length
      (Array.ofFn (fun i : Fin Q.length => i)) w eg hcmp.lays hHolds hgs (by simpa using hn)
    rw [show (Array.ofFn (fun i : Fin Q.length => i)).size = Q.length by simp] at hcon
    refine Calls.mono hcon ?_
    rintro e w' ⟨he, d', n, os, hp, hs, rfl⟩
    have hsz : d'.size = Q.length := by have := hp.1; simpa using this
    refine ⟨he, d'.toList.map (·.val), ?_, ?_, ?_, ?_⟩
    · have h3 := hp.2.2
      have e1 : (d'.extract 0 Q.length).toList = d'.toList := by rw [Array.toList_extract, List.extract_eq_take_drop]; simp; exact List.take_of_length_le (by simp [hsz])
      have e2 : ((Array.ofFn (fun i : Fin Q.length => i)).extract 0 Q.length).toList = (Array.ofFn (fun i : Fin Q.length => i)).toList := by rw [Array.toList_extract, List.extract_eq_take_drop]; simp [List.take_of_length_le]
      rw [e1, e2] at h3
      refine (h3.map (·.val)).trans ?_
      rw [Array.toList_ofFn, List.map_ofFn]
      refine List.Perm.of_eq ?_
      apply List.ext_getElem
      · simp
      · intro i h1 h2; simp
    · intro i j hi hj a b hij ha hb
      have hi' : i < d'.size := by simpa using hi
      have hj' : j < d'.size := by simpa using hj
      have := hs i j (Nat.zero_le _) hij (by omega)
      rw [getElem!_pos d' i hi', getElem!_pos d' j hj'] at this
      simp only [ltOf, decide_eq_false_iff_not, compareBytes_neg] at this
      simp only [List.getElem_map, Array.getElem_toList] at ha hb
      have a1 : Q[d'[i]] = a := by have := List.getElem?_eq_some_iff.1 ha; exact this.2
      have b1 : Q[d'[j]] = b := by have := List.getElem?_eq_some_iff.1 hb; exact this.2
      rw [a1, b1] at this
      exact this
    · intro j hj
      have hj' : j < d'.size := by simpa using hj
      unfold sortWorld
      rw [cell?_grow _ _ _ (by rw [size_putRow]; exact hgs)]
      have := (holds_putRow (fun i : Fin Q.length => Value.pointer (some ⟨g, i.val * 3, none⟩)) (Sort.ahead w n) gs 0 (Array.ofFn (fun i : Fin Q.length => i)) d' hHolds (by simpa using hsz) j hj').1
      rw [Nat.zero_add, getElem!_pos d' j hj'] at this
      rw [this]
      simp
    · refine ⟨rfl, rfl, rfl, ?_, ?_⟩
      · unfold sortWorld; rw [size_grow, size_putRow]; exact Nat.le_add_right _ _
      · intro k hk hk2
        unfold sortWorld
        rw [heap_grow_old _ _ (by rw [size_putRow]; exact hk)]
        show (w.heap.modify gs (onCells _))[k]? = _
        rw [Array.getElem?_modify, if_neg (fun e => hk2 e.symm)]

end Go.Proofs.Qxb6605201a.Rul
