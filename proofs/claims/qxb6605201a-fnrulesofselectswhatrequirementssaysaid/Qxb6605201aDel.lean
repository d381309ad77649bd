import Derived.Test.Qxb6605201aFind
namespace Go.Proofs.Qxb6605201a.Rul
open Go.RowKit Go.Sort Go.Lib

def RetT (e : Ending) (b : Bool) : Prop := ∃ i : Int, e = .returned (.tuple #[.int .i64 i, .bool b])

/-- The literal in add: is the value missing among the rule's? -/
theorem gives44 (x : Str) (bx rb g cap : Nat) (l : List Str) (W : World) (hb : W.cell? ⟨bx, 0, none⟩ = some (.pointer (some ⟨rb, 0, none⟩)))
    (hv : W.cell? ⟨rb, 3, none⟩ = some (.slice (some ⟨g, 0, none⟩) l.length cap)) (hs : Strict l) (hH : Holds encStr W g 0 l.toArray) (hbig : l.length < 4611686018427387904) :
    FnGives Try.prog 44 #[.pointer (some ⟨bx, 0, none⟩)] #[encStr x] (.bool (!decide (x ∈ l))) W := by
  show Calls Try.prog 44 #[encStr x, .pointer (some ⟨bx, 0, none⟩)] W _
  have hc : Calls Try.prog 45 #[.slice (some ⟨g, 0, none⟩) l.length cap, encStr x] W fun e w' => RetT e (decide (x ∈ l)) ∧ ∃ q, w' = W.drewN q := search45 g cap l x W hs hH hbig
  clear hH hs
  generalize decide (x ∈ l) = r at hc ⊢
  generalize hn : l.length = n at hc hv
  go_enter Try.func44, Try.ntmps44
  go_wp2_with (go_at_call 45; refine hc.mono ?_; rintro e w' ⟨⟨i, rfl⟩, q, rfl⟩)
  go_ret
  exact ⟨rfl, q, rfl⟩

theorem heap_sortWorld (w : World) (blk n : Nat) (d : Array Str) (os : Array Obj) (k : Nat) (hlt : k < w.heap.size) (hne : k ≠ blk) : (sortWorld encStr w blk 0 n d os).heap[k]? = w.heap[k]? := by
  unfold sortWorld
  rw [heap_grow_old _ _ (by rw [size_putRow]; exact hlt)]
  show (w.heap.modify blk (onCells _))[k]? = _
  rw [Array.getElem?_modify, if_neg (Ne.symm hne)]

theorem holds_block {w w' : World} {g : Nat} {d : Array Str} (h : Holds encStr w g 0 d) (hb : w'.heap[g]? = w.heap[g]?) : Holds encStr w' g 0 d := fun j hj =>
  ⟨(World.cell?_of_block (a := ⟨g, 0 + j, none⟩) hb).trans (h j hj).1, (World.frozen?_of_block (a := ⟨g, 0 + j, none⟩) hb).trans (h j hj).2⟩

/-- slices.DeleteFunc with the literal: what the rule's values name stays. -/
theorem delete43 (B g cap : Nat) (l : List Str) (w : World) (h : OwnS B w (.slice (some ⟨g, 0, none⟩) l.length cap) l) (hl : l.length < 4611686018427387904)
    (bx rb gp cp : Nat) (lp : List Str) (hb : w.cell? ⟨bx, 0, none⟩ = some (.pointer (some ⟨rb, 0, none⟩))) (hv : w.cell? ⟨rb, 3, none⟩ = some (.slice (some ⟨gp, 0, none⟩) lp.length cp))
    (hs : Strict lp) (hH : Holds encStr w gp 0 lp.toArray) (hbig : lp.length < 4611686018427387904) (hgp : gp < w.heap.size) (n1 : bx ≠ g) (n2 : rb ≠ g) (n3 : gp ≠ g) :
    Calls Try.prog 43 #[.slice (some ⟨g, 0, none⟩) l.length cap, .func (.func 44) #[] #[.pointer (some ⟨bx, 0, none⟩)]] w fun e w' =>
      ∃ v', e = .returned v' ∧ OwnS B w' v' (l.filter fun x => decide (x ∈ lp)) ∧ v'.ownBlock = some g ∧ w.grownBy w' (some g) := by
  have eg : ∀ args w, (callFunc 44 args).run Try.prog w = .ok (.enter 44 args) w := enters_of Try.func44 (by kernel_rfl) rfl
  have hbx : bx < w.heap.size := World.block_lt_of_cell? w _ hb
  have hrb : rb < w.heap.size := World.block_lt_of_cell? w _ hv
  rcases h.cases with ⟨h0, _⟩ | ⟨g', cap', h1, hB, hlt, hc, hHl⟩
  · exact absurd h0 (by simp)
  obtain ⟨rfl, rfl⟩ : g' = g ∧ cap' = cap := by
    simp only [Value.slice.injEq, Option.some.injEq, Addr.mk.injEq] at h1; exact ⟨h1.1.1.symm, h1.2.2.symm⟩
  have hgive : ∀ W : World, (∀ k, k < w.heap.size → k ≠ g' → W.heap[k]? = w.heap[k]?) → ∀ x : Str, FnGives Try.prog 44 #[.pointer (some ⟨bx, 0, none⟩)] #[encStr x] (.bool (!decide (x ∈ lp))) W := fun W hW x =>
    gives44 x bx rb gp cp lp W ((World.cell?_of_block (a := ⟨bx, 0, none⟩) (hW bx hbx n1)).trans hb) ((World.cell?_of_block (a := ⟨rb, 3, none⟩) (hW rb hrb n2)).trans hv) hs (holds_block hH (hW gp hgp n3)) hbig
  have hcon := AnyE.slices_DeleteFunc Try.delStr encStr (fun _ => rfl) (fun x => !decide (x ∈ lp)) 44 #[.pointer (some ⟨bx, 0, none⟩)] eg [] Try.zeroValue9 g' 0 cap' l.toArray w
    (fun W x hW => hgive W (fun k hk _ => hW.block k hk) x) (fun n os dk x _ => hgive _ (fun k hk hne => heap_sortWorld w g' n dk os k hk hne) x) hHl (by simp; omega) (by simpa using hc)
  refine Calls.mono hcon ?_
  have hf : (l.toArray.toList.filter fun x => !(!decide (x ∈ lp))) = l.filter fun x => decide (x ∈ lp) := by simp
  rintro e w' ⟨rfl, q, rfl⟩
  rw [hf]
  have hle := List.length_filter_le (fun x => decide (x ∈ lp)) l
  generalize (l.filter fun x => decide (x ∈ lp)) = r at hle ⊢
  refine ⟨_, rfl, ?_, rfl, ?_⟩
  · have := h.put (r ++ List.replicate (l.length - r.length) []) r.length q #[] (by simp; omega) (by simp)
    rw [List.take_left, grow_empty] at this
    simpa using this
  · have := grownBy_put w q g' (r ++ List.replicate (l.length - r.length) []) #[]
    rw [grow_empty] at this
    simpa using this

end Go.Proofs.Qxb6605201a.Rul
