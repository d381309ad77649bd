import Derived.Test.Qxb6605201aIn2
import Derived.Deep.AppendLies
namespace Go.Proofs.Qxb6605201a.Rul
open Go.RowKit Go.Sort Go.Lib

/-- What insertSorted leaves. -/
structure Insd (B : Nat) (w w' : World) (v v' : Value) (l l' : List Str) (x : Str) : Prop where
  own : OwnS B w' v' l'
  strict : Strict l'
  mem : ∀ s, s ∈ l' ↔ s ∈ l ∨ s = x
  len : l'.length ≤ l.length + 1
  blk : v'.ownBlock = v.ownBlock ∨ ∃ g, v'.ownBlock = some g ∧ w.heap.size ≤ g
  kept : Kept (fun j => some j = v.ownBlock) w w'

/-- The row with one cell between. -/
def mid (l : List Str) (j : Nat) (c : Str) : List Str := l.take j ++ c :: l.drop j
theorem mid_length (l : List Str) (j : Nat) (c : Str) (h : j ≤ l.length) : (mid l j c).length = l.length + 1 := by simp [mid]; omega
theorem mid_end (l : List Str) (c : Str) : mid l l.length c = l ++ [c] := by simp [mid]
theorem mid_set (l : List Str) (j : Nat) (c y : Str) (h : j ≤ l.length) : (mid l j c).set j y = mid l j y := by
  unfold mid
  have e : (l.take j).length = j := by rw [List.length_take]; omega
  rw [List.set_append_right _ _ (by omega), e, Nat.sub_self]; rfl
theorem mid_down (l : List Str) (j : Nat) (h : j < l.length) : mid l (j + 1) l[j] = mid l j l[j] := by
  unfold mid
  rw [List.take_succ_eq_append_getElem h, List.drop_eq_getElem_cons (i := j) h, List.append_assoc]
  rfl
theorem mid_get (l : List Str) (j : Nat) (c : Str) (h : j < l.length) : (mid l (j + 1) c)[j]? = some l[j] := by
  unfold mid
  rw [List.getElem?_append_left (by rw [List.length_take]; omega), List.getElem?_take, if_pos (by omega), List.getElem?_eq_getElem h]

theorem mid_strict {l : List Str} {k : Nat} {x : Str} (hs : Strict l) (hk : k ≤ l.length) (h1 : ∀ j (hj : j < l.length), j < k → l[j] < x) (h2 : ∀ h : k < l.length, ¬ l[k] < x ∧ l[k] ≠ x) : Strict (mid l k x) := by
  unfold mid Strict
  have hs' := hs
  rw [← List.take_append_drop k l] at hs'
  have hp := List.pairwise_append.1 hs'
  have hx : ∀ a ∈ l.take k, a < x := by
    intro a ha
    obtain ⟨j, hj, rfl⟩ := List.mem_iff_getElem.1 ha
    rw [List.length_take] at hj
    rw [List.getElem_take]
    exact h1 j (by omega) (by omega)
  have hy : ∀ b ∈ l.drop k, x < b := by
    intro b hb
    by_cases hk2 : k < l.length
    · have hd := List.drop_eq_getElem_cons hk2
      have hxk : x < l[k] := by
        rcases lt_tri l[k] x with h | h | h
        · exact absurd h (h2 hk2).1
        · exact absurd h (h2 hk2).2
        · exact h
      rw [hd] at hb
      rcases List.mem_cons.1 hb with rfl | hb
      · exact hxk
      · have hp2 := hp.2.1
        rw [hd] at hp2
        exact lt_tr hxk ((List.pairwise_cons.1 hp2).1 b hb)
    · rw [List.drop_of_length_le (by omega)] at hb; simp at hb
  refine List.pairwise_append.2 ⟨hp.1, List.pairwise_cons.2 ⟨hy, hp.2.1⟩, fun a ha b hb => ?_⟩
  rcases List.mem_cons.1 hb with rfl | hb
  · exact hx a ha
  · exact hp.2.2 a ha b hb

theorem mid_mem (l : List Str) (k : Nat) (x s : Str) : s ∈ mid l k x ↔ s ∈ l ∨ s = x := by
  unfold mid
  rw [List.mem_append, List.mem_cons]
  have : s ∈ l ↔ s ∈ l.take k ∨ s ∈ l.drop k := by
    rw [← List.mem_append, List.take_append_drop]
  rw [this]
  constructor
  · rintro (h | h | h)
    · exact .inl (.inl h)
    · exact .inr h
    · exact .inl (.inr h)
  · rintro ((h | h) | h)
    · exact .inl h
    · exact .inr (.inr h)
    · exact .inr (.inl h)

theorem OwnS.stored {B g n cap : Nat} {w : World} {l : List Str} (h : OwnS B w (.slice (some ⟨g, 0, none⟩) n cap) l) (hn : l.length = n) (j : Nat) (y : Str) :
    OwnS B (w.setCell ⟨g, j, none⟩ (encStr y)) (.slice (some ⟨g, 0, none⟩) n cap) (l.set j y) := by
  subst hn
  have := (World.ownsRow.stored h j (encStr y)).1
  unfold OwnS
  rw [List.length_set, List.map_set]
  exact this

theorem OwnS.cell {B g n cap : Nat} {w : World} {l : List Str} (h : OwnS B w (.slice (some ⟨g, 0, none⟩) n cap) l) (hn : l.length = n) (j : Nat) (hj : j < n) :
    w.cell? ⟨g, j, none⟩ = l[j]?.map encStr ∧ w.frozen? ⟨g, j, none⟩ = false := by
  subst hn
  exact ⟨by rw [World.ownsRow.cellAt h j (by omega), List.getElem?_map], World.ownsRow.frozenAt h j⟩

theorem size_alloc_lt (w : World) (o : Obj) : w.heap.size < (w.alloc o).heap.size := by
  show _ < (w.heap.push o).size
  rw [Array.size_push]; exact Nat.lt_succ_self _

theorem ins_start {B g cap : Nat} {w w1 : World} {v : Value} {l : List Str} {x : Str} {o : Obj} (ho : w1.ownsRow B 9 1 (.slice (some ⟨g, 0, none⟩) (l.length + 1) cap) (l.length + 1) (l.map encStr ++ [encStr x])) (hg : (w.alloc o).grownBy w1 v.ownBlock) :
    OwnS B w1 (.slice (some ⟨g, 0, none⟩) (l.length + 1) cap) (mid l l.length x) ∧ Kept (fun j => some j = v.ownBlock ∨ j = g) w w1 := by
  constructor
  · unfold OwnS
    rw [mid_end, List.length_append, List.map_append]
    exact ho
  · have a1 : Kept (fun j => some j = v.ownBlock ∨ j = g) w (w.alloc o) := (kept_of_below ((Below.refl _ _).alloc (Nat.le_refl _) _)).mono fun _ _ e => e.elim
    have a2 : Kept (fun j => some j = v.ownBlock ∨ j = g) (w.alloc o) w1 := (kept_of_grown hg).mono fun _ _ e => .inl e
    exact a1.trans a2

theorem ins_step {B g cap n j : Nat} {w wr : World} {v : Value} {l : List Str} {c : Str} (h : OwnS B wr (.slice (some ⟨g, 0, none⟩) n cap) (mid l j c) ∧ Kept (fun j => some j = v.ownBlock ∨ j = g) w wr) (hj : j ≤ l.length) (hn : l.length + 1 = n) (y : Str) :
    OwnS B (wr.setCell ⟨g, j, none⟩ (encStr y)) (.slice (some ⟨g, 0, none⟩) n cap) (mid l j y) ∧ Kept (fun j => some j = v.ownBlock ∨ j = g) w (wr.setCell ⟨g, j, none⟩ (encStr y)) := by
  constructor
  · have := h.1.stored (by rw [mid_length _ _ _ hj]; exact hn) j y
    rwa [mid_set _ _ _ _ hj] at this
  · exact h.2.trans ((kept_set wr g j (encStr y)).mono fun _ _ e => .inr e)

theorem ins_done {B g cap n k : Nat} {w wr : World} {v : Value} {l : List Str} {x : Str} (h : OwnS B wr (.slice (some ⟨g, 0, none⟩) n cap) (mid l k x) ∧ Kept (fun j => some j = v.ownBlock ∨ j = g) w wr) (hk : k ≤ l.length) (hs : Strict (mid l k x)) (hg : v.ownBlock = some g ∨ w.heap.size ≤ g) :
    Insd B w wr v (.slice (some ⟨g, 0, none⟩) n cap) l (mid l k x) x := by
  refine ⟨h.1, hs, mid_mem l k x, by rw [mid_length _ _ _ hk]; exact Nat.le_refl _, ?_, h.2.mono ?_⟩
  · rcases hg with e | e
    · exact .inl e.symm
    · exact .inr ⟨g, rfl, e⟩
  · intro j hj h1
    rcases h1 with h1 | h1
    · exact h1
    · rcases hg with e | e
      · rw [e, h1]
      · omega

/-- insertSorted's ending. -/
def RetI (B : Nat) (w : World) (v : Value) (l : List Str) (x : Str) (e : Ending) (w' : World) : Prop := ∃ v' l', e = .returned v' ∧ Insd B w w' v v' l l' x

set_option maxRecDepth 100000 in
set_option maxHeartbeats 4000000 in
theorem insert10 (B : Nat) (v : Value) (l : List Str) (x : Str) (w : World) (h : OwnS B w v l) (hs : Strict l) (hl : l.length ≤ 16777216) (hB : B ≤ w.heap.size) :
    Calls Try.prog 10 #[v, encStr x] w fun e w' => RetI B w v l x e w' := by
  obtain ⟨a, c, hv, h1⟩ := h.strs.at
  have HO : Hid (OwnS B w v l) := h
  have HS : Hid (Strict l) := hs
  have HC : Hid (∀ j (hj : j < l.length), ∃ b off, a = some ⟨b, off, none⟩ ∧ w.cell? ⟨b, off + j, none⟩ = some (encStr l[j])) := h1
  clear h hs h1
  subst hv
  obtain ⟨i0, hi, hz0, hz1, hz2⟩ := info_parts Try.info9
  go_enter Try.func10, Try.ntmps10
  go_wp2
  go_loop [5] (fun i => ∃ k : Nat, k ≤ l.length ∧ i = .int .i64 k ∧ Hid (∀ j (hj : j < l.length), j < k → l[j] < x)) (fun i => l.length - (intOf i).toNat)
  case atStart => exact ⟨0, Nat.zero_le _, rfl, fun j _ hj => by omega⟩
  case round =>
    obtain ⟨k, hk, rfl, HK⟩ := hrel
    by_cases hgo : ∃ h : k < l.length, l[k] < x
    · obtain ⟨hlt, hx⟩ := hgo
      obtain ⟨b, off, rfl, ck⟩ := HC.out k hlt
      have HK2 : Hid (∀ j (hj : j < l.length), j < k + 1 → l[j] < x) := fun j hj h1 => by
        rcases Nat.lt_or_ge j k with h2 | h2
        · exact HK.out j hj h2
        · have : j = k := by omega
          subst this; exact hx
      have hb : Op.bytesLess l[k] x = true := by rw [bytesLess_eq]; exact decide_eq_true hx
      clear HC hi hz0 hz1 hz2 hx
      generalize l[k] = y at *
      go_wp2
      go_round
      case rel => exact ⟨k + 1, by omega, by go_num, HK2⟩
      case measure => simp [intOf]; omega
    · by_cases hin : ∃ h : k < l.length, l[k] = x
      · obtain ⟨hlt, hx⟩ := hin
        obtain ⟨b, off, rfl, ck⟩ := HC.out k hlt
        have HD : Hid (Insd B w w (.slice (some ⟨b, off, none⟩) l.length c) (.slice (some ⟨b, off, none⟩) l.length c) l l x) :=
          ⟨HO.out, HS.out, fun s => ⟨fun h => .inl h, fun h => h.elim id fun e => by rw [e, ← hx]; exact List.getElem_mem hlt⟩, Nat.le_succ _, .inl rfl, Kept.refl _ _⟩
        rw [hx] at ck
        have hb : Op.bytesLess x x = false := by rw [bytesLess_eq]; exact decide_eq_false (lt_irr x)
        clear HC hi hz0 hz1 hz2 hx hgo
        go_wp2
        go_ret
        exact ⟨_, l, rfl, HD.out⟩
      · have HT : Hid (Strict (mid l k x)) := mid_strict HS.out hk HK.out (fun h => ⟨fun h1 => hgo ⟨h, h1⟩, fun h1 => hin ⟨h, h1⟩⟩)
        have hcut : (∃ b off y, k < l.length ∧ a = some ⟨b, off, none⟩ ∧ w.cell? ⟨b, off + k, none⟩ = some (encStr y) ∧ Op.bytesLess y x = false ∧ (y == x) = false) ∨ ¬ k < l.length := by
          by_cases hlt : k < l.length
          · obtain ⟨b, off, ha, ck⟩ := HC.out k hlt
            exact .inl ⟨b, off, _, hlt, ha, ck, by rw [bytesLess_eq]; exact decide_eq_false (fun h1 => hgo ⟨hlt, h1⟩), beq_false_of_ne fun h1 => hin ⟨hlt, h1⟩⟩
          · exact .inr hlt
        clear hgo hin HK HS HC
        have HC1 : Hid (∀ u ∈ [encStr x], u.oneCell' = true) := by intro u hu; rw [List.mem_singleton.1 hu]; rfl
        have HL3 : Hid (l.length + 1 ≤ maxLen) := by show _ ≤ maxLen; unfold maxLen; omega
        have HL4 : Hid ((l.length + 1) * 16 ≤ 140737488355328) := by show _ ≤ _; omega
        rcases hcut with ⟨b, off, y, hlt, rfl, ck, hb1, hb2⟩ | hlt
        all_goals
          go_wp2_with (at_builtin; refine wpList_append_lies _ rfl (.tmp 34) (.tmp 36) 29 rfl B 9 i0 (.string ⟨#[]⟩) 1 16 Try.underlying29 hi hz0 hz1 hz2 rfl (by decide) (.slice _ l.length c) l.length (l.map encStr) rfl (World.ownsRow.alloc HO.out _) ⟨w.heap.size, 0, none⟩ 1 1 [encStr x] rfl rfl ?c1 HC1.out (by decide) HL3.out HL4.out (Nat.le_trans hB (Nat.le_of_lt (size_alloc_lt w _))) _ rfl ?_)
          intro g cap w1 hown hgrow hgg hglt
          have hI := ins_start hown hgrow
          have HG : Hid ((Value.slice _ l.length c).ownBlock = some g ∨ w.heap.size ≤ g) := hgg.imp id fun e => by rw [e]; simp
          have HI : Hid (_ ∧ _) := hI
          clear hI hown hgrow hgg hi hz0 hz1 hz2 hglt hlt
          go_wp2
          go_loopw [6] (fun i wr => ∃ (j : Nat) (d : Str), k ≤ j ∧ j ≤ l.length ∧ i = .int .i64 j ∧ Hid (OwnS B wr (.slice (some ⟨g, 0, none⟩) (l.length + 1) cap) (mid l j d) ∧ Kept (fun j => some j = (Value.slice _ l.length c).ownBlock ∨ j = g) w wr)) (fun i _ => (intOf i).toNat)
          case atStart => exact ⟨l.length, x, hk, Nat.le_refl _, by go_num, HI⟩
          case round =>
            obtain ⟨j, d, hkj, hj, rfl, HJ⟩ := hrel
            by_cases hlt2 : k < j
            · cases j with
              | zero => omega
              | succ j =>
                have hm : (mid l (j + 1) d).length = l.length + 1 := mid_length _ _ _ hj
                have c1 := (HJ.out.1.cell hm j (by omega)).1
                rw [mid_get l j d (by omega)] at c1
                have c1' : wr.cell? ⟨g, j, none⟩ = some (encStr l[j]) := c1
                obtain ⟨c2, f2⟩ := HJ.out.1.cell hm (j + 1) (by omega)
                obtain ⟨z, hz⟩ : ∃ z, (mid l (j + 1) d)[j + 1]?.map encStr = some z := by
                  rw [List.getElem?_eq_getElem (by omega)]; exact ⟨_, rfl⟩
                rw [hz] at c2
                have HJ2 := ins_step HJ.out hj rfl l[j]
                rw [mid_down l j (by omega)] at HJ2
                have HJ3 : Hid (OwnS B (wr.setCell ⟨g, j + 1, none⟩ (encStr l[j])) (.slice (some ⟨g, 0, none⟩) (l.length + 1) cap) (mid l j l[j]) ∧ Kept _ w (wr.setCell ⟨g, j + 1, none⟩ (encStr l[j]))) := HJ2
                clear HJ2 c1 hz hm
                have gw : IntKind.i64.wrap (j : Int) = (j : Int) := by rw [IntKind.wrap_i64]; omega
                have g2 : (0 : Int) ≤ (j : Int) := by omega
                have g3 : (j : Int) < ((l.length + 1 : Nat) : Int) := by omega
                generalize l[j] = yy at *
                go_wp2
                go_roundw
                case rel => exact ⟨j, yy, by omega, by omega, by go_num, HJ3⟩
                case measure => simp [intOf]; try omega
            · obtain rfl : k = j := by omega
              have hm : (mid l k d).length = l.length + 1 := mid_length _ _ _ hj
              obtain ⟨c2, f2⟩ := HJ.out.1.cell hm k (by omega)
              obtain ⟨z, hz⟩ : ∃ z, (mid l k d)[k]?.map encStr = some z := by
                rw [List.getElem?_eq_getElem (by omega)]; exact ⟨_, rfl⟩
              rw [hz] at c2
              have HF : Hid (Insd B w (wr.setCell ⟨g, k, none⟩ (encStr x)) _ (.slice (some ⟨g, 0, none⟩) (l.length + 1) cap) l (mid l k x) x) := ins_done (ins_step HJ.out hj rfl x) hk HT.out HG.out
              clear hz hm HJ
              go_wp2
              go_ret
              exact ⟨_, _, rfl, HF.out⟩

end Go.Proofs.Qxb6605201a.Rul
