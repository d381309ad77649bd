import Derived.Test.Qxb6605178aArgs
namespace Go.Proofs.Qxb6605178a.All
open Go.RowKit

/-- The addresses of the first n ArgDecls of block g. -/
def ptrs (g n : Nat) : List Value := (List.range n).map fun j => Value.pointer (some ⟨g, j * 7, none⟩)
theorem ptrs_length (g n : Nat) : (ptrs g n).length = n := by simp [ptrs]
theorem ptrs_succ (g n : Nat) : ptrs g (n + 1) = ptrs g n ++ [.pointer (some ⟨g, n * 7, none⟩)] := by simp [ptrs, List.range_succ]
theorem ptrs_at (g n k : Nat) (h : k < n) : (ptrs g n)[k]? = some (.pointer (some ⟨g, k * 7, none⟩)) := by simp [ptrs, h]

/-- What has been gathered when the first r lists are through. -/
def pre (G N : Nat → Nat) : Nat → List Value
  | 0 => []
  | r + 1 => pre G N r ++ ptrs (G r) (N r)

theorem pre_length (G N : Nat → Nat) (r : Nat) (h : ∀ i, i < r → N i ≤ 4096) : (pre G N r).length ≤ r * 4096 := by
  induction r with
  | zero => simp [pre]
  | succ r ih =>
    have h1 := ih (fun i hi => h i (by omega))
    have h2 := h r (by omega)
    simp only [pre, List.length_append, ptrs_length]
    omega

theorem Try.info49 : (Try.prog.info? 49).map (fun i => (i.zero, i.size, i.bytes)) = some (some (.pointer none), 1, 8) := by kernel_rfl

/-- It returned a slice that owns the cells xs. -/
def Gives (B : Nat) (w' : World) (e : Ending) (xs : List Value) : Prop := ∃ v, e = .returned v ∧ w'.ownsRow B 49 1 v xs.length xs
theorem gives {B : Nat} {w' : World} {v : Value} {xs : List Value} (h : w'.ownsRow B 49 1 v xs.length xs) : Gives B w' (.returned v) xs := ⟨v, rfl, h⟩

def Row (B : Nat) (wr : World) (v : Value) (xs : List Value) : Prop := wr.ownsRow B 49 1 v xs.length xs

set_option maxHeartbeats 800000 in
theorem all13 (gd : Nat) (A : Nat → Option Addr) (N C G : Nat → Nat) (w : World) (_hgd : gd < w.heap.size) (c4 : w.cell? ⟨gd, 4, none⟩ = some (.slice (A 0) (N 0) (C 0))) (c5 : w.cell? ⟨gd, 5, none⟩ = some (.slice (A 1) (N 1) (C 1))) (c6 : w.cell? ⟨gd, 6, none⟩ = some (.slice (A 2) (N 2) (C 2)))
    (hN : ∀ r, r < 3 → N r ≤ 4096) (hA : ∀ r, r < 3 → N r = 0 ∨ A r = some ⟨G r, 0, none⟩) :
    Calls Try.prog 13 #[.pointer (some ⟨gd, 0, none⟩)] w fun e w' => Gives w.heap.size w' e (pre G N 3) ∧ Below w.heap.size w w' := by
  have HN : Hid (∀ r, r < 3 → N r ≤ 4096) := hN
  have HA : Hid (∀ r, r < 3 → N r = 0 ∨ A r = some ⟨G r, 0, none⟩) := hA
  clear hN hA
  obtain ⟨i0, hi, hz0, hz1, hz2⟩ := info_parts Try.info49
  go_enter Try.func13, Try.ntmps13
  go_wp2
  go_region_held3 (fun w' => w'.cell? ⟨gd, 4, none⟩ = some (.slice (A 0) (N 0) (C 0)) ∧ w'.cell? ⟨gd, 5, none⟩ = some (.slice (A 1) (N 1) (C 1)) ∧ w'.cell? ⟨gd, 6, none⟩ = some (.slice (A 2) (N 2) (C 2))) (go_keep) (fail)
  have hl : ∀ r, r < 3 → ((w.alloc (.cells #[.slice (A 0) (N 0) (C 0), .slice (A 1) (N 1) (C 1), .slice (A 2) (N 2) (C 2)] 43)).drew).cell? ⟨w.heap.size, r, none⟩ = some (.slice (A r) (N r) (C r)) := by
    intro r hr
    rw [World.cell?_drew, World.cell?_alloc_at _ _ _ _ rfl]
    rcases (show r = 0 ∨ r = 1 ∨ r = 2 by omega) with rfl | rfl | rfl <;> rfl
  have hbel : Below w.heap.size w ((w.alloc (.cells #[.slice (A 0) (N 0) (C 0), .slice (A 1) (N 1) (C 1), .slice (A 2) (N 2) (C 2)] 43)).drew) := ((Below.refl _ _).alloc (Nat.le_refl _) _).drew
  have hsz : w.heap.size + 1 ≤ ((w.alloc (.cells #[.slice (A 0) (N 0) (C 0), .slice (A 1) (N 1) (C 1), .slice (A 2) (N 2) (C 2)] 43)).drew).heap.size := by simp
  go_wp2
  generalize (w.alloc (.cells #[.slice (A 0) (N 0) (C 0), .slice (A 1) (N 1) (C 1), .slice (A 2) (N 2) (C 2)] 43)).drew = w1 at *
  have HL : Hid (∀ r, r < 3 → w1.cell? ⟨w.heap.size, r, none⟩ = some (.slice (A r) (N r) (C r))) := hl
  have HBl : Hid (Below w.heap.size w w1) := hbel
  clear hl hbel c4 c5 c6
  generalize hB : w.heap.size = B at *
  have HB : Hid (w.heap.size = B) := hB
  clear hB
  go_loopw [3, 21] (fun v i wr => ∃ r : Nat, r ≤ 3 ∧ i = .int .i64 r ∧ Row (B + 1) wr v (pre G N r) ∧ Hid (Below (B + 1) w1 wr)) (fun _ i _ => 3 - (intOf i).toNat)
  case atStart => exact ⟨0, by omega, rfl, World.ownsRow_nil _ _ _ _, Below.refl _ _⟩
  case round =>
    obtain ⟨r, hr, rfl, hrow, HBr⟩ := hrel
    obtain ⟨wo, rfl⟩ : ∃ wo : World, wo = wr := ⟨_, rfl⟩
    by_cases hlt : r < 3
    · have hc : wo.cell? ⟨B, r, none⟩ = some (.slice (A r) (N r) (C r)) := (HBr.out.cell (p := ⟨B, r, none⟩) (Nat.lt_succ_self B)).trans (HL.out r hlt)
      have hn := HN.out r hlt
      have HAr : Hid (N r = 0 ∨ A r = some ⟨G r, 0, none⟩) := HA.out r hlt
      have hpl := pre_length G N r (fun i hi => HN.out i (by omega))
      have HP : Hid (pre G N (r + 1) = pre G N r ++ ptrs (G r) (N r)) := rfl
      have HRow : Hid (Row (B + 1) wo u3 (pre G N r)) := hrow
      clear HA HN HL hrow
      generalize A r = a at *
      generalize N r = n at *
      generalize C r = c at *
      generalize G r = g at *
      generalize pre G N r = xs at *
      have i1 : (0 : Int) ≤ (r : Int) := by omega
      have i2 : (r : Int) < 3 := by omega
      go_wp2
      go_loopw [3, 27] (fun v i wx => ∃ j : Nat, j ≤ n ∧ i = .int .i64 j ∧ Hid (Row (B + 1) wx v (xs ++ ptrs g j)) ∧ Hid (Below (B + 1) w1 wx)) (fun _ i _ => n - (intOf i).toNat)
      case atStart => exact ⟨0, Nat.zero_le _, rfl, by simpa [ptrs] using HRow, HBr⟩
      case round =>
        obtain ⟨j, hj, rfl, HRj, HBj⟩ := hrel
        by_cases hjn : j < n
        · have ha : a = some ⟨g, 0, none⟩ := by rcases HAr.out with h | h; omega; exact h
          subst ha
          have hxl : (xs ++ ptrs g j).length ≤ 16384 := by rw [List.length_append, ptrs_length]; omega
          have HS : Hid (ptrs g (j + 1) = ptrs g j ++ [.pointer (some ⟨g, j * 7, none⟩)]) := ptrs_succ g j
          have hsx : B + 1 ≤ wr.heap.size := Nat.le_trans hsz HBj.out.size
          clear HAr HRow HBr
          generalize hys : xs ++ ptrs g j = ys at *
          have HY : Hid (xs ++ ptrs g j = ys) := hys
          clear hys
          go_wp2_with (at_builtin; refine wpList_append_own _ rfl (.tmp 30) (.tmp 34) 47 rfl (B + 1) 49 i0 (.pointer none) 1 8 Try.underlying47 hi hz0 hz1 hz2 rfl (by decide) _ _ _ rfl (HRj.out.alloc _) ⟨wr.heap.size, 0, none⟩ 1 1 [.pointer (some ⟨g, j * 7, none⟩)] rfl rfl ?c1 ?c2 ?c3 ?c4 ?c5 ?_)
          case c1 => exact cell_one_new _ _ _
          case c2 => intro u hu; simp at hu; subst hu; rfl
          case c3 => unfold maxLen; omega
          case c4 => omega
          case c5 => simp; omega
          intro v' w2 hrow2 hgrow2 _
          have HR2 : Hid (Row (B + 1) w2 v' (xs ++ ptrs g (j + 1))) := by
            show Row _ _ _ _
            rw [HS.out, ← List.append_assoc, HY.out]
            unfold Row
            rw [List.length_append]
            exact hrow2
          have HB2 : Hid (Below (B + 1) w1 w2) := (HBj.out.alloc hsx _).grown hgrow2 (by simp; omega) (fun k hk => (HRj.out.lt k hk).1)
          clear hrow2 hgrow2
          go_wp2
          go_roundw
          case rel => exact ⟨j + 1, by omega, by go_num, HR2, HB2⟩
          case measure => simp [intOf]; omega
        · obtain rfl : j = n := by omega
          have HR2 : Hid (Row (B + 1) wr u3 (pre G N (r + 1))) := by show Row _ _ _ _; rw [HP.out]; exact HRj
          clear HRj HAr HRow HBr
          go_wp2
          go_roundw
          case rel => exact ⟨r + 1, by omega, by go_num, HR2, HBj⟩
          case measure => simp [intOf]; omega
    · obtain rfl : r = 3 := by omega
      have HRow : Hid (Row (B + 1) wo u3 (pre G N 3)) := hrow
      clear hrow HA HN HL
      go_wp2
      go_ret
      rw [HB.out]
      refine ⟨gives ?_, HBl.out.trans (HBr.out.mono (Nat.le_succ B))⟩
      obtain ⟨h1, h2⟩ := HRow.out
      refine ⟨h1, ?_⟩
      rcases h2 with h2 | ⟨g, cap, cur, hv, hb, r⟩
      · exact .inl h2
      · exact .inr ⟨g, cap, cur, hv, by omega, r⟩
end Go.Proofs.Qxb6605178a.All
