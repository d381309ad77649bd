import Derived.Test.Qxb6605178aAll13
import Derived.Test.Qxb6605178aIs
import Derived.Lib.Builder
namespace Go.Proofs.Qxb6605178a.All
open Go.RowKit

set_option maxHeartbeats 400000 in
theorem zzAll10 (gd : Nat) (A : Nat → Option Addr) (N C G : Nat → Nat) (w : World) (hgd : gd < w.heap.size) (c4 : w.cell? ⟨gd, 4, none⟩ = some (.slice (A 0) (N 0) (C 0))) (c5 : w.cell? ⟨gd, 5, none⟩ = some (.slice (A 1) (N 1) (C 1))) (c6 : w.cell? ⟨gd, 6, none⟩ = some (.slice (A 2) (N 2) (C 2)))
    (hN : ∀ r, r < 3 → N r ≤ 4096) (hA : ∀ r, r < 3 → N r = 0 ∨ A r = some ⟨G r, 0, none⟩) :
    Calls Try.prog 10 #[.pointer (some ⟨gd, 0, none⟩)] w fun e w' => Gives w.heap.size w' e (pre G N 3) ∧ Below w.heap.size w w' := by
  have H : Hid (Calls Try.prog 13 #[.pointer (some ⟨gd, 0, none⟩)] w fun e w' => Gives w.heap.size w' e (pre G N 3) ∧ Below w.heap.size w w') := all13 gd A N C G w hgd c4 c5 c6 hN hA
  clear hN hA c4 c5 c6 hgd
  go_enter Try.func10, Try.ntmps10
  go_wp2_with fail
  refine H.out.mono ?_
  rintro e w' ⟨⟨v, rfl, hv⟩, hb⟩
  have HV : Hid (w'.ownsRow w.heap.size 49 1 v (pre G N 3).length (pre G N 3)) := hv
  have HB : Hid (Below w.heap.size w w') := hb
  clear hv hb
  go_wp2_with fail
  go_ret
  exact ⟨gives HV.out, HB⟩

def three {α : Type} (x y z : α) : Nat → α
  | 0 => x
  | 1 => y
  | _ => z

theorem zzAll_three (gd : Nat) (A0 A1 A2 : Option Addr) (n0 n1 n2 c0 c1 c2 g0 g1 g2 : Nat) (w : World) (hgd : gd < w.heap.size) (c4 : w.cell? ⟨gd, 4, none⟩ = some (.slice A0 n0 c0)) (c5 : w.cell? ⟨gd, 5, none⟩ = some (.slice A1 n1 c1)) (c6 : w.cell? ⟨gd, 6, none⟩ = some (.slice A2 n2 c2))
    (h0 : n0 ≤ 4096) (h1 : n1 ≤ 4096) (h2 : n2 ≤ 4096) (a0 : n0 = 0 ∨ A0 = some ⟨g0, 0, none⟩) (a1 : n1 = 0 ∨ A1 = some ⟨g1, 0, none⟩) (a2 : n2 = 0 ∨ A2 = some ⟨g2, 0, none⟩) :
    Calls Try.prog 10 #[.pointer (some ⟨gd, 0, none⟩)] w fun e w' => Gives w.heap.size w' e (ptrs g0 n0 ++ ptrs g1 n1 ++ ptrs g2 n2) ∧ Below w.heap.size w w' := by
  have h := zzAll10 gd (three A0 A1 A2) (three n0 n1 n2) (three c0 c1 c2) (three g0 g1 g2) w hgd c4 c5 c6
    (fun r hr => by rcases (show r = 0 ∨ r = 1 ∨ r = 2 by omega) with rfl | rfl | rfl; exact h0; exact h1; exact h2)
    (fun r hr => by rcases (show r = 0 ∨ r = 1 ∨ r = 2 by omega) with rfl | rfl | rfl; exact a0; exact a1; exact a2)
  exact h

/-- The slice that came back: its length, and each address in it. -/
theorem gives_shape {B : Nat} {w : World} {v : Value} {xs : List Value} (h : w.ownsRow B 49 1 v xs.length xs) : ∃ a c, v = .slice a xs.length c ∧ ∀ k, k < xs.length → ∃ g, a = some ⟨g, 0, none⟩ ∧ g < w.heap.size ∧ w.cell? ⟨g, k, none⟩ = xs[k]? := by
  rcases id h with ⟨_, ⟨hv, hn⟩ | ⟨g, cap, cur, hv, hb, hh, hr⟩⟩
  · refine ⟨none, 0, by rw [hv, hn], fun k hk => by omega⟩
  · refine ⟨_, cap, hv, fun k hk => ⟨g, rfl, (h.lt g (by rw [hv]; rfl)).2, ?_⟩⟩
    subst hv
    exact h.cellAt k (by omega)

theorem undraw {w w' : World} (h : Below w.drew.heap.size w.drew w') : Below w.heap.size w w' := ⟨h.os, h.tape, h.output, h.size, h.block⟩

/-- declIs, with what the region reads beside the call read anew behind it. -/
theorem declIs_kept (g o gg k gs : Nat) (nm ds df fl : ByteArray) (ln : Int) (w : World) (hg : g < w.heap.size) (hgg : gg < w.heap.size) (hgs : gs < w.heap.size) (c0 : w.cell? ⟨g, o, none⟩ = some (.string fl)) (c1 : w.cell? ⟨g, o + 1, none⟩ = some (.int .i64 ln)) (c2 : w.cell? ⟨g, o + 2, none⟩ = some (.map none))
    (c4 : w.cell? ⟨g, o + 4, none⟩ = some (.string nm)) (c5 : w.cell? ⟨g, o + 5, none⟩ = some (.string ds)) (c6 : w.cell? ⟨g, o + 6, none⟩ = some (.string df)) (p : w.cell? ⟨gg, k, none⟩ = some (.pointer (some ⟨g, o, none⟩)))
    (s0 : w.cell? ⟨gs, 0, none⟩ = some (.string nm)) (s1 : w.cell? ⟨gs, 1, none⟩ = some (.string ds)) (s2 : w.cell? ⟨gs, 2, none⟩ = some (.string df)) (s3 : w.cell? ⟨gs, 3, none⟩ = some (.string fl)) (s4 : w.cell? ⟨gs, 4, none⟩ = some (.int .i64 ln)) :
    Calls Try.prog 11 #[.pointer (some ⟨g, o, none⟩), .agg #[.string nm, .string ds, .string df, .string fl, .int .i64 ln]] w fun e w' => e = .returned (.bool true) ∧ Below w.heap.size w w' ∧ w'.cell? ⟨gg, k, none⟩ = some (.pointer (some ⟨g, o, none⟩)) ∧
      w'.cell? ⟨gs, 0, none⟩ = some (.string nm) ∧ w'.cell? ⟨gs, 1, none⟩ = some (.string ds) ∧ w'.cell? ⟨gs, 2, none⟩ = some (.string df) ∧ w'.cell? ⟨gs, 3, none⟩ = some (.string fl) ∧ w'.cell? ⟨gs, 4, none⟩ = some (.int .i64 ln) := by
  refine (declIs11 g o nm ds df fl ln w hg c0 c1 c2 c4 c5 c6).mono ?_
  rintro e w' ⟨rfl, hb⟩
  exact ⟨rfl, hb, (hb.cell (p := ⟨gg, k, none⟩) hgg).trans p, (hb.cell (p := ⟨gs, 0, none⟩) hgs).trans s0, (hb.cell (p := ⟨gs, 1, none⟩) hgs).trans s1, (hb.cell (p := ⟨gs, 2, none⟩) hgs).trans s2, (hb.cell (p := ⟨gs, 3, none⟩) hgs).trans s3, (hb.cell (p := ⟨gs, 4, none⟩) hgs).trans s4⟩

theorem args_addr {w : World} {A : Option Addr} {D : List Decl} {k g : Nat} (h : IsArgs w (.slice A D.length k) D g) : D.length = 0 ∨ A = some ⟨g, 0, none⟩ := by
  obtain ⟨a, c, hv, _, h | ⟨h, _⟩⟩ := h
  · left; rw [h]; rfl
  · cases hv
    exact .inr h
theorem args_at {w : World} {A : Option Addr} {D : List Decl} {k g : Nat} (h : IsArgs w (.slice A D.length k) D g) (hp : 0 < D.length) : A = some ⟨g, 0, none⟩ ∧ g < w.heap.size ∧ ArgAt w g D := by
  obtain ⟨a, c, hv, _, h | ⟨h, h2⟩⟩ := h
  · rw [h] at hp; simp at hp
  · cases hv
    exact ⟨h, h2⟩

theorem below_to {w w1 w2 : World} {B : Nat} (h : Below B w w1) (h2 : Below w1.heap.size w1 w2) (hB : B ≤ w1.heap.size) : Below B w w2 := h.trans (h2.mono hB)

theorem cat_len (g0 g1 g2 n0 n1 n2 : Nat) : (ptrs g0 n0 ++ ptrs g1 n1 ++ ptrs g2 n2).length = n0 + n1 + n2 := by simp [ptrs_length, Nat.add_assoc]
theorem cat_at0 (g0 g1 g2 n0 n1 n2 k : Nat) (h : k < n0) : (ptrs g0 n0 ++ ptrs g1 n1 ++ ptrs g2 n2)[k]? = some (.pointer (some ⟨g0, k * 7, none⟩)) := by
  rw [List.append_assoc, List.getElem?_append_left (by rw [ptrs_length]; exact h), ptrs_at _ _ _ h]
theorem cat_at1 (g0 g1 g2 n0 n1 n2 k : Nat) (h : n0 ≤ k) (h' : k < n0 + n1) : (ptrs g0 n0 ++ ptrs g1 n1 ++ ptrs g2 n2)[k]? = some (.pointer (some ⟨g1, (k - n0) * 7, none⟩)) := by
  rw [List.getElem?_append_left (by rw [List.length_append, ptrs_length, ptrs_length]; exact h'), List.getElem?_append_right (by rw [ptrs_length]; exact h), ptrs_length, ptrs_at _ _ _ (by omega)]
theorem cat_at2 (g0 g1 g2 n0 n1 n2 k : Nat) (h : n0 + n1 ≤ k) (h' : k < n0 + n1 + n2) : (ptrs g0 n0 ++ ptrs g1 n1 ++ ptrs g2 n2)[k]? = some (.pointer (some ⟨g2, (k - n0 - n1) * 7, none⟩)) := by
  rw [List.getElem?_append_right (by rw [List.length_append, ptrs_length, ptrs_length]; exact h), List.length_append, ptrs_length, ptrs_length, Nat.sub_add_eq, ptrs_at _ _ _ (by omega)]

set_option maxRecDepth 100000 in
set_option maxHeartbeats 1600000 in
theorem law_walk (a1 a2 a3 : Option Addr) (c1 c2 c3 : Nat) (D1 D2 D3 : List Decl) (file : ByteArray) (line : Int) (w : World) (h1 : IsDecls w a1 D1) (h2 : IsDecls w a2 D2) (h3 : IsDecls w a3 D3)
    (m1 : D1.length ≤ 9223372036854775807) (m2 : D2.length ≤ 9223372036854775807) (m3 : D3.length ≤ 9223372036854775807) (mf : file.size ≤ 9223372036854775807) (l1 : a1 = none → D1 = []) (l2 : a2 = none → D2 = []) (l3 : a3 = none → D3 = []) :
    Calls Try.prog 4 #[.slice a1 D1.length c1, .slice a2 D2.length c2, .slice a3 D3.length c3, .string file, .int .i64 line] w fun e w' => e = .returned (.bool true) ∧ Below w.heap.size w w' := by
  have H1 : Hid (IsDecls w a1 D1) := h1
  have H2 : Hid (IsDecls w a2 D2) := h2
  have H3 : Hid (IsDecls w a3 D3) := h3
  have L1 : Hid (a1 = none → D1 = []) := l1
  have L2 : Hid (a2 = none → D2 = []) := l2
  have L3 : Hid (a3 = none → D3 = []) := l3
  clear h1 h2 h3 l1 l2 l3
  go_enter Try.func4, Try.ntmps4
  go_wp2_with fail
  refine (zzBytes7 a1 a2 a3 c1 c2 c3 D1 D2 D3 file line w H1.out H2.out H3.out m1 m2 m3 mf).mono ?_
  rintro e w' ⟨⟨r, rfl, _⟩, rfl⟩
  cases r
  · go_wp2
    go_ret
    exact ⟨rfl, Below.refl _ _⟩
  by_cases q1 : 4096 < D1.length
  · have d1 : decide ((4096 : Int) < (D1.length : Int)) = true := by simp; omega
    go_wp2_with fail
    go_ret
    exact ⟨rfl, Below.refl _ _⟩
  have d1 : decide ((4096 : Int) < (D1.length : Int)) = false := by simp; omega
  by_cases q2 : 4096 < D2.length
  · have d2 : decide ((4096 : Int) < (D2.length : Int)) = true := by simp; omega
    go_wp2_with fail
    go_ret
    exact ⟨rfl, Below.refl _ _⟩
  have d2 : decide ((4096 : Int) < (D2.length : Int)) = false := by simp; omega
  by_cases q3 : 4096 < D3.length
  · have d3 : decide ((4096 : Int) < (D3.length : Int)) = true := by simp; omega
    go_wp2_with fail
    go_ret
    exact ⟨rfl, Below.refl _ _⟩
  have d3 : decide ((4096 : Int) < (D3.length : Int)) = false := by simp; omega
  by_cases q4 : 1048576 < file.size
  · have d4 : decide ((1048576 : Int) < (file.size : Int)) = true := by simp; omega
    go_wp2_with fail
    go_ret
    exact ⟨rfl, Below.refl _ _⟩
  have d4 : decide ((1048576 : Int) < (file.size : Int)) = false := by simp; omega
  clear m1 m2 m3 mf
  go_wp2_with fail
  refine (declsBytes8 a1 c1 D1 w H1.out (by omega)).mono ?_
  rintro e w1 ⟨⟨z1, rfl⟩, hb1⟩
  go_wp2_with fail
  refine (declsBytes8 a2 c2 D2 w1 (H2.out.below hb1) (by omega)).mono ?_
  rintro e w2 ⟨⟨z2, rfl⟩, hb2⟩
  have hb02 := below_to hb1 hb2 hb1.size
  go_wp2_with fail
  refine (declsBytes8 a3 c3 D3 w2 (H3.out.below hb02) (by omega)).mono ?_
  rintro e w3 ⟨⟨z3, rfl⟩, hb3⟩
  have HB3 : Hid (Below w.heap.size w w3) := below_to hb02 hb3 hb02.size
  clear hb1 hb2 hb3 hb02
  go_wp2_with fail
  · go_ret
    exact ⟨rfl, HB3⟩
  refine (toArg_any a1 c1 D1 w3 (H1.out.below HB3.out) (by omega) L1.out).mono ?_
  rintro e w4 ⟨⟨v1, rfl, A1, k1, rfl, hk1, x1⟩, hb4⟩
  have HB4 : Hid (Below w.heap.size w w4) := below_to HB3.out hb4 HB3.out.size
  have X1 : Hid (IsArgs w4 (.slice A1 D1.length k1) D1 w3.heap.size) := ⟨A1, k1, rfl, hk1, x1⟩
  clear hb4 x1
  go_wp2_with fail
  refine (toArg_any a2 c2 D2 w4 (H2.out.below HB4.out) (by omega) L2.out).mono ?_
  rintro e w5 ⟨⟨v2, rfl, A2, k2, rfl, hk2, x2⟩, hb5⟩
  have HB5 : Hid (Below w.heap.size w w5) := below_to HB4.out hb5 HB4.out.size
  have X2 : Hid (IsArgs w5 (.slice A2 D2.length k2) D2 w4.heap.size) := ⟨A2, k2, rfl, hk2, x2⟩
  have Y1 : Hid (IsArgs w5 (.slice A1 D1.length k1) D1 w3.heap.size) := X1.out.below hb5
  clear hb5 x2 X1
  go_wp2_with fail
  refine (toArg_any a3 c3 D3 w5 (H3.out.below HB5.out) (by omega) L3.out).mono ?_
  rintro e w6 ⟨⟨v3, rfl, A3, k3, rfl, hk3, x3⟩, hb6⟩
  have HB6 : Hid (Below w.heap.size w w6) := below_to HB5.out hb6 HB5.out.size
  have X3 : Hid (IsArgs w6 (.slice A3 D3.length k3) D3 w5.heap.size) := ⟨A3, k3, rfl, hk3, x3⟩
  have Z1 : Hid (IsArgs w6 (.slice A1 D1.length k1) D1 w3.heap.size) := Y1.out.below hb6
  have Z2 : Hid (IsArgs w6 (.slice A2 D2.length k2) D2 w4.heap.size) := X2.out.below hb6
  clear hb6 x3 X2 Y1 L1 L2 L3 HB3 HB4 HB5
  generalize w3.heap.size = g1 at *
  generalize w4.heap.size = g2 at *
  generalize w5.heap.size = g3 at *
  go_wp2_with fail
  have ha1 : D1.length = 0 ∨ A1 = some ⟨g1, 0, none⟩ := args_addr Z1.out
  have ha2 : D2.length = 0 ∨ A2 = some ⟨g2, 0, none⟩ := args_addr Z2.out
  have ha3 : D3.length = 0 ∨ A3 = some ⟨g3, 0, none⟩ := args_addr X3.out
  generalize ho : Obj.cells #[.string file, .int .i64 line, .map none, .slice none 0 0, .slice A1 D1.length k1, .slice A2 D2.length k2, .slice A3 D3.length k3] 46 = o
  have p4 : (w6.alloc o).cell? ⟨w6.heap.size, 4, none⟩ = some (.slice A1 D1.length k1) := by rw [← ho, World.cell?_alloc_at _ _ _ _ rfl]; rfl
  have p5 : (w6.alloc o).cell? ⟨w6.heap.size, 5, none⟩ = some (.slice A2 D2.length k2) := by rw [← ho, World.cell?_alloc_at _ _ _ _ rfl]; rfl
  have p6 : (w6.alloc o).cell? ⟨w6.heap.size, 6, none⟩ = some (.slice A3 D3.length k3) := by rw [← ho, World.cell?_alloc_at _ _ _ _ rfl]; rfl
  have hbo : Below w6.heap.size w6 (w6.alloc o) := (Below.refl _ _).alloc (Nat.le_refl _) _
  have hlo : w6.heap.size < (w6.alloc o).heap.size := by simp
  clear ho
  generalize w6.alloc o = w6' at *
  refine (zzAll_three w6.heap.size A1 A2 A3 D1.length D2.length D3.length k1 k2 k3 g1 g2 g3 w6' hlo p4 p5 p6 (by omega) (by omega) (by omega) ha1 ha2 ha3).mono ?_
  rintro e w7 ⟨⟨v, rfl, hrow⟩, hb7⟩
  obtain ⟨ag, cg, rfl, hat⟩ := gives_shape hrow
  have hb67 : Below w6.heap.size w6 w7 := below_to hbo hb7 hbo.size
  have HB7 : Hid (Below w.heap.size w w7) := below_to HB6.out hb67 HB6.out.size
  have E1 : Hid (IsDecls w7 a1 D1) := H1.out.below HB7.out
  have E2 : Hid (IsDecls w7 a2 D2) := H2.out.below HB7.out
  have E3 : Hid (IsDecls w7 a3 D3) := H3.out.below HB7.out
  have Y1 : Hid (IsArgs w7 (.slice A1 D1.length k1) D1 g1) := Z1.out.below hb67
  have Y2 : Hid (IsArgs w7 (.slice A2 D2.length k2) D2 g2) := Z2.out.below hb67
  have Y3 : Hid (IsArgs w7 (.slice A3 D3.length k3) D3 g3) := X3.out.below hb67
  have P4 : Hid (w7.cell? ⟨w6.heap.size, 4, none⟩ = some (.slice A1 D1.length k1)) := (hb7.cell (p := ⟨w6.heap.size, 4, none⟩) hlo).trans p4
  have P5 : Hid (w7.cell? ⟨w6.heap.size, 5, none⟩ = some (.slice A2 D2.length k2)) := (hb7.cell (p := ⟨w6.heap.size, 5, none⟩) hlo).trans p5
  have P6 : Hid (w7.cell? ⟨w6.heap.size, 6, none⟩ = some (.slice A3 D3.length k3)) := (hb7.cell (p := ⟨w6.heap.size, 6, none⟩) hlo).trans p6
  have hgd : w6.heap.size < w7.heap.size := Nat.lt_of_lt_of_le hlo hb7.size
  have HAT : Hid (∀ k, k < (ptrs g1 D1.length ++ ptrs g2 D2.length ++ ptrs g3 D3.length).length → ∃ g, ag = some ⟨g, 0, none⟩ ∧ g < w7.heap.size ∧ w7.cell? ⟨g, k, none⟩ = (ptrs g1 D1.length ++ ptrs g2 D2.length ++ ptrs g3 D3.length)[k]?) := hat
  clear hrow hat hb67 hb7 hbo p4 p5 p6 hlo ha1 ha2 ha3 H1 H2 H3 Z1 Z2 X3 HB6 hk1 hk2 hk3
  generalize w6.heap.size = gd at *
  rw [cat_len] at *
  have hne : (((D1.length + D2.length + D3.length : Nat) : Int) != (D1.length : Int) + (D2.length : Int) + (D3.length : Int)) = false := by simp
  obtain ⟨j53, hj53, _, _, _⟩ := info_parts Try.info53
  have hpn := fun wx (a : Addr) => Lib.run_neq_ptr_same (P := Try.prog) wx a Try.underlying49 hj53
  go_wp2
  go_loopw [16] (fun kv wr => ∃ k : Nat, k ≤ D1.length + D2.length + D3.length ∧ kv = .int .i64 k ∧ Hid (Below w7.heap.size w7 wr)) (fun kv _ => D1.length + D2.length + D3.length - (intOf kv).toNat)
  case atStart => exact ⟨0, Nat.zero_le _, rfl, Below.refl _ _⟩
  case round =>
    obtain ⟨k, hk, rfl, HBk⟩ := hrel
    by_cases hlt : k < D1.length + D2.length + D3.length
    · by_cases hk1 : k < D1.length
      · have hj : k < D1.length := by omega
        obtain ⟨hA, hg, hArg⟩ := args_at Y1.out (by omega)
        obtain ⟨gg, hag, hgg, hcell⟩ := HAT.out k hlt
        rw [cat_at0 g1 g2 g3 D1.length D2.length D3.length k (by omega)] at hcell
        obtain ⟨b, off, ha, hb, hdec⟩ := E1.out.at hj
        subst hA hag ha
        have cg := (HBk.out.cell (p := ⟨gg, k, none⟩) hgg).trans hcell
        have cd := (HBk.out.cell (p := ⟨gd, 4, none⟩) hgd).trans P4.out
        obtain ⟨s0, s1, s2, s3, s4⟩ := hdec.below HBk.out hb _ _ (List.getElem?_eq_getElem hj)
        obtain ⟨t0, t1, t2, _, t4, t5, t6⟩ := hArg.below HBk.out hg _ _ (List.getElem?_eq_getElem hj)
        have hsz7 : w7.heap.size ≤ wr.heap.size := HBk.out.size
        have u1 : gd < wr.heap.size := by omega
        have u2 : gg < wr.heap.size := by omega
        have u3 : b < wr.heap.size := by omega
        have u4 : g1 < wr.heap.size := by omega
        clear hcell hdec hArg HAT E1 E2 E3 Y1 Y2 Y3 P4 P5 P6
        generalize (D1[k]).name = nm at *
        generalize (D1[k]).desc = ds at *
        generalize (D1[k]).dflt = df at *
        generalize (D1[k]).file = fl at *
        generalize (D1[k]).line = ln at *
        go_wp2
        have HO : Hid (Below w7.heap.size w7 (wr.alloc (.cells #[.string nm, .string ds, .string df, .string fl, .int .i64 ln] 51))) := HBk.out.alloc hsz7 _
        have y0 : (wr.alloc (.cells #[.string nm, .string ds, .string df, .string fl, .int .i64 ln] 51)).cell? ⟨wr.heap.size, 0, none⟩ = some (.string nm) := by rw [World.cell?_alloc_at _ _ _ _ rfl]; rfl
        have y1 : (wr.alloc (.cells #[.string nm, .string ds, .string df, .string fl, .int .i64 ln] 51)).cell? ⟨wr.heap.size, 1, none⟩ = some (.string ds) := by rw [World.cell?_alloc_at _ _ _ _ rfl]; rfl
        have y2 : (wr.alloc (.cells #[.string nm, .string ds, .string df, .string fl, .int .i64 ln] 51)).cell? ⟨wr.heap.size, 2, none⟩ = some (.string df) := by rw [World.cell?_alloc_at _ _ _ _ rfl]; rfl
        have y3 : (wr.alloc (.cells #[.string nm, .string ds, .string df, .string fl, .int .i64 ln] 51)).cell? ⟨wr.heap.size, 3, none⟩ = some (.string fl) := by rw [World.cell?_alloc_at _ _ _ _ rfl]; rfl
        have y4 : (wr.alloc (.cells #[.string nm, .string ds, .string df, .string fl, .int .i64 ln] 51)).cell? ⟨wr.heap.size, 4, none⟩ = some (.int .i64 ln) := by rw [World.cell?_alloc_at _ _ _ _ rfl]; rfl
        have y5 : wr.heap.size < (wr.alloc (.cells #[.string nm, .string ds, .string df, .string fl, .int .i64 ln] 51)).heap.size := by simp
        have T0 := (World.cell?_alloc_past (w := wr) (.cells #[.string nm, .string ds, .string df, .string fl, .int .i64 ln] 51) _ _ u4).trans t0
        have T1 := (World.cell?_alloc_past (w := wr) (.cells #[.string nm, .string ds, .string df, .string fl, .int .i64 ln] 51) _ _ u4).trans t1
        have T2 := (World.cell?_alloc_past (w := wr) (.cells #[.string nm, .string ds, .string df, .string fl, .int .i64 ln] 51) _ _ u4).trans t2
        have T4 := (World.cell?_alloc_past (w := wr) (.cells #[.string nm, .string ds, .string df, .string fl, .int .i64 ln] 51) _ _ u4).trans t4
        have T5 := (World.cell?_alloc_past (w := wr) (.cells #[.string nm, .string ds, .string df, .string fl, .int .i64 ln] 51) _ _ u4).trans t5
        have T6 := (World.cell?_alloc_past (w := wr) (.cells #[.string nm, .string ds, .string df, .string fl, .int .i64 ln] 51) _ _ u4).trans t6
        have Cg := (World.cell?_alloc_past (w := wr) (.cells #[.string nm, .string ds, .string df, .string fl, .int .i64 ln] 51) _ _ u2).trans cg
        clear t0 t1 t2 t4 t5 t6 cg cd s0 s1 s2 s3 s4 HBk hpn
        generalize wr.alloc (.cells #[.string nm, .string ds, .string df, .string fl, .int .i64 ln] 51) = wq at *
        generalize wr.heap.size = gs at *
        have u5 : g1 < wq.heap.size := by omega
        have u6 : gg < wq.heap.size := by omega
        have HT0 : Hid (wq.cell? ⟨g1, k * 7, none⟩ = some (.string fl)) := T0
        have HT1 : Hid (wq.cell? ⟨g1, k * 7 + 1, none⟩ = some (.int .i64 ln)) := T1
        have HT2 : Hid (wq.cell? ⟨g1, k * 7 + 2, none⟩ = some (.map none)) := T2
        have HT4 : Hid (wq.cell? ⟨g1, k * 7 + 4, none⟩ = some (.string nm)) := T4
        have HT5 : Hid (wq.cell? ⟨g1, k * 7 + 5, none⟩ = some (.string ds)) := T5
        have HT6 : Hid (wq.cell? ⟨g1, k * 7 + 6, none⟩ = some (.string df)) := T6
        clear T0 T1 T2 T4 T5 T6
        have i1 : (0 : Int) ≤ (k : Int) := by omega
        have i2 : (k : Int) < ((D1.length + D2.length + D3.length : Nat) : Int) := by omega
        go_region_held3 (fun w' => w'.cell? ⟨gg, k, none⟩ = some (.pointer (some ⟨g1, k * 7, none⟩)) ∧ w'.cell? ⟨gs, 0, none⟩ = some (.string nm) ∧ w'.cell? ⟨gs, 1, none⟩ = some (.string ds) ∧ w'.cell? ⟨gs, 2, none⟩ = some (.string df) ∧ w'.cell? ⟨gs, 3, none⟩ = some (.string fl) ∧ w'.cell? ⟨gs, 4, none⟩ = some (.int .i64 ln)) (go_keep)
          (first
            | (go_at_call 11; refine (declIs_kept g1 (k * 7) gg k gs nm ds df fl ln _ ?_ ?_ ?_ ?_ ?_ ?_ ?_ ?_ ?_ ?_ ?_ ?_ ?_ ?_ ?_).mono ?_; exact u5; exact u6; exact y5; exact HT0; exact HT1; exact HT2; exact HT4; exact HT5; exact HT6; exact Cg; exact y0; exact y1; exact y2; exact y3; exact y4; rintro e w8 ⟨rfl, hb8, z0, z1', z2', z3', z4', z5'⟩))
        go_wp2
        go_roundw
        case rel => exact ⟨k + 1, by omega, by go_num, below_to HO.out (undraw hb8) HO.out.size⟩
        case measure => simp [intOf]; omega
      · by_cases hk2 : k < D1.length + D2.length
        · have hj : k - D1.length < D2.length := by omega
          obtain ⟨hA, hg, hArg⟩ := args_at Y2.out (by omega)
          obtain ⟨gg, hag, hgg, hcell⟩ := HAT.out k hlt
          rw [cat_at1 g1 g2 g3 D1.length D2.length D3.length k (by omega) (by omega)] at hcell
          obtain ⟨b, off, ha, hb, hdec⟩ := E2.out.at hj
          subst hA hag ha
          have cg := (HBk.out.cell (p := ⟨gg, k, none⟩) hgg).trans hcell
          have cd := (HBk.out.cell (p := ⟨gd, 5, none⟩) hgd).trans P5.out
          obtain ⟨s0, s1, s2, s3, s4⟩ := hdec.below HBk.out hb _ _ (List.getElem?_eq_getElem hj)
          obtain ⟨t0, t1, t2, _, t4, t5, t6⟩ := hArg.below HBk.out hg _ _ (List.getElem?_eq_getElem hj)
          have hsz7 : w7.heap.size ≤ wr.heap.size := HBk.out.size
          have u1 : gd < wr.heap.size := by omega
          have u2 : gg < wr.heap.size := by omega
          have u3 : b < wr.heap.size := by omega
          have u4 : g2 < wr.heap.size := by omega
          clear hcell hdec hArg HAT E1 E2 E3 Y1 Y2 Y3 P4 P5 P6
          generalize (D2[k - D1.length]).name = nm at *
          generalize (D2[k - D1.length]).desc = ds at *
          generalize (D2[k - D1.length]).dflt = df at *
          generalize (D2[k - D1.length]).file = fl at *
          generalize (D2[k - D1.length]).line = ln at *
          go_wp2
          have HO : Hid (Below w7.heap.size w7 (wr.alloc (.cells #[.string nm, .string ds, .string df, .string fl, .int .i64 ln] 51))) := HBk.out.alloc hsz7 _
          have y0 : (wr.alloc (.cells #[.string nm, .string ds, .string df, .string fl, .int .i64 ln] 51)).cell? ⟨wr.heap.size, 0, none⟩ = some (.string nm) := by rw [World.cell?_alloc_at _ _ _ _ rfl]; rfl
          have y1 : (wr.alloc (.cells #[.string nm, .string ds, .string df, .string fl, .int .i64 ln] 51)).cell? ⟨wr.heap.size, 1, none⟩ = some (.string ds) := by rw [World.cell?_alloc_at _ _ _ _ rfl]; rfl
          have y2 : (wr.alloc (.cells #[.string nm, .string ds, .string df, .string fl, .int .i64 ln] 51)).cell? ⟨wr.heap.size, 2, none⟩ = some (.string df) := by rw [World.cell?_alloc_at _ _ _ _ rfl]; rfl
          have y3 : (wr.alloc (.cells #[.string nm, .string ds, .string df, .string fl, .int .i64 ln] 51)).cell? ⟨wr.heap.size, 3, none⟩ = some (.string fl) := by rw [World.cell?_alloc_at _ _ _ _ rfl]; rfl
          have y4 : (wr.alloc (.cells #[.string nm, .string ds, .string df, .string fl, .int .i64 ln] 51)).cell? ⟨wr.heap.size, 4, none⟩ = some (.int .i64 ln) := by rw [World.cell?_alloc_at _ _ _ _ rfl]; rfl
          have y5 : wr.heap.size < (wr.alloc (.cells #[.string nm, .string ds, .string df, .string fl, .int .i64 ln] 51)).heap.size := by simp
          have T0 := (World.cell?_alloc_past (w := wr) (.cells #[.string nm, .string ds, .string df, .string fl, .int .i64 ln] 51) _ _ u4).trans t0
          have T1 := (World.cell?_alloc_past (w := wr) (.cells #[.string nm, .string ds, .string df, .string fl, .int .i64 ln] 51) _ _ u4).trans t1
          have T2 := (World.cell?_alloc_past (w := wr) (.cells #[.string nm, .string ds, .string df, .string fl, .int .i64 ln] 51) _ _ u4).trans t2
          have T4 := (World.cell?_alloc_past (w := wr) (.cells #[.string nm, .string ds, .string df, .string fl, .int .i64 ln] 51) _ _ u4).trans t4
          have T5 := (World.cell?_alloc_past (w := wr) (.cells #[.string nm, .string ds, .string df, .string fl, .int .i64 ln] 51) _ _ u4).trans t5
          have T6 := (World.cell?_alloc_past (w := wr) (.cells #[.string nm, .string ds, .string df, .string fl, .int .i64 ln] 51) _ _ u4).trans t6
          have Cg := (World.cell?_alloc_past (w := wr) (.cells #[.string nm, .string ds, .string df, .string fl, .int .i64 ln] 51) _ _ u2).trans cg
          clear t0 t1 t2 t4 t5 t6 cg cd s0 s1 s2 s3 s4 HBk hpn
          generalize wr.alloc (.cells #[.string nm, .string ds, .string df, .string fl, .int .i64 ln] 51) = wq at *
          generalize wr.heap.size = gs at *
          have u5 : g2 < wq.heap.size := by omega
          have u6 : gg < wq.heap.size := by omega
          have HT0 : Hid (wq.cell? ⟨g2, (k - D1.length) * 7, none⟩ = some (.string fl)) := T0
          have HT1 : Hid (wq.cell? ⟨g2, (k - D1.length) * 7 + 1, none⟩ = some (.int .i64 ln)) := T1
          have HT2 : Hid (wq.cell? ⟨g2, (k - D1.length) * 7 + 2, none⟩ = some (.map none)) := T2
          have HT4 : Hid (wq.cell? ⟨g2, (k - D1.length) * 7 + 4, none⟩ = some (.string nm)) := T4
          have HT5 : Hid (wq.cell? ⟨g2, (k - D1.length) * 7 + 5, none⟩ = some (.string ds)) := T5
          have HT6 : Hid (wq.cell? ⟨g2, (k - D1.length) * 7 + 6, none⟩ = some (.string df)) := T6
          clear T0 T1 T2 T4 T5 T6
          have i1 : (0 : Int) ≤ (k : Int) := by omega
          have i2 : (k : Int) < ((D1.length + D2.length + D3.length : Nat) : Int) := by omega
          go_region_held3 (fun w' => w'.cell? ⟨gg, k, none⟩ = some (.pointer (some ⟨g2, (k - D1.length) * 7, none⟩)) ∧ w'.cell? ⟨gs, 0, none⟩ = some (.string nm) ∧ w'.cell? ⟨gs, 1, none⟩ = some (.string ds) ∧ w'.cell? ⟨gs, 2, none⟩ = some (.string df) ∧ w'.cell? ⟨gs, 3, none⟩ = some (.string fl) ∧ w'.cell? ⟨gs, 4, none⟩ = some (.int .i64 ln)) (go_keep)
            (first
              | (go_at_call 11; refine (declIs_kept g2 ((k - D1.length) * 7) gg k gs nm ds df fl ln _ ?_ ?_ ?_ ?_ ?_ ?_ ?_ ?_ ?_ ?_ ?_ ?_ ?_ ?_ ?_).mono ?_; exact u5; exact u6; exact y5; exact HT0; exact HT1; exact HT2; exact HT4; exact HT5; exact HT6; exact Cg; exact y0; exact y1; exact y2; exact y3; exact y4; rintro e w8 ⟨rfl, hb8, z0, z1', z2', z3', z4', z5'⟩))
          go_wp2
          go_roundw
          case rel => exact ⟨k + 1, by omega, by go_num, below_to HO.out (undraw hb8) HO.out.size⟩
          case measure => simp [intOf]; omega
        · have hj : k - D1.length - D2.length < D3.length := by omega
          obtain ⟨hA, hg, hArg⟩ := args_at Y3.out (by omega)
          obtain ⟨gg, hag, hgg, hcell⟩ := HAT.out k hlt
          rw [cat_at2 g1 g2 g3 D1.length D2.length D3.length k (by omega) (by omega)] at hcell
          obtain ⟨b, off, ha, hb, hdec⟩ := E3.out.at hj
          subst hA hag ha
          have cg := (HBk.out.cell (p := ⟨gg, k, none⟩) hgg).trans hcell
          have cd := (HBk.out.cell (p := ⟨gd, 6, none⟩) hgd).trans P6.out
          obtain ⟨s0, s1, s2, s3, s4⟩ := hdec.below HBk.out hb _ _ (List.getElem?_eq_getElem hj)
          obtain ⟨t0, t1, t2, _, t4, t5, t6⟩ := hArg.below HBk.out hg _ _ (List.getElem?_eq_getElem hj)
          have hsz7 : w7.heap.size ≤ wr.heap.size := HBk.out.size
          have u1 : gd < wr.heap.size := by omega
          have u2 : gg < wr.heap.size := by omega
          have u3 : b < wr.heap.size := by omega
          have u4 : g3 < wr.heap.size := by omega
          clear hcell hdec hArg HAT E1 E2 E3 Y1 Y2 Y3 P4 P5 P6
          generalize (D3[k - D1.length - D2.length]).name = nm at *
          generalize (D3[k - D1.length - D2.length]).desc = ds at *
          generalize (D3[k - D1.length - D2.length]).dflt = df at *
          generalize (D3[k - D1.length - D2.length]).file = fl at *
          generalize (D3[k - D1.length - D2.length]).line = ln at *
          go_wp2
          have HO : Hid (Below w7.heap.size w7 (wr.alloc (.cells #[.string nm, .string ds, .string df, .string fl, .int .i64 ln] 51))) := HBk.out.alloc hsz7 _
          have y0 : (wr.alloc (.cells #[.string nm, .string ds, .string df, .string fl, .int .i64 ln] 51)).cell? ⟨wr.heap.size, 0, none⟩ = some (.string nm) := by rw [World.cell?_alloc_at _ _ _ _ rfl]; rfl
          have y1 : (wr.alloc (.cells #[.string nm, .string ds, .string df, .string fl, .int .i64 ln] 51)).cell? ⟨wr.heap.size, 1, none⟩ = some (.string ds) := by rw [World.cell?_alloc_at _ _ _ _ rfl]; rfl
          have y2 : (wr.alloc (.cells #[.string nm, .string ds, .string df, .string fl, .int .i64 ln] 51)).cell? ⟨wr.heap.size, 2, none⟩ = some (.string df) := by rw [World.cell?_alloc_at _ _ _ _ rfl]; rfl
          have y3 : (wr.alloc (.cells #[.string nm, .string ds, .string df, .string fl, .int .i64 ln] 51)).cell? ⟨wr.heap.size, 3, none⟩ = some (.string fl) := by rw [World.cell?_alloc_at _ _ _ _ rfl]; rfl
          have y4 : (wr.alloc (.cells #[.string nm, .string ds, .string df, .string fl, .int .i64 ln] 51)).cell? ⟨wr.heap.size, 4, none⟩ = some (.int .i64 ln) := by rw [World.cell?_alloc_at _ _ _ _ rfl]; rfl
          have y5 : wr.heap.size < (wr.alloc (.cells #[.string nm, .string ds, .string df, .string fl, .int .i64 ln] 51)).heap.size := by simp
          have T0 := (World.cell?_alloc_past (w := wr) (.cells #[.string nm, .string ds, .string df, .string fl, .int .i64 ln] 51) _ _ u4).trans t0
          have T1 := (World.cell?_alloc_past (w := wr) (.cells #[.string nm, .string ds, .string df, .string fl, .int .i64 ln] 51) _ _ u4).trans t1
          have T2 := (World.cell?_alloc_past (w := wr) (.cells #[.string nm, .string ds, .string df, .string fl, .int .i64 ln] 51) _ _ u4).trans t2
          have T4 := (World.cell?_alloc_past (w := wr) (.cells #[.string nm, .string ds, .string df, .string fl, .int .i64 ln] 51) _ _ u4).trans t4
          have T5 := (World.cell?_alloc_past (w := wr) (.cells #[.string nm, .string ds, .string df, .string fl, .int .i64 ln] 51) _ _ u4).trans t5
          have T6 := (World.cell?_alloc_past (w := wr) (.cells #[.string nm, .string ds, .string df, .string fl, .int .i64 ln] 51) _ _ u4).trans t6
          have Cg := (World.cell?_alloc_past (w := wr) (.cells #[.string nm, .string ds, .string df, .string fl, .int .i64 ln] 51) _ _ u2).trans cg
          clear t0 t1 t2 t4 t5 t6 cg cd s0 s1 s2 s3 s4 HBk hpn
          generalize wr.alloc (.cells #[.string nm, .string ds, .string df, .string fl, .int .i64 ln] 51) = wq at *
          generalize wr.heap.size = gs at *
          have u5 : g3 < wq.heap.size := by omega
          have u6 : gg < wq.heap.size := by omega
          have HT0 : Hid (wq.cell? ⟨g3, (k - D1.length - D2.length) * 7, none⟩ = some (.string fl)) := T0
          have HT1 : Hid (wq.cell? ⟨g3, (k - D1.length - D2.length) * 7 + 1, none⟩ = some (.int .i64 ln)) := T1
          have HT2 : Hid (wq.cell? ⟨g3, (k - D1.length - D2.length) * 7 + 2, none⟩ = some (.map none)) := T2
          have HT4 : Hid (wq.cell? ⟨g3, (k - D1.length - D2.length) * 7 + 4, none⟩ = some (.string nm)) := T4
          have HT5 : Hid (wq.cell? ⟨g3, (k - D1.length - D2.length) * 7 + 5, none⟩ = some (.string ds)) := T5
          have HT6 : Hid (wq.cell? ⟨g3, (k - D1.length - D2.length) * 7 + 6, none⟩ = some (.string df)) := T6
          clear T0 T1 T2 T4 T5 T6
          have i1 : (0 : Int) ≤ (k : Int) := by omega
          have i2 : (k : Int) < ((D1.length + D2.length + D3.length : Nat) : Int) := by omega
          go_region_held3 (fun w' => w'.cell? ⟨gg, k, none⟩ = some (.pointer (some ⟨g3, (k - D1.length - D2.length) * 7, none⟩)) ∧ w'.cell? ⟨gs, 0, none⟩ = some (.string nm) ∧ w'.cell? ⟨gs, 1, none⟩ = some (.string ds) ∧ w'.cell? ⟨gs, 2, none⟩ = some (.string df) ∧ w'.cell? ⟨gs, 3, none⟩ = some (.string fl) ∧ w'.cell? ⟨gs, 4, none⟩ = some (.int .i64 ln)) (go_keep)
            (first
              | (go_at_call 11; refine (declIs_kept g3 ((k - D1.length - D2.length) * 7) gg k gs nm ds df fl ln _ ?_ ?_ ?_ ?_ ?_ ?_ ?_ ?_ ?_ ?_ ?_ ?_ ?_ ?_ ?_).mono ?_; exact u5; exact u6; exact y5; exact HT0; exact HT1; exact HT2; exact HT4; exact HT5; exact HT6; exact Cg; exact y0; exact y1; exact y2; exact y3; exact y4; rintro e w8 ⟨rfl, hb8, z0, z1', z2', z3', z4', z5'⟩))
          go_wp2
          go_roundw
          case rel => exact ⟨k + 1, by omega, by go_num, below_to HO.out (undraw hb8) HO.out.size⟩
          case measure => simp [intOf]; omega
    · clear HAT E1 E2 E3 Y1 Y2 Y3 P4 P5 P6
      go_wp2
      go_ret
      exact ⟨rfl, below_to HB7.out HBk.out HB7.out.size⟩

end Go.Proofs.Qxb6605178a.All
