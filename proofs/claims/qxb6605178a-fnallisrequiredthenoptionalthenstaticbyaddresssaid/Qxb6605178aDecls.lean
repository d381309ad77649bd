import Derived.Test.Qxb6605178aRows
import Derived.WalkKit
import Derived.WalkSpells
import Derived.WalkLawsBesides
import Derived.BigQuiet
import Derived.Deep.QuietTactic
import Derived.Deep.RegionHeld3
namespace Go.Proofs.Qxb6605178a.All
open Go.RowKit

/-- One declaration, as its five cells hold it. -/
structure Decl where
  name : ByteArray
  desc : ByteArray
  dflt : ByteArray
  file : ByteArray
  line : Int

/-- The five cells of each declaration, from ⟨b, off⟩ on. -/
def DeclAt (w : World) (b off : Nat) (D : List Decl) : Prop := ∀ j d, D[j]? = some d →
  w.cell? ⟨b, off + j * 5, none⟩ = some (.string d.name) ∧ w.cell? ⟨b, off + j * 5 + 1, none⟩ = some (.string d.desc) ∧ w.cell? ⟨b, off + j * 5 + 2, none⟩ = some (.string d.dflt) ∧
  w.cell? ⟨b, off + j * 5 + 3, none⟩ = some (.string d.file) ∧ w.cell? ⟨b, off + j * 5 + 4, none⟩ = some (.int .i64 d.line)

theorem DeclAt.below {w w' : World} {b off : Nat} {D : List Decl} (h : DeclAt w b off D) (hb : Below w.heap.size w w') (hlt : b < w.heap.size) : DeclAt w' b off D := by
  intro j d hd
  have := h j d hd
  rw [hb.cell (p := ⟨b, off + j * 5, none⟩) hlt, hb.cell (p := ⟨b, off + j * 5 + 1, none⟩) hlt, hb.cell (p := ⟨b, off + j * 5 + 2, none⟩) hlt, hb.cell (p := ⟨b, off + j * 5 + 3, none⟩) hlt, hb.cell (p := ⟨b, off + j * 5 + 4, none⟩) hlt]
  exact this

/-- What the walks are told of a slice of declarations. -/
def IsDecls (w : World) (a : Option Addr) (D : List Decl) : Prop :=
  D = [] ∨ ∃ b off, a = some ⟨b, off, none⟩ ∧ b < w.heap.size ∧ DeclAt w b off D

theorem IsDecls.at {w : World} {a : Option Addr} {D : List Decl} (h : IsDecls w a D) {k : Nat} (hk : k < D.length) : ∃ b off, a = some ⟨b, off, none⟩ ∧ b < w.heap.size ∧ DeclAt w b off D := by
  rcases h with h | h
  · subst h; simp at hk
  · exact h
theorem IsDecls.below {w w' : World} {a : Option Addr} {D : List Decl} (h : IsDecls w a D) (hb : Below w.heap.size w w') : IsDecls w' a D := by
  rcases h with h | ⟨b, off, ha, hlt, hc⟩
  · exact .inl h
  · exact .inr ⟨b, off, ha, Nat.lt_of_lt_of_le hlt hb.size, hc.below hb hlt⟩

def RetB (e : Ending) (p : Bool → Prop) : Prop := ∃ b, e = .returned (.bool b) ∧ p b
theorem retB {b : Bool} {p : Bool → Prop} (h : p b) : RetB (.returned (.bool b)) p := ⟨b, rfl, h⟩
def RetI (e : Ending) : Prop := ∃ z : Int, e = .returned (.int .i64 z)
theorem retI {z : Int} : RetI (.returned (.int .i64 z)) := ⟨z, rfl⟩

set_option maxRecDepth 100000 in
set_option maxHeartbeats 1600000 in
theorem zzBytes7 (a1 a2 a3 : Option Addr) (c1 c2 c3 : Nat) (D1 D2 D3 : List Decl) (file : ByteArray) (line : Int) (w : World) (h1 : IsDecls w a1 D1) (h2 : IsDecls w a2 D2) (h3 : IsDecls w a3 D3)
    (m1 : D1.length ≤ 9223372036854775807) (m2 : D2.length ≤ 9223372036854775807) (m3 : D3.length ≤ 9223372036854775807) (mf : file.size ≤ 9223372036854775807) :
    Calls Try.prog 7 #[.slice a1 D1.length c1, .slice a2 D2.length c2, .slice a3 D3.length c3, .string file, .int .i64 line] w fun e w' => RetB e (fun _ => True) ∧ w = w' := by
  have H1 : Hid (IsDecls w a1 D1) := h1
  have H2 : Hid (IsDecls w a2 D2) := h2
  have H3 : Hid (IsDecls w a3 D3) := h3
  clear h1 h2 h3
  go_enter Try.func7, Try.ntmps7
  go_wp2
  · go_ret; exact ⟨retB trivial, rfl⟩
  go_loop [11, 12] (fun n i => ∃ (z : Nat) (k : Nat), z ≤ 1048576 ∧ k ≤ D1.length ∧ i = .int .i64 k ∧ n = .int .i64 z) (fun _ i => D1.length - (intOf i).toNat)
  case atStart => exact ⟨D1.length, 0, by omega, Nat.zero_le _, by go_num, by go_num⟩
  case round =>
    obtain ⟨z1, k, hz1, hk1, rfl, rfl⟩ := hrel
    by_cases hlt : k < D1.length
    · obtain ⟨b, off, rfl, hb, hc⟩ := H1.out.at hlt
      obtain ⟨e0, e1, e2, e3, e4⟩ := hc k _ (List.getElem?_eq_getElem hlt)
      clear H1 H2 H3 hc
      generalize D1[k].name = x0 at *
      generalize D1[k].desc = x1 at *
      generalize D1[k].dflt = x2 at *
      generalize D1[k].file = x3 at *
      go_wp2
      all_goals try (go_ret; exact ⟨retB trivial, rfl⟩)
      go_round
      case rel => exact ⟨z1 + x0.size + x1.size + x2.size + x3.size, k + 1, by omega, by omega, by go_num, by go_num⟩
      case measure => simp [intOf]; omega
    · clear H1
      go_wp2
      all_goals try (go_ret; exact ⟨retB trivial, rfl⟩)
      go_loop [11, 13] (fun n i => ∃ (z : Nat) (k : Nat), z ≤ 1048576 ∧ k ≤ D2.length ∧ i = .int .i64 k ∧ n = .int .i64 z) (fun _ i => D2.length - (intOf i).toNat)
      case atStart => exact ⟨z1 + D2.length, 0, by omega, Nat.zero_le _, by go_num, by go_num⟩
      case round =>
        obtain ⟨z2, k, hz2, hk2, rfl, rfl⟩ := hrel
        by_cases hlt : k < D2.length
        · obtain ⟨b, off, rfl, hb, hc⟩ := H2.out.at hlt
          obtain ⟨e0, e1, e2, e3, e4⟩ := hc k _ (List.getElem?_eq_getElem hlt)
          clear H2 H3 hc
          generalize D2[k].name = x0 at *
          generalize D2[k].desc = x1 at *
          generalize D2[k].dflt = x2 at *
          generalize D2[k].file = x3 at *
          go_wp2
          all_goals try (go_ret; exact ⟨retB trivial, rfl⟩)
          go_round
          case rel => exact ⟨z2 + x0.size + x1.size + x2.size + x3.size, k + 1, by omega, by omega, by go_num, by go_num⟩
          case measure => simp [intOf]; omega
        · clear H2
          go_wp2
          all_goals try (go_ret; exact ⟨retB trivial, rfl⟩)
          go_loop [11, 14] (fun n i => ∃ (z : Nat) (k : Nat), z ≤ 1048576 ∧ k ≤ D3.length ∧ i = .int .i64 k ∧ n = .int .i64 z) (fun _ i => D3.length - (intOf i).toNat)
          case atStart => exact ⟨z2 + D3.length, 0, by omega, Nat.zero_le _, by go_num, by go_num⟩
          case round =>
            obtain ⟨z3, k, hz3, hk3, rfl, rfl⟩ := hrel
            by_cases hlt : k < D3.length
            · obtain ⟨b, off, rfl, hb, hc⟩ := H3.out.at hlt
              obtain ⟨e0, e1, e2, e3, e4⟩ := hc k _ (List.getElem?_eq_getElem hlt)
              clear H3  hc
              generalize D3[k].name = x0 at *
              generalize D3[k].desc = x1 at *
              generalize D3[k].dflt = x2 at *
              generalize D3[k].file = x3 at *
              go_wp2
              all_goals try (go_ret; exact ⟨retB trivial, rfl⟩)
              go_round
              case rel => exact ⟨z3 + x0.size + x1.size + x2.size + x3.size, k + 1, by omega, by omega, by go_num, by go_num⟩
              case measure => simp [intOf]; omega
            · clear H3
              go_wp2
              all_goals try (go_ret; exact ⟨retB trivial, rfl⟩)

end Go.Proofs.Qxb6605178a.All
