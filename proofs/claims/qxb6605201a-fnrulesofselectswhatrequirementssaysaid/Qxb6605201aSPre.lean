import Derived.Test.Qxb6605201aReq
import Derived.Test.Qxb6605201aFR2
namespace Go.Proofs.Qxb6605201a.Rul
open Go.RowKit Go.Sort Go.Lib

/-- What selectsLabels is handed of one row of rules. -/
structure Row (B g o : Nat) (w : World) (P : List Pq) (R : List RV) : Prop where
  lt : g < w.heap.size
  cells : CellsR w g o R
  ok : ∀ r ∈ R, RuleOk B w P r

theorem Row.below {B g o : Nat} {w w' : World} {P : List Pq} {R : List RV} (h : Row B g o w P R) (hb : Below w.heap.size w w') : Row B g o w' P R :=
  ⟨Nat.lt_of_lt_of_le h.lt hb.size, h.cells.kept (hb.block g h.lt), fun r hr => (h.ok r hr).kept fun j _ hl => hb.block j hl⟩

/-- The sets of a rule are in order and not long. -/
structure Sets (P : List Pq) : Prop where
  st : ∀ k, Strict ((rsOf P k).vs.getD [])
  lv : ∀ k, ((rsOf P k).vs.getD []).length < 4611686018427387904
  le : ∀ k, (rsOf P k).es.length < 4611686018427387904

theorem sets_of (Q : List Rq) (hf : ∀ q ∈ Q, q.p.Fit) (hl : sumL Q ≤ 4096) : Sets (Q.map Rq.p) := by
  refine ⟨fun k => ?_, fun k => by have := (rsOf_len Q k).2; omega, fun k => by have := (rsOf_len Q k).1; omega⟩
  have hok := rsOf_ok (Q.map Rq.p) k (fun q hq => by obtain ⟨q', h1, rfl⟩ := List.mem_map.1 hq; exact hf q' h1)
  cases hv : (rsOf (Q.map Rq.p) k).vs with
  | none => exact List.Pairwise.nil
  | some l => exact (hok.vs l hv).1

/-- holds, at a rule of the row or a copy of it. -/
theorem hold_at {B g o : Nat} {w wx : World} {P : List Pq} {r : RV} (hr : RuleOk B w P r) (hs : Sets P) (hb : Below w.heap.size w wx) (x : Str) (c2 : wx.cell? ⟨g, o + 2, none⟩ = some (.bool r.ab)) (c3 : wx.cell? ⟨g, o + 3, none⟩ = some r.vv) (c4 : wx.cell? ⟨g, o + 4, none⟩ = some r.ev) :
    Calls Try.prog 36 #[.pointer (some ⟨g, o, none⟩), encStr x] wx fun e w' => e = .returned (.bool (holdR (rsOf P r.k) x)) ∧ ∃ q, w' = wx.drewN q := by
  have h1 : RuleOk B wx P r := hr.kept fun j _ hl => hb.block j hl
  exact holds36 B g o (rsOf P r.k) r.va r.ea r.vn r.vc r.en r.ec x wx (by rw [← h1.ab]; exact c2) c3 c4 h1.vo h1.vn h1.eo (hs.st _) (rsOf_strict _ _) (hs.lv _) (hs.le _)

/-- All that the rules R say of the labels. -/
def AllSay (P : List Pq) (lab : Str → Option Str) (R : List RV) : Prop := ∀ r ∈ R, ruleSays (rsOf P r.k) (lab r.k) = true
theorem AllSay.snoc {P : List Pq} {lab : Str → Option Str} {R : List RV} {k : Nat} (h : AllSay P lab (R.take k)) (hk : k < R.length) (h2 : ruleSays (rsOf P R[k].k) (lab R[k].k) = true) : AllSay P lab (R.take (k + 1)) := by
  intro r hr
  rw [List.take_succ_eq_append_getElem hk] at hr
  rcases List.mem_append.1 hr with h3 | h3
  · exact h r h3
  · rw [List.mem_singleton.1 h3]; exact h2

/-- selectsLabels' ending. -/
def RetSel (P : List Pq) (ls : List (Str × Str)) (R1 R2 : List RV) (w : World) (e : Ending) (w' : World) : Prop := ∃ (sel : Bool) (lk cm : Nat), e = .returned (.tuple #[.bool sel, .int .i64 lk, .int .i64 cm]) ∧ (sel = true ↔ AllSay P (labOf ls) R1 ∧ AllSay P (labOf ls) R2) ∧
  (sel = true → (R2.length ≤ ls.length ∧ lk = R1.length + R2.length ∧ cm = 0) ∨ (ls.length < R2.length ∧ lk = R1.length + ls.length ∧ ls.length ≤ cm ∧ ∀ b, R2.length < 2 ^ b → cm ≤ ls.length * (b + 1))) ∧ Below w.heap.size w w'

theorem retSel_no {P : List Pq} {ls : List (Str × Str)} {R1 R2 : List RV} {w w' : World} {lk cm : Nat} (h : ¬ (AllSay P (labOf ls) R1 ∧ AllSay P (labOf ls) R2)) (hb : Below w.heap.size w w') : RetSel P ls R1 R2 w (.returned (.tuple #[.bool false, .int .i64 lk, .int .i64 cm])) w' :=
  ⟨false, lk, cm, rfl, ⟨(fun e => by cases e), fun h' => absurd h' h⟩, (fun e => by cases e), hb⟩

/-- A label of a rule whose key must be there, or not. -/
theorem says_some {r : RS} {o : Option Str} {v : Str} (h : o = some v) : ruleSays r o = holdR r v := by rw [h]; rfl
theorem says_none {r : RS} {o : Option Str} (h : o = none) : ruleSays r o = !r.th := by rw [h]; rfl

theorem cell_new (w : World) (cs : Array Value) (t f : Nat) : (w.alloc (.cells cs t)).cell? ⟨w.heap.size, f, none⟩ = cs[f]? := by
  exact cell_of_row _ w.heap.size f cs t (0, 0) (heap_alloc_new w (.cells cs t))

theorem Try.map40 : Try.prog.underlying 40 = some (.map (Try.prog.mapKeyOf 40) (Try.prog.mapElemOf 40)) := by kernel_rfl

end Go.Proofs.Qxb6605201a.Rul
