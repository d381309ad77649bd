import Derived.Test.Qxb6605201aMLem
namespace Go.Proofs.Qxb6605201a.Rul
open Go.RowKit Go.Sort Go.Lib

/-- ZZRulesOf. -/
theorem zzRules9 (B gin : Nat) (Q : List Rq) (w : World) (hR : ReqAt w gin Q) (hg : gin < w.heap.size) (hlen : Q.length ≤ 4096) (ho : ∀ q ∈ Q, OwnS B w q.v q.l) (nd : (bks (Q.map (·.v)) ++ [gin]).Nodup) (hB : B ≤ w.heap.size) (hf : ∀ q ∈ Q, q.p.Fit) (hsum : (Q.map fun q => q.l.length).sum ≤ 4096) :
    Calls Try.prog 9 #[.slice (some ⟨gin, 0, none⟩) Q.length Q.length] w fun e w' => RetR e w' B (Q.map Rq.p) ∧ Below B w w' := by
  have hc := rulesOf23 B gin Q w hR hg hlen ho nd hB hf hsum
  clear hR ho nd hB hf hsum
  generalize Q.length = n at *
  generalize Q.map Rq.p = P at *
  go_enter Try.func9, Try.ntmps9
  go_wp2_with (first | (go_at_call 23; refine hc.mono ?_; rintro e w' ⟨⟨gr, R, rfl, hrest⟩, hb⟩; have HRest := (show Hid _ from hrest); have HBb := (show Hid _ from hb); clear hrest hb))
  go_ret2
  exact ⟨⟨gr, R, rfl, HRest.out⟩, HBb.out⟩

theorem results_tmp5 {fn : Func} {a b c d e : Tmp} (h : fn.results = #[.tmp a, .tmp b, .tmp c, .tmp d, .tmp e]) (tmps : Array Value) (P : Program) (w : World) :
    (results fn tmps).run P w = .ok (.tuple #[tmps.getD a undef, tmps.getD b undef, tmps.getD c undef, tmps.getD d undef, tmps.getD e undef]) w := by
  simp [results, h]

theorem below_drewN {B : Nat} {a w : World} (h : Below B a w) (q : Nat) : Below B a (w.drewN q) := ⟨h.os, h.tape, h.output, h.size, h.block⟩

set_option maxHeartbeats 1000000 in
/-- ZZRuleFields. -/
theorem fields25 (k : Str) (th ab : Bool) (av ae : Option Addr) (nv cv ne ce : Nat) (w : World) :
    Calls Try.prog 25 #[.agg #[encStr k, .bool th, .bool ab, .slice av nv cv, .slice ae ne ce]] w fun e w' => e = .returned (.tuple #[encStr k, .bool th, .bool ab, .slice av nv cv, .slice ae ne ce]) ∧ Below w.heap.size w w' := by
  go_enter Try.func25, Try.ntmps25
  go_wp2_with fail
  go_quiet (fail)
  go_wp2
  (try simp only [Exit.inBlock, Exit.then])
  refine bodyPost_ret (results_tmp5 rfl _ _ _) rfl ⟨rfl, ?_⟩
  exact below_drewN ((Below.refl _ _).alloc (Nat.le_refl _) _) _

set_option maxRecDepth 100000 in
set_option maxHeartbeats 4000000 in
/-- sameRule, at two rules that say the same. -/
theorem sameRule12 (k : Str) (th ab : Bool) (av av2 ae ae2 : Option Addr) (nv nv2 cv cv2 ne ne2 ce ce2 : Nat) (vl el : List Str) (w : World) (h1 : Strs w (.slice av nv cv) vl) (h2 : Strs w (.slice av2 nv2 cv2) vl) (h3 : Strs w (.slice ae ne ce) el) (h4 : Strs w (.slice ae2 ne2 ce2) el)
    (hn : (av = none ∧ av2 = none) ∨ ∃ x y, av = some x ∧ av2 = some y) (hvl : vl.length ≤ 4611686018427387904) (hel : el.length ≤ 4611686018427387904) :
    Calls Try.prog 12 #[.agg #[encStr k, .bool th, .bool ab, .slice av nv cv, .slice ae ne ce], .agg #[encStr k, .bool th, .bool ab, .slice av2 nv2 cv2, .slice ae2 ne2 ce2]] w fun e w' => e = .returned (.bool true) ∧ Below w.heap.size w w' := by
  have HS : Hid (Strs w (.slice av nv cv) vl ∧ Strs w (.slice av2 nv2 cv2) vl ∧ Strs w (.slice ae ne ce) el ∧ Strs w (.slice ae2 ne2 ce2) el) := ⟨h1, h2, h3, h4⟩
  clear h1 h2 h3 h4
  have hb0 : Below w.heap.size w ((w.alloc (.cells #[encStr k, .bool th, .bool ab, .slice av nv cv, .slice ae ne ce] 39)).alloc (.cells #[encStr k, .bool th, .bool ab, .slice av2 nv2 cv2, .slice ae2 ne2 ce2] 35)) := ((Below.refl _ _).alloc (Nat.le_refl _) _).alloc (Nat.le_of_lt (size_alloc_lt w _)) _
  have HB0 : Hid (Below w.heap.size w ((w.alloc (.cells #[encStr k, .bool th, .bool ab, .slice av nv cv, .slice ae ne ce] 39)).alloc (.cells #[encStr k, .bool th, .bool ab, .slice av2 nv2 cv2, .slice ae2 ne2 ce2] 35))) := hb0
  clear hb0
  have hm0 : MAt ((w.alloc (.cells #[encStr k, .bool th, .bool ab, .slice av nv cv, .slice ae ne ce] 39)).alloc (.cells #[encStr k, .bool th, .bool ab, .slice av2 nv2 cv2, .slice ae2 ne2 ce2] 35)) (w.heap.size + 1) k th ab (.slice av2 nv2 cv2) (.slice ae2 ne2 ce2) := heap_alloc2_new w _ _
  have HM0 : Hid _ := hm0
  clear hm0
  rcases hn with ⟨rfl, rfl⟩ | ⟨x, y, rfl, rfl⟩
  all_goals
    go_enter Try.func12, Try.ntmps12
    go_wp2_with fail
    refine (fields25 k th ab _ ae nv cv ne ce _).mono ?_
    rintro e w1 ⟨rfl, hb1⟩
    have HB1 : Hid (Below w.heap.size w w1) := HB0.out.trans (hb1.mono HB0.out.size)
    have hm1 : MAt w1 (w.heap.size + 1) k th ab (.slice _ nv2 cv2) (.slice ae2 ne2 ce2) := (hb1.block (w.heap.size + 1) (by simp)).trans HM0.out
    have c0 : w1.cell? ⟨w.heap.size + 1, 0, none⟩ = some (encStr k) := hm1.cell 0
    have c1 : w1.cell? ⟨w.heap.size + 1, 1, none⟩ = some (.bool th) := hm1.cell 1
    have c2 : w1.cell? ⟨w.heap.size + 1, 2, none⟩ = some (.bool ab) := hm1.cell 2
    have c3 : w1.cell? ⟨w.heap.size + 1, 3, none⟩ = some (.slice _ nv2 cv2) := hm1.cell 3
    have c4 : w1.cell? ⟨w.heap.size + 1, 4, none⟩ = some (.slice ae2 ne2 ce2) := hm1.cell 4
    clear hb1 hm1 HB0 HM0
    have heq := fun wx n c => Lib.run_eql_slice_nil (P := Try.prog) wx 29 9 none n c 0 0 Try.underlying29
    have heq2 := fun wx a n c => Lib.run_eql_slice_nil (P := Try.prog) wx 29 9 (some a) n c 0 0 Try.underlying29
    go_wp2_with fail
    refine (same26 _ _ vl w1 (HS.out.1.below HB1.out) (HS.out.2.1.below HB1.out) hvl).mono ?_
    rintro e w2 ⟨rfl, q1, rfl⟩
    have c5 : (w1.drewN q1).cell? ⟨w.heap.size + 1, 4, none⟩ = some (.slice ae2 ne2 ce2) := c4
    have HB2 : Hid (Below w.heap.size w (w1.drewN q1)) := below_drewN HB1.out q1
    clear c0 c1 c2 c3 c4 HB1
    generalize w1.drewN q1 = w3 at *
    go_wp2_with fail
    refine (same26 _ _ el w3 (HS.out.2.2.1.below HB2.out) (HS.out.2.2.2.below HB2.out) hel).mono ?_
    rintro e w2 ⟨rfl, q2, rfl⟩
    go_wp2
    go_ret
    exact ⟨rfl, below_drewN HB2.out q2⟩

end Go.Proofs.Qxb6605201a.Rul
