/- The library's contracts at this seat's program (strings.Compare, slices.Sort, slices.Compact, slices.SortFunc, slices.Reverse, slices.DeleteFunc): laid by the kit's own tools (lay-shelf, then lay-plain). -/
import Derived.Shelf.SlGeneric
import Derived.Shelf.Small.Strs
import Derived.Shelf.Strconv.Itoa0
import Derived.Shelf.Sort.Plain
import Derived.Shelf.Slices.CompactS
import Derived.Shelf.Slices.In.SortNone
import Derived.Shelf.SlSortCmp.NoneTotal
import Derived.Shelf.SlSortCmp.Whole1
import Derived.Shelf.SlicesQ.Reverse
import Derived.Ground.SlsfProg
import Derived.Shelf.Spec.SearchS
import Derived.Shelf.SlicesE.DeleteFunc
import Derived.Ground.SlgfProg
import Derived.Ground.SlgnProg
import Derived.Test.Qxb6605201aProg
namespace Go.Proofs
open Go.Shelf
def Try.lays106_ren : Go.Shelf.Ren := ⟨fun | 106 => 32 | 213 => 40 | 265 => 58 | n => n, fun | 9 => 9 | 3 => 3 | n => n, fun | n => n⟩
theorem Try.lays106 : Go.Proofs.Lays.n106 Try.prog Try.lays106_ren := {
  mixed := by kernel_rfl
  f106 := Try.func32.trans (congrArg some (by kernel_rfl))
  f213 := Try.func40.trans (congrArg some (by kernel_rfl))
  f265 := Try.func58.trans (congrArg some (by kernel_rfl))
  t3 := Try.underlying3
  a3 := Try.isAgg3
  z3 := Try.sizeOf3
  v3 := Try.zeroValue3
  t9 := Try.underlying9
  a9 := Try.isAgg9
  z9 := Try.sizeOf9
  v9 := Try.zeroValue9 }
open Go.RowKit in
theorem Try.strings_Compare (a b : ByteArray) (w : World) :
    Calls Try.prog 32 #[.string a, .string b] w fun e w' => e = .returned (.int .i64 (Lib.compareBytes a.data.toList b.data.toList)) ∧ w' = w := Any.strings_Compare Try.lays106 a b w
def Try.lays190_ren : Go.Shelf.Ren := ⟨fun | 190 => 41 | 125 => 39 | 258 => 59 | 128 => 56 | 129 => 57 | 302 => 68 | 303 => 69 | 304 => 70 | 305 => 71 | 306 => 72 | 307 => 73 | 308 => 61 | 309 => 74 | 310 => 75 | 333 => 78 | 329 => 64 | 330 => 65 | 334 => 79 | 335 => 80 | 336 => 76 | 344 => 81 | n => n, fun | 31 => 29 | 9 => 9 | 3 => 3 | 46 => 67 | 0 => 0 | 51 => 97 | 53 => 99 | 4 => 4 | 183 => 91 | 182 => 90 | 131 => 85 | 5 => 5 | 218 => 103 | 222 => 107 | 228 => 114 | 229 => 115 | n => n, fun | n => n⟩
theorem Try.lays190 : Go.Proofs.Lays.n190 Try.prog Try.lays190_ren := {
  mixed := by kernel_rfl
  f125 := Try.func39.trans (congrArg some (by kernel_rfl))
  f128 := Try.func56.trans (congrArg some (by kernel_rfl))
  f129 := Try.func57.trans (congrArg some (by kernel_rfl))
  f190 := Try.func41.trans (congrArg some (by kernel_rfl))
  f258 := Try.func59.trans (congrArg some (by kernel_rfl))
  f302 := Try.func68.trans (congrArg some (by kernel_rfl))
  f303 := Try.func69.trans (congrArg some (by kernel_rfl))
  f304 := Try.func70.trans (congrArg some (by kernel_rfl))
  f305 := Try.func71.trans (congrArg some (by kernel_rfl))
  f306 := Try.func72.trans (congrArg some (by kernel_rfl))
  f307 := Try.func73.trans (congrArg some (by kernel_rfl))
  f308 := Try.func61.trans (congrArg some (by kernel_rfl))
  f309 := Try.func74.trans (congrArg some (by kernel_rfl))
  f310 := Try.func75.trans (congrArg some (by kernel_rfl))
  f329 := Try.func64.trans (congrArg some (by kernel_rfl))
  f330 := Try.func65.trans (congrArg some (by kernel_rfl))
  f333 := Try.func78.trans (congrArg some (by kernel_rfl))
  f334 := Try.func79.trans (congrArg some (by kernel_rfl))
  f335 := Try.func80.trans (congrArg some (by kernel_rfl))
  f336 := Try.func76.trans (congrArg some (by kernel_rfl))
  f344 := Try.func81.trans (congrArg some (by kernel_rfl))
  t0 := Try.underlying0
  a0 := Try.isAgg0
  z0 := Try.sizeOf0
  v0 := Try.zeroValue0
  t3 := Try.underlying3
  a3 := Try.isAgg3
  z3 := Try.sizeOf3
  v3 := Try.zeroValue3
  t4 := Try.underlying4
  a4 := Try.isAgg4
  z4 := Try.sizeOf4
  v4 := Try.zeroValue4
  t5 := Try.underlying5
  a5 := Try.isAgg5
  z5 := Try.sizeOf5
  v5 := Try.zeroValue5
  t9 := Try.underlying9
  a9 := Try.isAgg9
  z9 := Try.sizeOf9
  v9 := Try.zeroValue9
  t31 := Try.underlying29
  a31 := Try.isAgg29
  z31 := Try.sizeOf29
  v31 := Try.zeroValue29
  t46 := Try.underlying67
  a46 := Try.isAgg67
  z46 := Try.sizeOf67
  v46 := Try.zeroValue67
  t51 := Try.underlying97
  a51 := Try.isAgg97
  z51 := Try.sizeOf97
  v51 := Try.zeroValue97
  t53 := Try.underlying99
  a53 := Try.isAgg99
  z53 := Try.sizeOf99
  v53 := Try.zeroValue99
  t131 := Try.underlying85
  a131 := Try.isAgg85
  z131 := Try.sizeOf85
  v131 := Try.zeroValue85
  t182 := Try.underlying90
  a182 := Try.isAgg90
  z182 := Try.sizeOf90
  v182 := Try.zeroValue90
  t183 := Try.underlying91
  a183 := Try.isAgg91
  z183 := Try.sizeOf91
  v183 := Try.zeroValue91
  t218 := Try.underlying103
  a218 := Try.isAgg103
  z218 := Try.sizeOf103
  v218 := Try.zeroValue103
  t222 := Try.underlying107
  a222 := Try.isAgg107
  z222 := Try.sizeOf107
  v222 := Try.zeroValue107
  t228 := Try.underlying114
  a228 := Try.isAgg114
  z228 := Try.sizeOf114
  v228 := Try.zeroValue114
  t229 := Try.underlying115
  a229 := Try.isAgg115
  z229 := Try.sizeOf115
  v229 := Try.zeroValue115 }
open Go.Sort Go.RowKit in
theorem Try.slices_Sort_string (blk off cap : Nat) (ss : List (List UInt8)) (w : World) (hH : Holds encStr w blk off ss.toArray) (hblk : blk < w.heap.size) (hsz : ss.length < 4611686018427387904) :
    Calls Try.prog 41 #[.slice (some ⟨blk, off, none⟩) ss.length cap] w fun e w' =>
      e = .returned (.tuple #[]) ∧ ∃ n os, w' = grow (putRow encStr (Sort.ahead w n) blk off (ss.mergeSort fun x y => decide (x ≤ y)).toArray) os := Any.slices_Sort_string Try.lays190 blk off cap ss w hH hblk hsz
def Try.lays194_ren : Go.Shelf.Ren := ⟨fun | 194 => 42 | n => n, fun | 31 => 29 | 9 => 9 | 3 => 3 | 4 => 4 | 0 => 0 | n => n, fun | n => n⟩
theorem Try.lays194 : Go.Proofs.Lays.n194 Try.prog Try.lays194_ren := {
  mixed := by kernel_rfl
  f194 := Try.func42.trans (congrArg some (by kernel_rfl))
  t0 := Try.underlying0
  a0 := Try.isAgg0
  z0 := Try.sizeOf0
  v0 := Try.zeroValue0
  t3 := Try.underlying3
  a3 := Try.isAgg3
  z3 := Try.sizeOf3
  v3 := Try.zeroValue3
  t4 := Try.underlying4
  a4 := Try.isAgg4
  z4 := Try.sizeOf4
  v4 := Try.zeroValue4
  t9 := Try.underlying9
  a9 := Try.isAgg9
  z9 := Try.sizeOf9
  v9 := Try.zeroValue9
  t31 := Try.underlying29
  a31 := Try.isAgg29
  z31 := Try.sizeOf29
  v31 := Try.zeroValue29 }
open Go.RowKit Go.Lib Go.Sort in
theorem Try.slices_Compact_string (blk off cap : Nat) (zs : List (List UInt8)) (w : World) (hH : Holds encStr w blk off zs.toArray) (hsz : zs.length ≤ 9223372036854775807) (hcap : zs.length ≤ cap) :
    Calls Try.prog 42 #[.slice (some ⟨blk, off, none⟩) zs.length cap] w fun e w' => e = .returned (.slice (some ⟨blk, off, none⟩) (Lib.compact zs).length cap) ∧ ∃ q, w' = putRow encStr (Sort.ahead w q) blk off (Lib.compact zs ++ List.replicate (zs.length - (Lib.compact zs).length) []).toArray := Any.slices_Compact_string Try.lays194 blk off cap zs w hH hsz hcap
open Go.RowKit Go.Lib Go.Sort in
theorem Try.slices_Compact_string_empty (a : Option Addr) (cap : Nat) (w : World) :
    Calls Try.prog 42 #[.slice a 0 cap] w fun e w' => e = .returned (.slice a 0 cap) ∧ w' = w := Any.slices_Compact_string_empty Try.lays194 a cap w
open Go.RowKit Go.Sort in
theorem Try.slices_Sort_string_none (p : Option Addr) (cap : Nat) (w : World) :
    Calls Try.prog 41 #[.slice p 0 cap] w fun e w' => e = .returned (.tuple #[]) ∧ w' = w := Any.slices_Sort_string_none Try.lays190 p cap w
def Try.sortPtr_ren : Go.Shelf.Ren := ⟨fun | 6 => 30 | 15 => 39 | 14 => 38 | 28 => 56 | 29 => 57 | 20 => 48 | 21 => 49 | 22 => 50 | 23 => 51 | 24 => 52 | 25 => 53 | 26 => 54 | 27 => 55 | 46 => 63 | 47 => 64 | 48 => 65 | 49 => 66 | 50 => 67 | 57 => 77 | n => n, fun | 22 => 69 | 24 => 70 | 25 => 73 | 3 => 3 | 39 => 67 | 0 => 0 | 53 => 97 | 55 => 99 | 4 => 4 | 46 => 91 | 45 => 90 | 50 => 85 | 5 => 5 | 9 => 9 | 66 => 103 | 70 => 107 | 76 => 114 | 77 => 115 | n => n, fun | n => n⟩
set_option maxRecDepth 100000 in
theorem Try.sortPtr : Go.Proofs.SlLaysF.n6 Try.prog Try.sortPtr_ren := {
  mixed := by kernel_rfl
  f6 := ⟨Try.f30.name, by decide, Try.func30.trans (congrArg some (by kernel_rfl))⟩
  f14 := ⟨Try.f38.name, by decide, Try.func38.trans (congrArg some (by kernel_rfl))⟩
  f15 := Try.func39.trans (congrArg some (by kernel_rfl))
  f20 := ⟨Try.f48.name, by decide, Try.func48.trans (congrArg some (by kernel_rfl))⟩
  f21 := ⟨Try.f49.name, by decide, Try.func49.trans (congrArg some (by kernel_rfl))⟩
  f22 := ⟨Try.f50.name, by decide, Try.func50.trans (congrArg some (by kernel_rfl))⟩
  f23 := ⟨Try.f51.name, by decide, Try.func51.trans (congrArg some (by kernel_rfl))⟩
  f24 := ⟨Try.f52.name, by decide, Try.func52.trans (congrArg some (by kernel_rfl))⟩
  f25 := ⟨Try.f53.name, by decide, Try.func53.trans (congrArg some (by kernel_rfl))⟩
  f26 := ⟨Try.f54.name, by decide, Try.func54.trans (congrArg some (by kernel_rfl))⟩
  f27 := ⟨Try.f55.name, by decide, Try.func55.trans (congrArg some (by kernel_rfl))⟩
  f28 := Try.func56.trans (congrArg some (by kernel_rfl))
  f29 := Try.func57.trans (congrArg some (by kernel_rfl))
  f46 := ⟨Try.f63.name, by decide, Try.func63.trans (congrArg some (by kernel_rfl))⟩
  f47 := Try.func64.trans (congrArg some (by kernel_rfl))
  f48 := Try.func65.trans (congrArg some (by kernel_rfl))
  f49 := ⟨Try.f66.name, by decide, Try.func66.trans (congrArg some (by kernel_rfl))⟩
  f50 := ⟨Try.f67.name, by decide, Try.func67.trans (congrArg some (by kernel_rfl))⟩
  f57 := ⟨Try.f77.name, by decide, Try.func77.trans (congrArg some (by kernel_rfl))⟩
  t0 := Try.underlying0
  a0 := Try.isAgg0
  z0 := Try.sizeOf0
  v0 := Try.zeroValue0
  t3 := Try.underlying3
  a3 := Try.isAgg3
  z3 := Try.sizeOf3
  v3 := Try.zeroValue3
  t4 := Try.underlying4
  a4 := Try.isAgg4
  z4 := Try.sizeOf4
  v4 := Try.zeroValue4
  t5 := Try.underlying5
  a5 := Try.isAgg5
  z5 := Try.sizeOf5
  v5 := Try.zeroValue5
  t9 := Try.underlying9
  a9 := Try.isAgg9
  z9 := Try.sizeOf9
  v9 := Try.zeroValue9
  t22 := Try.underlying69
  a22 := Try.isAgg69
  z22 := Try.sizeOf69
  v22 := Try.zeroValue69
  a24 := Try.isAgg70
  z24 := Try.sizeOf70
  t25 := Try.underlying73
  a25 := Try.isAgg73
  z25 := Try.sizeOf73
  v25 := Try.zeroValue73
  t39 := Try.underlying67
  a39 := Try.isAgg67
  z39 := Try.sizeOf67
  v39 := Try.zeroValue67
  t45 := Try.underlying90
  a45 := Try.isAgg90
  z45 := Try.sizeOf90
  v45 := Try.zeroValue90
  t46 := Try.underlying91
  a46 := Try.isAgg91
  z46 := Try.sizeOf91
  v46 := Try.zeroValue91
  t50 := Try.underlying85
  a50 := Try.isAgg85
  z50 := Try.sizeOf85
  v50 := Try.zeroValue85
  t53 := Try.underlying97
  a53 := Try.isAgg97
  z53 := Try.sizeOf97
  v53 := Try.zeroValue97
  t55 := Try.underlying99
  a55 := Try.isAgg99
  z55 := Try.sizeOf99
  v55 := Try.zeroValue99
  t66 := Try.underlying103
  a66 := Try.isAgg103
  z66 := Try.sizeOf103
  v66 := Try.zeroValue103
  t70 := Try.underlying107
  a70 := Try.isAgg107
  z70 := Try.sizeOf107
  v70 := Try.zeroValue107
  t76 := Try.underlying114
  a76 := Try.isAgg114
  z76 := Try.sizeOf114
  v76 := Try.zeroValue114
  t77 := Try.underlying115
  a77 := Try.isAgg115
  z77 := Try.sizeOf115
  v77 := Try.zeroValue115 }
def Try.revRule_ren : Go.Shelf.Ren := ⟨fun | 35 => 35 | n => n, fun | 22 => 26 | 23 => 39 | 3 => 3 | 4 => 4 | 0 => 0 | n => n, fun | n => n⟩
set_option maxRecDepth 100000 in
theorem Try.revRule : Go.Proofs.SlLaysE0.n35 Try.prog Try.revRule_ren := {
  mixed := by kernel_rfl
  f35 := ⟨Try.f35.name, by decide, Try.func35.trans (congrArg some (by kernel_rfl))⟩
  t0 := Try.underlying0
  a0 := Try.isAgg0
  z0 := Try.sizeOf0
  v0 := Try.zeroValue0
  t3 := Try.underlying3
  a3 := Try.isAgg3
  z3 := Try.sizeOf3
  v3 := Try.zeroValue3
  t4 := Try.underlying4
  a4 := Try.isAgg4
  z4 := Try.sizeOf4
  v4 := Try.zeroValue4
  t22 := Try.underlying26
  a22 := Try.isAgg26
  z22 := Try.sizeOf26
  v22 := Try.zeroValue26 }
def Try.delStr_ren : Go.Shelf.Ren := ⟨fun | 10 => 43 | 6 => 60 | n => n, fun | 22 => 29 | 23 => 9 | 25 => 76 | 3 => 3 | 4 => 4 | 0 => 0 | n => n, fun | n => n⟩
set_option maxRecDepth 100000 in
theorem Try.delStr : Go.Proofs.SlLaysH.n10 Try.prog Try.delStr_ren := {
  mixed := by kernel_rfl
  f6 := ⟨Try.f60.name, by decide, Try.func60.trans (congrArg some (by kernel_rfl))⟩
  f10 := ⟨Try.f43.name, by decide, Try.func43.trans (congrArg some (by kernel_rfl))⟩
  t0 := Try.underlying0
  a0 := Try.isAgg0
  z0 := Try.sizeOf0
  v0 := Try.zeroValue0
  t3 := Try.underlying3
  a3 := Try.isAgg3
  z3 := Try.sizeOf3
  v3 := Try.zeroValue3
  t4 := Try.underlying4
  a4 := Try.isAgg4
  z4 := Try.sizeOf4
  v4 := Try.zeroValue4
  t22 := Try.underlying29
  a22 := Try.isAgg29
  z22 := Try.sizeOf29
  v22 := Try.zeroValue29
  a23 := Try.isAgg9
  z23 := Try.sizeOf9
  t25 := Try.underlying76
  a25 := Try.isAgg76
  z25 := Try.sizeOf76
  v25 := Try.zeroValue76 }
def Try.bs26_ren : Go.Shelf.Ren := ⟨fun | 26 => 45 | 33 => 61 | 34 => 62 | 38 => 76 | n => n, fun | 24 => 29 | 9 => 9 | 3 => 3 | 4 => 4 | 40 => 67 | 0 => 0 | n => n, fun | n => n⟩
theorem Try.bs26 : Go.Proofs.Lays2.n26 Try.prog Try.bs26_ren := {
  mixed := by kernel_rfl
  f26 := Try.func45.trans (congrArg some (by kernel_rfl))
  f33 := Try.func61.trans (congrArg some (by kernel_rfl))
  f34 := Try.func62.trans (congrArg some (by kernel_rfl))
  f38 := Try.func76.trans (congrArg some (by kernel_rfl))
  t0 := Try.underlying0
  a0 := Try.isAgg0
  z0 := Try.sizeOf0
  v0 := Try.zeroValue0
  t3 := Try.underlying3
  a3 := Try.isAgg3
  z3 := Try.sizeOf3
  v3 := Try.zeroValue3
  t4 := Try.underlying4
  a4 := Try.isAgg4
  z4 := Try.sizeOf4
  v4 := Try.zeroValue4
  t9 := Try.underlying9
  a9 := Try.isAgg9
  z9 := Try.sizeOf9
  v9 := Try.zeroValue9
  t24 := Try.underlying29
  a24 := Try.isAgg29
  z24 := Try.sizeOf29
  v24 := Try.zeroValue29
  t40 := Try.underlying67
  a40 := Try.isAgg67
  z40 := Try.sizeOf67
  v40 := Try.zeroValue67 }
end Go.Proofs
