/- The library's contracts at this dump (laid by the kit's tools, in plain words). -/
import Derived.Shelf.Small.Bits
import Derived.Shelf.Small.Strs
import Derived.Shelf.Sort.Plain
import Derived.Shelf.Slices.Turned
import Derived.Shelf.Slices.In.SortNone
import Derived.Shelf.SlSortCmp.Whole1
import Derived.Test.Qxb6616078aProg
namespace Go.Proofs
open Go.Shelf

def Try.lays125_ren : Go.Shelf.Ren := ⟨fun | 125 => 56 | 128 => 72 | 129 => 73 | n => n, fun | 46 => 87 | 3 => 3 | 51 => 101 | 53 => 103 | 4 => 4 | 5 => 5 | 9 => 9 | n => n, fun | n => n⟩

theorem Try.lays125 : Go.Proofs.Lays.n125 Try.prog Try.lays125_ren := {
  mixed := by kernel_rfl
  f125 := Try.func56.trans (congrArg some (by kernel_rfl))
  f128 := Try.func72.trans (congrArg some (by kernel_rfl))
  f129 := Try.func73.trans (congrArg some (by kernel_rfl))
  t3 := Try.underlying3
  a3 := Try.isAgg3
  z3 := Try.sizeOf3
  v3 := Try.zeroValue3
  t4 := Try.underlying4
  a4 := Try.isAgg4
  z4 := Try.sizeOf4
  v4 := Try.zeroValue4
  t5 := Try.underlying5
  a5 := Try.isAgg5
  z5 := Try.sizeOf5
  v5 := Try.zeroValue5
  t9 := Try.underlying9
  a9 := Try.isAgg9
  z9 := Try.sizeOf9
  v9 := Try.zeroValue9
  t46 := Try.underlying87
  a46 := Try.isAgg87
  z46 := Try.sizeOf87
  v46 := Try.zeroValue87
  t51 := Try.underlying101
  a51 := Try.isAgg101
  z51 := Try.sizeOf101
  v51 := Try.zeroValue101
  t53 := Try.underlying103
  a53 := Try.isAgg103
  z53 := Try.sizeOf103
  v53 := Try.zeroValue103 }

theorem Try.bits_Len (x : Int) (w : World) (h0 : 0 ≤ x) (h1 : x ≤ 18446744073709551615) :
    Calls Try.prog 56 #[.int .u64 x] w fun e w' => e = .returned (.int .i64 (Lib.bitLen x.toNat)) ∧ w' = w := Any.bits_Len Try.lays125 x w h0 h1

def Try.lays106_ren : Go.Shelf.Ren := ⟨fun | 106 => 47 | 213 => 58 | 265 => 82 | n => n, fun | 9 => 9 | 3 => 3 | n => n, fun | n => n⟩

theorem Try.lays106 : Go.Proofs.Lays.n106 Try.prog Try.lays106_ren := {
  mixed := by kernel_rfl
  f106 := Try.func47.trans (congrArg some (by kernel_rfl))
  f213 := Try.func58.trans (congrArg some (by kernel_rfl))
  f265 := Try.func82.trans (congrArg some (by kernel_rfl))
  t3 := Try.underlying3
  a3 := Try.isAgg3
  z3 := Try.sizeOf3
  v3 := Try.zeroValue3
  t9 := Try.underlying9
  a9 := Try.isAgg9
  z9 := Try.sizeOf9
  v9 := Try.zeroValue9 }

open Go.RowKit in
theorem Try.strings_Compare (a b : ByteArray) (w : World) :
    Calls Try.prog 47 #[.string a, .string b] w fun e w' => e = .returned (.int .i64 (Lib.compareBytes a.data.toList b.data.toList)) ∧ w' = w := Any.strings_Compare Try.lays106 a b w

def Try.lays190_ren : Go.Shelf.Ren := ⟨fun | 190 => 44 | 125 => 56 | 258 => 55 | 128 => 72 | 129 => 73 | 302 => 63 | 303 => 64 | 304 => 65 | 305 => 66 | 306 => 67 | 307 => 68 | 308 => 69 | 309 => 70 | 310 => 71 | 333 => 85 | 329 => 86 | 330 => 87 | 334 => 88 | 335 => 89 | 336 => 90 | 344 => 102 | n => n, fun | 31 => 22 | 9 => 9 | 3 => 3 | 46 => 87 | 0 => 0 | 51 => 101 | 53 => 103 | 4 => 4 | 183 => 94 | 182 => 93 | 131 => 46 | 5 => 5 | 218 => 111 | 222 => 115 | 228 => 124 | 229 => 125 | n => n, fun | n => n⟩

theorem Try.lays190 : Go.Proofs.Lays.n190 Try.prog Try.lays190_ren := {
  mixed := by kernel_rfl
  f125 := Try.func56.trans (congrArg some (by kernel_rfl))
  f128 := Try.func72.trans (congrArg some (by kernel_rfl))
  f129 := Try.func73.trans (congrArg some (by kernel_rfl))
  f190 := Try.func44.trans (congrArg some (by kernel_rfl))
  f258 := Try.func55.trans (congrArg some (by kernel_rfl))
  f302 := Try.func63.trans (congrArg some (by kernel_rfl))
  f303 := Try.func64.trans (congrArg some (by kernel_rfl))
  f304 := Try.func65.trans (congrArg some (by kernel_rfl))
  f305 := Try.func66.trans (congrArg some (by kernel_rfl))
  f306 := Try.func67.trans (congrArg some (by kernel_rfl))
  f307 := Try.func68.trans (congrArg some (by kernel_rfl))
  f308 := Try.func69.trans (congrArg some (by kernel_rfl))
  f309 := Try.func70.trans (congrArg some (by kernel_rfl))
  f310 := Try.func71.trans (congrArg some (by kernel_rfl))
  f329 := Try.func86.trans (congrArg some (by kernel_rfl))
  f330 := Try.func87.trans (congrArg some (by kernel_rfl))
  f333 := Try.func85.trans (congrArg some (by kernel_rfl))
  f334 := Try.func88.trans (congrArg some (by kernel_rfl))
  f335 := Try.func89.trans (congrArg some (by kernel_rfl))
  f336 := Try.func90.trans (congrArg some (by kernel_rfl))
  f344 := Try.func102.trans (congrArg some (by kernel_rfl))
  t0 := Try.underlying0
  a0 := Try.isAgg0
  z0 := Try.sizeOf0
  v0 := Try.zeroValue0
  t3 := Try.underlying3
  a3 := Try.isAgg3
  z3 := Try.sizeOf3
  v3 := Try.zeroValue3
  t4 := Try.underlying4
  a4 := Try.isAgg4
  z4 := Try.sizeOf4
  v4 := Try.zeroValue4
  t5 := Try.underlying5
  a5 := Try.isAgg5
  z5 := Try.sizeOf5
  v5 := Try.zeroValue5
  t9 := Try.underlying9
  a9 := Try.isAgg9
  z9 := Try.sizeOf9
  v9 := Try.zeroValue9
  t31 := Try.underlying22
  a31 := Try.isAgg22
  z31 := Try.sizeOf22
  v31 := Try.zeroValue22
  t46 := Try.underlying87
  a46 := Try.isAgg87
  z46 := Try.sizeOf87
  v46 := Try.zeroValue87
  t51 := Try.underlying101
  a51 := Try.isAgg101
  z51 := Try.sizeOf101
  v51 := Try.zeroValue101
  t53 := Try.underlying103
  a53 := Try.isAgg103
  z53 := Try.sizeOf103
  v53 := Try.zeroValue103
  t131 := Try.underlying46
  a131 := Try.isAgg46
  z131 := Try.sizeOf46
  v131 := Try.zeroValue46
  t182 := Try.underlying93
  a182 := Try.isAgg93
  z182 := Try.sizeOf93
  v182 := Try.zeroValue93
  t183 := Try.underlying94
  a183 := Try.isAgg94
  z183 := Try.sizeOf94
  v183 := Try.zeroValue94
  t218 := Try.underlying111
  a218 := Try.isAgg111
  z218 := Try.sizeOf111
  v218 := Try.zeroValue111
  t222 := Try.underlying115
  a222 := Try.isAgg115
  z222 := Try.sizeOf115
  v222 := Try.zeroValue115
  t228 := Try.underlying124
  a228 := Try.isAgg124
  z228 := Try.sizeOf124
  v228 := Try.zeroValue124
  t229 := Try.underlying125
  a229 := Try.isAgg125
  z229 := Try.sizeOf125
  v229 := Try.zeroValue125 }

open Go.Sort Go.RowKit in
theorem Try.slices_Sort_string (blk off cap : Nat) (ss : List (List UInt8)) (w : World) (hH : Holds encStr w blk off ss.toArray) (hblk : blk < w.heap.size) (hsz : ss.length < 4611686018427387904) :
    Calls Try.prog 44 #[.slice (some ⟨blk, off, none⟩) ss.length cap] w fun e w' =>
      e = .returned (.tuple #[]) ∧ ∃ n os, w' = grow (putRow encStr (Sort.ahead w n) blk off (ss.mergeSort fun x y => decide (x ≤ y)).toArray) os := Any.slices_Sort_string Try.lays190 blk off cap ss w hH hblk hsz

def Try.lays107_ren : Go.Shelf.Ren := ⟨fun | 107 => 42 | 108 => 54 | n => n, fun | 28 => 47 | 3 => 3 | 4 => 4 | 0 => 0 | n => n, fun | n => n⟩

theorem Try.lays107 : Go.Proofs.Lays.n107 Try.prog Try.lays107_ren := {
  mixed := by kernel_rfl
  f107 := Try.func42.trans (congrArg some (by kernel_rfl))
  f108 := Try.func54.trans (congrArg some (by kernel_rfl))
  t0 := Try.underlying0
  a0 := Try.isAgg0
  z0 := Try.sizeOf0
  v0 := Try.zeroValue0
  t3 := Try.underlying3
  a3 := Try.isAgg3
  z3 := Try.sizeOf3
  v3 := Try.zeroValue3
  t4 := Try.underlying4
  a4 := Try.isAgg4
  z4 := Try.sizeOf4
  v4 := Try.zeroValue4
  t28 := Try.underlying47
  a28 := Try.isAgg47
  z28 := Try.sizeOf47
  v28 := Try.zeroValue47 }

open Go.Lib in
theorem Try.slices_Contains_int (b off n c : Nat) (zs : List Int) (x : Int) (w : World) (hz : n ≤ zs.length) (hbig : n ≤ 9223372036854775807) (hc : ∀ j, j < zs.length → w.cell? ⟨b, off + j, none⟩ = some (.int .i64 (zs.getD j 0))) :
    Calls Try.prog 42 #[.slice (some ⟨b, off, none⟩) n c, .int .i64 x] w fun e w' => e = .returned (.bool ((zs.take n).contains x)) ∧ w' = w := Any.slices_Contains_int Try.lays107 b off n c zs x w hz hbig hc

open Go.Lib in
theorem Try.slices_Contains_int_empty (a : Option Addr) (c : Nat) (x : Int) (w : World) :
    Calls Try.prog 42 #[.slice a 0 c, .int .i64 x] w fun e w' => e = .returned (.bool false) ∧ w' = w := Any.slices_Contains_int_empty Try.lays107 a c x w

open Go.RowKit Go.Sort in
theorem Try.slices_Sort_string_none (p : Option Addr) (cap : Nat) (w : World) :
    Calls Try.prog 44 #[.slice p 0 cap] w fun e w' => e = .returned (.tuple #[]) ∧ w' = w := Any.slices_Sort_string_none Try.lays190 p cap w

def Try.laysSlF6_f45_ren : Go.Shelf.Ren := ⟨fun | 6 => 45 | 15 => 56 | 14 => 57 | 28 => 72 | 29 => 73 | 20 => 74 | 21 => 75 | 22 => 76 | 23 => 77 | 24 => 78 | 25 => 79 | 26 => 80 | 27 => 81 | 46 => 91 | 47 => 86 | 48 => 87 | 49 => 92 | 50 => 93 | 57 => 103 | n => n, fun | 22 => 30 | 24 => 22 | 25 => 74 | 3 => 3 | 39 => 87 | 0 => 0 | 53 => 101 | 55 => 103 | 4 => 4 | 46 => 94 | 45 => 93 | 50 => 46 | 5 => 5 | 9 => 9 | 66 => 111 | 70 => 115 | 76 => 124 | 77 => 125 | n => n, fun | n => n⟩

theorem Try.laysSlF6_f45 : Go.Proofs.SlLaysF.n6 Try.prog Try.laysSlF6_f45_ren := {
  mixed := by kernel_rfl
  f6 := ⟨Try.f45.name, by decide, Try.func45.trans (congrArg some (by kernel_rfl))⟩
  f14 := ⟨Try.f57.name, by decide, Try.func57.trans (congrArg some (by kernel_rfl))⟩
  f15 := Try.func56.trans (congrArg some (by kernel_rfl))
  f20 := ⟨Try.f74.name, by decide, Try.func74.trans (congrArg some (by kernel_rfl))⟩
  f21 := ⟨Try.f75.name, by decide, Try.func75.trans (congrArg some (by kernel_rfl))⟩
  f22 := ⟨Try.f76.name, by decide, Try.func76.trans (congrArg some (by kernel_rfl))⟩
  f23 := ⟨Try.f77.name, by decide, Try.func77.trans (congrArg some (by kernel_rfl))⟩
  f24 := ⟨Try.f78.name, by decide, Try.func78.trans (congrArg some (by kernel_rfl))⟩
  f25 := ⟨Try.f79.name, by decide, Try.func79.trans (congrArg some (by kernel_rfl))⟩
  f26 := ⟨Try.f80.name, by decide, Try.func80.trans (congrArg some (by kernel_rfl))⟩
  f27 := ⟨Try.f81.name, by decide, Try.func81.trans (congrArg some (by kernel_rfl))⟩
  f28 := Try.func72.trans (congrArg some (by kernel_rfl))
  f29 := Try.func73.trans (congrArg some (by kernel_rfl))
  f46 := ⟨Try.f91.name, by decide, Try.func91.trans (congrArg some (by kernel_rfl))⟩
  f47 := Try.func86.trans (congrArg some (by kernel_rfl))
  f48 := Try.func87.trans (congrArg some (by kernel_rfl))
  f49 := ⟨Try.f92.name, by decide, Try.func92.trans (congrArg some (by kernel_rfl))⟩
  f50 := ⟨Try.f93.name, by decide, Try.func93.trans (congrArg some (by kernel_rfl))⟩
  f57 := ⟨Try.f103.name, by decide, Try.func103.trans (congrArg some (by kernel_rfl))⟩
  t0 := Try.underlying0
  a0 := Try.isAgg0
  z0 := Try.sizeOf0
  v0 := Try.zeroValue0
  t3 := Try.underlying3
  a3 := Try.isAgg3
  z3 := Try.sizeOf3
  v3 := Try.zeroValue3
  t4 := Try.underlying4
  a4 := Try.isAgg4
  z4 := Try.sizeOf4
  v4 := Try.zeroValue4
  t5 := Try.underlying5
  a5 := Try.isAgg5
  z5 := Try.sizeOf5
  v5 := Try.zeroValue5
  t9 := Try.underlying9
  a9 := Try.isAgg9
  z9 := Try.sizeOf9
  v9 := Try.zeroValue9
  t22 := Try.underlying30
  a22 := Try.isAgg30
  z22 := Try.sizeOf30
  v22 := Try.zeroValue30
  a24 := Try.isAgg22
  z24 := Try.sizeOf22
  t25 := Try.underlying74
  a25 := Try.isAgg74
  z25 := Try.sizeOf74
  v25 := Try.zeroValue74
  t39 := Try.underlying87
  a39 := Try.isAgg87
  z39 := Try.sizeOf87
  v39 := Try.zeroValue87
  t45 := Try.underlying93
  a45 := Try.isAgg93
  z45 := Try.sizeOf93
  v45 := Try.zeroValue93
  t46 := Try.underlying94
  a46 := Try.isAgg94
  z46 := Try.sizeOf94
  v46 := Try.zeroValue94
  t50 := Try.underlying46
  a50 := Try.isAgg46
  z50 := Try.sizeOf46
  v50 := Try.zeroValue46
  t53 := Try.underlying101
  a53 := Try.isAgg101
  z53 := Try.sizeOf101
  v53 := Try.zeroValue101
  t55 := Try.underlying103
  a55 := Try.isAgg103
  z55 := Try.sizeOf103
  v55 := Try.zeroValue103
  t66 := Try.underlying111
  a66 := Try.isAgg111
  z66 := Try.sizeOf111
  v66 := Try.zeroValue111
  t70 := Try.underlying115
  a70 := Try.isAgg115
  z70 := Try.sizeOf115
  v70 := Try.zeroValue115
  t76 := Try.underlying124
  a76 := Try.isAgg124
  z76 := Try.sizeOf124
  v76 := Try.zeroValue124
  t77 := Try.underlying125
  a77 := Try.isAgg125
  z77 := Try.sizeOf125
  v77 := Try.zeroValue125 }

open Go.RowKit Go.Lib Go.Sort in
theorem Try.slices_SortFunc_eq_f45 {α : Type} [Inhabited α] (enc : α → Value) (h1 : OneCell enc) (cf : α → α → Int) (hO : SWO (ltOf cf)) (g : Nat) (cb : Array Value) (blk off cap : Nat) (d : Array α) (w : World) (eg : ∀ args w, (callFunc g args).run Try.prog w = .ok (.enter g args) w) (hcmp : CmpLays1 Try.prog g cb enc cf blk off d.size w) (hH : Holds enc w blk off d) (hblk : blk < w.heap.size) (hsz : d.size < 4611686018427387904) :
    Calls Try.prog 45 #[.slice (some ⟨blk, off, none⟩) d.size cap, .func (.func g) #[] cb] w fun e w' =>
      e = .returned (.tuple #[]) ∧ ∃ n os, w' = sortWorld enc w blk off n (pdq (ltOf cf) d 0 d.size (Lib.bitLen d.size) true true) os := Any.slices_SortFunc_eq Try.laysSlF6_f45 enc h1 cf hO g cb blk off cap d w eg hcmp hH hblk hsz

open Go.RowKit Go.Lib Go.Sort in
theorem Try.slices_SortFunc_f45 {α : Type} [Inhabited α] (enc : α → Value) (h1 : OneCell enc) (cf : α → α → Int) (hO : SWO (ltOf cf)) (g : Nat) (cb : Array Value) (blk off cap : Nat) (d : Array α) (w : World) (eg : ∀ args w, (callFunc g args).run Try.prog w = .ok (.enter g args) w) (hcmp : CmpLays1 Try.prog g cb enc cf blk off d.size w) (hH : Holds enc w blk off d) (hblk : blk < w.heap.size) (hsz : d.size < 4611686018427387904) :
    Calls Try.prog 45 #[.slice (some ⟨blk, off, none⟩) d.size cap, .func (.func g) #[] cb] w fun e w' =>
      e = .returned (.tuple #[]) ∧ ∃ d' n os, PermIn 0 d.size d d' ∧ SortedIn (ltOf cf) 0 d.size d' ∧ w' = sortWorld enc w blk off n d' os := Any.slices_SortFunc Try.laysSlF6_f45 enc h1 cf hO g cb blk off cap d w eg hcmp hH hblk hsz
end Go.Proofs
