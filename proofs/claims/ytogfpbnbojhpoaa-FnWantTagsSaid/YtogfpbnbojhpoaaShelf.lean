/-
  DERIVED: THE SHELF's CONTRACTS AT THIS DUMP, IN PLAIN WORDS (tools/lay-plain.mjs out of 'TryShelf.lean', which tools/lay-shelf.mjs wrote): THE SAME DECLARATIONS UNDER THE SAME NAMES: 'import', 'namespace', 'open', 'def', 'theorem' AND NOTHING ELSE: no command of the shelf's: FOR A HAND-IN. Each laying: the table of numbers ('.._ren') and one theorem, a field a fact of the dump's own or the kernel's comparison; each contract: ONE APPLICATION.
-/
import Derived.Shelf.Small.Bits
import Derived.Shelf.Strconv.Itoa0
import Derived.Shelf.Sort.Plain
import Derived.Shelf.Slices.In.SortNone
import Derived.Test.YtogfpbnbojhpoaaProg
namespace Go.Proofs
open Go.Shelf
def Try.lays128_ren : Go.Shelf.Ren := ⟨fun | 128 => 97 | n => n, fun | 51 => 140 | 3 => 3 | 4 => 4 | 46 => 118 | 5 => 5 | 9 => 9 | n => n, fun | n => n⟩
theorem Try.lays128 : Go.Proofs.Lays.n128 Try.prog Try.lays128_ren := {
  mixed := by kernel_rfl
  f128 := Try.func97.trans (congrArg some (by kernel_rfl))
  t3 := Try.underlying3
  a3 := Try.isAgg3
  z3 := Try.sizeOf3
  v3 := Try.zeroValue3
  t4 := Try.underlying4
  a4 := Try.isAgg4
  z4 := Try.sizeOf4
  v4 := Try.zeroValue4
  t5 := Try.underlying5
  a5 := Try.isAgg5
  z5 := Try.sizeOf5
  v5 := Try.zeroValue5
  t9 := Try.underlying9
  a9 := Try.isAgg9
  z9 := Try.sizeOf9
  v9 := Try.zeroValue9
  t46 := Try.underlying118
  a46 := Try.isAgg118
  z46 := Try.sizeOf118
  v46 := Try.zeroValue118
  t51 := Try.underlying140
  a51 := Try.isAgg140
  z51 := Try.sizeOf140
  v51 := Try.zeroValue140 }
/-- bits.Len32: "Len32 returns the minimum number of bits required to represent x; the result is 0 for x == 0.": IT RETURNS 'Lib.bitLen x'; the world is as it was. ('h0', 'h1': x is a uint32.) (LAID: no walk: one application.) -/
theorem Try.bits_Len32 (x : Int) (w : World) (h0 : 0 ≤ x) (h1 : x ≤ 4294967295) :
    Calls Try.prog 97 #[.int .u32 x] w fun e w' => e = .returned (.int .i64 (Lib.bitLen x.toNat)) ∧ w' = w := Any.bits_Len32 Try.lays128 x w h0 h1
def Try.lays125_ren : Go.Shelf.Ren := ⟨fun | 125 => 78 | 128 => 97 | 129 => 98 | n => n, fun | 46 => 118 | 3 => 3 | 51 => 140 | 53 => 142 | 4 => 4 | 5 => 5 | 9 => 9 | n => n, fun | n => n⟩
theorem Try.lays125 : Go.Proofs.Lays.n125 Try.prog Try.lays125_ren := {
  mixed := by kernel_rfl
  f125 := Try.func78.trans (congrArg some (by kernel_rfl))
  f128 := Try.func97.trans (congrArg some (by kernel_rfl))
  f129 := Try.func98.trans (congrArg some (by kernel_rfl))
  t3 := Try.underlying3
  a3 := Try.isAgg3
  z3 := Try.sizeOf3
  v3 := Try.zeroValue3
  t4 := Try.underlying4
  a4 := Try.isAgg4
  z4 := Try.sizeOf4
  v4 := Try.zeroValue4
  t5 := Try.underlying5
  a5 := Try.isAgg5
  z5 := Try.sizeOf5
  v5 := Try.zeroValue5
  t9 := Try.underlying9
  a9 := Try.isAgg9
  z9 := Try.sizeOf9
  v9 := Try.zeroValue9
  t46 := Try.underlying118
  a46 := Try.isAgg118
  z46 := Try.sizeOf118
  v46 := Try.zeroValue118
  t51 := Try.underlying140
  a51 := Try.isAgg140
  z51 := Try.sizeOf140
  v51 := Try.zeroValue140
  t53 := Try.underlying142
  a53 := Try.isAgg142
  z53 := Try.sizeOf142
  v53 := Try.zeroValue142 }
/-- bits.Len: "Len returns the minimum number of bits required to represent x; the result is 0 for x == 0.": IT RETURNS 'Lib.bitLen x'; the world is as it was. (A uint has 64 bits in the model.) ITS CALLEE bits.Len64 IS MET BY ITS OWN CONTRACT OFF THE SHELF (lay that first). (LAID: no walk: one application.) -/
theorem Try.bits_Len (x : Int) (w : World) (h0 : 0 ≤ x) (h1 : x ≤ 18446744073709551615) :
    Calls Try.prog 78 #[.int .u64 x] w fun e w' => e = .returned (.int .i64 (Lib.bitLen x.toNat)) ∧ w' = w := Any.bits_Len Try.lays125 x w h0 h1
def Try.lays129_ren : Go.Shelf.Ren := ⟨fun | 129 => 98 | n => n, fun | 53 => 142 | 3 => 3 | 4 => 4 | 46 => 118 | 5 => 5 | 9 => 9 | n => n, fun | n => n⟩
theorem Try.lays129 : Go.Proofs.Lays.n129 Try.prog Try.lays129_ren := {
  mixed := by kernel_rfl
  f129 := Try.func98.trans (congrArg some (by kernel_rfl))
  t3 := Try.underlying3
  a3 := Try.isAgg3
  z3 := Try.sizeOf3
  v3 := Try.zeroValue3
  t4 := Try.underlying4
  a4 := Try.isAgg4
  z4 := Try.sizeOf4
  v4 := Try.zeroValue4
  t5 := Try.underlying5
  a5 := Try.isAgg5
  z5 := Try.sizeOf5
  v5 := Try.zeroValue5
  t9 := Try.underlying9
  a9 := Try.isAgg9
  z9 := Try.sizeOf9
  v9 := Try.zeroValue9
  t46 := Try.underlying118
  a46 := Try.isAgg118
  z46 := Try.sizeOf118
  v46 := Try.zeroValue118
  t53 := Try.underlying142
  a53 := Try.isAgg142
  z53 := Try.sizeOf142
  v53 := Try.zeroValue142 }
/-- bits.Len64: "Len64 returns the minimum number of bits required to represent x; the result is 0 for x == 0.": IT RETURNS 'Lib.bitLen x'; the world is as it was. ('h0', 'h1': x is a uint64.) (LAID: no walk: one application.) -/
theorem Try.bits_Len64 (x : Int) (w : World) (h0 : 0 ≤ x) (h1 : x ≤ 18446744073709551615) :
    Calls Try.prog 98 #[.int .u64 x] w fun e w' => e = .returned (.int .i64 (Lib.bitLen x.toNat)) ∧ w' = w := Any.bits_Len64 Try.lays129 x w h0 h1
def Try.lays190_ren : Go.Shelf.Ren := ⟨fun | 190 => 66 | 125 => 78 | 258 => 77 | 128 => 97 | 129 => 98 | 302 => 88 | 303 => 89 | 304 => 90 | 305 => 91 | 306 => 92 | 307 => 93 | 308 => 94 | 309 => 95 | 310 => 96 | 333 => 105 | 329 => 106 | 330 => 107 | 334 => 108 | 335 => 109 | 336 => 110 | 344 => 111 | n => n, fun | 31 => 24 | 9 => 9 | 3 => 3 | 46 => 118 | 0 => 0 | 51 => 140 | 53 => 142 | 4 => 4 | 183 => 132 | 182 => 131 | 131 => 137 | 5 => 5 | 218 => 149 | 222 => 89 | 228 => 157 | 229 => 158 | n => n, fun | n => n⟩
theorem Try.lays190 : Go.Proofs.Lays.n190 Try.prog Try.lays190_ren := {
  mixed := by kernel_rfl
  f125 := Try.func78.trans (congrArg some (by kernel_rfl))
  f128 := Try.func97.trans (congrArg some (by kernel_rfl))
  f129 := Try.func98.trans (congrArg some (by kernel_rfl))
  f190 := Try.func66.trans (congrArg some (by kernel_rfl))
  f258 := Try.func77.trans (congrArg some (by kernel_rfl))
  f302 := Try.func88.trans (congrArg some (by kernel_rfl))
  f303 := Try.func89.trans (congrArg some (by kernel_rfl))
  f304 := Try.func90.trans (congrArg some (by kernel_rfl))
  f305 := Try.func91.trans (congrArg some (by kernel_rfl))
  f306 := Try.func92.trans (congrArg some (by kernel_rfl))
  f307 := Try.func93.trans (congrArg some (by kernel_rfl))
  f308 := Try.func94.trans (congrArg some (by kernel_rfl))
  f309 := Try.func95.trans (congrArg some (by kernel_rfl))
  f310 := Try.func96.trans (congrArg some (by kernel_rfl))
  f329 := Try.func106.trans (congrArg some (by kernel_rfl))
  f330 := Try.func107.trans (congrArg some (by kernel_rfl))
  f333 := Try.func105.trans (congrArg some (by kernel_rfl))
  f334 := Try.func108.trans (congrArg some (by kernel_rfl))
  f335 := Try.func109.trans (congrArg some (by kernel_rfl))
  f336 := Try.func110.trans (congrArg some (by kernel_rfl))
  f344 := Try.func111.trans (congrArg some (by kernel_rfl))
  t0 := Try.underlying0
  a0 := Try.isAgg0
  z0 := Try.sizeOf0
  v0 := Try.zeroValue0
  t3 := Try.underlying3
  a3 := Try.isAgg3
  z3 := Try.sizeOf3
  v3 := Try.zeroValue3
  t4 := Try.underlying4
  a4 := Try.isAgg4
  z4 := Try.sizeOf4
  v4 := Try.zeroValue4
  t5 := Try.underlying5
  a5 := Try.isAgg5
  z5 := Try.sizeOf5
  v5 := Try.zeroValue5
  t9 := Try.underlying9
  a9 := Try.isAgg9
  z9 := Try.sizeOf9
  v9 := Try.zeroValue9
  t31 := Try.underlying24
  a31 := Try.isAgg24
  z31 := Try.sizeOf24
  v31 := Try.zeroValue24
  t46 := Try.underlying118
  a46 := Try.isAgg118
  z46 := Try.sizeOf118
  v46 := Try.zeroValue118
  t51 := Try.underlying140
  a51 := Try.isAgg140
  z51 := Try.sizeOf140
  v51 := Try.zeroValue140
  t53 := Try.underlying142
  a53 := Try.isAgg142
  z53 := Try.sizeOf142
  v53 := Try.zeroValue142
  t131 := Try.underlying137
  a131 := Try.isAgg137
  z131 := Try.sizeOf137
  v131 := Try.zeroValue137
  t182 := Try.underlying131
  a182 := Try.isAgg131
  z182 := Try.sizeOf131
  v182 := Try.zeroValue131
  t183 := Try.underlying132
  a183 := Try.isAgg132
  z183 := Try.sizeOf132
  v183 := Try.zeroValue132
  t218 := Try.underlying149
  a218 := Try.isAgg149
  z218 := Try.sizeOf149
  v218 := Try.zeroValue149
  t222 := Try.underlying89
  a222 := Try.isAgg89
  z222 := Try.sizeOf89
  v222 := Try.zeroValue89
  t228 := Try.underlying157
  a228 := Try.isAgg157
  z228 := Try.sizeOf157
  v228 := Try.zeroValue157
  t229 := Try.underlying158
  a229 := Try.isAgg158
  z229 := Try.sizeOf158
  v229 := Try.zeroValue158 }
open Go.Sort Go.RowKit in
theorem Try.slices_Sort_string (blk off cap : Nat) (ss : List (List UInt8)) (w : World) (hH : Holds encStr w blk off ss.toArray) (hblk : blk < w.heap.size) (hsz : ss.length < 4611686018427387904) :
    Calls Try.prog 66 #[.slice (some ⟨blk, off, none⟩) ss.length cap] w fun e w' =>
      e = .returned (.tuple #[]) ∧ ∃ n os, w' = grow (putRow encStr (Sort.ahead w n) blk off (ss.mergeSort fun x y => decide (x ≤ y)).toArray) os := Any.slices_Sort_string Try.lays190 blk off cap ss w hH hblk hsz
open Go.RowKit Go.Sort in
/-- .. and plain. (LAID: no walk: one application.) -/
theorem Try.slices_Sort_string_none (p : Option Addr) (cap : Nat) (w : World) :
    Calls Try.prog 66 #[.slice p 0 cap] w fun e w' => e = .returned (.tuple #[]) ∧ w' = w := Any.slices_Sort_string_none Try.lays190 p cap w
end Go.Proofs
