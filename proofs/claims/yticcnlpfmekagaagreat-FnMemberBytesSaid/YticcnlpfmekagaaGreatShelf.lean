/-
  The library's sorts and searches, laid at this program: the plain text that the kit's own program writes.
-/
import Derived.Shelf.Small.Bits
import Derived.Shelf.Sort.Plain
import Derived.Ground.NamesProg
import Derived.Test.YticcnlpfmekagaaGreatProg
namespace Go.Proofs
open Go.Shelf
set_option linter.unusedVariables false
set_option linter.unusedSimpArgs false
def Tryz.lays125_ren : Go.Shelf.Ren := ⟨fun | 125 => 78 | 128 => 104 | 129 => 105 | n => n, fun | 46 => 151 | 3 => 3 | 51 => 103 | 53 => 98 | 4 => 4 | 5 => 5 | 9 => 9 | n => n, fun | n => n⟩
theorem Tryz.lays125 : Go.Proofs.Lays.n125 Tryz.prog Tryz.lays125_ren := {
  mixed := by kernel_rfl
  f125 := Tryz.func78.trans (congrArg some (by kernel_rfl))
  f128 := Tryz.func104.trans (congrArg some (by kernel_rfl))
  f129 := Tryz.func105.trans (congrArg some (by kernel_rfl))
  t3 := Tryz.underlying3
  a3 := Tryz.isAgg3
  z3 := Tryz.sizeOf3
  v3 := Tryz.zeroValue3
  t4 := Tryz.underlying4
  a4 := Tryz.isAgg4
  z4 := Tryz.sizeOf4
  v4 := Tryz.zeroValue4
  t5 := Tryz.underlying5
  a5 := Tryz.isAgg5
  z5 := Tryz.sizeOf5
  v5 := Tryz.zeroValue5
  t9 := Tryz.underlying9
  a9 := Tryz.isAgg9
  z9 := Tryz.sizeOf9
  v9 := Tryz.zeroValue9
  t46 := Tryz.underlying151
  a46 := Tryz.isAgg151
  z46 := Tryz.sizeOf151
  v46 := Tryz.zeroValue151
  t51 := Tryz.underlying103
  a51 := Tryz.isAgg103
  z51 := Tryz.sizeOf103
  v51 := Tryz.zeroValue103
  t53 := Tryz.underlying98
  a53 := Tryz.isAgg98
  z53 := Tryz.sizeOf98
  v53 := Tryz.zeroValue98 }
/-- bits.Len: "Len returns the minimum number of bits required to represent x; the result is 0 for x == 0.": IT RETURNS 'Lib.bitLen x'; the world is as it was. (A uint has 64 bits in the model.) ITS CALLEE bits.Len64 IS MET BY ITS OWN CONTRACT OFF THE SHELF (lay that first). (LAID: no walk: one application.) -/
theorem Tryz.bits_Len (x : Int) (w : World) (h0 : 0 ≤ x) (h1 : x ≤ 18446744073709551615) :
    Calls Tryz.prog 78 #[.int .u64 x] w fun e w' => e = .returned (.int .i64 (Lib.bitLen x.toNat)) ∧ w' = w := Any.bits_Len Tryz.lays125 x w h0 h1
def Tryz.lays190_ren : Go.Shelf.Ren := ⟨fun | 190 => 48 | 125 => 78 | 258 => 77 | 128 => 104 | 129 => 105 | 302 => 95 | 303 => 96 | 304 => 97 | 305 => 98 | 306 => 99 | 307 => 100 | 308 => 101 | 309 => 102 | 310 => 103 | 333 => 120 | 329 => 121 | 330 => 122 | 334 => 123 | 335 => 124 | 336 => 125 | 344 => 134 | n => n, fun | 31 => 27 | 9 => 9 | 3 => 3 | 46 => 151 | 0 => 0 | 51 => 103 | 53 => 98 | 4 => 4 | 183 => 185 | 182 => 184 | 131 => 190 | 5 => 5 | 218 => 235 | 222 => 239 | 228 => 260 | 229 => 261 | n => n, fun | n => n⟩
theorem Tryz.lays190 : Go.Proofs.Lays.n190 Tryz.prog Tryz.lays190_ren := {
  mixed := by kernel_rfl
  f125 := Tryz.func78.trans (congrArg some (by kernel_rfl))
  f128 := Tryz.func104.trans (congrArg some (by kernel_rfl))
  f129 := Tryz.func105.trans (congrArg some (by kernel_rfl))
  f190 := Tryz.func48.trans (congrArg some (by kernel_rfl))
  f258 := Tryz.func77.trans (congrArg some (by kernel_rfl))
  f302 := Tryz.func95.trans (congrArg some (by kernel_rfl))
  f303 := Tryz.func96.trans (congrArg some (by kernel_rfl))
  f304 := Tryz.func97.trans (congrArg some (by kernel_rfl))
  f305 := Tryz.func98.trans (congrArg some (by kernel_rfl))
  f306 := Tryz.func99.trans (congrArg some (by kernel_rfl))
  f307 := Tryz.func100.trans (congrArg some (by kernel_rfl))
  f308 := Tryz.func101.trans (congrArg some (by kernel_rfl))
  f309 := Tryz.func102.trans (congrArg some (by kernel_rfl))
  f310 := Tryz.func103.trans (congrArg some (by kernel_rfl))
  f329 := Tryz.func121.trans (congrArg some (by kernel_rfl))
  f330 := Tryz.func122.trans (congrArg some (by kernel_rfl))
  f333 := Tryz.func120.trans (congrArg some (by kernel_rfl))
  f334 := Tryz.func123.trans (congrArg some (by kernel_rfl))
  f335 := Tryz.func124.trans (congrArg some (by kernel_rfl))
  f336 := Tryz.func125.trans (congrArg some (by kernel_rfl))
  f344 := Tryz.func134.trans (congrArg some (by kernel_rfl))
  t0 := Tryz.underlying0
  a0 := Tryz.isAgg0
  z0 := Tryz.sizeOf0
  v0 := Tryz.zeroValue0
  t3 := Tryz.underlying3
  a3 := Tryz.isAgg3
  z3 := Tryz.sizeOf3
  v3 := Tryz.zeroValue3
  t4 := Tryz.underlying4
  a4 := Tryz.isAgg4
  z4 := Tryz.sizeOf4
  v4 := Tryz.zeroValue4
  t5 := Tryz.underlying5
  a5 := Tryz.isAgg5
  z5 := Tryz.sizeOf5
  v5 := Tryz.zeroValue5
  t9 := Tryz.underlying9
  a9 := Tryz.isAgg9
  z9 := Tryz.sizeOf9
  v9 := Tryz.zeroValue9
  t31 := Tryz.underlying27
  a31 := Tryz.isAgg27
  z31 := Tryz.sizeOf27
  v31 := Tryz.zeroValue27
  t46 := Tryz.underlying151
  a46 := Tryz.isAgg151
  z46 := Tryz.sizeOf151
  v46 := Tryz.zeroValue151
  t51 := Tryz.underlying103
  a51 := Tryz.isAgg103
  z51 := Tryz.sizeOf103
  v51 := Tryz.zeroValue103
  t53 := Tryz.underlying98
  a53 := Tryz.isAgg98
  z53 := Tryz.sizeOf98
  v53 := Tryz.zeroValue98
  t131 := Tryz.underlying190
  a131 := Tryz.isAgg190
  z131 := Tryz.sizeOf190
  v131 := Tryz.zeroValue190
  t182 := Tryz.underlying184
  a182 := Tryz.isAgg184
  z182 := Tryz.sizeOf184
  v182 := Tryz.zeroValue184
  t183 := Tryz.underlying185
  a183 := Tryz.isAgg185
  z183 := Tryz.sizeOf185
  v183 := Tryz.zeroValue185
  t218 := Tryz.underlying235
  a218 := Tryz.isAgg235
  z218 := Tryz.sizeOf235
  v218 := Tryz.zeroValue235
  t222 := Tryz.underlying239
  a222 := Tryz.isAgg239
  z222 := Tryz.sizeOf239
  v222 := Tryz.zeroValue239
  t228 := Tryz.underlying260
  a228 := Tryz.isAgg260
  z228 := Tryz.sizeOf260
  v228 := Tryz.zeroValue260
  t229 := Tryz.underlying261
  a229 := Tryz.isAgg261
  z229 := Tryz.sizeOf261
  v229 := Tryz.zeroValue261 }
open Go.Sort Go.RowKit in
theorem Tryz.slices_Sort_string (blk off cap : Nat) (ss : List (List UInt8)) (w : World) (hH : Holds encStr w blk off ss.toArray) (hblk : blk < w.heap.size) (hsz : ss.length < 4611686018427387904) :
    Calls Tryz.prog 48 #[.slice (some ⟨blk, off, none⟩) ss.length cap] w fun e w' =>
      e = .returned (.tuple #[]) ∧ ∃ n os, w' = grow (putRow encStr (Sort.ahead w n) blk off (ss.mergeSort fun x y => decide (x ≤ y)).toArray) os := Any.slices_Sort_string Tryz.lays190 blk off cap ss w hH hblk hsz
def Tryz.lays192_ren : Go.Shelf.Ren := ⟨fun | 192 => 91 | 190 => 48 | 125 => 78 | 258 => 77 | 128 => 104 | 129 => 105 | 302 => 95 | 303 => 96 | 304 => 97 | 305 => 98 | 306 => 99 | 307 => 100 | 308 => 101 | 309 => 102 | 310 => 103 | 333 => 120 | 329 => 121 | 330 => 122 | 334 => 123 | 335 => 124 | 336 => 125 | 344 => 134 | n => n, fun | 31 => 27 | 0 => 0 | 9 => 9 | 3 => 3 | 46 => 151 | 51 => 103 | 53 => 98 | 4 => 4 | 183 => 185 | 182 => 184 | 131 => 190 | 5 => 5 | 218 => 235 | 222 => 239 | 228 => 260 | 229 => 261 | n => n, fun | n => n⟩
theorem Tryz.lays192 : Go.Proofs.Lays.n192 Tryz.prog Tryz.lays192_ren := {
  mixed := by kernel_rfl
  f125 := Tryz.func78.trans (congrArg some (by kernel_rfl))
  f128 := Tryz.func104.trans (congrArg some (by kernel_rfl))
  f129 := Tryz.func105.trans (congrArg some (by kernel_rfl))
  f190 := Tryz.func48.trans (congrArg some (by kernel_rfl))
  f192 := Tryz.func91.trans (congrArg some (by kernel_rfl))
  f258 := Tryz.func77.trans (congrArg some (by kernel_rfl))
  f302 := Tryz.func95.trans (congrArg some (by kernel_rfl))
  f303 := Tryz.func96.trans (congrArg some (by kernel_rfl))
  f304 := Tryz.func97.trans (congrArg some (by kernel_rfl))
  f305 := Tryz.func98.trans (congrArg some (by kernel_rfl))
  f306 := Tryz.func99.trans (congrArg some (by kernel_rfl))
  f307 := Tryz.func100.trans (congrArg some (by kernel_rfl))
  f308 := Tryz.func101.trans (congrArg some (by kernel_rfl))
  f309 := Tryz.func102.trans (congrArg some (by kernel_rfl))
  f310 := Tryz.func103.trans (congrArg some (by kernel_rfl))
  f329 := Tryz.func121.trans (congrArg some (by kernel_rfl))
  f330 := Tryz.func122.trans (congrArg some (by kernel_rfl))
  f333 := Tryz.func120.trans (congrArg some (by kernel_rfl))
  f334 := Tryz.func123.trans (congrArg some (by kernel_rfl))
  f335 := Tryz.func124.trans (congrArg some (by kernel_rfl))
  f336 := Tryz.func125.trans (congrArg some (by kernel_rfl))
  f344 := Tryz.func134.trans (congrArg some (by kernel_rfl))
  t0 := Tryz.underlying0
  a0 := Tryz.isAgg0
  z0 := Tryz.sizeOf0
  v0 := Tryz.zeroValue0
  t3 := Tryz.underlying3
  a3 := Tryz.isAgg3
  z3 := Tryz.sizeOf3
  v3 := Tryz.zeroValue3
  t4 := Tryz.underlying4
  a4 := Tryz.isAgg4
  z4 := Tryz.sizeOf4
  v4 := Tryz.zeroValue4
  t5 := Tryz.underlying5
  a5 := Tryz.isAgg5
  z5 := Tryz.sizeOf5
  v5 := Tryz.zeroValue5
  t9 := Tryz.underlying9
  a9 := Tryz.isAgg9
  z9 := Tryz.sizeOf9
  v9 := Tryz.zeroValue9
  t31 := Tryz.underlying27
  a31 := Tryz.isAgg27
  z31 := Tryz.sizeOf27
  v31 := Tryz.zeroValue27
  t46 := Tryz.underlying151
  a46 := Tryz.isAgg151
  z46 := Tryz.sizeOf151
  v46 := Tryz.zeroValue151
  t51 := Tryz.underlying103
  a51 := Tryz.isAgg103
  z51 := Tryz.sizeOf103
  v51 := Tryz.zeroValue103
  t53 := Tryz.underlying98
  a53 := Tryz.isAgg98
  z53 := Tryz.sizeOf98
  v53 := Tryz.zeroValue98
  t131 := Tryz.underlying190
  a131 := Tryz.isAgg190
  z131 := Tryz.sizeOf190
  v131 := Tryz.zeroValue190
  t182 := Tryz.underlying184
  a182 := Tryz.isAgg184
  z182 := Tryz.sizeOf184
  v182 := Tryz.zeroValue184
  t183 := Tryz.underlying185
  a183 := Tryz.isAgg185
  z183 := Tryz.sizeOf185
  v183 := Tryz.zeroValue185
  t218 := Tryz.underlying235
  a218 := Tryz.isAgg235
  z218 := Tryz.sizeOf235
  v218 := Tryz.zeroValue235
  t222 := Tryz.underlying239
  a222 := Tryz.isAgg239
  z222 := Tryz.sizeOf239
  v222 := Tryz.zeroValue239
  t228 := Tryz.underlying260
  a228 := Tryz.isAgg260
  z228 := Tryz.sizeOf260
  v228 := Tryz.zeroValue260
  t229 := Tryz.underlying261
  a229 := Tryz.isAgg261
  z229 := Tryz.sizeOf261
  v229 := Tryz.zeroValue261 }
open Go.Sort Go.RowKit in
theorem Tryz.sort_Strings (blk off cap : Nat) (ss : List (List UInt8)) (w : World) (hH : Holds encStr w blk off ss.toArray) (hblk : blk < w.heap.size) (hsz : ss.length < 4611686018427387904) :
    Calls Tryz.prog 91 #[.slice (some ⟨blk, off, none⟩) ss.length cap] w fun e w' =>
      e = .returned (.tuple #[]) ∧ ∃ n os, w' = grow (putRow encStr (Sort.ahead w n) blk off (ss.mergeSort fun x y => decide (x ≤ y)).toArray) os := Any.sort_Strings Tryz.lays192 blk off cap ss w hH hblk hsz
end Go.Proofs
