/-
  DERIVED: THE SHELF's CONTRACTS AT THIS DUMP, IN PLAIN WORDS (tools/lay-plain.mjs out of 'TrydShelf.lean', which tools/lay-shelf.mjs wrote): THE SAME DECLARATIONS UNDER THE SAME NAMES: 'import', 'namespace', 'open', 'def', 'theorem' AND NOTHING ELSE: no command of the shelf's: FOR A HAND-IN. Each laying: the table of numbers ('.._ren') and one theorem, a field a fact of the dump's own or the kernel's comparison; each contract: ONE APPLICATION.
-/
import Derived.Shelf.Strconv.Itoa3
import Derived.Shelf.Sort.Plain
import Derived.Shelf.Unicode.Decode
import Derived.Shelf.Slices.Turned
import Derived.Shelf.Slices.Equal
import Derived.Shelf.Slices.In.SortNone
import Derived.Shelf.Slices.In.SortNone2
import Derived.Shelf.Slices.Empties2
import Derived.Test.YtbfadghogjldcaaDoorProg
namespace Go.Proofs
open Go.Shelf
def Tryd.lays171_ren : Go.Shelf.Ren := ⟨fun | 171 => 37 | 243 => 44 | 246 => 55 | 283 => 61 | 284 => 62 | 285 => 63 | 286 => 64 | 129 => 54 | 317 => 66 | 318 => 67 | 319 => 68 | 320 => 69 | 337 => 70 | 338 => 71 | n => n, fun | 3 => 3 | 9 => 9 | 2 => 2 | 4 => 4 | 171 => 120 | 0 => 0 | 53 => 102 | 37 => 22 | 5 => 5 | 173 => 122 | 212 => 129 | 51 => 100 | 20 => 20 | 213 => 130 | 46 => 79 | 232 => 132 | 233 => 133 | n => n, fun | 17 => 2 | 18 => 3 | 19 => 4 | n => n⟩
theorem Tryd.lays171 : Go.Proofs.Lays.n171 Tryd.prog Tryd.lays171_ren := {
  mixed := by kernel_rfl
  f129 := Tryd.func54.trans (congrArg some (by kernel_rfl))
  f171 := Tryd.func37.trans (congrArg some (by kernel_rfl))
  f243 := Tryd.func44.trans (congrArg some (by kernel_rfl))
  f246 := Tryd.func55.trans (congrArg some (by kernel_rfl))
  f283 := Tryd.func61.trans (congrArg some (by kernel_rfl))
  f284 := Tryd.func62.trans (congrArg some (by kernel_rfl))
  f285 := Tryd.func63.trans (congrArg some (by kernel_rfl))
  f286 := Tryd.func64.trans (congrArg some (by kernel_rfl))
  f317 := Tryd.func66.trans (congrArg some (by kernel_rfl))
  f318 := Tryd.func67.trans (congrArg some (by kernel_rfl))
  f319 := Tryd.func68.trans (congrArg some (by kernel_rfl))
  f320 := Tryd.func69.trans (congrArg some (by kernel_rfl))
  f337 := Tryd.func70.trans (congrArg some (by kernel_rfl))
  f338 := Tryd.func71.trans (congrArg some (by kernel_rfl))
  t0 := Tryd.underlying0
  a0 := Tryd.isAgg0
  z0 := Tryd.sizeOf0
  v0 := Tryd.zeroValue0
  t2 := Tryd.underlying2
  a2 := Tryd.isAgg2
  z2 := Tryd.sizeOf2
  v2 := Tryd.zeroValue2
  t3 := Tryd.underlying3
  a3 := Tryd.isAgg3
  z3 := Tryd.sizeOf3
  v3 := Tryd.zeroValue3
  t4 := Tryd.underlying4
  a4 := Tryd.isAgg4
  z4 := Tryd.sizeOf4
  v4 := Tryd.zeroValue4
  t5 := Tryd.underlying5
  a5 := Tryd.isAgg5
  z5 := Tryd.sizeOf5
  v5 := Tryd.zeroValue5
  t9 := Tryd.underlying9
  a9 := Tryd.isAgg9
  z9 := Tryd.sizeOf9
  v9 := Tryd.zeroValue9
  t20 := Tryd.underlying20
  a20 := Tryd.isAgg20
  z20 := Tryd.sizeOf20
  v20 := Tryd.zeroValue20
  t37 := Tryd.underlying22
  a37 := Tryd.isAgg22
  z37 := Tryd.sizeOf22
  v37 := Tryd.zeroValue22
  t46 := Tryd.underlying79
  a46 := Tryd.isAgg79
  z46 := Tryd.sizeOf79
  v46 := Tryd.zeroValue79
  t51 := Tryd.underlying100
  a51 := Tryd.isAgg100
  z51 := Tryd.sizeOf100
  v51 := Tryd.zeroValue100
  t53 := Tryd.underlying102
  a53 := Tryd.isAgg102
  z53 := Tryd.sizeOf102
  v53 := Tryd.zeroValue102
  t171 := Tryd.underlying120
  a171 := Tryd.isAgg120
  z171 := Tryd.sizeOf120
  v171 := Tryd.zeroValue120
  t173 := Tryd.underlying122
  a173 := Tryd.isAgg122
  z173 := Tryd.sizeOf122
  v173 := Tryd.zeroValue122
  t212 := Tryd.underlying129
  a212 := Tryd.isAgg129
  z212 := Tryd.sizeOf129
  v212 := Tryd.zeroValue129
  t213 := Tryd.underlying130
  a213 := Tryd.isAgg130
  z213 := Tryd.sizeOf130
  t232 := Tryd.underlying132
  a232 := Tryd.isAgg132
  z232 := Tryd.sizeOf132
  v232 := Tryd.zeroValue132
  t233 := Tryd.underlying133
  a233 := Tryd.isAgg133
  z233 := Tryd.sizeOf133
  v233 := Tryd.zeroValue133
  g17 := by kernel_rfl
  g18 := by kernel_rfl
  g19 := by kernel_rfl }
open Go.RowKit Go.Sort Go.Lib in
/-- THE ROAD WITHOUT THE TABLE: 0 <= i < 100: NO PREMISE ON THE WORLD, AND THE WORLD IS AS IT WAS: a row that keeps its argument in that range need list no table ('laid = []'). (LAID: no walk: one application.) -/
theorem Tryd.strconv_Itoa_small (i : Nat) (hi : i < 100) (w : World) :
    Calls Tryd.prog 37 #[.int .i64 i] w fun e w' => e = .returned (.string ⟨(Lib.decDigits i).toArray⟩) ∧ w' = w := Any.strconv_Itoa_small Tryd.lays171 i hi w
def Tryd.lays192_ren : Go.Shelf.Ren := ⟨fun | 192 => 23 | 190 => 31 | 125 => 39 | 258 => 38 | 128 => 53 | 129 => 54 | 302 => 45 | 303 => 46 | 304 => 47 | 305 => 48 | 306 => 49 | 307 => 50 | 308 => 28 | 309 => 51 | 310 => 52 | 333 => 56 | 329 => 57 | 330 => 58 | 334 => 59 | 335 => 60 | 336 => 33 | 344 => 65 | n => n, fun | 31 => 27 | 0 => 0 | 9 => 9 | 3 => 3 | 46 => 79 | 51 => 100 | 53 => 102 | 4 => 4 | 183 => 93 | 182 => 92 | 131 => 97 | 5 => 5 | 218 => 114 | 222 => 118 | 228 => 124 | 229 => 125 | n => n, fun | n => n⟩
theorem Tryd.lays192 : Go.Proofs.Lays.n192 Tryd.prog Tryd.lays192_ren := {
  mixed := by kernel_rfl
  f125 := Tryd.func39.trans (congrArg some (by kernel_rfl))
  f128 := Tryd.func53.trans (congrArg some (by kernel_rfl))
  f129 := Tryd.func54.trans (congrArg some (by kernel_rfl))
  f190 := Tryd.func31.trans (congrArg some (by kernel_rfl))
  f192 := Tryd.func23.trans (congrArg some (by kernel_rfl))
  f258 := Tryd.func38.trans (congrArg some (by kernel_rfl))
  f302 := Tryd.func45.trans (congrArg some (by kernel_rfl))
  f303 := Tryd.func46.trans (congrArg some (by kernel_rfl))
  f304 := Tryd.func47.trans (congrArg some (by kernel_rfl))
  f305 := Tryd.func48.trans (congrArg some (by kernel_rfl))
  f306 := Tryd.func49.trans (congrArg some (by kernel_rfl))
  f307 := Tryd.func50.trans (congrArg some (by kernel_rfl))
  f308 := Tryd.func28.trans (congrArg some (by kernel_rfl))
  f309 := Tryd.func51.trans (congrArg some (by kernel_rfl))
  f310 := Tryd.func52.trans (congrArg some (by kernel_rfl))
  f329 := Tryd.func57.trans (congrArg some (by kernel_rfl))
  f330 := Tryd.func58.trans (congrArg some (by kernel_rfl))
  f333 := Tryd.func56.trans (congrArg some (by kernel_rfl))
  f334 := Tryd.func59.trans (congrArg some (by kernel_rfl))
  f335 := Tryd.func60.trans (congrArg some (by kernel_rfl))
  f336 := Tryd.func33.trans (congrArg some (by kernel_rfl))
  f344 := Tryd.func65.trans (congrArg some (by kernel_rfl))
  t0 := Tryd.underlying0
  a0 := Tryd.isAgg0
  z0 := Tryd.sizeOf0
  v0 := Tryd.zeroValue0
  t3 := Tryd.underlying3
  a3 := Tryd.isAgg3
  z3 := Tryd.sizeOf3
  v3 := Tryd.zeroValue3
  t4 := Tryd.underlying4
  a4 := Tryd.isAgg4
  z4 := Tryd.sizeOf4
  v4 := Tryd.zeroValue4
  t5 := Tryd.underlying5
  a5 := Tryd.isAgg5
  z5 := Tryd.sizeOf5
  v5 := Tryd.zeroValue5
  t9 := Tryd.underlying9
  a9 := Tryd.isAgg9
  z9 := Tryd.sizeOf9
  v9 := Tryd.zeroValue9
  t31 := Tryd.underlying27
  a31 := Tryd.isAgg27
  z31 := Tryd.sizeOf27
  v31 := Tryd.zeroValue27
  t46 := Tryd.underlying79
  a46 := Tryd.isAgg79
  z46 := Tryd.sizeOf79
  v46 := Tryd.zeroValue79
  t51 := Tryd.underlying100
  a51 := Tryd.isAgg100
  z51 := Tryd.sizeOf100
  v51 := Tryd.zeroValue100
  t53 := Tryd.underlying102
  a53 := Tryd.isAgg102
  z53 := Tryd.sizeOf102
  v53 := Tryd.zeroValue102
  t131 := Tryd.underlying97
  a131 := Tryd.isAgg97
  z131 := Tryd.sizeOf97
  v131 := Tryd.zeroValue97
  t182 := Tryd.underlying92
  a182 := Tryd.isAgg92
  z182 := Tryd.sizeOf92
  v182 := Tryd.zeroValue92
  t183 := Tryd.underlying93
  a183 := Tryd.isAgg93
  z183 := Tryd.sizeOf93
  v183 := Tryd.zeroValue93
  t218 := Tryd.underlying114
  a218 := Tryd.isAgg114
  z218 := Tryd.sizeOf114
  v218 := Tryd.zeroValue114
  t222 := Tryd.underlying118
  a222 := Tryd.isAgg118
  z222 := Tryd.sizeOf118
  v222 := Tryd.zeroValue118
  t228 := Tryd.underlying124
  a228 := Tryd.isAgg124
  z228 := Tryd.sizeOf124
  v228 := Tryd.zeroValue124
  t229 := Tryd.underlying125
  a229 := Tryd.isAgg125
  z229 := Tryd.sizeOf125
  v229 := Tryd.zeroValue125 }
open Go.Sort Go.RowKit in
theorem Tryd.sort_Strings (blk off cap : Nat) (ss : List (List UInt8)) (w : World) (hH : Holds encStr w blk off ss.toArray) (hblk : blk < w.heap.size) (hsz : ss.length < 4611686018427387904) :
    Calls Tryd.prog 23 #[.slice (some ⟨blk, off, none⟩) ss.length cap] w fun e w' =>
      e = .returned (.tuple #[]) ∧ ∃ n os, w' = grow (putRow encStr (Sort.ahead w n) blk off (ss.mergeSort fun x y => decide (x ≤ y)).toArray) os := Any.sort_Strings Tryd.lays192 blk off cap ss w hH hblk hsz
def Tryd.lays197_ren : Go.Shelf.Ren := ⟨fun | 197 => 34 | 260 => 40 | n => n, fun | 9 => 9 | 21 => 21 | 3 => 3 | 4 => 4 | 5 => 5 | 105 => 70 | 119 => 103 | 0 => 0 | 46 => 79 | 139 => 106 | 138 => 105 | n => n, fun | 3 => 0 | 4 => 1 | n => n⟩
theorem Tryd.lays197 : Go.Proofs.Lays.n197 Tryd.prog Tryd.lays197_ren := {
  mixed := by kernel_rfl
  f197 := Tryd.func34.trans (congrArg some (by kernel_rfl))
  f260 := Tryd.func40.trans (congrArg some (by kernel_rfl))
  t0 := Tryd.underlying0
  a0 := Tryd.isAgg0
  z0 := Tryd.sizeOf0
  v0 := Tryd.zeroValue0
  t3 := Tryd.underlying3
  a3 := Tryd.isAgg3
  z3 := Tryd.sizeOf3
  v3 := Tryd.zeroValue3
  t4 := Tryd.underlying4
  a4 := Tryd.isAgg4
  z4 := Tryd.sizeOf4
  v4 := Tryd.zeroValue4
  t5 := Tryd.underlying5
  a5 := Tryd.isAgg5
  z5 := Tryd.sizeOf5
  v5 := Tryd.zeroValue5
  t9 := Tryd.underlying9
  a9 := Tryd.isAgg9
  z9 := Tryd.sizeOf9
  v9 := Tryd.zeroValue9
  t21 := Tryd.underlying21
  a21 := Tryd.isAgg21
  z21 := Tryd.sizeOf21
  v21 := Tryd.zeroValue21
  t46 := Tryd.underlying79
  a46 := Tryd.isAgg79
  z46 := Tryd.sizeOf79
  v46 := Tryd.zeroValue79
  t105 := Tryd.underlying70
  a105 := Tryd.isAgg70
  z105 := Tryd.sizeOf70
  v105 := Tryd.zeroValue70
  t119 := Tryd.underlying103
  a119 := Tryd.isAgg103
  z119 := Tryd.sizeOf103
  t138 := Tryd.underlying105
  a138 := Tryd.isAgg105
  z138 := Tryd.sizeOf105
  v138 := Tryd.zeroValue105
  t139 := Tryd.underlying106
  a139 := Tryd.isAgg106
  z139 := Tryd.sizeOf106
  v139 := Tryd.zeroValue106
  g3 := by kernel_rfl
  g4 := by kernel_rfl }
open Go.RowKit Go.Lib in
/-- unicode/utf8.DecodeRuneInString: "DecodeRuneInString is like DecodeRune but its input is a string.": ("DecodeRune unpacks the first UTF-8 encoding in p and returns the rune and its width in bytes."): WHERE s BEGINS WITH AN ASCII BYTE x: (x, 1). (LAID: no walk: one application.) -/
theorem Tryd.utf8_DecodeRuneInString_ascii (s : ByteArray) (x : UInt8) (w : World) (h0 : s.data.toList[0]? = some x) (hx : x.toNat < 128) :
    Calls Tryd.prog 34 #[.string s] w fun e w' => e = .returned (.tuple #[.int .i32 x.toNat, .int .i64 1]) ∧ w' = w := Any.utf8_DecodeRuneInString_ascii Tryd.lays197 s x w h0 hx
def Tryd.lays109_ren : Go.Shelf.Ren := ⟨fun | 109 => 27 | n => n, fun | 31 => 27 | 9 => 9 | 3 => 3 | 0 => 0 | 4 => 4 | n => n, fun | n => n⟩
theorem Tryd.lays109 : Go.Proofs.Lays.n109 Tryd.prog Tryd.lays109_ren := {
  mixed := by kernel_rfl
  f109 := Tryd.func27.trans (congrArg some (by kernel_rfl))
  t0 := Tryd.underlying0
  a0 := Tryd.isAgg0
  z0 := Tryd.sizeOf0
  v0 := Tryd.zeroValue0
  t3 := Tryd.underlying3
  a3 := Tryd.isAgg3
  z3 := Tryd.sizeOf3
  v3 := Tryd.zeroValue3
  t4 := Tryd.underlying4
  a4 := Tryd.isAgg4
  z4 := Tryd.sizeOf4
  v4 := Tryd.zeroValue4
  t9 := Tryd.underlying9
  a9 := Tryd.isAgg9
  z9 := Tryd.sizeOf9
  v9 := Tryd.zeroValue9
  t31 := Tryd.underlying27
  a31 := Tryd.isAgg27
  z31 := Tryd.sizeOf27
  v31 := Tryd.zeroValue27 }
open Go.Lib in
/-- slices.Index at []string: "Index returns the index of the first occurrence of v in s, or -1 if not present.": IT RETURNS 'Lib.idxOfS (the elements) v'; the world is as it was. 'zs': what the cells behind the slice's address hold (its spare capacity too, if you have it); 'zs.take n': its elements. (LAID: no walk: one application.) -/
theorem Tryd.slices_Index_string (b off n c : Nat) (zs : List ByteArray) (x : ByteArray) (w : World) (hz : n ≤ zs.length) (hbig : n ≤ 9223372036854775807) (hc : ∀ j, j < zs.length → w.cell? ⟨b, off + j, none⟩ = some (.string (zs.getD j ByteArray.empty))) :
    Calls Tryd.prog 27 #[.slice (some ⟨b, off, none⟩) n c, .string x] w fun e w' => e = .returned (.int .i64 (Lib.idxOfS (zs.take n) x)) ∧ w' = w := Any.slices_Index_string Tryd.lays109 b off n c zs x w hz hbig hc
open Go.Lib in
/-- The same at a slice of length 0, a nil one too: no cell is known, none is asked for. (LAID: no walk: one application.) -/
theorem Tryd.slices_Index_string_empty (a : Option Addr) (c : Nat) (x : ByteArray) (w : World) :
    Calls Tryd.prog 27 #[.slice a 0 c, .string x] w fun e w' => e = .returned (.int .i64 (Lib.idxOfS [] x)) ∧ w' = w := Any.slices_Index_string_empty Tryd.lays109 a c x w
def Tryd.lays110_ren : Go.Shelf.Ren := ⟨fun | 110 => 15 | 109 => 27 | n => n, fun | 31 => 27 | 9 => 9 | 4 => 4 | 3 => 3 | 0 => 0 | n => n, fun | n => n⟩
theorem Tryd.lays110 : Go.Proofs.Lays.n110 Tryd.prog Tryd.lays110_ren := {
  mixed := by kernel_rfl
  f109 := Tryd.func27.trans (congrArg some (by kernel_rfl))
  f110 := Tryd.func15.trans (congrArg some (by kernel_rfl))
  t0 := Tryd.underlying0
  a0 := Tryd.isAgg0
  z0 := Tryd.sizeOf0
  v0 := Tryd.zeroValue0
  t3 := Tryd.underlying3
  a3 := Tryd.isAgg3
  z3 := Tryd.sizeOf3
  v3 := Tryd.zeroValue3
  t4 := Tryd.underlying4
  a4 := Tryd.isAgg4
  z4 := Tryd.sizeOf4
  v4 := Tryd.zeroValue4
  t9 := Tryd.underlying9
  a9 := Tryd.isAgg9
  z9 := Tryd.sizeOf9
  v9 := Tryd.zeroValue9
  t31 := Tryd.underlying27
  a31 := Tryd.isAgg27
  z31 := Tryd.sizeOf27
  v31 := Tryd.zeroValue27 }
open Go.Lib in
/-- slices.Contains at []string: "Contains reports whether v is present in s.": IT RETURNS 'Lib.containsS (the elements) v', which is true just where v is among them ('Lib.containsS_iff'); the world is as it was. ITS CALLEE slices.Index IS MET BY ITS OWN CONTRACT OFF THE SHELF (lay that first): no loop is walked here. (LAID: no walk: one application.) -/
theorem Tryd.slices_Contains_string (b off n c : Nat) (zs : List ByteArray) (x : ByteArray) (w : World) (hz : n ≤ zs.length) (hbig : n ≤ 9223372036854775807) (hc : ∀ j, j < zs.length → w.cell? ⟨b, off + j, none⟩ = some (.string (zs.getD j ByteArray.empty))) :
    Calls Tryd.prog 15 #[.slice (some ⟨b, off, none⟩) n c, .string x] w fun e w' => e = .returned (.bool (Lib.containsS (zs.take n) x)) ∧ w' = w := Any.slices_Contains_string Tryd.lays110 b off n c zs x w hz hbig hc
open Go.Lib in
/-- The same at a slice of length 0, a nil one too. (LAID: no walk: one application.) -/
theorem Tryd.slices_Contains_string_empty (a : Option Addr) (c : Nat) (x : ByteArray) (w : World) :
    Calls Tryd.prog 15 #[.slice a 0 c, .string x] w fun e w' => e = .returned (.bool false) ∧ w' = w := Any.slices_Contains_string_empty Tryd.lays110 a c x w
def Tryd.lays193_ren : Go.Shelf.Ren := ⟨fun | 193 => 13 | n => n, fun | 31 => 27 | 9 => 9 | 4 => 4 | 3 => 3 | 0 => 0 | n => n, fun | n => n⟩
theorem Tryd.lays193 : Go.Proofs.Lays.n193 Tryd.prog Tryd.lays193_ren := {
  mixed := by kernel_rfl
  f193 := Tryd.func13.trans (congrArg some (by kernel_rfl))
  t0 := Tryd.underlying0
  a0 := Tryd.isAgg0
  z0 := Tryd.sizeOf0
  v0 := Tryd.zeroValue0
  t3 := Tryd.underlying3
  a3 := Tryd.isAgg3
  z3 := Tryd.sizeOf3
  v3 := Tryd.zeroValue3
  t4 := Tryd.underlying4
  a4 := Tryd.isAgg4
  z4 := Tryd.sizeOf4
  v4 := Tryd.zeroValue4
  t9 := Tryd.underlying9
  a9 := Tryd.isAgg9
  z9 := Tryd.sizeOf9
  v9 := Tryd.zeroValue9
  t31 := Tryd.underlying27
  a31 := Tryd.isAgg27
  z31 := Tryd.sizeOf27
  v31 := Tryd.zeroValue27 }
open Go.RowKit Go.Lib in
/-- slices.Equal at []string: "Equal reports whether two slices are equal: the same length and all elements equal. If the lengths are different, Equal returns false. Otherwise, the elements are compared in increasing index order, and the comparison stops at the first unequal pair. Empty and nil slices are considered equal.": IT RETURNS WHETHER THE TWO LISTS OF ELEMENTS ARE ONE; the world is as it was but for the count of draws (the test 's1[i] != s2[i]' has two reads, whose order the model draws, once a round). 'xs', 'ys': what the cells behind the two addresses hold (the spare capacity too, if you have it); 'xs.take n', 'ys.take m': the elements. THE TWO SLICES MAY OVERLAP. (LAID: no walk: one application.) -/
theorem Tryd.slices_Equal_string (b1 o1 n c b2 o2 m d : Nat) (xs ys : List ByteArray) (w : World) (hx : n ≤ xs.length) (hy : m ≤ ys.length) (hbig : n ≤ 9223372036854775807) (hbig2 : m ≤ 9223372036854775807) (hc1 : ∀ j, j < xs.length → w.cell? ⟨b1, o1 + j, none⟩ = some (.string (xs.getD j ByteArray.empty))) (hc2 : ∀ j, j < ys.length → w.cell? ⟨b2, o2 + j, none⟩ = some (.string (ys.getD j ByteArray.empty))) :
    Calls Tryd.prog 13 #[.slice (some ⟨b1, o1, none⟩) n c, .slice (some ⟨b2, o2, none⟩) m d] w fun e w' => e = .returned (.bool (decide (xs.take n = ys.take m))) ∧ ∃ q, w' = w.drewN q := Any.slices_Equal_string Tryd.lays193 b1 o1 n c b2 o2 m d xs ys w hx hy hbig hbig2 hc1 hc2
open Go.RowKit Go.Lib in
/-- The same where the first is of length 0 (a nil one too): no cell is asked for. (LAID: no walk: one application.) -/
theorem Tryd.slices_Equal_string_empty (a1 a2 : Option Addr) (c m d : Nat) (w : World) (hbig2 : m ≤ 9223372036854775807) :
    Calls Tryd.prog 13 #[.slice a1 0 c, .slice a2 m d] w fun e w' => e = .returned (.bool (decide (m = 0))) ∧ w' = w := Any.slices_Equal_string_empty Tryd.lays193 a1 a2 c m d w hbig2
open Go.RowKit Go.Sort in
/-- .. and plain. (LAID: no walk: one application.) -/
theorem Tryd.sort_Strings_none (p : Option Addr) (cap : Nat) (w : World) :
    Calls Tryd.prog 23 #[.slice p 0 cap] w fun e w' => e = .returned (.tuple #[]) ∧ w' = w := Any.sort_Strings_none Tryd.lays192 p cap w
open Go.RowKit Go.Lib in
theorem Tryd.slices_Equal_string_lens (a1 a2 : Option Addr) (n c m d : Nat) (w : World) (hnm : n ≠ m) :
    Calls Tryd.prog 13 #[.slice a1 n c, .slice a2 m d] w fun e w' => e = .returned (.bool false) ∧ w' = w := Any.slices_Equal_string_lens Tryd.lays193 a1 a2 n c m d w hnm
end Go.Proofs
