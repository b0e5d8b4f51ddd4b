/- Contracts of Go's library, laid at this program by the shelf's tools (lay-shelf.mjs, lay-plain.mjs): what each asks stands in its statement. -/
import Derived.Shelf.Strings.Builder1
import Derived.Shelf.Strings.Builder2
import Derived.Shelf.Strings.OnBuilder
import Derived.Shelf.Small.Strs
import Derived.Shelf.Strings.Search1
import Derived.Ground.NamesProg
import Derived.Ground.Names2Prog
import Derived.Shelf.Slices.Clone
import Derived.Ground.SlsfProg
import Derived.Shelf.SlSortCmp.Whole1
import Derived.Shelf.SlGeneric
import Derived.Ground.SlsgProg
import Derived.Shelf.SlCmpFuncs.BinarySearchFunc
import Derived.Test.YtbnelehiieglbaaGreatDoorProg
namespace Go.Proofs
open Go.Shelf
def Tryz.lays159_ren : Go.Shelf.Ren := ⟨fun | 159 => 30 | 165 => 47 | 166 => 48 | 167 => 49 | 169 => 50 | 230 => 51 | 204 => 52 | 240 => 63 | 241 => 64 | 197 => 65 | 118 => 66 | 168 => 67 | 270 => 68 | 262 => 69 | 276 => 80 | 277 => 81 | 260 => 82 | 242 => 83 | 313 => 84 | 278 => 98 | 274 => 99 | 275 => 100 | n => n, fun | 9 => 9 | 4 => 4 | 3 => 3 | 5 => 5 | 72 => 102 | 0 => 0 | 76 => 104 | 75 => 42 | 107 => 108 | 70 => 100 | 20 => 20 | 37 => 64 | 127 => 127 | 21 => 21 | 105 => 128 | 164 => 145 | 162 => 151 | 203 => 149 | 119 => 120 | 46 => 141 | 139 => 169 | 138 => 168 | 51 => 140 | 160 => 170 | 208 => 182 | 206 => 180 | 80 => 46 | n => n, fun | 13 => 0 | 3 => 4 | 4 => 5 | n => n⟩
theorem Tryz.lays159 : Go.Proofs.Lays.n159 Tryz.prog Tryz.lays159_ren := {
  mixed := by kernel_rfl
  f118 := Tryz.func66.trans (congrArg some (by kernel_rfl))
  f159 := Tryz.func30.trans (congrArg some (by kernel_rfl))
  f165 := Tryz.func47.trans (congrArg some (by kernel_rfl))
  f166 := Tryz.func48.trans (congrArg some (by kernel_rfl))
  f167 := Tryz.func49.trans (congrArg some (by kernel_rfl))
  f168 := Tryz.func67.trans (congrArg some (by kernel_rfl))
  f169 := Tryz.func50.trans (congrArg some (by kernel_rfl))
  f197 := Tryz.func65.trans (congrArg some (by kernel_rfl))
  f204 := Tryz.func52.trans (congrArg some (by kernel_rfl))
  f230 := Tryz.func51.trans (congrArg some (by kernel_rfl))
  f240 := Tryz.func63.trans (congrArg some (by kernel_rfl))
  f241 := Tryz.func64.trans (congrArg some (by kernel_rfl))
  f242 := Tryz.func83.trans (congrArg some (by kernel_rfl))
  f260 := Tryz.func82.trans (congrArg some (by kernel_rfl))
  f262 := Tryz.func69.trans (congrArg some (by kernel_rfl))
  f270 := Tryz.func68.trans (congrArg some (by kernel_rfl))
  f274 := Tryz.func99.trans (congrArg some (by kernel_rfl))
  f275 := Tryz.func100.trans (congrArg some (by kernel_rfl))
  f276 := Tryz.func80.trans (congrArg some (by kernel_rfl))
  f277 := Tryz.func81.trans (congrArg some (by kernel_rfl))
  f278 := Tryz.func98.trans (congrArg some (by kernel_rfl))
  f313 := Tryz.func84.trans (congrArg some (by kernel_rfl))
  t0 := Tryz.underlying0
  a0 := Tryz.isAgg0
  z0 := Tryz.sizeOf0
  v0 := Tryz.zeroValue0
  t3 := Tryz.underlying3
  a3 := Tryz.isAgg3
  z3 := Tryz.sizeOf3
  v3 := Tryz.zeroValue3
  t4 := Tryz.underlying4
  a4 := Tryz.isAgg4
  z4 := Tryz.sizeOf4
  v4 := Tryz.zeroValue4
  t5 := Tryz.underlying5
  a5 := Tryz.isAgg5
  z5 := Tryz.sizeOf5
  v5 := Tryz.zeroValue5
  t9 := Tryz.underlying9
  a9 := Tryz.isAgg9
  z9 := Tryz.sizeOf9
  v9 := Tryz.zeroValue9
  t20 := Tryz.underlying20
  a20 := Tryz.isAgg20
  z20 := Tryz.sizeOf20
  v20 := Tryz.zeroValue20
  t21 := Tryz.underlying21
  a21 := Tryz.isAgg21
  z21 := Tryz.sizeOf21
  v21 := Tryz.zeroValue21
  t37 := Tryz.underlying64
  a37 := Tryz.isAgg64
  z37 := Tryz.sizeOf64
  v37 := Tryz.zeroValue64
  t46 := Tryz.underlying141
  a46 := Tryz.isAgg141
  z46 := Tryz.sizeOf141
  v46 := Tryz.zeroValue141
  t51 := Tryz.underlying140
  a51 := Tryz.isAgg140
  z51 := Tryz.sizeOf140
  v51 := Tryz.zeroValue140
  t70 := Tryz.underlying100
  a70 := Tryz.isAgg100
  z70 := Tryz.sizeOf100
  v70 := Tryz.zeroValue100
  t72 := Tryz.underlying102
  a72 := Tryz.isAgg102
  z72 := Tryz.sizeOf102
  v72 := Tryz.zeroValue102
  t75 := Tryz.underlying42
  a75 := Tryz.isAgg42
  z75 := Tryz.sizeOf42
  v75 := Tryz.zeroValue42
  t76 := Tryz.underlying104
  a76 := Tryz.isAgg104
  z76 := Tryz.sizeOf104
  v76 := Tryz.zeroValue104
  t105 := Tryz.underlying128
  a105 := Tryz.isAgg128
  z105 := Tryz.sizeOf128
  v105 := Tryz.zeroValue128
  t107 := Tryz.underlying108
  a107 := Tryz.isAgg108
  z107 := Tryz.sizeOf108
  v107 := Tryz.zeroValue108
  t119 := Tryz.underlying120
  a119 := Tryz.isAgg120
  z119 := Tryz.sizeOf120
  t127 := Tryz.underlying127
  a127 := Tryz.isAgg127
  z127 := Tryz.sizeOf127
  v127 := Tryz.zeroValue127
  t138 := Tryz.underlying168
  a138 := Tryz.isAgg168
  z138 := Tryz.sizeOf168
  v138 := Tryz.zeroValue168
  t139 := Tryz.underlying169
  a139 := Tryz.isAgg169
  z139 := Tryz.sizeOf169
  v139 := Tryz.zeroValue169
  t160 := Tryz.underlying170
  a160 := Tryz.isAgg170
  z160 := Tryz.sizeOf170
  v160 := Tryz.zeroValue170
  t162 := Tryz.underlying151
  a162 := Tryz.isAgg151
  z162 := Tryz.sizeOf151
  v162 := Tryz.zeroValue151
  t164 := Tryz.underlying145
  a164 := Tryz.isAgg145
  z164 := Tryz.sizeOf145
  v164 := Tryz.zeroValue145
  t203 := Tryz.underlying149
  a203 := Tryz.isAgg149
  z203 := Tryz.sizeOf149
  v203 := Tryz.zeroValue149
  t206 := Tryz.underlying180
  a206 := Tryz.isAgg180
  z206 := Tryz.sizeOf180
  v206 := Tryz.zeroValue180
  t208 := Tryz.underlying182
  a208 := Tryz.isAgg182
  z208 := Tryz.sizeOf182
  v208 := Tryz.zeroValue182
  g3 := by kernel_rfl
  g4 := by kernel_rfl
  g13 := by kernel_rfl }
theorem Tryz.Builder_Extra_159 : Builder.Extra Tryz.prog Tryz.lays159_ren := {
  sizeBuilder := by kernel_rfl
  liesBuilder := by kernel_rfl
  t5 := Tryz.underlying5
  a5 := Tryz.isAgg5
  z5 := Tryz.sizeOf5
  v5 := Tryz.zeroValue5
  infoByte := by kernel_rfl
  cellsByte := by kernel_rfl
  sizeByte := by kernel_rfl
  neB5 := by decide }
open Go.RowKit in
/-- strings.ToLower: "ToLower returns s with all Unicode letters mapped to their lower case.": ON ASCII TEXT OF AT MOST 2^47 BYTES. Below the heap's end the world is as it was: where a letter turns, the call makes a builder and its buffer. (LAID: no walk: one application.) -/
theorem Tryz.strings_ToLower_ascii (s : ByteArray) (w : World) (hs : s.size ≤ 140737488355328) (hascii : ∀ (j : Nat) (b : UInt8), s.data.toList[j]? = some b → b.toNat < 128) :
    Calls Tryz.prog 30 #[.string s] w fun e w' => e = .returned (.string ⟨(Lib.toLowerA s.data.toList).toArray⟩) ∧ Below w.heap.size w w' := Any.strings_ToLower_ascii Tryz.lays159 Tryz.Builder_Extra_159 s w hs hascii
def Tryz.lays137_ren : Go.Shelf.Ren := ⟨fun | 137 => 57 | 217 => 71 | 266 => 74 | n => n, fun | 9 => 9 | 5 => 5 | 3 => 3 | n => n, fun | n => n⟩
theorem Tryz.lays137 : Go.Proofs.Lays.n137 Tryz.prog Tryz.lays137_ren := {
  mixed := by kernel_rfl
  f137 := Tryz.func57.trans (congrArg some (by kernel_rfl))
  f217 := Tryz.func71.trans (congrArg some (by kernel_rfl))
  f266 := Tryz.func74.trans (congrArg some (by kernel_rfl))
  t3 := Tryz.underlying3
  a3 := Tryz.isAgg3
  z3 := Tryz.sizeOf3
  v3 := Tryz.zeroValue3
  t5 := Tryz.underlying5
  a5 := Tryz.isAgg5
  z5 := Tryz.sizeOf5
  v5 := Tryz.zeroValue5
  t9 := Tryz.underlying9
  a9 := Tryz.isAgg9
  z9 := Tryz.sizeOf9
  v9 := Tryz.zeroValue9 }
open Go.RowKit in
/-- strings.IndexByte: "IndexByte returns the index of the first instance of c in s, or -1 if c is not present in s.": IT RETURNS 'Lib.indexByte s c'; the world is as it was. (LAID: no walk: one application.) -/
theorem Tryz.strings_IndexByte (s : ByteArray) (c : Int) (w : World) :
    Calls Tryz.prog 57 #[.string s, .int .u8 c] w fun e w' => e = .returned (.int .i64 (Lib.indexByte s.data.toList c.toNat.toUInt8)) ∧ w' = w := Any.strings_IndexByte Tryz.lays137 s c w
def Tryz.laysNm216_ren : Go.Shelf.Ren := ⟨fun | 16 => 37 | n => n, fun | 24 => 22 | 9 => 9 | 4 => 4 | n => n, fun | n => n⟩
theorem Tryz.laysNm216 : Go.Proofs.Lays2.n16 Tryz.prog Tryz.laysNm216_ren := {
  mixed := by kernel_rfl
  f16 := Tryz.func37.trans (congrArg some (by kernel_rfl))
  t4 := Tryz.underlying4
  a4 := Tryz.isAgg4
  z4 := Tryz.sizeOf4
  v4 := Tryz.zeroValue4
  t9 := Tryz.underlying9
  a9 := Tryz.isAgg9
  z9 := Tryz.sizeOf9
  v9 := Tryz.zeroValue9
  t24 := Tryz.underlying22
  a24 := Tryz.isAgg22
  z24 := Tryz.sizeOf22
  v24 := Tryz.zeroValue22
  i9 := by kernel_rfl }
open Go.RowKit Go.Lib in
/-- slices.Clone at []string: "Clone returns a copy of the slice. The elements are copied using assignment, so this is a shallow clone. The result may have additional unused capacity. The result preserves the nilness of s.": OF A SLICE THAT IS NOT nil IT RETURNS A SLICE THAT IS NOT nil, OF THE SAME ELEMENTS, IN MEMORY OF THE CALL's OWN: in the how-to's words (6f): 'w'.ownsRow B e 1 v' n cells': v' begins at the head of a row among the blocks from B on (B: the heap's size at the call), not frozen, whose first cells are the elements · 'Below B w w'': below B all is as it was. The capacity is whatever the run-time gives. 'zs': what the cells behind the slice's address hold; 'zs.take n': its elements. (LAID: no walk: one application.) -/
theorem Tryz.slices_Clone_string (b off n c : Nat) (zs : List ByteArray) (w : World) (hz : n ≤ zs.length) (hbig : n * 16 ≤ 140737488355328) (hc : ∀ j, j < zs.length → w.cell? ⟨b, off + j, none⟩ = some (.string (zs.getD j ByteArray.empty))) :
    Calls Tryz.prog 37 #[.slice (some ⟨b, off, none⟩) n c] w fun e w' => ∃ v', e = .returned v' ∧ w'.ownsRow w.heap.size 9 1 v' n ((zs.take n).map (Value.string)) ∧ v' ≠ .slice none 0 0 ∧ Below w.heap.size w w' := Any.slices_Clone_string Tryz.laysNm216 b off n c zs w hz hbig hc
def Tryz.laysSlF6_f61_ren : Go.Shelf.Ren := ⟨fun | 6 => 61 | 15 => 79 | 14 => 78 | 28 => 96 | 29 => 97 | 20 => 88 | 21 => 89 | 22 => 90 | 23 => 91 | 24 => 92 | 25 => 93 | 26 => 94 | 27 => 95 | 46 => 101 | 47 => 102 | 48 => 103 | 49 => 104 | 50 => 105 | 57 => 106 | n => n, fun | 22 => 22 | 24 => 9 | 25 => 27 | 3 => 3 | 39 => 141 | 0 => 0 | 53 => 140 | 55 => 68 | 4 => 4 | 46 => 159 | 45 => 158 | 50 => 163 | 5 => 5 | 9 => 9 | 66 => 173 | 70 => 177 | 76 => 183 | 77 => 184 | n => n, fun | n => n⟩
theorem Tryz.laysSlF6_f61 : Go.Proofs.SlLaysF.n6 Tryz.prog Tryz.laysSlF6_f61_ren := {
  mixed := by kernel_rfl
  f6 := ⟨Tryz.f61.name, by decide, Tryz.func61.trans (congrArg some (by kernel_rfl))⟩
  f14 := ⟨Tryz.f78.name, by decide, Tryz.func78.trans (congrArg some (by kernel_rfl))⟩
  f15 := Tryz.func79.trans (congrArg some (by kernel_rfl))
  f20 := ⟨Tryz.f88.name, by decide, Tryz.func88.trans (congrArg some (by kernel_rfl))⟩
  f21 := ⟨Tryz.f89.name, by decide, Tryz.func89.trans (congrArg some (by kernel_rfl))⟩
  f22 := ⟨Tryz.f90.name, by decide, Tryz.func90.trans (congrArg some (by kernel_rfl))⟩
  f23 := ⟨Tryz.f91.name, by decide, Tryz.func91.trans (congrArg some (by kernel_rfl))⟩
  f24 := ⟨Tryz.f92.name, by decide, Tryz.func92.trans (congrArg some (by kernel_rfl))⟩
  f25 := ⟨Tryz.f93.name, by decide, Tryz.func93.trans (congrArg some (by kernel_rfl))⟩
  f26 := ⟨Tryz.f94.name, by decide, Tryz.func94.trans (congrArg some (by kernel_rfl))⟩
  f27 := ⟨Tryz.f95.name, by decide, Tryz.func95.trans (congrArg some (by kernel_rfl))⟩
  f28 := Tryz.func96.trans (congrArg some (by kernel_rfl))
  f29 := Tryz.func97.trans (congrArg some (by kernel_rfl))
  f46 := ⟨Tryz.f101.name, by decide, Tryz.func101.trans (congrArg some (by kernel_rfl))⟩
  f47 := Tryz.func102.trans (congrArg some (by kernel_rfl))
  f48 := Tryz.func103.trans (congrArg some (by kernel_rfl))
  f49 := ⟨Tryz.f104.name, by decide, Tryz.func104.trans (congrArg some (by kernel_rfl))⟩
  f50 := ⟨Tryz.f105.name, by decide, Tryz.func105.trans (congrArg some (by kernel_rfl))⟩
  f57 := ⟨Tryz.f106.name, by decide, Tryz.func106.trans (congrArg some (by kernel_rfl))⟩
  t0 := Tryz.underlying0
  a0 := Tryz.isAgg0
  z0 := Tryz.sizeOf0
  v0 := Tryz.zeroValue0
  t3 := Tryz.underlying3
  a3 := Tryz.isAgg3
  z3 := Tryz.sizeOf3
  v3 := Tryz.zeroValue3
  t4 := Tryz.underlying4
  a4 := Tryz.isAgg4
  z4 := Tryz.sizeOf4
  v4 := Tryz.zeroValue4
  t5 := Tryz.underlying5
  a5 := Tryz.isAgg5
  z5 := Tryz.sizeOf5
  v5 := Tryz.zeroValue5
  t9 := Tryz.underlying9
  a9 := Tryz.isAgg9
  z9 := Tryz.sizeOf9
  v9 := Tryz.zeroValue9
  t22 := Tryz.underlying22
  a22 := Tryz.isAgg22
  z22 := Tryz.sizeOf22
  v22 := Tryz.zeroValue22
  a24 := Tryz.isAgg9
  z24 := Tryz.sizeOf9
  t25 := Tryz.underlying27
  a25 := Tryz.isAgg27
  z25 := Tryz.sizeOf27
  v25 := Tryz.zeroValue27
  t39 := Tryz.underlying141
  a39 := Tryz.isAgg141
  z39 := Tryz.sizeOf141
  v39 := Tryz.zeroValue141
  t45 := Tryz.underlying158
  a45 := Tryz.isAgg158
  z45 := Tryz.sizeOf158
  v45 := Tryz.zeroValue158
  t46 := Tryz.underlying159
  a46 := Tryz.isAgg159
  z46 := Tryz.sizeOf159
  v46 := Tryz.zeroValue159
  t50 := Tryz.underlying163
  a50 := Tryz.isAgg163
  z50 := Tryz.sizeOf163
  v50 := Tryz.zeroValue163
  t53 := Tryz.underlying140
  a53 := Tryz.isAgg140
  z53 := Tryz.sizeOf140
  v53 := Tryz.zeroValue140
  t55 := Tryz.underlying68
  a55 := Tryz.isAgg68
  z55 := Tryz.sizeOf68
  v55 := Tryz.zeroValue68
  t66 := Tryz.underlying173
  a66 := Tryz.isAgg173
  z66 := Tryz.sizeOf173
  v66 := Tryz.zeroValue173
  t70 := Tryz.underlying177
  a70 := Tryz.isAgg177
  z70 := Tryz.sizeOf177
  v70 := Tryz.zeroValue177
  t76 := Tryz.underlying183
  a76 := Tryz.isAgg183
  z76 := Tryz.sizeOf183
  v76 := Tryz.zeroValue183
  t77 := Tryz.underlying184
  a77 := Tryz.isAgg184
  z77 := Tryz.sizeOf184
  v77 := Tryz.zeroValue184 }
open Go.RowKit Go.Lib Go.Sort in
/-- **slices.SortFunc, IN THE DOCUMENTATION's OWN TERMS: A PERMUTATION OF WHAT THE ROW HELD, SORTED BY 'cmp(a, b) < 0'.** Which of two equals comes first is left open ("The sort is not guaranteed to be stable"). (LAID AT THE INSTANCE 'slices.SortFunc[[]string,string]': no walk: one application.) -/
theorem Tryz.slices_SortFunc {α : Type} [Inhabited α] (enc : α → Value) (h1 : OneCell enc) (cf : α → α → Int) (hO : SWO (ltOf cf)) (g : Nat) (cb : Array Value) (blk off cap : Nat) (d : Array α) (w : World) (eg : ∀ args w, (callFunc g args).run Tryz.prog w = .ok (.enter g args) w) (hcmp : CmpLays1 Tryz.prog g cb enc cf blk off d.size w) (hH : Holds enc w blk off d) (hblk : blk < w.heap.size) (hsz : d.size < 4611686018427387904) :
    Calls Tryz.prog 61 #[.slice (some ⟨blk, off, none⟩) d.size cap, .func (.func g) #[] cb] w fun e w' =>
      e = .returned (.tuple #[]) ∧ ∃ d' n os, PermIn 0 d.size d d' ∧ SortedIn (ltOf cf) 0 d.size d' ∧ w' = sortWorld enc w blk off n d' os := Any.slices_SortFunc Tryz.laysSlF6_f61 enc h1 cf hO g cb blk off cap d w eg hcmp hH hblk hsz
def Tryz.laysSlsg14_ren : Go.Shelf.Ren := ⟨fun | 14 => 129 | n => n, fun | 22 => 22 | 24 => 9 | 29 => 9 | 32 => 27 | 3 => 3 | 4 => 4 | 35 => 141 | 0 => 0 | n => n, fun | n => n⟩
theorem Tryz.laysSlsg14 : Go.Proofs.SlLaysG2.n14 Tryz.prog Tryz.laysSlsg14_ren := {
  mixed := by kernel_rfl
  f14 := ⟨Tryz.f129.name, by decide, Tryz.func129.trans (congrArg some (by kernel_rfl))⟩
  t0 := Tryz.underlying0
  a0 := Tryz.isAgg0
  z0 := Tryz.sizeOf0
  v0 := Tryz.zeroValue0
  t3 := Tryz.underlying3
  a3 := Tryz.isAgg3
  z3 := Tryz.sizeOf3
  v3 := Tryz.zeroValue3
  t4 := Tryz.underlying4
  a4 := Tryz.isAgg4
  z4 := Tryz.sizeOf4
  v4 := Tryz.zeroValue4
  t22 := Tryz.underlying22
  a22 := Tryz.isAgg22
  z22 := Tryz.sizeOf22
  v22 := Tryz.zeroValue22
  a24 := Tryz.isAgg9
  z24 := Tryz.sizeOf9
  a29 := Tryz.isAgg9
  z29 := Tryz.sizeOf9
  t32 := Tryz.underlying27
  a32 := Tryz.isAgg27
  z32 := Tryz.sizeOf27
  v32 := Tryz.zeroValue27
  t35 := Tryz.underlying141
  a35 := Tryz.isAgg141
  z35 := Tryz.sizeOf141
  v35 := Tryz.zeroValue141 }
end Go.Proofs
