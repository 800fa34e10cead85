/-
  What is proved here: at this seat's program the library's contracts for strings.ToLower on ASCII text of at most 2^47 bytes, for strings.IndexByte, and for slices.Equal at slices of strings hold. Conditions: those that each theorem names.
  The lines were written by the kit's own programs (lay-shelf.mjs, lay-plain.mjs), cut to what is used by wip/mkshelf.py.
-/
import Derived.Shelf.Strings.OnBuilder
import Derived.Shelf.Small.Strs
import Derived.Shelf.Slices.Equal
import Derived.Shelf.Slices.Empties2
import Derived.Test.YtooajjeikfmieaaDoorProg
namespace Go.Proofs.YtooajjeikfmieaaDoor
open Go.Shelf
def Tryd.lays159_ren : Go.Shelf.Ren := ⟨fun | 159 => 25 | 165 => 27 | 166 => 28 | 167 => 29 | 169 => 30 | 230 => 31 | 204 => 32 | 240 => 34 | 241 => 35 | 197 => 36 | 118 => 37 | 168 => 38 | 270 => 39 | 262 => 40 | 276 => 41 | 277 => 42 | 260 => 43 | 242 => 44 | 313 => 45 | 278 => 46 | 274 => 47 | 275 => 48 | n => n, fun | 9 => 9 | 4 => 4 | 3 => 3 | 5 => 5 | 72 => 52 | 0 => 0 | 76 => 54 | 75 => 39 | 107 => 59 | 70 => 50 | 20 => 20 | 37 => 37 | 127 => 60 | 21 => 21 | 105 => 61 | 164 => 67 | 162 => 73 | 203 => 71 | 119 => 74 | 46 => 75 | 139 => 78 | 138 => 77 | 51 => 79 | 160 => 80 | 208 => 86 | 206 => 84 | 80 => 57 | n => n, fun | 13 => 1 | 3 => 2 | 4 => 3 | n => n⟩
theorem Tryd.lays159 : Go.Proofs.Lays.n159 Tryd.prog Tryd.lays159_ren := {
  mixed := by kernel_rfl
  f118 := Tryd.func37.trans (congrArg some (by kernel_rfl))
  f159 := Tryd.func25.trans (congrArg some (by kernel_rfl))
  f165 := Tryd.func27.trans (congrArg some (by kernel_rfl))
  f166 := Tryd.func28.trans (congrArg some (by kernel_rfl))
  f167 := Tryd.func29.trans (congrArg some (by kernel_rfl))
  f168 := Tryd.func38.trans (congrArg some (by kernel_rfl))
  f169 := Tryd.func30.trans (congrArg some (by kernel_rfl))
  f197 := Tryd.func36.trans (congrArg some (by kernel_rfl))
  f204 := Tryd.func32.trans (congrArg some (by kernel_rfl))
  f230 := Tryd.func31.trans (congrArg some (by kernel_rfl))
  f240 := Tryd.func34.trans (congrArg some (by kernel_rfl))
  f241 := Tryd.func35.trans (congrArg some (by kernel_rfl))
  f242 := Tryd.func44.trans (congrArg some (by kernel_rfl))
  f260 := Tryd.func43.trans (congrArg some (by kernel_rfl))
  f262 := Tryd.func40.trans (congrArg some (by kernel_rfl))
  f270 := Tryd.func39.trans (congrArg some (by kernel_rfl))
  f274 := Tryd.func47.trans (congrArg some (by kernel_rfl))
  f275 := Tryd.func48.trans (congrArg some (by kernel_rfl))
  f276 := Tryd.func41.trans (congrArg some (by kernel_rfl))
  f277 := Tryd.func42.trans (congrArg some (by kernel_rfl))
  f278 := Tryd.func46.trans (congrArg some (by kernel_rfl))
  f313 := Tryd.func45.trans (congrArg some (by kernel_rfl))
  t0 := Tryd.underlying0
  a0 := Tryd.isAgg0
  z0 := Tryd.sizeOf0
  v0 := Tryd.zeroValue0
  t3 := Tryd.underlying3
  a3 := Tryd.isAgg3
  z3 := Tryd.sizeOf3
  v3 := Tryd.zeroValue3
  t4 := Tryd.underlying4
  a4 := Tryd.isAgg4
  z4 := Tryd.sizeOf4
  v4 := Tryd.zeroValue4
  t5 := Tryd.underlying5
  a5 := Tryd.isAgg5
  z5 := Tryd.sizeOf5
  v5 := Tryd.zeroValue5
  t9 := Tryd.underlying9
  a9 := Tryd.isAgg9
  z9 := Tryd.sizeOf9
  v9 := Tryd.zeroValue9
  t20 := Tryd.underlying20
  a20 := Tryd.isAgg20
  z20 := Tryd.sizeOf20
  v20 := Tryd.zeroValue20
  t21 := Tryd.underlying21
  a21 := Tryd.isAgg21
  z21 := Tryd.sizeOf21
  v21 := Tryd.zeroValue21
  t37 := Tryd.underlying37
  a37 := Tryd.isAgg37
  z37 := Tryd.sizeOf37
  v37 := Tryd.zeroValue37
  t46 := Tryd.underlying75
  a46 := Tryd.isAgg75
  z46 := Tryd.sizeOf75
  v46 := Tryd.zeroValue75
  t51 := Tryd.underlying79
  a51 := Tryd.isAgg79
  z51 := Tryd.sizeOf79
  v51 := Tryd.zeroValue79
  t70 := Tryd.underlying50
  a70 := Tryd.isAgg50
  z70 := Tryd.sizeOf50
  v70 := Tryd.zeroValue50
  t72 := Tryd.underlying52
  a72 := Tryd.isAgg52
  z72 := Tryd.sizeOf52
  v72 := Tryd.zeroValue52
  t75 := Tryd.underlying39
  a75 := Tryd.isAgg39
  z75 := Tryd.sizeOf39
  v75 := Tryd.zeroValue39
  t76 := Tryd.underlying54
  a76 := Tryd.isAgg54
  z76 := Tryd.sizeOf54
  v76 := Tryd.zeroValue54
  t105 := Tryd.underlying61
  a105 := Tryd.isAgg61
  z105 := Tryd.sizeOf61
  v105 := Tryd.zeroValue61
  t107 := Tryd.underlying59
  a107 := Tryd.isAgg59
  z107 := Tryd.sizeOf59
  v107 := Tryd.zeroValue59
  t119 := Tryd.underlying74
  a119 := Tryd.isAgg74
  z119 := Tryd.sizeOf74
  t127 := Tryd.underlying60
  a127 := Tryd.isAgg60
  z127 := Tryd.sizeOf60
  v127 := Tryd.zeroValue60
  t138 := Tryd.underlying77
  a138 := Tryd.isAgg77
  z138 := Tryd.sizeOf77
  v138 := Tryd.zeroValue77
  t139 := Tryd.underlying78
  a139 := Tryd.isAgg78
  z139 := Tryd.sizeOf78
  v139 := Tryd.zeroValue78
  t160 := Tryd.underlying80
  a160 := Tryd.isAgg80
  z160 := Tryd.sizeOf80
  v160 := Tryd.zeroValue80
  t162 := Tryd.underlying73
  a162 := Tryd.isAgg73
  z162 := Tryd.sizeOf73
  v162 := Tryd.zeroValue73
  t164 := Tryd.underlying67
  a164 := Tryd.isAgg67
  z164 := Tryd.sizeOf67
  v164 := Tryd.zeroValue67
  t203 := Tryd.underlying71
  a203 := Tryd.isAgg71
  z203 := Tryd.sizeOf71
  v203 := Tryd.zeroValue71
  t206 := Tryd.underlying84
  a206 := Tryd.isAgg84
  z206 := Tryd.sizeOf84
  v206 := Tryd.zeroValue84
  t208 := Tryd.underlying86
  a208 := Tryd.isAgg86
  z208 := Tryd.sizeOf86
  v208 := Tryd.zeroValue86
  g3 := by kernel_rfl
  g4 := by kernel_rfl
  g13 := by kernel_rfl }
theorem Tryd.Builder_Extra_159 : Builder.Extra Tryd.prog Tryd.lays159_ren := {
  sizeBuilder := by kernel_rfl
  liesBuilder := by kernel_rfl
  t5 := Tryd.underlying5
  a5 := Tryd.isAgg5
  z5 := Tryd.sizeOf5
  v5 := Tryd.zeroValue5
  infoByte := by kernel_rfl
  cellsByte := by kernel_rfl
  sizeByte := by kernel_rfl
  neB5 := by decide }
open Go.RowKit in
theorem Tryd.strings_ToLower_ascii (s : ByteArray) (w : World) (hs : s.size ≤ 140737488355328) (hascii : ∀ (j : Nat) (b : UInt8), s.data.toList[j]? = some b → b.toNat < 128) :
    Calls Tryd.prog 25 #[.string s] w fun e w' => e = .returned (.string ⟨(Lib.toLowerA s.data.toList).toArray⟩) ∧ Below w.heap.size w w' := Any.strings_ToLower_ascii Tryd.lays159 Tryd.Builder_Extra_159 s w hs hascii
def Tryd.lays137_ren : Go.Shelf.Ren := ⟨fun | 137 => 22 | 217 => 26 | 266 => 33 | n => n, fun | 9 => 9 | 5 => 5 | 3 => 3 | n => n, fun | n => n⟩
theorem Tryd.lays137 : Go.Proofs.Lays.n137 Tryd.prog Tryd.lays137_ren := {
  mixed := by kernel_rfl
  f137 := Tryd.func22.trans (congrArg some (by kernel_rfl))
  f217 := Tryd.func26.trans (congrArg some (by kernel_rfl))
  f266 := Tryd.func33.trans (congrArg some (by kernel_rfl))
  t3 := Tryd.underlying3
  a3 := Tryd.isAgg3
  z3 := Tryd.sizeOf3
  v3 := Tryd.zeroValue3
  t5 := Tryd.underlying5
  a5 := Tryd.isAgg5
  z5 := Tryd.sizeOf5
  v5 := Tryd.zeroValue5
  t9 := Tryd.underlying9
  a9 := Tryd.isAgg9
  z9 := Tryd.sizeOf9
  v9 := Tryd.zeroValue9 }
open Go.RowKit in
theorem Tryd.strings_IndexByte (s : ByteArray) (c : Int) (w : World) :
    Calls Tryd.prog 22 #[.string s, .int .u8 c] w fun e w' => e = .returned (.int .i64 (Lib.indexByte s.data.toList c.toNat.toUInt8)) ∧ w' = w := Any.strings_IndexByte Tryd.lays137 s c w
def Tryd.lays193_ren : Go.Shelf.Ren := ⟨fun | 193 => 17 | n => n, fun | 31 => 22 | 9 => 9 | 4 => 4 | 3 => 3 | 0 => 0 | n => n, fun | n => n⟩
theorem Tryd.lays193 : Go.Proofs.Lays.n193 Tryd.prog Tryd.lays193_ren := {
  mixed := by kernel_rfl
  f193 := Tryd.func17.trans (congrArg some (by kernel_rfl))
  t0 := Tryd.underlying0
  a0 := Tryd.isAgg0
  z0 := Tryd.sizeOf0
  v0 := Tryd.zeroValue0
  t3 := Tryd.underlying3
  a3 := Tryd.isAgg3
  z3 := Tryd.sizeOf3
  v3 := Tryd.zeroValue3
  t4 := Tryd.underlying4
  a4 := Tryd.isAgg4
  z4 := Tryd.sizeOf4
  v4 := Tryd.zeroValue4
  t9 := Tryd.underlying9
  a9 := Tryd.isAgg9
  z9 := Tryd.sizeOf9
  v9 := Tryd.zeroValue9
  t31 := Tryd.underlying22
  a31 := Tryd.isAgg22
  z31 := Tryd.sizeOf22
  v31 := Tryd.zeroValue22 }
open Go.RowKit Go.Lib in
theorem Tryd.slices_Equal_string (b1 o1 n c b2 o2 m d : Nat) (xs ys : List ByteArray) (w : World) (hx : n ≤ xs.length) (hy : m ≤ ys.length) (hbig : n ≤ 9223372036854775807) (hbig2 : m ≤ 9223372036854775807) (hc1 : ∀ j, j < xs.length → w.cell? ⟨b1, o1 + j, none⟩ = some (.string (xs.getD j ByteArray.empty))) (hc2 : ∀ j, j < ys.length → w.cell? ⟨b2, o2 + j, none⟩ = some (.string (ys.getD j ByteArray.empty))) :
    Calls Tryd.prog 17 #[.slice (some ⟨b1, o1, none⟩) n c, .slice (some ⟨b2, o2, none⟩) m d] w fun e w' => e = .returned (.bool (decide (xs.take n = ys.take m))) ∧ ∃ q, w' = w.drewN q := Any.slices_Equal_string Tryd.lays193 b1 o1 n c b2 o2 m d xs ys w hx hy hbig hbig2 hc1 hc2
open Go.RowKit Go.Lib in
theorem Tryd.slices_Equal_string_empty (a1 a2 : Option Addr) (c m d : Nat) (w : World) (hbig2 : m ≤ 9223372036854775807) :
    Calls Tryd.prog 17 #[.slice a1 0 c, .slice a2 m d] w fun e w' => e = .returned (.bool (decide (m = 0))) ∧ w' = w := Any.slices_Equal_string_empty Tryd.lays193 a1 a2 c m d w hbig2
open Go.RowKit Go.Lib in
theorem Tryd.slices_Equal_string_lens (a1 a2 : Option Addr) (n c m d : Nat) (w : World) (hnm : n ≠ m) :
    Calls Tryd.prog 17 #[.slice a1 n c, .slice a2 m d] w fun e w' => e = .returned (.bool false) ∧ w' = w := Any.slices_Equal_string_lens Tryd.lays193 a1 a2 n c m d w hnm
end Go.Proofs.YtooajjeikfmieaaDoor
