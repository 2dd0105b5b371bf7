/-
  The library's functions by the kit's contracts, laid at this seat's numbers; printed by the kit's own tools (lay-shelf, lay-plain), kept to those that these proofs use. No condition beyond what each says.
-/
import Derived.Shelf.LaysM
import Derived.Shelf.Bytes.IndexByte
import Derived.Shelf.Bytes.SlIndexAt
import Derived.Shelf.Bytes.SlSmallAll
import Derived.Shelf.Strings.TrimSpaceAny
import Derived.Test.YtmogecodjiofeaaDoorProg
namespace Go.Proofs.YtmogecodjiofeaaDoor.Tx
open Go.Shelf
def Tryd.lays163_ren : Go.Shelf.Ren := ⟨fun | 163 => 35 | 237 => 38 | 199 => 39 | 238 => 40 | 272 => 41 | 261 => 42 | 273 => 43 | 197 => 44 | 315 => 45 | 311 => 46 | 312 => 47 | 271 => 48 | 260 => 49 | 120 => 50 | n => n, fun | 9 => 9 | 37 => 42 | 3 => 3 | 0 => 0 | 5 => 5 | 4 => 4 | 40 => 59 | 119 => 60 | 21 => 21 | 51 => 61 | 141 => 63 | 105 => 65 | 196 => 70 | 193 => 67 | 198 => 73 | 49 => 71 | 194 => 68 | 201 => 76 | 226 => 78 | 46 => 79 | 227 => 80 | 139 => 83 | 138 => 82 | n => n, fun | 0 => 0 | 6 => 2 | 3 => 3 | 4 => 4 | n => n⟩
theorem Tryd.lays163 : Go.Proofs.Lays.n163 Tryd.prog Tryd.lays163_ren := {
  mixed := by kernel_rfl
  f120 := Tryd.func50.trans (congrArg some (by kernel_rfl))
  f163 := Tryd.func35.trans (congrArg some (by kernel_rfl))
  f197 := Tryd.func44.trans (congrArg some (by kernel_rfl))
  f199 := Tryd.func39.trans (congrArg some (by kernel_rfl))
  f237 := Tryd.func38.trans (congrArg some (by kernel_rfl))
  f238 := Tryd.func40.trans (congrArg some (by kernel_rfl))
  f260 := Tryd.func49.trans (congrArg some (by kernel_rfl))
  f261 := Tryd.func42.trans (congrArg some (by kernel_rfl))
  f271 := Tryd.func48.trans (congrArg some (by kernel_rfl))
  f272 := Tryd.func41.trans (congrArg some (by kernel_rfl))
  f273 := Tryd.func43.trans (congrArg some (by kernel_rfl))
  f311 := Tryd.func46.trans (congrArg some (by kernel_rfl))
  f312 := Tryd.func47.trans (congrArg some (by kernel_rfl))
  f315 := Tryd.func45.trans (congrArg some (by kernel_rfl))
  t0 := Tryd.underlying0
  a0 := Tryd.isAgg0
  z0 := Tryd.sizeOf0
  v0 := Tryd.zeroValue0
  t3 := Tryd.underlying3
  a3 := Tryd.isAgg3
  z3 := Tryd.sizeOf3
  v3 := Tryd.zeroValue3
  t4 := Tryd.underlying4
  a4 := Tryd.isAgg4
  z4 := Tryd.sizeOf4
  v4 := Tryd.zeroValue4
  t5 := Tryd.underlying5
  a5 := Tryd.isAgg5
  z5 := Tryd.sizeOf5
  v5 := Tryd.zeroValue5
  t9 := Tryd.underlying9
  a9 := Tryd.isAgg9
  z9 := Tryd.sizeOf9
  v9 := Tryd.zeroValue9
  t21 := Tryd.underlying21
  a21 := Tryd.isAgg21
  z21 := Tryd.sizeOf21
  v21 := Tryd.zeroValue21
  t37 := Tryd.underlying42
  a37 := Tryd.isAgg42
  z37 := Tryd.sizeOf42
  v37 := Tryd.zeroValue42
  t40 := Tryd.underlying59
  a40 := Tryd.isAgg59
  z40 := Tryd.sizeOf59
  v40 := Tryd.zeroValue59
  t46 := Tryd.underlying79
  a46 := Tryd.isAgg79
  z46 := Tryd.sizeOf79
  v46 := Tryd.zeroValue79
  t49 := Tryd.underlying71
  a49 := Tryd.isAgg71
  z49 := Tryd.sizeOf71
  v49 := Tryd.zeroValue71
  t51 := Tryd.underlying61
  a51 := Tryd.isAgg61
  z51 := Tryd.sizeOf61
  v51 := Tryd.zeroValue61
  t105 := Tryd.underlying65
  a105 := Tryd.isAgg65
  z105 := Tryd.sizeOf65
  v105 := Tryd.zeroValue65
  t119 := Tryd.underlying60
  a119 := Tryd.isAgg60
  z119 := Tryd.sizeOf60
  t138 := Tryd.underlying82
  a138 := Tryd.isAgg82
  z138 := Tryd.sizeOf82
  v138 := Tryd.zeroValue82
  t139 := Tryd.underlying83
  a139 := Tryd.isAgg83
  z139 := Tryd.sizeOf83
  v139 := Tryd.zeroValue83
  t141 := Tryd.underlying63
  a141 := Tryd.isAgg63
  z141 := Tryd.sizeOf63
  v141 := Tryd.zeroValue63
  t193 := Tryd.underlying67
  a193 := Tryd.isAgg67
  z193 := Tryd.sizeOf67
  v193 := Tryd.zeroValue67
  t194 := Tryd.underlying68
  a194 := Tryd.isAgg68
  z194 := Tryd.sizeOf68
  v194 := Tryd.zeroValue68
  t196 := Tryd.underlying70
  a196 := Tryd.isAgg70
  z196 := Tryd.sizeOf70
  v196 := Tryd.zeroValue70
  t198 := Tryd.underlying73
  a198 := Tryd.isAgg73
  z198 := Tryd.sizeOf73
  v198 := Tryd.zeroValue73
  t201 := Tryd.underlying76
  a201 := Tryd.isAgg76
  z201 := Tryd.sizeOf76
  v201 := Tryd.zeroValue76
  t226 := Tryd.underlying78
  a226 := Tryd.isAgg78
  z226 := Tryd.sizeOf78
  v226 := Tryd.zeroValue78
  t227 := Tryd.underlying80
  a227 := Tryd.isAgg80
  z227 := Tryd.sizeOf80
  v227 := Tryd.zeroValue80
  g0 := by kernel_rfl
  g3 := by kernel_rfl
  g4 := by kernel_rfl
  g6 := by kernel_rfl }
theorem Tryd.Space_Extra_163 : Space.Extra Tryd.prog Tryd.lays163_ren := {
  gNamed := by kernel_rfl }
open Go.RowKit in
theorem Tryd.strings_TrimSpace_any (s : ByteArray) (w : World) (hs : s.size ≤ 9223372036854775807) (htab : Lib.TabIs Tryd.prog w "strings.asciiSpace" .u8 Lib.asciiSpaceTab) (hU8 : Lib.Utf8Tabs 3 4 w) (hWS : Lib.WhiteTab 2 w) :
    Calls Tryd.prog 35 #[.string s] w fun e w' => e = .returned (.string ⟨(Lib.trimSpaceD s.data.toList).toArray⟩) ∧ Below w.heap.size w w' := Any.strings_TrimSpace_any Tryd.lays163 Tryd.Space_Extra_163 s w hs htab hU8 hWS
def Tryd.lays187_ren : Go.Shelf.Ren := ⟨fun | 187 => 33 | 255 => 37 | n => n, fun | 37 => 42 | 5 => 5 | 3 => 3 | n => n, fun | n => n⟩
theorem Tryd.lays187 : Go.Proofs.Lays.n187 Tryd.prog Tryd.lays187_ren := {
  mixed := by kernel_rfl
  f187 := Tryd.func33.trans (congrArg some (by kernel_rfl))
  f255 := Tryd.func37.trans (congrArg some (by kernel_rfl))
  t3 := Tryd.underlying3
  a3 := Tryd.isAgg3
  z3 := Tryd.sizeOf3
  v3 := Tryd.zeroValue3
  t5 := Tryd.underlying5
  a5 := Tryd.isAgg5
  z5 := Tryd.sizeOf5
  v5 := Tryd.zeroValue5
  t37 := Tryd.underlying42
  a37 := Tryd.isAgg42
  z37 := Tryd.sizeOf42
  v37 := Tryd.zeroValue42 }
open Go.RowKit Go.Lib in
/-- bytes.IndexByte, b at whatever address: "IndexByte returns the index of the first instance of c in b, or -1 if c is not present in b." (LAID: no walk: one application.) -/
theorem Tryd.bytes_IndexByte_at (a : Addr) (n c : Nat) (xs : List Int) (cv : Int) (w : World) (hx : xs.length = n) (hc : ∀ i, i < n → w.cell? (a.add i) = some (.int .u8 (xs.getD i 0))) :
    Calls Tryd.prog 33 #[.slice (some a) n c, .int .u8 cv] w fun e w' => e = .returned (.int .i64 (Lib.indexByte (Lib.bytesOf xs) cv.toNat.toUInt8)) ∧ w' = w := Any.bytes_IndexByte_at Tryd.lays187 a n c xs cv w hx hc
def Tryd.laysnb116_ren : Go.Shelf.Ren := ⟨fun | 116 => 32 | 115 => 36 | n => n, fun | 37 => 42 | 4 => 4 | 3 => 3 | 9 => 9 | 5 => 5 | n => n, fun | n => n⟩
theorem Tryd.laysnb116 : Go.Proofs.Lays.nb116 Tryd.prog Tryd.laysnb116_ren := {
  mixed := by kernel_rfl
  f115 := Tryd.func36.trans (congrArg some (by kernel_rfl))
  f116 := Tryd.func32.trans (congrArg some (by kernel_rfl))
  t3 := Tryd.underlying3
  a3 := Tryd.isAgg3
  z3 := Tryd.sizeOf3
  v3 := Tryd.zeroValue3
  t4 := Tryd.underlying4
  a4 := Tryd.isAgg4
  z4 := Tryd.sizeOf4
  v4 := Tryd.zeroValue4
  t9 := Tryd.underlying9
  a9 := Tryd.isAgg9
  z9 := Tryd.sizeOf9
  v9 := Tryd.zeroValue9
  t37 := Tryd.underlying42
  a37 := Tryd.isAgg42
  z37 := Tryd.sizeOf42
  v37 := Tryd.zeroValue42
  t5 := Tryd.underlying5
  a5 := Tryd.isAgg5
  z5 := Tryd.sizeOf5
  v5 := Tryd.zeroValue5 }
def Tryd.laysnb117_ren : Go.Shelf.Ren := ⟨fun | 117 => 34 | 115 => 36 | n => n, fun | 37 => 42 | 4 => 4 | 3 => 3 | 9 => 9 | 5 => 5 | n => n, fun | n => n⟩
theorem Tryd.laysnb117 : Go.Proofs.Lays.nb117 Tryd.prog Tryd.laysnb117_ren := {
  mixed := by kernel_rfl
  f115 := Tryd.func36.trans (congrArg some (by kernel_rfl))
  f117 := Tryd.func34.trans (congrArg some (by kernel_rfl))
  t3 := Tryd.underlying3
  a3 := Tryd.isAgg3
  z3 := Tryd.sizeOf3
  v3 := Tryd.zeroValue3
  t4 := Tryd.underlying4
  a4 := Tryd.isAgg4
  z4 := Tryd.sizeOf4
  v4 := Tryd.zeroValue4
  t9 := Tryd.underlying9
  a9 := Tryd.isAgg9
  z9 := Tryd.sizeOf9
  v9 := Tryd.zeroValue9
  t37 := Tryd.underlying42
  a37 := Tryd.isAgg42
  z37 := Tryd.sizeOf42
  v37 := Tryd.zeroValue42
  t5 := Tryd.underlying5
  a5 := Tryd.isAgg5
  z5 := Tryd.sizeOf5
  v5 := Tryd.zeroValue5 }
/-- bytes.HasPrefix: WHOLE: each argument nil, or of no byte at whatever address, or at an address with its cells. (LAID: no walk: one application.) -/
theorem Tryd.bytes_HasPrefix_all (p1 p2 : Option Addr) (n c m d : Nat) (xs ys : List Int) (w : World) (hx : xs.length = n) (hy : ys.length = m) (hnc : n ≤ c) (h1 : Lib.BytesIn w p1 n xs) (h2 : Lib.BytesIn w p2 m ys) :
    Calls Tryd.prog 32 #[.slice p1 n c, .slice p2 m d] w fun e w' => e = .returned (.bool (Lib.hasPrefix (Lib.bytesOf xs) (Lib.bytesOf ys))) ∧ w' = w := Any.bytes_HasPrefix_all Tryd.laysnb116 p1 p2 n c m d xs ys w hx hy hnc h1 h2
/-- bytes.HasSuffix: WHOLE: each argument nil, or of no byte at whatever address, or at an address with its cells. (LAID: no walk: one application.) -/
theorem Tryd.bytes_HasSuffix_all (p1 p2 : Option Addr) (n c m d : Nat) (xs ys : List Int) (w : World) (hx : xs.length = n) (hy : ys.length = m) (hnc : n ≤ c) (hbig : n ≤ 9223372036854775807) (h1 : Lib.BytesIn w p1 n xs) (h2 : Lib.BytesIn w p2 m ys) :
    Calls Tryd.prog 34 #[.slice p1 n c, .slice p2 m d] w fun e w' => e = .returned (.bool (Lib.hasSuffix (Lib.bytesOf xs) (Lib.bytesOf ys))) ∧ w' = w := Any.bytes_HasSuffix_all Tryd.laysnb117 p1 p2 n c m d xs ys w hx hy hnc hbig h1 h2
/-- bytes.IndexByte AT nil: -1. (LAID: no walk: one application.) -/
theorem Tryd.bytes_IndexByte_nil (cv : Int) (w : World) :
    Calls Tryd.prog 33 #[.slice none 0 0, .int .u8 cv] w fun e w' => e = .returned (.int .i64 (-1)) ∧ w' = w := Any.bytes_IndexByte_nil Tryd.lays187 cv w
end Go.Proofs.YtmogecodjiofeaaDoor.Tx
