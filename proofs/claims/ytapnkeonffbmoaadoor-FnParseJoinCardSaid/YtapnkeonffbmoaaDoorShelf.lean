/-
  The library's functions by the kit's contracts, laid at this seat's numbers; printed by the kit's own tools (lay-shelf, lay-plain), kept to those that these proofs use. No condition beyond what each says.
-/
import Derived.Shelf.LaysM
import Derived.Shelf.Bytes.IndexByte
import Derived.Shelf.Bytes.SlIndexAt
import Derived.Shelf.Bytes.SlSmallAll
import Derived.Shelf.Strings.TrimSpaceAny
import Derived.Test.YtapnkeonffbmoaaDoorProg
namespace Go.Proofs.YtapnkeonffbmoaaDoor.Tx
open Go.Shelf
def Tryd.lays163_ren : Go.Shelf.Ren := ⟨fun | 163 => 34 | 237 => 39 | 199 => 40 | 238 => 41 | 272 => 42 | 261 => 43 | 273 => 44 | 197 => 45 | 315 => 46 | 311 => 47 | 312 => 48 | 271 => 49 | 260 => 50 | 120 => 51 | n => n, fun | 9 => 9 | 37 => 39 | 3 => 3 | 0 => 0 | 5 => 5 | 4 => 4 | 40 => 58 | 119 => 59 | 21 => 21 | 51 => 60 | 141 => 62 | 105 => 64 | 196 => 69 | 193 => 66 | 198 => 72 | 49 => 70 | 194 => 67 | 201 => 75 | 226 => 77 | 46 => 78 | 227 => 79 | 139 => 82 | 138 => 81 | n => n, fun | 0 => 0 | 6 => 2 | 3 => 3 | 4 => 4 | n => n⟩
theorem Tryd.lays163 : Go.Proofs.Lays.n163 Tryd.prog Tryd.lays163_ren := {
  mixed := by kernel_rfl
  f120 := Tryd.func51.trans (congrArg some (by kernel_rfl))
  f163 := Tryd.func34.trans (congrArg some (by kernel_rfl))
  f197 := Tryd.func45.trans (congrArg some (by kernel_rfl))
  f199 := Tryd.func40.trans (congrArg some (by kernel_rfl))
  f237 := Tryd.func39.trans (congrArg some (by kernel_rfl))
  f238 := Tryd.func41.trans (congrArg some (by kernel_rfl))
  f260 := Tryd.func50.trans (congrArg some (by kernel_rfl))
  f261 := Tryd.func43.trans (congrArg some (by kernel_rfl))
  f271 := Tryd.func49.trans (congrArg some (by kernel_rfl))
  f272 := Tryd.func42.trans (congrArg some (by kernel_rfl))
  f273 := Tryd.func44.trans (congrArg some (by kernel_rfl))
  f311 := Tryd.func47.trans (congrArg some (by kernel_rfl))
  f312 := Tryd.func48.trans (congrArg some (by kernel_rfl))
  f315 := Tryd.func46.trans (congrArg some (by kernel_rfl))
  t0 := Tryd.underlying0
  a0 := Tryd.isAgg0
  z0 := Tryd.sizeOf0
  v0 := Tryd.zeroValue0
  t3 := Tryd.underlying3
  a3 := Tryd.isAgg3
  z3 := Tryd.sizeOf3
  v3 := Tryd.zeroValue3
  t4 := Tryd.underlying4
  a4 := Tryd.isAgg4
  z4 := Tryd.sizeOf4
  v4 := Tryd.zeroValue4
  t5 := Tryd.underlying5
  a5 := Tryd.isAgg5
  z5 := Tryd.sizeOf5
  v5 := Tryd.zeroValue5
  t9 := Tryd.underlying9
  a9 := Tryd.isAgg9
  z9 := Tryd.sizeOf9
  v9 := Tryd.zeroValue9
  t21 := Tryd.underlying21
  a21 := Tryd.isAgg21
  z21 := Tryd.sizeOf21
  v21 := Tryd.zeroValue21
  t37 := Tryd.underlying39
  a37 := Tryd.isAgg39
  z37 := Tryd.sizeOf39
  v37 := Tryd.zeroValue39
  t40 := Tryd.underlying58
  a40 := Tryd.isAgg58
  z40 := Tryd.sizeOf58
  v40 := Tryd.zeroValue58
  t46 := Tryd.underlying78
  a46 := Tryd.isAgg78
  z46 := Tryd.sizeOf78
  v46 := Tryd.zeroValue78
  t49 := Tryd.underlying70
  a49 := Tryd.isAgg70
  z49 := Tryd.sizeOf70
  v49 := Tryd.zeroValue70
  t51 := Tryd.underlying60
  a51 := Tryd.isAgg60
  z51 := Tryd.sizeOf60
  v51 := Tryd.zeroValue60
  t105 := Tryd.underlying64
  a105 := Tryd.isAgg64
  z105 := Tryd.sizeOf64
  v105 := Tryd.zeroValue64
  t119 := Tryd.underlying59
  a119 := Tryd.isAgg59
  z119 := Tryd.sizeOf59
  t138 := Tryd.underlying81
  a138 := Tryd.isAgg81
  z138 := Tryd.sizeOf81
  v138 := Tryd.zeroValue81
  t139 := Tryd.underlying82
  a139 := Tryd.isAgg82
  z139 := Tryd.sizeOf82
  v139 := Tryd.zeroValue82
  t141 := Tryd.underlying62
  a141 := Tryd.isAgg62
  z141 := Tryd.sizeOf62
  v141 := Tryd.zeroValue62
  t193 := Tryd.underlying66
  a193 := Tryd.isAgg66
  z193 := Tryd.sizeOf66
  v193 := Tryd.zeroValue66
  t194 := Tryd.underlying67
  a194 := Tryd.isAgg67
  z194 := Tryd.sizeOf67
  v194 := Tryd.zeroValue67
  t196 := Tryd.underlying69
  a196 := Tryd.isAgg69
  z196 := Tryd.sizeOf69
  v196 := Tryd.zeroValue69
  t198 := Tryd.underlying72
  a198 := Tryd.isAgg72
  z198 := Tryd.sizeOf72
  v198 := Tryd.zeroValue72
  t201 := Tryd.underlying75
  a201 := Tryd.isAgg75
  z201 := Tryd.sizeOf75
  v201 := Tryd.zeroValue75
  t226 := Tryd.underlying77
  a226 := Tryd.isAgg77
  z226 := Tryd.sizeOf77
  v226 := Tryd.zeroValue77
  t227 := Tryd.underlying79
  a227 := Tryd.isAgg79
  z227 := Tryd.sizeOf79
  v227 := Tryd.zeroValue79
  g0 := by kernel_rfl
  g3 := by kernel_rfl
  g4 := by kernel_rfl
  g6 := by kernel_rfl }
theorem Tryd.Space_Extra_163 : Space.Extra Tryd.prog Tryd.lays163_ren := {
  gNamed := by kernel_rfl }
open Go.RowKit in
theorem Tryd.strings_TrimSpace_any (s : ByteArray) (w : World) (hs : s.size ≤ 9223372036854775807) (htab : Lib.TabIs Tryd.prog w "strings.asciiSpace" .u8 Lib.asciiSpaceTab) (hU8 : Lib.Utf8Tabs 3 4 w) (hWS : Lib.WhiteTab 2 w) :
    Calls Tryd.prog 34 #[.string s] w fun e w' => e = .returned (.string ⟨(Lib.trimSpaceD s.data.toList).toArray⟩) ∧ Below w.heap.size w w' := Any.strings_TrimSpace_any Tryd.lays163 Tryd.Space_Extra_163 s w hs htab hU8 hWS
def Tryd.lays187_ren : Go.Shelf.Ren := ⟨fun | 187 => 32 | 255 => 38 | n => n, fun | 37 => 39 | 5 => 5 | 3 => 3 | n => n, fun | n => n⟩
theorem Tryd.lays187 : Go.Proofs.Lays.n187 Tryd.prog Tryd.lays187_ren := {
  mixed := by kernel_rfl
  f187 := Tryd.func32.trans (congrArg some (by kernel_rfl))
  f255 := Tryd.func38.trans (congrArg some (by kernel_rfl))
  t3 := Tryd.underlying3
  a3 := Tryd.isAgg3
  z3 := Tryd.sizeOf3
  v3 := Tryd.zeroValue3
  t5 := Tryd.underlying5
  a5 := Tryd.isAgg5
  z5 := Tryd.sizeOf5
  v5 := Tryd.zeroValue5
  t37 := Tryd.underlying39
  a37 := Tryd.isAgg39
  z37 := Tryd.sizeOf39
  v37 := Tryd.zeroValue39 }
open Go.RowKit Go.Lib in
/-- bytes.IndexByte, b at whatever address: "IndexByte returns the index of the first instance of c in b, or -1 if c is not present in b." (LAID: no walk: one application.) -/
theorem Tryd.bytes_IndexByte_at (a : Addr) (n c : Nat) (xs : List Int) (cv : Int) (w : World) (hx : xs.length = n) (hc : ∀ i, i < n → w.cell? (a.add i) = some (.int .u8 (xs.getD i 0))) :
    Calls Tryd.prog 32 #[.slice (some a) n c, .int .u8 cv] w fun e w' => e = .returned (.int .i64 (Lib.indexByte (Lib.bytesOf xs) cv.toNat.toUInt8)) ∧ w' = w := Any.bytes_IndexByte_at Tryd.lays187 a n c xs cv w hx hc
def Tryd.laysnb116_ren : Go.Shelf.Ren := ⟨fun | 116 => 31 | 115 => 37 | n => n, fun | 37 => 39 | 4 => 4 | 3 => 3 | 9 => 9 | 5 => 5 | n => n, fun | n => n⟩
theorem Tryd.laysnb116 : Go.Proofs.Lays.nb116 Tryd.prog Tryd.laysnb116_ren := {
  mixed := by kernel_rfl
  f115 := Tryd.func37.trans (congrArg some (by kernel_rfl))
  f116 := Tryd.func31.trans (congrArg some (by kernel_rfl))
  t3 := Tryd.underlying3
  a3 := Tryd.isAgg3
  z3 := Tryd.sizeOf3
  v3 := Tryd.zeroValue3
  t4 := Tryd.underlying4
  a4 := Tryd.isAgg4
  z4 := Tryd.sizeOf4
  v4 := Tryd.zeroValue4
  t9 := Tryd.underlying9
  a9 := Tryd.isAgg9
  z9 := Tryd.sizeOf9
  v9 := Tryd.zeroValue9
  t37 := Tryd.underlying39
  a37 := Tryd.isAgg39
  z37 := Tryd.sizeOf39
  v37 := Tryd.zeroValue39
  t5 := Tryd.underlying5
  a5 := Tryd.isAgg5
  z5 := Tryd.sizeOf5
  v5 := Tryd.zeroValue5 }
def Tryd.laysnb117_ren : Go.Shelf.Ren := ⟨fun | 117 => 33 | 115 => 37 | n => n, fun | 37 => 39 | 4 => 4 | 3 => 3 | 9 => 9 | 5 => 5 | n => n, fun | n => n⟩
theorem Tryd.laysnb117 : Go.Proofs.Lays.nb117 Tryd.prog Tryd.laysnb117_ren := {
  mixed := by kernel_rfl
  f115 := Tryd.func37.trans (congrArg some (by kernel_rfl))
  f117 := Tryd.func33.trans (congrArg some (by kernel_rfl))
  t3 := Tryd.underlying3
  a3 := Tryd.isAgg3
  z3 := Tryd.sizeOf3
  v3 := Tryd.zeroValue3
  t4 := Tryd.underlying4
  a4 := Tryd.isAgg4
  z4 := Tryd.sizeOf4
  v4 := Tryd.zeroValue4
  t9 := Tryd.underlying9
  a9 := Tryd.isAgg9
  z9 := Tryd.sizeOf9
  v9 := Tryd.zeroValue9
  t37 := Tryd.underlying39
  a37 := Tryd.isAgg39
  z37 := Tryd.sizeOf39
  v37 := Tryd.zeroValue39
  t5 := Tryd.underlying5
  a5 := Tryd.isAgg5
  z5 := Tryd.sizeOf5
  v5 := Tryd.zeroValue5 }
/-- bytes.HasPrefix: WHOLE: each argument nil, or of no byte at whatever address, or at an address with its cells. (LAID: no walk: one application.) -/
theorem Tryd.bytes_HasPrefix_all (p1 p2 : Option Addr) (n c m d : Nat) (xs ys : List Int) (w : World) (hx : xs.length = n) (hy : ys.length = m) (hnc : n ≤ c) (h1 : Lib.BytesIn w p1 n xs) (h2 : Lib.BytesIn w p2 m ys) :
    Calls Tryd.prog 31 #[.slice p1 n c, .slice p2 m d] w fun e w' => e = .returned (.bool (Lib.hasPrefix (Lib.bytesOf xs) (Lib.bytesOf ys))) ∧ w' = w := Any.bytes_HasPrefix_all Tryd.laysnb116 p1 p2 n c m d xs ys w hx hy hnc h1 h2
/-- bytes.HasSuffix: WHOLE: each argument nil, or of no byte at whatever address, or at an address with its cells. (LAID: no walk: one application.) -/
theorem Tryd.bytes_HasSuffix_all (p1 p2 : Option Addr) (n c m d : Nat) (xs ys : List Int) (w : World) (hx : xs.length = n) (hy : ys.length = m) (hnc : n ≤ c) (hbig : n ≤ 9223372036854775807) (h1 : Lib.BytesIn w p1 n xs) (h2 : Lib.BytesIn w p2 m ys) :
    Calls Tryd.prog 33 #[.slice p1 n c, .slice p2 m d] w fun e w' => e = .returned (.bool (Lib.hasSuffix (Lib.bytesOf xs) (Lib.bytesOf ys))) ∧ w' = w := Any.bytes_HasSuffix_all Tryd.laysnb117 p1 p2 n c m d xs ys w hx hy hnc hbig h1 h2
/-- bytes.IndexByte AT nil: -1. (LAID: no walk: one application.) -/
theorem Tryd.bytes_IndexByte_nil (cv : Int) (w : World) :
    Calls Tryd.prog 32 #[.slice none 0 0, .int .u8 cv] w fun e w' => e = .returned (.int .i64 (-1)) ∧ w' = w := Any.bytes_IndexByte_nil Tryd.lays187 cv w
end Go.Proofs.YtapnkeonffbmoaaDoor.Tx
