/-
  The library's functions by the kit's contracts, laid at this seat's numbers; printed by the kit's own tools (lay-shelf, lay-plain), kept to those that these proofs use. No condition beyond what each says.
-/
import Derived.Shelf.LaysM
import Derived.Shelf.Bytes.Bytes
import Derived.Shelf.Bytes.IndexByte
import Derived.Shelf.Bytes.SlIndexAt
import Derived.Shelf.Bytes.SlSmallAll
import Derived.Shelf.Bytes.WriteAny
import Derived.Shelf.Bytes.WriteStringKept
import Derived.Shelf.Strings.TrimSpaceAny
import Derived.Test.YtoojofakgjmagaaDoorProg
namespace Go.Proofs.YtoojofakgjmagaaDoor.Tx
open Go.Shelf
def Tryd.lays163_ren : Go.Shelf.Ren := ⟨fun | 163 => 51 | 237 => 55 | 199 => 56 | 238 => 57 | 272 => 58 | 261 => 59 | 273 => 60 | 197 => 61 | 315 => 62 | 311 => 63 | 312 => 64 | 271 => 65 | 260 => 66 | 120 => 67 | n => n, fun | 9 => 9 | 37 => 38 | 3 => 3 | 0 => 0 | 5 => 5 | 4 => 4 | 40 => 78 | 119 => 79 | 21 => 21 | 51 => 80 | 141 => 82 | 105 => 84 | 196 => 89 | 193 => 86 | 198 => 92 | 49 => 90 | 194 => 87 | 201 => 95 | 226 => 97 | 46 => 98 | 227 => 99 | 139 => 102 | 138 => 101 | n => n, fun | 0 => 1 | 6 => 3 | 3 => 4 | 4 => 5 | n => n⟩
theorem Tryd.lays163 : Go.Proofs.Lays.n163 Tryd.prog Tryd.lays163_ren := {
  mixed := by kernel_rfl
  f120 := Tryd.func67.trans (congrArg some (by kernel_rfl))
  f163 := Tryd.func51.trans (congrArg some (by kernel_rfl))
  f197 := Tryd.func61.trans (congrArg some (by kernel_rfl))
  f199 := Tryd.func56.trans (congrArg some (by kernel_rfl))
  f237 := Tryd.func55.trans (congrArg some (by kernel_rfl))
  f238 := Tryd.func57.trans (congrArg some (by kernel_rfl))
  f260 := Tryd.func66.trans (congrArg some (by kernel_rfl))
  f261 := Tryd.func59.trans (congrArg some (by kernel_rfl))
  f271 := Tryd.func65.trans (congrArg some (by kernel_rfl))
  f272 := Tryd.func58.trans (congrArg some (by kernel_rfl))
  f273 := Tryd.func60.trans (congrArg some (by kernel_rfl))
  f311 := Tryd.func63.trans (congrArg some (by kernel_rfl))
  f312 := Tryd.func64.trans (congrArg some (by kernel_rfl))
  f315 := Tryd.func62.trans (congrArg some (by kernel_rfl))
  t0 := Tryd.underlying0
  a0 := Tryd.isAgg0
  z0 := Tryd.sizeOf0
  v0 := Tryd.zeroValue0
  t3 := Tryd.underlying3
  a3 := Tryd.isAgg3
  z3 := Tryd.sizeOf3
  v3 := Tryd.zeroValue3
  t4 := Tryd.underlying4
  a4 := Tryd.isAgg4
  z4 := Tryd.sizeOf4
  v4 := Tryd.zeroValue4
  t5 := Tryd.underlying5
  a5 := Tryd.isAgg5
  z5 := Tryd.sizeOf5
  v5 := Tryd.zeroValue5
  t9 := Tryd.underlying9
  a9 := Tryd.isAgg9
  z9 := Tryd.sizeOf9
  v9 := Tryd.zeroValue9
  t21 := Tryd.underlying21
  a21 := Tryd.isAgg21
  z21 := Tryd.sizeOf21
  v21 := Tryd.zeroValue21
  t37 := Tryd.underlying38
  a37 := Tryd.isAgg38
  z37 := Tryd.sizeOf38
  v37 := Tryd.zeroValue38
  t40 := Tryd.underlying78
  a40 := Tryd.isAgg78
  z40 := Tryd.sizeOf78
  v40 := Tryd.zeroValue78
  t46 := Tryd.underlying98
  a46 := Tryd.isAgg98
  z46 := Tryd.sizeOf98
  v46 := Tryd.zeroValue98
  t49 := Tryd.underlying90
  a49 := Tryd.isAgg90
  z49 := Tryd.sizeOf90
  v49 := Tryd.zeroValue90
  t51 := Tryd.underlying80
  a51 := Tryd.isAgg80
  z51 := Tryd.sizeOf80
  v51 := Tryd.zeroValue80
  t105 := Tryd.underlying84
  a105 := Tryd.isAgg84
  z105 := Tryd.sizeOf84
  v105 := Tryd.zeroValue84
  t119 := Tryd.underlying79
  a119 := Tryd.isAgg79
  z119 := Tryd.sizeOf79
  t138 := Tryd.underlying101
  a138 := Tryd.isAgg101
  z138 := Tryd.sizeOf101
  v138 := Tryd.zeroValue101
  t139 := Tryd.underlying102
  a139 := Tryd.isAgg102
  z139 := Tryd.sizeOf102
  v139 := Tryd.zeroValue102
  t141 := Tryd.underlying82
  a141 := Tryd.isAgg82
  z141 := Tryd.sizeOf82
  v141 := Tryd.zeroValue82
  t193 := Tryd.underlying86
  a193 := Tryd.isAgg86
  z193 := Tryd.sizeOf86
  v193 := Tryd.zeroValue86
  t194 := Tryd.underlying87
  a194 := Tryd.isAgg87
  z194 := Tryd.sizeOf87
  v194 := Tryd.zeroValue87
  t196 := Tryd.underlying89
  a196 := Tryd.isAgg89
  z196 := Tryd.sizeOf89
  v196 := Tryd.zeroValue89
  t198 := Tryd.underlying92
  a198 := Tryd.isAgg92
  z198 := Tryd.sizeOf92
  v198 := Tryd.zeroValue92
  t201 := Tryd.underlying95
  a201 := Tryd.isAgg95
  z201 := Tryd.sizeOf95
  v201 := Tryd.zeroValue95
  t226 := Tryd.underlying97
  a226 := Tryd.isAgg97
  z226 := Tryd.sizeOf97
  v226 := Tryd.zeroValue97
  t227 := Tryd.underlying99
  a227 := Tryd.isAgg99
  z227 := Tryd.sizeOf99
  v227 := Tryd.zeroValue99
  g0 := by kernel_rfl
  g3 := by kernel_rfl
  g4 := by kernel_rfl
  g6 := by kernel_rfl }
theorem Tryd.Space_Extra_163 : Space.Extra Tryd.prog Tryd.lays163_ren := {
  gNamed := by kernel_rfl }
def Tryd.laysM183_ren : Go.Shelf.Ren := ⟨fun | 183 => 37 | n => n, fun | 130 => 66 | 37 => 38 | 0 => 0 | 93 => 54 | 3 => 3 | 5 => 5 | 91 => 52 | n => n, fun | n => n⟩
theorem Tryd.laysM183 : Go.Proofs.LaysM.n183 Tryd.prog Tryd.laysM183_ren := {
  mixed := by kernel_rfl
  f183 := Tryd.func37.trans (congrArg some (by kernel_rfl))
  t0 := Tryd.underlying0
  a0 := Tryd.isAgg0
  z0 := Tryd.sizeOf0
  v0 := Tryd.zeroValue0
  t3 := Tryd.underlying3
  a3 := Tryd.isAgg3
  z3 := Tryd.sizeOf3
  v3 := Tryd.zeroValue3
  t37 := Tryd.underlying38
  a37 := Tryd.isAgg38
  z37 := Tryd.sizeOf38
  v37 := Tryd.zeroValue38
  t93 := Tryd.underlying54
  a93 := Tryd.isAgg54
  z93 := Tryd.sizeOf54
  v93 := Tryd.zeroValue54
  t130 := Tryd.underlying66
  a130 := Tryd.isAgg66
  z130 := Tryd.sizeOf66
  v130 := Tryd.zeroValue66
  t5 := Tryd.underlying5
  a5 := Tryd.isAgg5
  z5 := Tryd.sizeOf5
  v5 := Tryd.zeroValue5
  t91 := Tryd.underlying52
  a91 := Tryd.isAgg52
  z91 := Tryd.sizeOf52
  v91 := Tryd.zeroValue52
  i0 := by kernel_rfl
  i3 := by kernel_rfl
  i5 := by kernel_rfl
  i37 := by kernel_rfl
  i91 := by kernel_rfl
  i93 := by kernel_rfl
  i130 := by kernel_rfl }
open Go.RowKit in
/-- (*bytes.Buffer).Bytes: "Bytes returns a slice of length b.Len() holding the unread portion of the buffer. .. The slice aliases the buffer content at least until the next buffer modification": A SLICE THAT OWNS THE CELLS bs ('World.ownsRow': nil where nothing was ever written). The world is as it was but for the count of draws. (LAID: no walk: one application.) -/
theorem Tryd.Buffer_Bytes (B b : Nat) (bs : List Value) (w : World) (h : Lib.IsBuffer 54 5 B b bs w) :
    Calls Tryd.prog 37 #[.pointer (some ⟨b, 0, none⟩)] w fun e w' => ∃ v, e = .returned v ∧ w'.ownsRow B 5 1 v bs.length bs ∧ ∃ n, w' = w.drewN n := Any.Buffer_Bytes Tryd.laysM183 B b bs w h
def Tryd.laysM178_ren : Go.Shelf.Ren := ⟨fun | 178 => 36 | 251 => 41 | 252 => 42 | 181 => 45 | 184 => 46 | 290 => 47 | 324 => 52 | n => n, fun | 130 => 66 | 9 => 9 | 3 => 3 | 75 => 56 | 0 => 0 | 93 => 54 | 91 => 52 | 131 => 67 | 4 => 4 | 37 => 38 | 20 => 20 | 80 => 104 | 5 => 5 | n => n, fun | 14 => 0 | n => n⟩
theorem Tryd.laysM178 : Go.Proofs.LaysM.n178 Tryd.prog Tryd.laysM178_ren := {
  mixed := by kernel_rfl
  f178 := Tryd.func36.trans (congrArg some (by kernel_rfl))
  f181 := Tryd.func45.trans (congrArg some (by kernel_rfl))
  f184 := Tryd.func46.trans (congrArg some (by kernel_rfl))
  f251 := Tryd.func41.trans (congrArg some (by kernel_rfl))
  f252 := Tryd.func42.trans (congrArg some (by kernel_rfl))
  f290 := Tryd.func47.trans (congrArg some (by kernel_rfl))
  f324 := Tryd.func52.trans (congrArg some (by kernel_rfl))
  t0 := Tryd.underlying0
  a0 := Tryd.isAgg0
  z0 := Tryd.sizeOf0
  v0 := Tryd.zeroValue0
  t3 := Tryd.underlying3
  a3 := Tryd.isAgg3
  z3 := Tryd.sizeOf3
  v3 := Tryd.zeroValue3
  t4 := Tryd.underlying4
  a4 := Tryd.isAgg4
  z4 := Tryd.sizeOf4
  v4 := Tryd.zeroValue4
  t9 := Tryd.underlying9
  a9 := Tryd.isAgg9
  z9 := Tryd.sizeOf9
  v9 := Tryd.zeroValue9
  t20 := Tryd.underlying20
  a20 := Tryd.isAgg20
  z20 := Tryd.sizeOf20
  v20 := Tryd.zeroValue20
  t37 := Tryd.underlying38
  a37 := Tryd.isAgg38
  z37 := Tryd.sizeOf38
  v37 := Tryd.zeroValue38
  t75 := Tryd.underlying56
  a75 := Tryd.isAgg56
  z75 := Tryd.sizeOf56
  v75 := Tryd.zeroValue56
  t91 := Tryd.underlying52
  a91 := Tryd.isAgg52
  z91 := Tryd.sizeOf52
  v91 := Tryd.zeroValue52
  t93 := Tryd.underlying54
  a93 := Tryd.isAgg54
  z93 := Tryd.sizeOf54
  v93 := Tryd.zeroValue54
  t130 := Tryd.underlying66
  a130 := Tryd.isAgg66
  z130 := Tryd.sizeOf66
  v130 := Tryd.zeroValue66
  t131 := Tryd.underlying67
  a131 := Tryd.isAgg67
  z131 := Tryd.sizeOf67
  v131 := Tryd.zeroValue67
  g14 := by kernel_rfl
  t5 := Tryd.underlying5
  a5 := Tryd.isAgg5
  z5 := Tryd.sizeOf5
  v5 := Tryd.zeroValue5
  t80 := Tryd.underlying104
  a80 := Tryd.isAgg104
  z80 := Tryd.sizeOf104
  v80 := Tryd.zeroValue104
  i0 := by kernel_rfl
  i3 := by kernel_rfl
  i4 := by kernel_rfl
  i5 := by kernel_rfl
  i9 := by kernel_rfl
  i20 := by kernel_rfl
  i37 := by kernel_rfl
  i75 := by kernel_rfl
  i80 := by kernel_rfl
  i91 := by kernel_rfl
  i93 := by kernel_rfl
  i130 := by kernel_rfl
  i131 := by kernel_rfl
  m14 := by kernel_rfl }
open Go.RowKit in
/-- (*bytes.Buffer).WriteString: "WriteString appends the contents of s to the buffer, growing the buffer as needed. The return value n is the length of s; err is always nil." (LAID: no walk: one application.) -/
theorem Tryd.Buffer_WriteString_kept (B b : Nat) (bs : List Value) (s : ByteArray) (w : World) (h : Lib.IsBuffer 54 5 B b bs w) (hBw : B ≤ w.heap.size) (h1 : ∀ v ∈ bs, v.oneCell' = true) (hlim : bs.length + s.size ≤ 140737488355328) :
    Calls Tryd.prog 36 #[.pointer (some ⟨b, 0, none⟩), .string s] w fun e w' => e = .returned (.tuple #[.int .i64 s.size, .nilIface]) ∧ Lib.IsBuffer 54 5 B b (bs ++ Lib.byteCells s.data.toList) w' ∧ Below B w w' ∧ Lib.OthersKept 5 (some b) w w' := Any.Buffer_WriteString_kept Tryd.laysM178 B b bs s w h hBw h1 hlim
def Tryd.laysM180_ren : Go.Shelf.Ren := ⟨fun | 180 => 34 | 251 => 41 | 252 => 42 | 181 => 45 | 184 => 46 | 290 => 47 | 324 => 52 | n => n, fun | 130 => 66 | 37 => 38 | 3 => 3 | 75 => 56 | 0 => 0 | 93 => 54 | 91 => 52 | 131 => 67 | 4 => 4 | 20 => 20 | 5 => 5 | 80 => 104 | 9 => 9 | n => n, fun | 14 => 0 | n => n⟩
theorem Tryd.laysM180 : Go.Proofs.LaysM.n180 Tryd.prog Tryd.laysM180_ren := {
  mixed := by kernel_rfl
  f180 := Tryd.func34.trans (congrArg some (by kernel_rfl))
  f181 := Tryd.func45.trans (congrArg some (by kernel_rfl))
  f184 := Tryd.func46.trans (congrArg some (by kernel_rfl))
  f251 := Tryd.func41.trans (congrArg some (by kernel_rfl))
  f252 := Tryd.func42.trans (congrArg some (by kernel_rfl))
  f290 := Tryd.func47.trans (congrArg some (by kernel_rfl))
  f324 := Tryd.func52.trans (congrArg some (by kernel_rfl))
  t0 := Tryd.underlying0
  a0 := Tryd.isAgg0
  z0 := Tryd.sizeOf0
  v0 := Tryd.zeroValue0
  t3 := Tryd.underlying3
  a3 := Tryd.isAgg3
  z3 := Tryd.sizeOf3
  v3 := Tryd.zeroValue3
  t4 := Tryd.underlying4
  a4 := Tryd.isAgg4
  z4 := Tryd.sizeOf4
  v4 := Tryd.zeroValue4
  t20 := Tryd.underlying20
  a20 := Tryd.isAgg20
  z20 := Tryd.sizeOf20
  v20 := Tryd.zeroValue20
  t37 := Tryd.underlying38
  a37 := Tryd.isAgg38
  z37 := Tryd.sizeOf38
  v37 := Tryd.zeroValue38
  t75 := Tryd.underlying56
  a75 := Tryd.isAgg56
  z75 := Tryd.sizeOf56
  v75 := Tryd.zeroValue56
  t91 := Tryd.underlying52
  a91 := Tryd.isAgg52
  z91 := Tryd.sizeOf52
  v91 := Tryd.zeroValue52
  t93 := Tryd.underlying54
  a93 := Tryd.isAgg54
  z93 := Tryd.sizeOf54
  v93 := Tryd.zeroValue54
  t130 := Tryd.underlying66
  a130 := Tryd.isAgg66
  z130 := Tryd.sizeOf66
  v130 := Tryd.zeroValue66
  t131 := Tryd.underlying67
  a131 := Tryd.isAgg67
  z131 := Tryd.sizeOf67
  v131 := Tryd.zeroValue67
  g14 := by kernel_rfl
  t5 := Tryd.underlying5
  a5 := Tryd.isAgg5
  z5 := Tryd.sizeOf5
  v5 := Tryd.zeroValue5
  t9 := Tryd.underlying9
  a9 := Tryd.isAgg9
  z9 := Tryd.sizeOf9
  v9 := Tryd.zeroValue9
  t80 := Tryd.underlying104
  a80 := Tryd.isAgg104
  z80 := Tryd.sizeOf104
  v80 := Tryd.zeroValue104
  i0 := by kernel_rfl
  i3 := by kernel_rfl
  i4 := by kernel_rfl
  i5 := by kernel_rfl
  i9 := by kernel_rfl
  i20 := by kernel_rfl
  i37 := by kernel_rfl
  i75 := by kernel_rfl
  i80 := by kernel_rfl
  i91 := by kernel_rfl
  i93 := by kernel_rfl
  i130 := by kernel_rfl
  i131 := by kernel_rfl
  m14 := by kernel_rfl }
open Go.RowKit in
/-- (*bytes.Buffer).Write: "Write appends the contents of p to the buffer, growing the buffer as needed. The return value n is the length of p; err is always nil." (LAID: no walk: one application.) -/
theorem Tryd.Buffer_Write_any (B b : Nat) (bs cs : List Value) (a : Addr) (n c : Nat) (w : World) (h : Lib.IsBuffer 54 5 B b bs w) (hBw : B ≤ w.heap.size) (h1 : ∀ v ∈ bs, v.oneCell' = true) (hn : cs.length = n) (hab : a.block ≠ b) (hsrc : ∀ j v, cs[j]? = some v → w.cell? (a.add j) = some v) (h1c : ∀ v ∈ cs, v.oneCell' = true) (hlim : bs.length + n ≤ 140737488355328) :
    Calls Tryd.prog 34 #[.pointer (some ⟨b, 0, none⟩), .slice (some a) n c] w fun e w' => e = .returned (.tuple #[.int .i64 n, .nilIface]) ∧ Lib.IsBuffer 54 5 B b (bs ++ cs) w' ∧ Below B w w' ∧ Lib.OthersKept 5 (some b) w w' := Any.Buffer_Write_any Tryd.laysM180 B b bs cs a n c w h hBw h1 hn hab hsrc h1c hlim
open Go.RowKit in
theorem Tryd.strings_TrimSpace_any (s : ByteArray) (w : World) (hs : s.size ≤ 9223372036854775807) (htab : Lib.TabIs Tryd.prog w "strings.asciiSpace" .u8 Lib.asciiSpaceTab) (hU8 : Lib.Utf8Tabs 4 5 w) (hWS : Lib.WhiteTab 3 w) :
    Calls Tryd.prog 51 #[.string s] w fun e w' => e = .returned (.string ⟨(Lib.trimSpaceD s.data.toList).toArray⟩) ∧ Below w.heap.size w w' := Any.strings_TrimSpace_any Tryd.lays163 Tryd.Space_Extra_163 s w hs htab hU8 hWS
def Tryd.lays187_ren : Go.Shelf.Ren := ⟨fun | 187 => 49 | 255 => 54 | n => n, fun | 37 => 38 | 5 => 5 | 3 => 3 | n => n, fun | n => n⟩
theorem Tryd.lays187 : Go.Proofs.Lays.n187 Tryd.prog Tryd.lays187_ren := {
  mixed := by kernel_rfl
  f187 := Tryd.func49.trans (congrArg some (by kernel_rfl))
  f255 := Tryd.func54.trans (congrArg some (by kernel_rfl))
  t3 := Tryd.underlying3
  a3 := Tryd.isAgg3
  z3 := Tryd.sizeOf3
  v3 := Tryd.zeroValue3
  t5 := Tryd.underlying5
  a5 := Tryd.isAgg5
  z5 := Tryd.sizeOf5
  v5 := Tryd.zeroValue5
  t37 := Tryd.underlying38
  a37 := Tryd.isAgg38
  z37 := Tryd.sizeOf38
  v37 := Tryd.zeroValue38 }
open Go.RowKit Go.Lib in
/-- bytes.IndexByte, b at whatever address: "IndexByte returns the index of the first instance of c in b, or -1 if c is not present in b." (LAID: no walk: one application.) -/
theorem Tryd.bytes_IndexByte_at (a : Addr) (n c : Nat) (xs : List Int) (cv : Int) (w : World) (hx : xs.length = n) (hc : ∀ i, i < n → w.cell? (a.add i) = some (.int .u8 (xs.getD i 0))) :
    Calls Tryd.prog 49 #[.slice (some a) n c, .int .u8 cv] w fun e w' => e = .returned (.int .i64 (Lib.indexByte (Lib.bytesOf xs) cv.toNat.toUInt8)) ∧ w' = w := Any.bytes_IndexByte_at Tryd.lays187 a n c xs cv w hx hc
def Tryd.laysnb116_ren : Go.Shelf.Ren := ⟨fun | 116 => 48 | 115 => 53 | n => n, fun | 37 => 38 | 4 => 4 | 3 => 3 | 9 => 9 | 5 => 5 | n => n, fun | n => n⟩
theorem Tryd.laysnb116 : Go.Proofs.Lays.nb116 Tryd.prog Tryd.laysnb116_ren := {
  mixed := by kernel_rfl
  f115 := Tryd.func53.trans (congrArg some (by kernel_rfl))
  f116 := Tryd.func48.trans (congrArg some (by kernel_rfl))
  t3 := Tryd.underlying3
  a3 := Tryd.isAgg3
  z3 := Tryd.sizeOf3
  v3 := Tryd.zeroValue3
  t4 := Tryd.underlying4
  a4 := Tryd.isAgg4
  z4 := Tryd.sizeOf4
  v4 := Tryd.zeroValue4
  t9 := Tryd.underlying9
  a9 := Tryd.isAgg9
  z9 := Tryd.sizeOf9
  v9 := Tryd.zeroValue9
  t37 := Tryd.underlying38
  a37 := Tryd.isAgg38
  z37 := Tryd.sizeOf38
  v37 := Tryd.zeroValue38
  t5 := Tryd.underlying5
  a5 := Tryd.isAgg5
  z5 := Tryd.sizeOf5
  v5 := Tryd.zeroValue5 }
def Tryd.laysnb117_ren : Go.Shelf.Ren := ⟨fun | 117 => 50 | 115 => 53 | n => n, fun | 37 => 38 | 4 => 4 | 3 => 3 | 9 => 9 | 5 => 5 | n => n, fun | n => n⟩
theorem Tryd.laysnb117 : Go.Proofs.Lays.nb117 Tryd.prog Tryd.laysnb117_ren := {
  mixed := by kernel_rfl
  f115 := Tryd.func53.trans (congrArg some (by kernel_rfl))
  f117 := Tryd.func50.trans (congrArg some (by kernel_rfl))
  t3 := Tryd.underlying3
  a3 := Tryd.isAgg3
  z3 := Tryd.sizeOf3
  v3 := Tryd.zeroValue3
  t4 := Tryd.underlying4
  a4 := Tryd.isAgg4
  z4 := Tryd.sizeOf4
  v4 := Tryd.zeroValue4
  t9 := Tryd.underlying9
  a9 := Tryd.isAgg9
  z9 := Tryd.sizeOf9
  v9 := Tryd.zeroValue9
  t37 := Tryd.underlying38
  a37 := Tryd.isAgg38
  z37 := Tryd.sizeOf38
  v37 := Tryd.zeroValue38
  t5 := Tryd.underlying5
  a5 := Tryd.isAgg5
  z5 := Tryd.sizeOf5
  v5 := Tryd.zeroValue5 }
/-- bytes.HasPrefix: WHOLE: each argument nil, or of no byte at whatever address, or at an address with its cells. (LAID: no walk: one application.) -/
theorem Tryd.bytes_HasPrefix_all (p1 p2 : Option Addr) (n c m d : Nat) (xs ys : List Int) (w : World) (hx : xs.length = n) (hy : ys.length = m) (hnc : n ≤ c) (h1 : Lib.BytesIn w p1 n xs) (h2 : Lib.BytesIn w p2 m ys) :
    Calls Tryd.prog 48 #[.slice p1 n c, .slice p2 m d] w fun e w' => e = .returned (.bool (Lib.hasPrefix (Lib.bytesOf xs) (Lib.bytesOf ys))) ∧ w' = w := Any.bytes_HasPrefix_all Tryd.laysnb116 p1 p2 n c m d xs ys w hx hy hnc h1 h2
/-- bytes.HasSuffix: WHOLE: each argument nil, or of no byte at whatever address, or at an address with its cells. (LAID: no walk: one application.) -/
theorem Tryd.bytes_HasSuffix_all (p1 p2 : Option Addr) (n c m d : Nat) (xs ys : List Int) (w : World) (hx : xs.length = n) (hy : ys.length = m) (hnc : n ≤ c) (hbig : n ≤ 9223372036854775807) (h1 : Lib.BytesIn w p1 n xs) (h2 : Lib.BytesIn w p2 m ys) :
    Calls Tryd.prog 50 #[.slice p1 n c, .slice p2 m d] w fun e w' => e = .returned (.bool (Lib.hasSuffix (Lib.bytesOf xs) (Lib.bytesOf ys))) ∧ w' = w := Any.bytes_HasSuffix_all Tryd.laysnb117 p1 p2 n c m d xs ys w hx hy hnc hbig h1 h2
/-- bytes.IndexByte AT nil: -1. (LAID: no walk: one application.) -/
theorem Tryd.bytes_IndexByte_nil (cv : Int) (w : World) :
    Calls Tryd.prog 49 #[.slice none 0 0, .int .u8 cv] w fun e w' => e = .returned (.int .i64 (-1)) ∧ w' = w := Any.bytes_IndexByte_nil Tryd.lays187 cv w
end Go.Proofs.YtoojofakgjmagaaDoor.Tx
