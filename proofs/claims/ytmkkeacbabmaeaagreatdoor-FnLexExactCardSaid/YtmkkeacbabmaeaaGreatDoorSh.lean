/- The library's contracts of this program, as the shelf's tool has laid them: bytes.Buffer. Conditions: as each says. -/
import Derived.Shelf.Strings.Builder1
import Derived.Shelf.Strings.Builder2
import Derived.Shelf.Strings.BuilderF
import Derived.Shelf.Strings.BuilderK
import Derived.Shelf.Strconv.Itoa0
import Derived.Shelf.Strconv.Itoa1
import Derived.Shelf.LaysM
import Derived.Shelf.Strconv.Itoa2
import Derived.Shelf.Strconv.Itoa3
import Derived.Shelf.Bytes.Len
import Derived.Shelf.Bytes.TryGrow
import Derived.Shelf.Bytes.GrowSliceCatch
import Derived.Shelf.Bytes.GrowSlice
import Derived.Shelf.Bytes.GrowRow0
import Derived.Shelf.Bytes.GrowRow
import Derived.Shelf.Bytes.GrowNil
import Derived.Shelf.Bytes.Grow
import Derived.Shelf.Bytes.String
import Derived.Shelf.Bytes.GrowRow0Kept
import Derived.Shelf.Bytes.GrowRowKept
import Derived.Shelf.Bytes.GrowNilKept
import Derived.Shelf.Bytes.GrowKept
import Derived.Shelf.Bytes.WriteStringKept
import Derived.Shelf.Bytes.ResetKept
import Derived.Shelf.Bytes.BufferK
import Derived.Shelf.Bytes.GrowRow0Own
import Derived.Shelf.Bytes.GrowRowOwn
import Derived.Shelf.Bytes.GrowNilOwn
import Derived.Shelf.Bytes.GrowOwn
import Derived.Shelf.Bytes.LenAt
import Derived.Shelf.Bytes.TryGrowAt
import Derived.Shelf.Bytes.GrowRow0At
import Derived.Shelf.Bytes.GrowRowAt
import Derived.Shelf.Bytes.GrowNilAt
import Derived.Shelf.Bytes.GrowAt
import Derived.Shelf.Bytes.WriteStringAt
import Derived.Shelf.Strings.Prefix
import Derived.Shelf.Unicode.Latin
import Derived.Shelf.Unicode.Decode
import Derived.Shelf.Bits.Mul64
import Derived.Shelf.Strings.Repeat
import Derived.Shelf.Unicode.DecodeSlow
import Derived.Shelf.Unicode.DecodeAny
import Derived.Shelf.Unicode.Is16White
import Derived.Shelf.Unicode.IsSpaceAny
import Derived.Shelf.Unicode.Is16WhiteD
import Derived.Shelf.Unicode.IsSpaceAnyD
import Derived.Shelf.Unicode.Is16Any
import Derived.Shelf.Unicode.Is32Any
import Derived.Shelf.Unicode.ExclAny
import Derived.Test.YtmkkeacbabmaeaaGreatDoorProg
namespace Go.Proofs
open Go.Shelf
def Tryz.laysM171_ren : Go.Shelf.Ren := ⟨fun | 171 => 103 | 243 => 116 | 246 => 124 | 283 => 127 | 284 => 128 | 285 => 129 | 286 => 130 | 129 => 132 | 317 => 131 | 318 => 133 | 319 => 134 | 320 => 135 | 337 => 136 | 338 => 137 | n => n, fun | 3 => 3 | 9 => 9 | 2 => 2 | 4 => 4 | 171 => 194 | 0 => 0 | 53 => 125 | 37 => 89 | 5 => 5 | 173 => 197 | 212 => 200 | 51 => 120 | 20 => 20 | 213 => 201 | 46 => 134 | 232 => 204 | 233 => 205 | n => n, fun | 17 => 8 | 18 => 9 | 19 => 10 | n => n⟩
theorem Tryz.laysM171 : Go.Proofs.LaysM.n171 Tryz.prog Tryz.laysM171_ren := {
  mixed := by kernel_rfl
  f129 := Tryz.func132.trans (congrArg some (by kernel_rfl))
  f171 := Tryz.func103.trans (congrArg some (by kernel_rfl))
  f243 := Tryz.func116.trans (congrArg some (by kernel_rfl))
  f246 := Tryz.func124.trans (congrArg some (by kernel_rfl))
  f283 := Tryz.func127.trans (congrArg some (by kernel_rfl))
  f284 := Tryz.func128.trans (congrArg some (by kernel_rfl))
  f285 := Tryz.func129.trans (congrArg some (by kernel_rfl))
  f286 := Tryz.func130.trans (congrArg some (by kernel_rfl))
  f317 := Tryz.func131.trans (congrArg some (by kernel_rfl))
  f318 := Tryz.func133.trans (congrArg some (by kernel_rfl))
  f319 := Tryz.func134.trans (congrArg some (by kernel_rfl))
  f320 := Tryz.func135.trans (congrArg some (by kernel_rfl))
  f337 := Tryz.func136.trans (congrArg some (by kernel_rfl))
  f338 := Tryz.func137.trans (congrArg some (by kernel_rfl))
  t0 := Tryz.underlying0
  a0 := Tryz.isAgg0
  z0 := Tryz.sizeOf0
  v0 := Tryz.zeroValue0
  t2 := Tryz.underlying2
  a2 := Tryz.isAgg2
  z2 := Tryz.sizeOf2
  v2 := Tryz.zeroValue2
  t3 := Tryz.underlying3
  a3 := Tryz.isAgg3
  z3 := Tryz.sizeOf3
  v3 := Tryz.zeroValue3
  t4 := Tryz.underlying4
  a4 := Tryz.isAgg4
  z4 := Tryz.sizeOf4
  v4 := Tryz.zeroValue4
  t5 := Tryz.underlying5
  a5 := Tryz.isAgg5
  z5 := Tryz.sizeOf5
  v5 := Tryz.zeroValue5
  t9 := Tryz.underlying9
  a9 := Tryz.isAgg9
  z9 := Tryz.sizeOf9
  v9 := Tryz.zeroValue9
  t20 := Tryz.underlying20
  a20 := Tryz.isAgg20
  z20 := Tryz.sizeOf20
  v20 := Tryz.zeroValue20
  t37 := Tryz.underlying89
  a37 := Tryz.isAgg89
  z37 := Tryz.sizeOf89
  v37 := Tryz.zeroValue89
  t46 := Tryz.underlying134
  a46 := Tryz.isAgg134
  z46 := Tryz.sizeOf134
  v46 := Tryz.zeroValue134
  t51 := Tryz.underlying120
  a51 := Tryz.isAgg120
  z51 := Tryz.sizeOf120
  v51 := Tryz.zeroValue120
  t53 := Tryz.underlying125
  a53 := Tryz.isAgg125
  z53 := Tryz.sizeOf125
  v53 := Tryz.zeroValue125
  t171 := Tryz.underlying194
  a171 := Tryz.isAgg194
  z171 := Tryz.sizeOf194
  v171 := Tryz.zeroValue194
  t173 := Tryz.underlying197
  a173 := Tryz.isAgg197
  z173 := Tryz.sizeOf197
  v173 := Tryz.zeroValue197
  t212 := Tryz.underlying200
  a212 := Tryz.isAgg200
  z212 := Tryz.sizeOf200
  v212 := Tryz.zeroValue200
  t213 := Tryz.underlying201
  a213 := Tryz.isAgg201
  z213 := Tryz.sizeOf201
  t232 := Tryz.underlying204
  a232 := Tryz.isAgg204
  z232 := Tryz.sizeOf204
  v232 := Tryz.zeroValue204
  t233 := Tryz.underlying205
  a233 := Tryz.isAgg205
  z233 := Tryz.sizeOf205
  v233 := Tryz.zeroValue205
  g17 := by kernel_rfl
  g18 := by kernel_rfl
  g19 := by kernel_rfl
  i0 := by kernel_rfl
  i2 := by kernel_rfl
  i3 := by kernel_rfl
  i4 := by kernel_rfl
  i5 := by kernel_rfl
  i9 := by kernel_rfl
  i20 := by kernel_rfl
  i37 := by kernel_rfl
  i46 := by kernel_rfl
  i51 := by kernel_rfl
  i53 := by kernel_rfl
  i171 := by kernel_rfl
  i173 := by kernel_rfl
  i212 := by kernel_rfl
  i232 := by kernel_rfl
  i233 := by kernel_rfl
  m17 := by kernel_rfl
  m18 := by kernel_rfl
  m19 := by kernel_rfl }
open Go.RowKit Go.Sort Go.Lib in
/-- strconv.Itoa: "Itoa is equivalent to FormatInt(int64(i), 10).": i's DECIMAL NUMERAL ('Lib.itoa': a '-' where i is negative, then the digits), FOR EVERY int. The world behind the call: the world before it, new blocks behind the heap (the library's 'var a [24]byte'), draws. (LAID: no walk: one application.) -/
theorem Tryz.strconv_Itoa (n : Int) (h0 : -9223372036854775808 ≤ n) (h1 : n ≤ 9223372036854775807) (w : World) (htab : Lib.TabIs Tryz.prog w "internal/strconv.uint64pow10" .u64 Lib.pow10Tab) :
    Calls Tryz.prog 103 #[.int .i64 n] w fun e w' => e = .returned (.string ⟨(Lib.itoa n).toArray⟩) ∧ ∃ k os, w' = grow (w.drewN k) os := Any.strconv_Itoa Tryz.laysM171 n h0 h1 w htab
def Tryz.laysM182_ren : Go.Shelf.Ren := ⟨fun | 182 => 93 | n => n, fun | 130 => 167 | 9 => 9 | 4 => 4 | 0 => 0 | 93 => 155 | 37 => 89 | 3 => 3 | 91 => 153 | 5 => 5 | n => n, fun | n => n⟩
theorem Tryz.laysM182 : Go.Proofs.LaysM.n182 Tryz.prog Tryz.laysM182_ren := {
  mixed := by kernel_rfl
  f182 := Tryz.func93.trans (congrArg some (by kernel_rfl))
  t0 := Tryz.underlying0
  a0 := Tryz.isAgg0
  z0 := Tryz.sizeOf0
  v0 := Tryz.zeroValue0
  t3 := Tryz.underlying3
  a3 := Tryz.isAgg3
  z3 := Tryz.sizeOf3
  v3 := Tryz.zeroValue3
  t4 := Tryz.underlying4
  a4 := Tryz.isAgg4
  z4 := Tryz.sizeOf4
  v4 := Tryz.zeroValue4
  t9 := Tryz.underlying9
  a9 := Tryz.isAgg9
  z9 := Tryz.sizeOf9
  v9 := Tryz.zeroValue9
  t37 := Tryz.underlying89
  a37 := Tryz.isAgg89
  z37 := Tryz.sizeOf89
  v37 := Tryz.zeroValue89
  t93 := Tryz.underlying155
  a93 := Tryz.isAgg155
  z93 := Tryz.sizeOf155
  v93 := Tryz.zeroValue155
  t130 := Tryz.underlying167
  a130 := Tryz.isAgg167
  z130 := Tryz.sizeOf167
  v130 := Tryz.zeroValue167
  t5 := Tryz.underlying5
  a5 := Tryz.isAgg5
  z5 := Tryz.sizeOf5
  v5 := Tryz.zeroValue5
  t91 := Tryz.underlying153
  a91 := Tryz.isAgg153
  z91 := Tryz.sizeOf153
  v91 := Tryz.zeroValue153
  i0 := by kernel_rfl
  i3 := by kernel_rfl
  i4 := by kernel_rfl
  i5 := by kernel_rfl
  i9 := by kernel_rfl
  i37 := by kernel_rfl
  i91 := by kernel_rfl
  i93 := by kernel_rfl
  i130 := by kernel_rfl }
open Go.RowKit in
/-- (*bytes.Buffer).String: "String returns the contents of the unread portion of the buffer as a string.": THE BYTES THAT WERE WRITTEN. The world is as it was but for the count of draws (the statement has two reads: its order is drawn). (LAID: no walk: one application.) -/
theorem Tryz.Buffer_String (B b : Nat) (l : List UInt8) (w : World) (h : Lib.IsBuffer 155 5 B b (Lib.byteCells l) w) :
    Calls Tryz.prog 93 #[.pointer (some ⟨b, 0, none⟩)] w fun e w' => e = .returned (.string ⟨l.toArray⟩) ∧ ∃ n, w' = w.drewN n := Any.Buffer_String Tryz.laysM182 B b l w h
def Tryz.laysM178_ren : Go.Shelf.Ren := ⟨fun | 178 => 90 | 251 => 101 | 252 => 102 | 181 => 113 | 184 => 114 | 290 => 115 | 324 => 123 | n => n, fun | 130 => 167 | 9 => 9 | 3 => 3 | 75 => 36 | 0 => 0 | 93 => 155 | 91 => 153 | 131 => 51 | 4 => 4 | 37 => 89 | 20 => 20 | 80 => 131 | 5 => 5 | n => n, fun | 14 => 6 | n => n⟩
theorem Tryz.laysM178 : Go.Proofs.LaysM.n178 Tryz.prog Tryz.laysM178_ren := {
  mixed := by kernel_rfl
  f178 := Tryz.func90.trans (congrArg some (by kernel_rfl))
  f181 := Tryz.func113.trans (congrArg some (by kernel_rfl))
  f184 := Tryz.func114.trans (congrArg some (by kernel_rfl))
  f251 := Tryz.func101.trans (congrArg some (by kernel_rfl))
  f252 := Tryz.func102.trans (congrArg some (by kernel_rfl))
  f290 := Tryz.func115.trans (congrArg some (by kernel_rfl))
  f324 := Tryz.func123.trans (congrArg some (by kernel_rfl))
  t0 := Tryz.underlying0
  a0 := Tryz.isAgg0
  z0 := Tryz.sizeOf0
  v0 := Tryz.zeroValue0
  t3 := Tryz.underlying3
  a3 := Tryz.isAgg3
  z3 := Tryz.sizeOf3
  v3 := Tryz.zeroValue3
  t4 := Tryz.underlying4
  a4 := Tryz.isAgg4
  z4 := Tryz.sizeOf4
  v4 := Tryz.zeroValue4
  t9 := Tryz.underlying9
  a9 := Tryz.isAgg9
  z9 := Tryz.sizeOf9
  v9 := Tryz.zeroValue9
  t20 := Tryz.underlying20
  a20 := Tryz.isAgg20
  z20 := Tryz.sizeOf20
  v20 := Tryz.zeroValue20
  t37 := Tryz.underlying89
  a37 := Tryz.isAgg89
  z37 := Tryz.sizeOf89
  v37 := Tryz.zeroValue89
  t75 := Tryz.underlying36
  a75 := Tryz.isAgg36
  z75 := Tryz.sizeOf36
  v75 := Tryz.zeroValue36
  t91 := Tryz.underlying153
  a91 := Tryz.isAgg153
  z91 := Tryz.sizeOf153
  v91 := Tryz.zeroValue153
  t93 := Tryz.underlying155
  a93 := Tryz.isAgg155
  z93 := Tryz.sizeOf155
  v93 := Tryz.zeroValue155
  t130 := Tryz.underlying167
  a130 := Tryz.isAgg167
  z130 := Tryz.sizeOf167
  v130 := Tryz.zeroValue167
  t131 := Tryz.underlying51
  a131 := Tryz.isAgg51
  z131 := Tryz.sizeOf51
  v131 := Tryz.zeroValue51
  g14 := by kernel_rfl
  t5 := Tryz.underlying5
  a5 := Tryz.isAgg5
  z5 := Tryz.sizeOf5
  v5 := Tryz.zeroValue5
  t80 := Tryz.underlying131
  a80 := Tryz.isAgg131
  z80 := Tryz.sizeOf131
  v80 := Tryz.zeroValue131
  i0 := by kernel_rfl
  i3 := by kernel_rfl
  i4 := by kernel_rfl
  i5 := by kernel_rfl
  i9 := by kernel_rfl
  i20 := by kernel_rfl
  i37 := by kernel_rfl
  i75 := by kernel_rfl
  i80 := by kernel_rfl
  i91 := by kernel_rfl
  i93 := by kernel_rfl
  i130 := by kernel_rfl
  i131 := by kernel_rfl
  m14 := by kernel_rfl }
open Go.RowKit in
theorem Tryz.Buffer_WriteString_k (B b : Nat) (bs : List Value) (s : ByteArray) (w : World) (h : Lib.IsBuffer 155 5 B b bs w) (hBw : B ≤ w.heap.size) (h1 : ∀ v ∈ bs, v.oneCell' = true) (hlim : bs.length + s.size ≤ 140737488355328) :
    Calls Tryz.prog 90 #[.pointer (some ⟨b, 0, none⟩), .string s] w fun e w' => e = .returned (.tuple #[.int .i64 s.size, .nilIface]) ∧ Lib.IsBuffer 155 5 B b (bs ++ Lib.byteCells s.data.toList) w' ∧ Below B w w' ∧ Lib.OthersKept 5 (some b) w w' := Any.Buffer_WriteString_k Tryz.laysM178 B b bs s w h hBw h1 hlim
def Tryz.lays199_ren : Go.Shelf.Ren := ⟨fun | 199 => 48 | 261 => 73 | 311 => 83 | 312 => 84 | n => n, fun | 21 => 21 | 4 => 4 | 51 => 120 | 141 => 122 | 0 => 0 | 196 => 141 | 193 => 138 | 3 => 3 | 198 => 144 | 49 => 142 | 194 => 139 | 201 => 147 | 226 => 160 | 46 => 134 | 227 => 161 | n => n, fun | 6 => 1 | n => n⟩
theorem Tryz.lays199 : Go.Proofs.Lays.n199 Tryz.prog Tryz.lays199_ren := {
  mixed := by kernel_rfl
  f199 := Tryz.func48.trans (congrArg some (by kernel_rfl))
  f261 := Tryz.func73.trans (congrArg some (by kernel_rfl))
  f311 := Tryz.func83.trans (congrArg some (by kernel_rfl))
  f312 := Tryz.func84.trans (congrArg some (by kernel_rfl))
  t0 := Tryz.underlying0
  a0 := Tryz.isAgg0
  z0 := Tryz.sizeOf0
  v0 := Tryz.zeroValue0
  t3 := Tryz.underlying3
  a3 := Tryz.isAgg3
  z3 := Tryz.sizeOf3
  v3 := Tryz.zeroValue3
  t4 := Tryz.underlying4
  a4 := Tryz.isAgg4
  z4 := Tryz.sizeOf4
  v4 := Tryz.zeroValue4
  t21 := Tryz.underlying21
  a21 := Tryz.isAgg21
  z21 := Tryz.sizeOf21
  v21 := Tryz.zeroValue21
  t46 := Tryz.underlying134
  a46 := Tryz.isAgg134
  z46 := Tryz.sizeOf134
  v46 := Tryz.zeroValue134
  t49 := Tryz.underlying142
  a49 := Tryz.isAgg142
  z49 := Tryz.sizeOf142
  v49 := Tryz.zeroValue142
  t51 := Tryz.underlying120
  a51 := Tryz.isAgg120
  z51 := Tryz.sizeOf120
  v51 := Tryz.zeroValue120
  t141 := Tryz.underlying122
  a141 := Tryz.isAgg122
  z141 := Tryz.sizeOf122
  v141 := Tryz.zeroValue122
  t193 := Tryz.underlying138
  a193 := Tryz.isAgg138
  z193 := Tryz.sizeOf138
  v193 := Tryz.zeroValue138
  t194 := Tryz.underlying139
  a194 := Tryz.isAgg139
  z194 := Tryz.sizeOf139
  v194 := Tryz.zeroValue139
  t196 := Tryz.underlying141
  a196 := Tryz.isAgg141
  z196 := Tryz.sizeOf141
  v196 := Tryz.zeroValue141
  t198 := Tryz.underlying144
  a198 := Tryz.isAgg144
  z198 := Tryz.sizeOf144
  v198 := Tryz.zeroValue144
  t201 := Tryz.underlying147
  a201 := Tryz.isAgg147
  z201 := Tryz.sizeOf147
  v201 := Tryz.zeroValue147
  t226 := Tryz.underlying160
  a226 := Tryz.isAgg160
  z226 := Tryz.sizeOf160
  v226 := Tryz.zeroValue160
  t227 := Tryz.underlying161
  a227 := Tryz.isAgg161
  z227 := Tryz.sizeOf161
  v227 := Tryz.zeroValue161
  g6 := by kernel_rfl }
open Go.RowKit Go.Lib in
theorem Tryz.unicode_IsSpace (r : Int) (w : World) (h0 : 0 ≤ r) (h : r ≤ 255) :
    Calls Tryz.prog 48 #[.int .i32 r] w fun e w' => e = .returned (.bool (Lib.isSpaceL r)) ∧ w' = w := Any.unicode_IsSpace Tryz.lays199 r w h0 h
def Tryz.lays197_ren : Go.Shelf.Ren := ⟨fun | 197 => 47 | 260 => 72 | n => n, fun | 9 => 9 | 21 => 21 | 3 => 3 | 4 => 4 | 5 => 5 | 105 => 93 | 119 => 133 | 0 => 0 | 46 => 134 | 139 => 137 | 138 => 136 | n => n, fun | 3 => 2 | 4 => 3 | n => n⟩
theorem Tryz.lays197 : Go.Proofs.Lays.n197 Tryz.prog Tryz.lays197_ren := {
  mixed := by kernel_rfl
  f197 := Tryz.func47.trans (congrArg some (by kernel_rfl))
  f260 := Tryz.func72.trans (congrArg some (by kernel_rfl))
  t0 := Tryz.underlying0
  a0 := Tryz.isAgg0
  z0 := Tryz.sizeOf0
  v0 := Tryz.zeroValue0
  t3 := Tryz.underlying3
  a3 := Tryz.isAgg3
  z3 := Tryz.sizeOf3
  v3 := Tryz.zeroValue3
  t4 := Tryz.underlying4
  a4 := Tryz.isAgg4
  z4 := Tryz.sizeOf4
  v4 := Tryz.zeroValue4
  t5 := Tryz.underlying5
  a5 := Tryz.isAgg5
  z5 := Tryz.sizeOf5
  v5 := Tryz.zeroValue5
  t9 := Tryz.underlying9
  a9 := Tryz.isAgg9
  z9 := Tryz.sizeOf9
  v9 := Tryz.zeroValue9
  t21 := Tryz.underlying21
  a21 := Tryz.isAgg21
  z21 := Tryz.sizeOf21
  v21 := Tryz.zeroValue21
  t46 := Tryz.underlying134
  a46 := Tryz.isAgg134
  z46 := Tryz.sizeOf134
  v46 := Tryz.zeroValue134
  t105 := Tryz.underlying93
  a105 := Tryz.isAgg93
  z105 := Tryz.sizeOf93
  v105 := Tryz.zeroValue93
  t119 := Tryz.underlying133
  a119 := Tryz.isAgg133
  z119 := Tryz.sizeOf133
  t138 := Tryz.underlying136
  a138 := Tryz.isAgg136
  z138 := Tryz.sizeOf136
  v138 := Tryz.zeroValue136
  t139 := Tryz.underlying137
  a139 := Tryz.isAgg137
  z139 := Tryz.sizeOf137
  v139 := Tryz.zeroValue137
  g3 := by kernel_rfl
  g4 := by kernel_rfl }
open Go.RowKit Go.Lib in
/-- unicode/utf8.DecodeRuneInString: "DecodeRuneInString is like DecodeRune but its input is a string.": ("DecodeRune unpacks the first UTF-8 encoding in p and returns the rune and its width in bytes."): WHERE s BEGINS WITH AN ASCII BYTE x: (x, 1). (LAID: no walk: one application.) -/
theorem Tryz.utf8_DecodeRuneInString_ascii (s : ByteArray) (x : UInt8) (w : World) (h0 : s.data.toList[0]? = some x) (hx : x.toNat < 128) :
    Calls Tryz.prog 47 #[.string s] w fun e w' => e = .returned (.tuple #[.int .i32 x.toNat, .int .i64 1]) ∧ w' = w := Any.utf8_DecodeRuneInString_ascii Tryz.lays197 s x w h0 hx
def Tryz.lays105_ren : Go.Shelf.Ren := ⟨fun | 105 => 92 | 212 => 104 | 99 => 105 | 165 => 106 | 166 => 107 | 170 => 108 | 169 => 109 | 263 => 117 | 264 => 118 | 206 => 119 | 240 => 120 | 241 => 121 | 276 => 125 | 277 => 126 | n => n, fun | 9 => 9 | 3 => 3 | 4 => 4 | 20 => 20 | 0 => 0 | 46 => 134 | 109 => 170 | 5 => 5 | 72 => 174 | 76 => 156 | 51 => 120 | 146 => 182 | 53 => 125 | 148 => 184 | 70 => 172 | 37 => 89 | 75 => 36 | 127 => 186 | 164 => 77 | 80 => 131 | n => n, fun | n => n⟩
theorem Tryz.lays105 : Go.Proofs.Lays.n105 Tryz.prog Tryz.lays105_ren := {
  mixed := by kernel_rfl
  f99 := Tryz.func105.trans (congrArg some (by kernel_rfl))
  f105 := Tryz.func92.trans (congrArg some (by kernel_rfl))
  f165 := Tryz.func106.trans (congrArg some (by kernel_rfl))
  f166 := Tryz.func107.trans (congrArg some (by kernel_rfl))
  f169 := Tryz.func109.trans (congrArg some (by kernel_rfl))
  f170 := Tryz.func108.trans (congrArg some (by kernel_rfl))
  f206 := Tryz.func119.trans (congrArg some (by kernel_rfl))
  f212 := Tryz.func104.trans (congrArg some (by kernel_rfl))
  f240 := Tryz.func120.trans (congrArg some (by kernel_rfl))
  f241 := Tryz.func121.trans (congrArg some (by kernel_rfl))
  f263 := Tryz.func117.trans (congrArg some (by kernel_rfl))
  f264 := Tryz.func118.trans (congrArg some (by kernel_rfl))
  f276 := Tryz.func125.trans (congrArg some (by kernel_rfl))
  f277 := Tryz.func126.trans (congrArg some (by kernel_rfl))
  t0 := Tryz.underlying0
  a0 := Tryz.isAgg0
  z0 := Tryz.sizeOf0
  v0 := Tryz.zeroValue0
  t3 := Tryz.underlying3
  a3 := Tryz.isAgg3
  z3 := Tryz.sizeOf3
  v3 := Tryz.zeroValue3
  t4 := Tryz.underlying4
  a4 := Tryz.isAgg4
  z4 := Tryz.sizeOf4
  v4 := Tryz.zeroValue4
  t5 := Tryz.underlying5
  a5 := Tryz.isAgg5
  z5 := Tryz.sizeOf5
  v5 := Tryz.zeroValue5
  t9 := Tryz.underlying9
  a9 := Tryz.isAgg9
  z9 := Tryz.sizeOf9
  v9 := Tryz.zeroValue9
  t20 := Tryz.underlying20
  a20 := Tryz.isAgg20
  z20 := Tryz.sizeOf20
  v20 := Tryz.zeroValue20
  t37 := Tryz.underlying89
  a37 := Tryz.isAgg89
  z37 := Tryz.sizeOf89
  v37 := Tryz.zeroValue89
  t46 := Tryz.underlying134
  a46 := Tryz.isAgg134
  z46 := Tryz.sizeOf134
  v46 := Tryz.zeroValue134
  t51 := Tryz.underlying120
  a51 := Tryz.isAgg120
  z51 := Tryz.sizeOf120
  v51 := Tryz.zeroValue120
  t53 := Tryz.underlying125
  a53 := Tryz.isAgg125
  z53 := Tryz.sizeOf125
  v53 := Tryz.zeroValue125
  t70 := Tryz.underlying172
  a70 := Tryz.isAgg172
  z70 := Tryz.sizeOf172
  v70 := Tryz.zeroValue172
  t72 := Tryz.underlying174
  a72 := Tryz.isAgg174
  z72 := Tryz.sizeOf174
  v72 := Tryz.zeroValue174
  t75 := Tryz.underlying36
  a75 := Tryz.isAgg36
  z75 := Tryz.sizeOf36
  v75 := Tryz.zeroValue36
  t76 := Tryz.underlying156
  a76 := Tryz.isAgg156
  z76 := Tryz.sizeOf156
  v76 := Tryz.zeroValue156
  t109 := Tryz.underlying170
  a109 := Tryz.isAgg170
  z109 := Tryz.sizeOf170
  v109 := Tryz.zeroValue170
  t127 := Tryz.underlying186
  a127 := Tryz.isAgg186
  z127 := Tryz.sizeOf186
  v127 := Tryz.zeroValue186
  t146 := Tryz.underlying182
  a146 := Tryz.isAgg182
  z146 := Tryz.sizeOf182
  v146 := Tryz.zeroValue182
  t148 := Tryz.underlying184
  a148 := Tryz.isAgg184
  z148 := Tryz.sizeOf184
  v148 := Tryz.zeroValue184
  t164 := Tryz.underlying77
  a164 := Tryz.isAgg77
  z164 := Tryz.sizeOf77
  v164 := Tryz.zeroValue77 }
theorem Tryz.Builder_Extra_105 : Builder.Extra Tryz.prog Tryz.lays105_ren := {
  sizeBuilder := by kernel_rfl
  liesBuilder := by kernel_rfl
  t5 := Tryz.underlying5
  a5 := Tryz.isAgg5
  z5 := Tryz.sizeOf5
  v5 := Tryz.zeroValue5
  infoByte := by kernel_rfl
  cellsByte := by kernel_rfl
  sizeByte := by kernel_rfl
  neB5 := by decide }
open Go.RowKit Go.Lib in
/-- **strings.Repeat: count ≥ 0, the result within one allocation: count copies of s.** (LAID: no walk: one application.) -/
theorem Tryz.strings_Repeat (s : ByteArray) (c : Nat) (w : World) (hc : c ≤ 9223372036854775807) (hlen : s.size * c ≤ 140737488355328) :
    Calls Tryz.prog 92 #[.string s, .int .i64 c] w fun e w' => e = .returned (.string ⟨(Lib.repeatL s.data.toList c).toArray⟩) ∧ Below w.heap.size w w' := Any.strings_Repeat Tryz.lays105 Tryz.Builder_Extra_105 s c w hc hlen
end Go.Proofs
