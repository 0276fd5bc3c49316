/- Bits; functions of the library; what the package variables hold. -/
import Derived.Laws.BitsAllLaws
import Derived.IntWalk
import Derived.Shelf.Strings.Builder1
import Derived.Shelf.Strings.Builder2
import Derived.Shelf.Strings.OnBuilder
import Derived.Shelf.Strings.TrimSpace
import Derived.Shelf.Small.Strs
import Derived.Shelf.Strings.Search1
import Derived.Shelf.Strings.LastIndex
import Derived.Shelf.Strings.Prefix
import Derived.Test.YtpemdpfageikfaaGreatDoorProg
import Derived.Test.YtpemdpfageikfaaGreatDoorZQf
import Derived.Handy
import Derived.Lib.Hide
import Derived.Outline
import Derived.WalkLawsBesides
import Derived.WalkSpells
import Derived.LaidEqlPtr
import Derived.Lib.LaidTab
import Derived.Lib.Space
set_option linter.unusedVariables false
set_option linter.unusedSimpArgs false
/-
  Plain lemmas on 64 bits and 8 bits: 'or' of parts that lie apart is their sum; bytes of a number.
-/
namespace Go.Proofs.YtpemdpfageikfaaGreatDoor.R
open Go

theorem or_add64 (i : Nat) (x y : Int) (m : Int) (hm : m = ((2 ^ i : Nat) : Int)) (hx0 : 0 ≤ x) (hx1 : x < 18446744073709551616) (hy0 : 0 ≤ y) (hy1 : y < m) (hmx : x % m = 0) (hy2 : y < 18446744073709551616) :
    bits .or .u64 x y = x + y := by
  rw [u64_or x y hx0 hx1 hy0 hy2]
  subst hm
  have h1 : x.toNat % 2 ^ i = 0 := by
    have : ((x.toNat % 2 ^ i : Nat) : Int) = 0 := by
      rw [Int.natCast_emod, Int.toNat_of_nonneg hx0]; exact hmx
    exact_mod_cast this
  have h2 : y.toNat < 2 ^ i := by
    have : (y.toNat : Int) < ((2 ^ i : Nat) : Int) := by rw [Int.toNat_of_nonneg hy0]; exact hy1
    exact_mod_cast this
  rw [nat_join i _ _ h1 h2]
  omega
theorem or_add64' (i : Nat) (x y : Int) (m : Int) (hm : m = ((2 ^ i : Nat) : Int)) (hx0 : 0 ≤ x) (hx1 : x < 18446744073709551616) (hy0 : 0 ≤ y) (hy1 : y < m) (hmx : x % m = 0) (hy2 : y < 18446744073709551616) :
    bits .or .u64 y x = x + y := by
  rw [← or_add64 i x y m hm hx0 hx1 hy0 hy1 hmx hy2, u64_or y x hy0 hy2 hx0 hx1, u64_or x y hx0 hx1 hy0 hy2, Nat.or_comm]

/-- The number of an address of 32 bits in 64 bits, as AddrFrom4 builds it. -/
theorem lo4 (a b c d : Int) (ha : 0 ≤ a ∧ a ≤ 255) (hb : 0 ≤ b ∧ b ≤ 255) (hc : 0 ≤ c ∧ c ≤ 255) (hd : 0 ≤ d ∧ d ≤ 255) :
    bits .or .u64 (bits .or .u64 (bits .or .u64 (bits .or .u64 281470681743360 (a * 16777216)) (b * 65536)) (c * 256)) d = 281470681743360 + a * 16777216 + b * 65536 + c * 256 + d := by
  rw [or_add64 32 281470681743360 (a * 16777216) 4294967296 (by decide) (by omega) (by omega) (by omega) (by omega) (by omega) (by omega)]
  rw [or_add64 24 _ (b * 65536) 16777216 (by decide) (by omega) (by omega) (by omega) (by omega) (by omega) (by omega)]
  rw [or_add64 16 _ (c * 256) 65536 (by decide) (by omega) (by omega) (by omega) (by omega) (by omega) (by omega)]
  rw [or_add64 8 _ d 256 (by decide) (by omega) (by omega) (by omega) (by omega) (by omega) (by omega)]
end Go.Proofs.YtpemdpfageikfaaGreatDoor.R
/-
  Contracts of the library's ToLower and TrimSpace on ASCII, IndexByte, LastIndexByte, HasPrefix and HasSuffix.
  Written by the kit's lay-plain.mjs over this seat's translation; cut to what this claim uses by a small program (wip/tools).
-/
namespace Go.Proofs
open Go.Shelf
def Tryz.lays159_ren : Go.Shelf.Ren := ⟨fun | 159 => 46 | 165 => 63 | 166 => 64 | 167 => 65 | 169 => 66 | 230 => 67 | 204 => 68 | 240 => 96 | 241 => 97 | 197 => 98 | 118 => 99 | 168 => 100 | 270 => 101 | 262 => 102 | 276 => 131 | 277 => 132 | 260 => 133 | 242 => 134 | 313 => 135 | 278 => 152 | 274 => 153 | 275 => 154 | n => n, fun | 9 => 9 | 4 => 4 | 3 => 3 | 5 => 5 | 72 => 115 | 0 => 0 | 76 => 117 | 75 => 55 | 107 => 121 | 70 => 113 | 20 => 20 | 37 => 27 | 127 => 160 | 21 => 21 | 105 => 161 | 164 => 184 | 162 => 190 | 203 => 188 | 119 => 124 | 46 => 49 | 139 => 214 | 138 => 213 | 51 => 44 | 160 => 215 | 208 => 229 | 206 => 227 | 80 => 109 | n => n, fun | 13 => 5 | 3 => 8 | 4 => 9 | n => n⟩
theorem Tryz.lays159 : Go.Proofs.Lays.n159 Tryz.prog Tryz.lays159_ren := {
  mixed := by kernel_rfl
  f118 := Tryz.func99.trans (congrArg some (by kernel_rfl))
  f159 := Tryz.func46.trans (congrArg some (by kernel_rfl))
  f165 := Tryz.func63.trans (congrArg some (by kernel_rfl))
  f166 := Tryz.func64.trans (congrArg some (by kernel_rfl))
  f167 := Tryz.func65.trans (congrArg some (by kernel_rfl))
  f168 := Tryz.func100.trans (congrArg some (by kernel_rfl))
  f169 := Tryz.func66.trans (congrArg some (by kernel_rfl))
  f197 := Tryz.func98.trans (congrArg some (by kernel_rfl))
  f204 := Tryz.func68.trans (congrArg some (by kernel_rfl))
  f230 := Tryz.func67.trans (congrArg some (by kernel_rfl))
  f240 := Tryz.func96.trans (congrArg some (by kernel_rfl))
  f241 := Tryz.func97.trans (congrArg some (by kernel_rfl))
  f242 := Tryz.func134.trans (congrArg some (by kernel_rfl))
  f260 := Tryz.func133.trans (congrArg some (by kernel_rfl))
  f262 := Tryz.func102.trans (congrArg some (by kernel_rfl))
  f270 := Tryz.func101.trans (congrArg some (by kernel_rfl))
  f274 := Tryz.func153.trans (congrArg some (by kernel_rfl))
  f275 := Tryz.func154.trans (congrArg some (by kernel_rfl))
  f276 := Tryz.func131.trans (congrArg some (by kernel_rfl))
  f277 := Tryz.func132.trans (congrArg some (by kernel_rfl))
  f278 := Tryz.func152.trans (congrArg some (by kernel_rfl))
  f313 := Tryz.func135.trans (congrArg some (by kernel_rfl))
  t0 := Tryz.underlying0
  a0 := Tryz.isAgg0
  z0 := Tryz.sizeOf0
  v0 := Tryz.zeroValue0
  t3 := Tryz.underlying3
  a3 := Tryz.isAgg3
  z3 := Tryz.sizeOf3
  v3 := Tryz.zeroValue3
  t4 := Tryz.underlying4
  a4 := Tryz.isAgg4
  z4 := Tryz.sizeOf4
  v4 := Tryz.zeroValue4
  t5 := Tryz.underlying5
  a5 := Tryz.isAgg5
  z5 := Tryz.sizeOf5
  v5 := Tryz.zeroValue5
  t9 := Tryz.underlying9
  a9 := Tryz.isAgg9
  z9 := Tryz.sizeOf9
  v9 := Tryz.zeroValue9
  t20 := Tryz.underlying20
  a20 := Tryz.isAgg20
  z20 := Tryz.sizeOf20
  v20 := Tryz.zeroValue20
  t21 := Tryz.underlying21
  a21 := Tryz.isAgg21
  z21 := Tryz.sizeOf21
  v21 := Tryz.zeroValue21
  t37 := Tryz.underlying27
  a37 := Tryz.isAgg27
  z37 := Tryz.sizeOf27
  v37 := Tryz.zeroValue27
  t46 := Tryz.underlying49
  a46 := Tryz.isAgg49
  z46 := Tryz.sizeOf49
  v46 := Tryz.zeroValue49
  t51 := Tryz.underlying44
  a51 := Tryz.isAgg44
  z51 := Tryz.sizeOf44
  v51 := Tryz.zeroValue44
  t70 := Tryz.underlying113
  a70 := Tryz.isAgg113
  z70 := Tryz.sizeOf113
  v70 := Tryz.zeroValue113
  t72 := Tryz.underlying115
  a72 := Tryz.isAgg115
  z72 := Tryz.sizeOf115
  v72 := Tryz.zeroValue115
  t75 := Tryz.underlying55
  a75 := Tryz.isAgg55
  z75 := Tryz.sizeOf55
  v75 := Tryz.zeroValue55
  t76 := Tryz.underlying117
  a76 := Tryz.isAgg117
  z76 := Tryz.sizeOf117
  v76 := Tryz.zeroValue117
  t105 := Tryz.underlying161
  a105 := Tryz.isAgg161
  z105 := Tryz.sizeOf161
  v105 := Tryz.zeroValue161
  t107 := Tryz.underlying121
  a107 := Tryz.isAgg121
  z107 := Tryz.sizeOf121
  v107 := Tryz.zeroValue121
  t119 := Tryz.underlying124
  a119 := Tryz.isAgg124
  z119 := Tryz.sizeOf124
  t127 := Tryz.underlying160
  a127 := Tryz.isAgg160
  z127 := Tryz.sizeOf160
  v127 := Tryz.zeroValue160
  t138 := Tryz.underlying213
  a138 := Tryz.isAgg213
  z138 := Tryz.sizeOf213
  v138 := Tryz.zeroValue213
  t139 := Tryz.underlying214
  a139 := Tryz.isAgg214
  z139 := Tryz.sizeOf214
  v139 := Tryz.zeroValue214
  t160 := Tryz.underlying215
  a160 := Tryz.isAgg215
  z160 := Tryz.sizeOf215
  v160 := Tryz.zeroValue215
  t162 := Tryz.underlying190
  a162 := Tryz.isAgg190
  z162 := Tryz.sizeOf190
  v162 := Tryz.zeroValue190
  t164 := Tryz.underlying184
  a164 := Tryz.isAgg184
  z164 := Tryz.sizeOf184
  v164 := Tryz.zeroValue184
  t203 := Tryz.underlying188
  a203 := Tryz.isAgg188
  z203 := Tryz.sizeOf188
  v203 := Tryz.zeroValue188
  t206 := Tryz.underlying227
  a206 := Tryz.isAgg227
  z206 := Tryz.sizeOf227
  v206 := Tryz.zeroValue227
  t208 := Tryz.underlying229
  a208 := Tryz.isAgg229
  z208 := Tryz.sizeOf229
  v208 := Tryz.zeroValue229
  g3 := by kernel_rfl
  g4 := by kernel_rfl
  g13 := by kernel_rfl }
theorem Tryz.Builder_Extra_159 : Builder.Extra Tryz.prog Tryz.lays159_ren := {
  sizeBuilder := by kernel_rfl
  liesBuilder := by kernel_rfl
  t5 := Tryz.underlying5
  a5 := Tryz.isAgg5
  z5 := Tryz.sizeOf5
  v5 := Tryz.zeroValue5
  infoByte := by kernel_rfl
  cellsByte := by kernel_rfl
  sizeByte := by kernel_rfl
  neB5 := by decide }
open Go.RowKit in
/-- strings.ToLower: "ToLower returns s with all Unicode letters mapped to their lower case.": ON ASCII TEXT OF AT MOST 2^47 BYTES. Below the heap's end the world is as it was: where a letter turns, the call makes a builder and its buffer. (LAID: no walk: one application.) -/
theorem Tryz.strings_ToLower_ascii (s : ByteArray) (w : World) (hs : s.size ≤ 140737488355328) (hascii : ∀ (j : Nat) (b : UInt8), s.data.toList[j]? = some b → b.toNat < 128) :
    Calls Tryz.prog 46 #[.string s] w fun e w' => e = .returned (.string ⟨(Lib.toLowerA s.data.toList).toArray⟩) ∧ Below w.heap.size w w' := Any.strings_ToLower_ascii Tryz.lays159 Tryz.Builder_Extra_159 s w hs hascii
def Tryz.lays163_ren : Go.Shelf.Ren := ⟨fun | 163 => 47 | 237 => 69 | 199 => 70 | 238 => 71 | 272 => 103 | 261 => 104 | 273 => 105 | 197 => 98 | 315 => 136 | 311 => 137 | 312 => 138 | 271 => 139 | 260 => 133 | 120 => 155 | n => n, fun | 9 => 9 | 37 => 27 | 3 => 3 | 0 => 0 | 5 => 5 | 4 => 4 | 40 => 123 | 119 => 124 | 21 => 21 | 51 => 44 | 141 => 167 | 105 => 161 | 196 => 194 | 193 => 191 | 198 => 197 | 49 => 195 | 194 => 192 | 201 => 200 | 226 => 218 | 46 => 49 | 227 => 219 | 139 => 214 | 138 => 213 | n => n, fun | 0 => 1 | 6 => 4 | 3 => 8 | 4 => 9 | n => n⟩
theorem Tryz.lays163 : Go.Proofs.Lays.n163 Tryz.prog Tryz.lays163_ren := {
  mixed := by kernel_rfl
  f120 := Tryz.func155.trans (congrArg some (by kernel_rfl))
  f163 := Tryz.func47.trans (congrArg some (by kernel_rfl))
  f197 := Tryz.func98.trans (congrArg some (by kernel_rfl))
  f199 := Tryz.func70.trans (congrArg some (by kernel_rfl))
  f237 := Tryz.func69.trans (congrArg some (by kernel_rfl))
  f238 := Tryz.func71.trans (congrArg some (by kernel_rfl))
  f260 := Tryz.func133.trans (congrArg some (by kernel_rfl))
  f261 := Tryz.func104.trans (congrArg some (by kernel_rfl))
  f271 := Tryz.func139.trans (congrArg some (by kernel_rfl))
  f272 := Tryz.func103.trans (congrArg some (by kernel_rfl))
  f273 := Tryz.func105.trans (congrArg some (by kernel_rfl))
  f311 := Tryz.func137.trans (congrArg some (by kernel_rfl))
  f312 := Tryz.func138.trans (congrArg some (by kernel_rfl))
  f315 := Tryz.func136.trans (congrArg some (by kernel_rfl))
  t0 := Tryz.underlying0
  a0 := Tryz.isAgg0
  z0 := Tryz.sizeOf0
  v0 := Tryz.zeroValue0
  t3 := Tryz.underlying3
  a3 := Tryz.isAgg3
  z3 := Tryz.sizeOf3
  v3 := Tryz.zeroValue3
  t4 := Tryz.underlying4
  a4 := Tryz.isAgg4
  z4 := Tryz.sizeOf4
  v4 := Tryz.zeroValue4
  t5 := Tryz.underlying5
  a5 := Tryz.isAgg5
  z5 := Tryz.sizeOf5
  v5 := Tryz.zeroValue5
  t9 := Tryz.underlying9
  a9 := Tryz.isAgg9
  z9 := Tryz.sizeOf9
  v9 := Tryz.zeroValue9
  t21 := Tryz.underlying21
  a21 := Tryz.isAgg21
  z21 := Tryz.sizeOf21
  v21 := Tryz.zeroValue21
  t37 := Tryz.underlying27
  a37 := Tryz.isAgg27
  z37 := Tryz.sizeOf27
  v37 := Tryz.zeroValue27
  t40 := Tryz.underlying123
  a40 := Tryz.isAgg123
  z40 := Tryz.sizeOf123
  v40 := Tryz.zeroValue123
  t46 := Tryz.underlying49
  a46 := Tryz.isAgg49
  z46 := Tryz.sizeOf49
  v46 := Tryz.zeroValue49
  t49 := Tryz.underlying195
  a49 := Tryz.isAgg195
  z49 := Tryz.sizeOf195
  v49 := Tryz.zeroValue195
  t51 := Tryz.underlying44
  a51 := Tryz.isAgg44
  z51 := Tryz.sizeOf44
  v51 := Tryz.zeroValue44
  t105 := Tryz.underlying161
  a105 := Tryz.isAgg161
  z105 := Tryz.sizeOf161
  v105 := Tryz.zeroValue161
  t119 := Tryz.underlying124
  a119 := Tryz.isAgg124
  z119 := Tryz.sizeOf124
  t138 := Tryz.underlying213
  a138 := Tryz.isAgg213
  z138 := Tryz.sizeOf213
  v138 := Tryz.zeroValue213
  t139 := Tryz.underlying214
  a139 := Tryz.isAgg214
  z139 := Tryz.sizeOf214
  v139 := Tryz.zeroValue214
  t141 := Tryz.underlying167
  a141 := Tryz.isAgg167
  z141 := Tryz.sizeOf167
  v141 := Tryz.zeroValue167
  t193 := Tryz.underlying191
  a193 := Tryz.isAgg191
  z193 := Tryz.sizeOf191
  v193 := Tryz.zeroValue191
  t194 := Tryz.underlying192
  a194 := Tryz.isAgg192
  z194 := Tryz.sizeOf192
  v194 := Tryz.zeroValue192
  t196 := Tryz.underlying194
  a196 := Tryz.isAgg194
  z196 := Tryz.sizeOf194
  v196 := Tryz.zeroValue194
  t198 := Tryz.underlying197
  a198 := Tryz.isAgg197
  z198 := Tryz.sizeOf197
  v198 := Tryz.zeroValue197
  t201 := Tryz.underlying200
  a201 := Tryz.isAgg200
  z201 := Tryz.sizeOf200
  v201 := Tryz.zeroValue200
  t226 := Tryz.underlying218
  a226 := Tryz.isAgg218
  z226 := Tryz.sizeOf218
  v226 := Tryz.zeroValue218
  t227 := Tryz.underlying219
  a227 := Tryz.isAgg219
  z227 := Tryz.sizeOf219
  v227 := Tryz.zeroValue219
  g0 := by kernel_rfl
  g3 := by kernel_rfl
  g4 := by kernel_rfl
  g6 := by kernel_rfl }
theorem Tryz.Space_Extra_163 : Space.Extra Tryz.prog Tryz.lays163_ren := {
  gNamed := by kernel_rfl }
open Go.RowKit in
theorem Tryz.strings_TrimSpace (s : ByteArray) (w : World) (hs : s.size ≤ 9223372036854775807) (hascii : ∀ (j : Nat) b, s.data.toList[j]? = some b → b.toNat < 128) (htab : Lib.TabIs Tryz.prog w "strings.asciiSpace" .u8 Lib.asciiSpaceTab) :
    Calls Tryz.prog 47 #[.string s] w fun e w' => e = .returned (.string ⟨(Lib.trimSpace s.data.toList).toArray⟩) ∧ w' = Lib.bytesWorld w 5 s := Any.strings_TrimSpace Tryz.lays163 Tryz.Space_Extra_163 s w hs hascii htab
def Tryz.lays137_ren : Go.Shelf.Ren := ⟨fun | 137 => 81 | 217 => 112 | 266 => 115 | n => n, fun | 9 => 9 | 5 => 5 | 3 => 3 | n => n, fun | n => n⟩
theorem Tryz.lays137 : Go.Proofs.Lays.n137 Tryz.prog Tryz.lays137_ren := {
  mixed := by kernel_rfl
  f137 := Tryz.func81.trans (congrArg some (by kernel_rfl))
  f217 := Tryz.func112.trans (congrArg some (by kernel_rfl))
  f266 := Tryz.func115.trans (congrArg some (by kernel_rfl))
  t3 := Tryz.underlying3
  a3 := Tryz.isAgg3
  z3 := Tryz.sizeOf3
  v3 := Tryz.zeroValue3
  t5 := Tryz.underlying5
  a5 := Tryz.isAgg5
  z5 := Tryz.sizeOf5
  v5 := Tryz.zeroValue5
  t9 := Tryz.underlying9
  a9 := Tryz.isAgg9
  z9 := Tryz.sizeOf9
  v9 := Tryz.zeroValue9 }
open Go.RowKit in
/-- strings.IndexByte: "IndexByte returns the index of the first instance of c in s, or -1 if c is not present in s.": IT RETURNS 'Lib.indexByte s c'; the world is as it was. (LAID: no walk: one application.) -/
theorem Tryz.strings_IndexByte (s : ByteArray) (c : Int) (w : World) :
    Calls Tryz.prog 81 #[.string s, .int .u8 c] w fun e w' => e = .returned (.int .i64 (Lib.indexByte s.data.toList c.toNat.toUInt8)) ∧ w' = w := Any.strings_IndexByte Tryz.lays137 s c w
def Tryz.lays217_ren : Go.Shelf.Ren := ⟨fun | 217 => 112 | 266 => 115 | n => n, fun | 9 => 9 | 5 => 5 | 3 => 3 | n => n, fun | n => n⟩
theorem Tryz.lays217 : Go.Proofs.Lays.n217 Tryz.prog Tryz.lays217_ren := {
  mixed := by kernel_rfl
  f217 := Tryz.func112.trans (congrArg some (by kernel_rfl))
  f266 := Tryz.func115.trans (congrArg some (by kernel_rfl))
  t3 := Tryz.underlying3
  a3 := Tryz.isAgg3
  z3 := Tryz.sizeOf3
  v3 := Tryz.zeroValue3
  t5 := Tryz.underlying5
  a5 := Tryz.isAgg5
  z5 := Tryz.sizeOf5
  v5 := Tryz.zeroValue5
  t9 := Tryz.underlying9
  a9 := Tryz.isAgg9
  z9 := Tryz.sizeOf9
  v9 := Tryz.zeroValue9 }
open Go.RowKit Go.Lib in
/-- internal/stringslite.IndexByte (what strings.IndexByte calls): IT RETURNS 'Lib.indexByte s c'; the world is as it was. (LAID: no walk: one application.) -/
theorem Tryz.stringslite_IndexByte (s : ByteArray) (c : Int) (w : World) :
    Calls Tryz.prog 112 #[.string s, .int .u8 c] w fun e w' => e = .returned (.int .i64 (Lib.indexByte s.data.toList c.toNat.toUInt8)) ∧ w' = w := Any.stringslite_IndexByte Tryz.lays217 s c w
def Tryz.lays149_ren : Go.Shelf.Ren := ⟨fun | 149 => 80 | 222 => 111 | n => n, fun | 9 => 9 | 5 => 5 | 3 => 3 | 4 => 4 | n => n, fun | n => n⟩
theorem Tryz.lays149 : Go.Proofs.Lays.n149 Tryz.prog Tryz.lays149_ren := {
  mixed := by kernel_rfl
  f149 := Tryz.func80.trans (congrArg some (by kernel_rfl))
  f222 := Tryz.func111.trans (congrArg some (by kernel_rfl))
  t3 := Tryz.underlying3
  a3 := Tryz.isAgg3
  z3 := Tryz.sizeOf3
  v3 := Tryz.zeroValue3
  t4 := Tryz.underlying4
  a4 := Tryz.isAgg4
  z4 := Tryz.sizeOf4
  v4 := Tryz.zeroValue4
  t5 := Tryz.underlying5
  a5 := Tryz.isAgg5
  z5 := Tryz.sizeOf5
  v5 := Tryz.zeroValue5
  t9 := Tryz.underlying9
  a9 := Tryz.isAgg9
  z9 := Tryz.sizeOf9
  v9 := Tryz.zeroValue9 }
open Go.RowKit Go.Lib in
/-- strings.LastIndexByte: "LastIndexByte returns the index of the last instance of c in s, or -1 if c is not present in s." (LAID: no walk: one application.) -/
theorem Tryz.strings_LastIndexByte (s : ByteArray) (c : Int) (hs : s.size < 4611686018427387904) (w : World) :
    Calls Tryz.prog 80 #[.string s, .int .u8 c] w fun e w' => e = .returned (.int .i64 (Lib.lastIndexByte s c)) ∧ w' = w := Any.strings_LastIndexByte Tryz.lays149 s c hs w
def Tryz.lays99_ren : Go.Shelf.Ren := ⟨fun | 99 => 51 | 206 => 83 | n => n, fun | 9 => 9 | 4 => 4 | 3 => 3 | n => n, fun | n => n⟩
theorem Tryz.lays99 : Go.Proofs.Lays.n99 Tryz.prog Tryz.lays99_ren := {
  mixed := by kernel_rfl
  f99 := Tryz.func51.trans (congrArg some (by kernel_rfl))
  f206 := Tryz.func83.trans (congrArg some (by kernel_rfl))
  t3 := Tryz.underlying3
  a3 := Tryz.isAgg3
  z3 := Tryz.sizeOf3
  v3 := Tryz.zeroValue3
  t4 := Tryz.underlying4
  a4 := Tryz.isAgg4
  z4 := Tryz.sizeOf4
  v4 := Tryz.zeroValue4
  t9 := Tryz.underlying9
  a9 := Tryz.isAgg9
  z9 := Tryz.sizeOf9
  v9 := Tryz.zeroValue9 }
open Go.RowKit Go.Lib in
/-- strings.HasPrefix: "HasPrefix reports whether the string s begins with prefix.": IT RETURNS 'Lib.hasPrefix s prefix'; the world is as it was. (LAID: no walk: one application.) -/
theorem Tryz.strings_HasPrefix (s p : ByteArray) (w : World) :
    Calls Tryz.prog 51 #[.string s, .string p] w fun e w' => e = .returned (.bool (Lib.hasPrefix s.data.toList p.data.toList)) ∧ w' = w := Any.strings_HasPrefix Tryz.lays99 s p w
def Tryz.lays100_ren : Go.Shelf.Ren := ⟨fun | 100 => 121 | 207 => 143 | n => n, fun | 9 => 9 | 4 => 4 | 3 => 3 | n => n, fun | n => n⟩
theorem Tryz.lays100 : Go.Proofs.Lays.n100 Tryz.prog Tryz.lays100_ren := {
  mixed := by kernel_rfl
  f100 := Tryz.func121.trans (congrArg some (by kernel_rfl))
  f207 := Tryz.func143.trans (congrArg some (by kernel_rfl))
  t3 := Tryz.underlying3
  a3 := Tryz.isAgg3
  z3 := Tryz.sizeOf3
  v3 := Tryz.zeroValue3
  t4 := Tryz.underlying4
  a4 := Tryz.isAgg4
  z4 := Tryz.sizeOf4
  v4 := Tryz.zeroValue4
  t9 := Tryz.underlying9
  a9 := Tryz.isAgg9
  z9 := Tryz.sizeOf9
  v9 := Tryz.zeroValue9 }
open Go.RowKit Go.Lib in
/-- strings.HasSuffix: "HasSuffix reports whether the string s ends with suffix.": IT RETURNS 'Lib.hasSuffix s suffix'; the world is as it was. ('hs': no Go string is longer: a caller has it of every string that it was handed.) (LAID: no walk: one application.) -/
theorem Tryz.strings_HasSuffix (s p : ByteArray) (w : World) (hs : s.size ≤ 9223372036854775807) :
    Calls Tryz.prog 121 #[.string s, .string p] w fun e w' => e = .returned (.bool (Lib.hasSuffix s.data.toList p.data.toList)) ∧ w' = w := Any.strings_HasSuffix Tryz.lays100 s p w hs
end Go.Proofs
/-
  What the package-level variables hold is kept in one bundle (Env); the small functions of netip.Addr: Is6, BitLen, Zone and so on.
-/
namespace Go.Proofs.YtpemdpfageikfaaGreatDoor.R
open Go.RowKit Go.Proofs.YtpemdpfageikfaaGreatDoorW.PrintWords Go.Proofs.YtpemdpfageikfaaGreatDoorW.PrintLast Go.Proofs.YtpemdpfageikfaaGreatDoorW.PrintMore

theorem held100 : Tryz.prog.stoodInHeld 100 = false := by kernel_rfl
theorem info170 : (Tryz.prog.info? 170).map (fun i => i.size) = some 2 := by kernel_rfl
theorem eqi_of {x y : Value} (r : Bool) (W : World) (h : ∀ d, (Op.equalIn (d + 1) 98 x y).run Tryz.prog W = .ok r W) (hx : (part 98 #[x] 0).run Tryz.prog W = .ok x W) (hy : (part 98 #[y] 0).run Tryz.prog W = .ok y W) (d : Nat) :
    (Op.equalIn (d + 2) 100 (.agg #[x]) (.agg #[y])).run Tryz.prog W = .ok r W := by
  generalize hg : d + 1 = m at *
  rw [show d + 2 = m + 1 from by omega]
  have hm : (Op.equalIn m 98 x y).run Tryz.prog W = .ok r W := by rw [← hg]; exact h d
  rw [Op.equalIn]
  simp only [Sem.run_bind, run_underlying Tryz.underlying100, Result.andThen_ok, run_program, held100, Bool.false_eq_true, if_false]
  rw [← Array.forIn_toList]
  simp only [List.forIn_cons, List.forIn_nil, ne_eq, String.reduceEq, not_false_eq_true, if_true, Sem.run_bind, hx, hy, hm, Result.andThen_ok]
  cases r <;> simp
theorem eqh_of {x y : Value} (r : Bool) (W : World) (h : ∀ d, (Op.equalIn (d + 1) 98 x y).run Tryz.prog W = .ok r W) (hx : (part 98 #[x] 0).run Tryz.prog W = .ok x W) (hy : (part 98 #[y] 0).run Tryz.prog W = .ok y W) :
    (binOp .eql 100 (.agg #[x]) (.agg #[y])).run Tryz.prog W = .ok (.bool r) W := by
  have := eqi_of r W h hx hy 9998
  simp only [binOp]
  simp [Op.equal, Op.maxDepth, this]
theorem neh_of {x y : Value} (r : Bool) (W : World) (h : ∀ d, (Op.equalIn (d + 1) 98 x y).run Tryz.prog W = .ok r W) (hx : (part 98 #[x] 0).run Tryz.prog W = .ok x W) (hy : (part 98 #[y] 0).run Tryz.prog W = .ok y W) :
    (binOp .neq 100 (.agg #[x]) (.agg #[y])).run Tryz.prog W = .ok (.bool (!r)) W := by
  have := eqi_of r W h hx hy 9998
  simp only [binOp]
  simp [Op.equal, Op.maxDepth, this]
theorem part98 (v : Option Addr) (W : World) : (part 98 #[Value.pointer v] 0).run Tryz.prog W = .ok (Value.pointer v) W := by
  cases v <;> kernel_rfl
theorem eqp_some (a b : Addr) (r : Bool) (W : World) (h : (sameAddr a b).run Tryz.prog W = .ok r W) (d : Nat) : (Op.equalIn (d + 1) 98 (.pointer (some a)) (.pointer (some b))).run Tryz.prog W = .ok r W := by
  obtain ⟨i, hi, hs⟩ := Option.map_eq_some_iff.1 info170
  simp [Op.equalIn, run_underlying Tryz.underlying98, sizeOf, typeInfo, hi, hs, h]
theorem eqp_nil (a : Addr) (W : World) (d : Nat) : (Op.equalIn (d + 1) 98 (.pointer (some a)) (.pointer none)).run Tryz.prog W = .ok false W := by
  simp [Op.equalIn, run_underlying Tryz.underlying98]

theorem guard100 : Tryz.prog.eqGuardType Tryz.prog.depth 100 = false := by kernel_rfl
/-- The walk's law at '==' and '!=' of two handles: what the run gives is handed in. -/
theorem wpList_eqh {w : World} {ops : Array Oper} {rest : List Oper} {o : Oper} {a : Act} {Q : Exit → Act → World → Prop} (hw : Region.wanted o (yielded ops a.tmps) = true) (b : BinOp) (x y : Operand) (ty : TypeId) (ho : o.op = .binOp b 100 x y ty)
    (u v : Value) (hx : a.eval x = .agg #[u]) (hy : a.eval y = .agg #[v]) (r : Value) (hr : (binOp b 100 (.agg #[u]) (.agg #[v])).run Tryz.prog w = .ok r w)
    (h : wpList Tryz.prog ops Q rest (a.put o.dst r) w) : wpList Tryz.prog ops Q (o :: rest) a w := by
  refine wpList_step fun K hK => ?_
  rw [if_pos hw]
  have hg : (eqGuard b 100 x y (.agg #[u]) (.agg #[v])).run Tryz.prog w = .ok () w := by
    unfold eqGuard
    cases b <;> simp only [Sem.run_bind, Sem.run_ite, run_program, Result.andThen_ok, guard100, Bool.not_false, Bool.not_true, if_true, if_false, Bool.false_eq_true, Sem.run_pure]
  unfold Oper.wp
  simp [execOp, ho, hx, hy, Sem.run_bind, hg, hr, Result.andThen]
  exact hK _ _ h

/-- What the listed variables hold, as far as this road reads them. -/
structure Env (w : World) (p4 p6 : Addr) : Prop where
  size : 10 < w.heap.size
  g2 : w.cell? ⟨2, 0, none⟩ = some (.pointer none)
  g3 : w.cell? ⟨3, 0, none⟩ = some (.pointer (some p4))
  g7 : w.cell? ⟨7, 0, none⟩ = some (.pointer (some p6))
  ne : p4 ≠ p6
  b4 : ∃ c t, w.heap[p4.block]? = some (.cells c t (0, 0))
  b6 : ∃ c t, w.heap[p6.block]? = some (.cells c t (0, 0))
  f4 : w.cell? p4 = some (.bool false)
  s4 : w.cell? (p4.add 1) = some (.string ⟨#[]⟩)
  f6 : w.cell? p6 = some (.bool true)
  s6 : w.cell? (p6.add 1) = some (.string ⟨#[]⟩)
  tab : Lib.TabIs Tryz.prog w "strings.asciiSpace" .u8 Lib.asciiSpaceTab
theorem spaceGlobal : Tryz.prog.globalNamed "strings.asciiSpace" = some 1 := by kernel_rfl
section
variable {w w1 : World} {p4 p6 : Addr}
theorem blk_lt' {k : Nat} {o : Obj} (h : w.heap[k]? = some o) : k < w.heap.size := (Array.getElem?_eq_some_iff.1 h).1
theorem Env.below (h : Env w p4 p6) (hb : Below w.heap.size w w1) : Env w1 p4 p6 where
  size := Nat.lt_of_lt_of_le h.size hb.size
  g2 := pw_cell_below hb h.g2
  g3 := pw_cell_below hb h.g3
  g7 := pw_cell_below hb h.g7
  ne := h.ne
  b4 := by obtain ⟨c, t, hc⟩ := h.b4; exact ⟨c, t, (hb.block _ (blk_lt' hc)).trans hc⟩
  b6 := by obtain ⟨c, t, hc⟩ := h.b6; exact ⟨c, t, (hb.block _ (blk_lt' hc)).trans hc⟩
  f4 := pw_cell_below hb h.f4
  s4 := pw_cell_below hb h.s4
  f6 := pw_cell_below hb h.f6
  s6 := pw_cell_below hb h.s6
  tab := by
    have ht := h.tab
    unfold Lib.TabIs at ht ⊢
    rw [← ht]
    unfold World.var?
    rw [spaceGlobal]
    have := hb.block 1 (by have := h.size; omega)
    simp only [Option.bind_some, this]
theorem Env.alloc (h : Env w p4 p6) (o : Obj) : Env (w.alloc o) p4 p6 := h.below (below_alloc (Below.refl _ _) o)
theorem Env.same46 (h : Env w p4 p6) : (sameAddr p4 p6).run Tryz.prog w = .ok false w := by
  obtain ⟨c, t, hc⟩ := h.b4; obtain ⟨c', t', hc'⟩ := h.b6
  exact run_sameAddr_other w h.ne hc hc'
theorem Env.same64 (h : Env w p4 p6) : (sameAddr p6 p4).run Tryz.prog w = .ok false w := by
  obtain ⟨c, t, hc⟩ := h.b4; obtain ⟨c', t', hc'⟩ := h.b6
  exact run_sameAddr_other w (Ne.symm h.ne) hc' hc
theorem eq_nil (a : Addr) (W : World) : (binOp .eql 100 (.agg #[.pointer (some a)]) (.agg #[.pointer none])).run Tryz.prog W = .ok (.bool false) W :=
  eqh_of false W (fun d => eqp_nil a W d) (part98 _ W) (part98 _ W)
theorem ne_nil (a : Addr) (W : World) : (binOp .neq 100 (.agg #[.pointer (some a)]) (.agg #[.pointer none])).run Tryz.prog W = .ok (.bool true) W :=
  neh_of false W (fun d => eqp_nil a W d) (part98 _ W) (part98 _ W)
theorem eq_same (a : Addr) (W : World) : (binOp .eql 100 (.agg #[.pointer (some a)]) (.agg #[.pointer (some a)])).run Tryz.prog W = .ok (.bool true) W :=
  eqh_of true W (fun d => eqp_some a a true W (run_sameAddr_same W a) d) (part98 _ W) (part98 _ W)
theorem ne_same (a : Addr) (W : World) : (binOp .neq 100 (.agg #[.pointer (some a)]) (.agg #[.pointer (some a)])).run Tryz.prog W = .ok (.bool false) W :=
  neh_of true W (fun d => eqp_some a a true W (run_sameAddr_same W a) d) (part98 _ W) (part98 _ W)
theorem Env.eq64 (h : Env w p4 p6) : (binOp .eql 100 (.agg #[.pointer (some p6)]) (.agg #[.pointer (some p4)])).run Tryz.prog w = .ok (.bool false) w :=
  eqh_of false w (fun d => eqp_some p6 p4 false w h.same64 d) (part98 _ w) (part98 _ w)
theorem Env.ne64 (h : Env w p4 p6) : (binOp .neq 100 (.agg #[.pointer (some p6)]) (.agg #[.pointer (some p4)])).run Tryz.prog w = .ok (.bool true) w :=
  neh_of false w (fun d => eqp_some p6 p4 false w h.same64 d) (part98 _ w) (part98 _ w)
end

/-- Behind a call that has written nothing old: what was there reads as it did. -/
theorem after {W w1 : World} (hb : Below W.heap.size W w1) : (∀ b o, b < W.heap.size → w1.cell? ⟨b, o, none⟩ = W.cell? ⟨b, o, none⟩) ∧ (∀ b o, b < W.heap.size → w1.frozen? ⟨b, o, none⟩ = W.frozen? ⟨b, o, none⟩) ∧ W.heap.size ≤ w1.heap.size :=
  ⟨fun b o h => hb.cell (p := ⟨b, o, none⟩) h, fun b o h => hb.frozen (p := ⟨b, o, none⟩) h, hb.size⟩
theorem blw {w W w1 : World} (h : Below w.heap.size w W) (hb : Below W.heap.size W w1) : Below w.heap.size w w1 := below_then h h.size hb

/-- The block in which an Addr by value is boxed. -/
abbrev addrBox (hi lo : Int) (p : Addr) : Obj := .cells #[.int .u64 hi, .int .u64 lo, .pointer (some p)] 102
theorem bitLen_4 (hi lo : Int) (p4 p6 : Addr) (w : World) (hE : Env w p4 p6) :
    Calls Tryz.prog 75 #[.agg #[.int .u64 hi, .int .u64 lo, .pointer (some p4)]] w fun e w' => e = .returned (.int .i64 32) ∧ w.alloc (addrBox hi lo p4) = w' := by
  have z2 : 2 < w.heap.size := by have := hE.size; omega
  have z3 : 3 < w.heap.size := by have := hE.size; omega
  have h0 := hE.g2
  have h4 := hE.g3
  have q1 := eq_nil p4
  have q2 := eq_same p4
  clear hE
  go_enter Tryz.func75, Tryz.ntmps75
  go_wp2
  go_ret
  exact ⟨rfl, rfl⟩
theorem bitLen_6 (hi lo : Int) (p4 p6 : Addr) (w : World) (hE : Env w p4 p6) :
    Calls Tryz.prog 75 #[.agg #[.int .u64 hi, .int .u64 lo, .pointer (some p6)]] w fun e w' => e = .returned (.int .i64 128) ∧ w.alloc (addrBox hi lo p6) = w' := by
  have z2 : 2 < w.heap.size := by have := hE.size; omega
  have z3 : 3 < w.heap.size := by have := hE.size; omega
  have h0 := hE.g2
  have h4 := hE.g3
  have q1 := eq_nil p6
  have q2 := Lib.hid (hE.alloc)
  clear hE
  go_enter Tryz.func75, Tryz.ntmps75
  go_wp2_with (refine wpList_eqh ?_ .eql (.tmp 4) (.tmp 9) 100 ?_ (.pointer (some p6)) (.pointer (some p4)) ?_ ?_ (.bool false) ?_ ?_; rfl; rfl; rfl; rfl; exact (q2.out _).eq64)
  go_ret
  exact ⟨rfl, rfl⟩
theorem is6_6 (hi lo : Int) (p4 p6 : Addr) (w : World) (hE : Env w p4 p6) :
    Calls Tryz.prog 140 #[.agg #[.int .u64 hi, .int .u64 lo, .pointer (some p6)]] w fun e w' => e = .returned (.bool true) ∧ w.alloc (addrBox hi lo p6) = w' := by
  have z2 : 2 < w.heap.size := by have := hE.size; omega
  have z3 : 3 < w.heap.size := by have := hE.size; omega
  have h0 := hE.g2
  have h4 := hE.g3
  have q1 := ne_nil p6
  have q2 := Lib.hid (hE.alloc)
  clear hE
  go_enter Tryz.func140, Tryz.ntmps140
  go_wp2_with (refine wpList_eqh ?_ .neq (.tmp 9) (.tmp 10) 100 ?_ (.pointer (some p6)) (.pointer (some p4)) ?_ ?_ (.bool true) ?_ ?_; rfl; rfl; rfl; rfl; exact (q2.out _).ne64)
  go_ret
  exact ⟨rfl, rfl⟩
theorem handle_value (p : Addr) (b : Bool) (s : ByteArray) (w : World) (h0 : w.cell? p = some (.bool b)) (h1 : w.cell? (p.add 1) = some (.string s)) :
    Calls Tryz.prog 107 #[.agg #[.pointer (some p)]] w fun e w' => e = .returned (.agg #[.bool b, .string s]) ∧ (w.alloc (.cells #[.pointer (some p)] 100)).alloc (.cells #[.bool b, .string s] 170) = w' := by
  obtain ⟨pb, po, hp⟩ : ∃ pb po, p = ⟨pb, po, none⟩ := by
    have := World.cell?_spot h0
    cases p; simp at this; subst this; exact ⟨_, _, rfl⟩
  subst hp
  rw [show (⟨pb, po, none⟩ : Addr).add 1 = ⟨pb, po + 1, none⟩ from rfl] at h1
  have hz : pb < w.heap.size := World.block_lt_of_cell? w _ h0
  go_enter Tryz.func107, Tryz.ntmps107
  go_wp2
  go_returns
  exact ⟨rfl, rfl⟩
theorem field170 (b : Bool) (s : ByteArray) (W : World) : (Instr.field 170 (.agg #[.bool b, .string s]) 1).run Tryz.prog W = .ok (.string s) W := by kernel_rfl
theorem zone_of (hi lo : Int) (p p4 p6 : Addr) (w : World) (hE : Env w p4 p6) (hp : p = p4 ∨ p = p6) :
    Calls Tryz.prog 73 #[.agg #[.int .u64 hi, .int .u64 lo, .pointer (some p)]] w fun e w' => e = .returned (.string ⟨#[]⟩) ∧ ∃ b, ((w.alloc (addrBox hi lo p)).alloc (.cells #[.pointer (some p)] 100)).alloc (.cells #[.bool b, .string ⟨#[]⟩] 170) = w' := by
  obtain ⟨b, h0, h1⟩ : ∃ b, w.cell? p = some (.bool b) ∧ w.cell? (p.add 1) = some (.string ⟨#[]⟩) := by
    rcases hp with rfl | rfl
    · exact ⟨_, hE.f4, hE.s4⟩
    · exact ⟨_, hE.f6, hE.s6⟩
  have z2 : 2 < w.heap.size := by have := hE.size; omega
  have h2 := hE.g2
  have q1 := eq_nil p
  have hb0 := Lib.hid (fun o => pw_cell_below (below_alloc (Below.refl _ w) o) h0)
  have hb1 := Lib.hid (fun o => pw_cell_below (below_alloc (Below.refl _ w) o) h1)
  clear hE hp h0 h1
  go_enter Tryz.func73, Tryz.ntmps73
  have qf := field170
  go_wp2_with (go_at_call 107; refine (handle_value p b ⟨#[]⟩ _ (hb0.out _) (hb1.out _)).mono ?_; rintro e w1 ⟨rfl, rfl⟩)
  go_returns
  exact ⟨rfl, b, rfl⟩
theorem withZone_none (hi lo : Int) (p4 p6 : Addr) (w : World) (hE : Env w p4 p6) :
    Calls Tryz.prog 117 #[.agg #[.int .u64 hi, .int .u64 lo, .pointer (some p6)], .string ⟨#[]⟩] w fun e w' => e = .returned (.agg #[.int .u64 hi, .int .u64 lo, .pointer (some p6)]) ∧ Below w.heap.size w w' := by
  have q2 := Lib.hid (fun o o' => (hE.alloc o).alloc o')
  have h7 := fun o o' o'' => (((hE.alloc o).alloc o').alloc o'').g7
  clear hE
  go_enter Tryz.func117, Tryz.ntmps117
  go_wp2_with (go_at_call 140; refine (is6_6 hi lo p4 p6 _ (q2.out _ _)).mono ?_; rintro e w1 ⟨rfl, rfl⟩)
  go_returns
  exact ⟨rfl, by go_grown⟩
end Go.Proofs.YtpemdpfageikfaaGreatDoor.R
