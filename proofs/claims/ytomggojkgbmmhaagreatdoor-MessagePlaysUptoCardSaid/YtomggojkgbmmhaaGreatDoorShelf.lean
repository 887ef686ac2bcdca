/-
  DERIVED: THE SHELF's CONTRACTS AT THIS DUMP, IN PLAIN WORDS (tools/lay-plain.mjs out of 'TryzShelf.lean', which tools/lay-shelf.mjs wrote): THE SAME DECLARATIONS UNDER THE SAME NAMES: 'import', 'namespace', 'open', 'def', 'theorem' AND NOTHING ELSE: no command of the shelf's: FOR A HAND-IN. Each laying: the table of numbers ('.._ren') and one theorem, a field a fact of the dump's own or the kernel's comparison; each contract: ONE APPLICATION.
-/
import Derived.Shelf.Strings.Trim
import Derived.Shelf.Small.Utf8
import Derived.Shelf.Small.Strs
import Derived.Shelf.Strconv.Atoi
import Derived.Shelf.Strconv.Itoa0
import Derived.Shelf.Strconv.Itoa1
import Derived.Shelf.LaysM
import Derived.Shelf.Strconv.Itoa2
import Derived.Shelf.Strconv.Itoa3
import Derived.Shelf.Strings.Search1
import Derived.Shelf.Strings.Prefix
import Derived.Shelf.Unicode.Decode
import Derived.Shelf.Strings.Runes
import Derived.Shelf.Strings.IndexAny
import Derived.Shelf.Strings.AsciiSet
import Derived.Shelf.Strings.IndexAnyAll
import Derived.Shelf.Unicode.DecodeSlow
import Derived.Shelf.Unicode.DecodeAny
import Derived.Shelf.Unicode.DecodeLast
import Derived.Shelf.Slices.Turned
import Derived.Test.YtomggojkgbmmhaaGreatDoorProg
namespace Go.Proofs
open Go.Shelf
def Tryz.lays231_ren : Go.Shelf.Ren := ⟨fun | 231 => 85 | n => n, fun | 9 => 9 | 5 => 5 | 3 => 3 | 4 => 4 | n => n, fun | n => n⟩
theorem Tryz.lays231 : Go.Proofs.Lays.n231 Tryz.prog Tryz.lays231_ren := {
  mixed := by kernel_rfl
  f231 := Tryz.func85.trans (congrArg some (by kernel_rfl))
  t3 := Tryz.underlying3
  a3 := Tryz.isAgg3
  z3 := Tryz.sizeOf3
  v3 := Tryz.zeroValue3
  t4 := Tryz.underlying4
  a4 := Tryz.isAgg4
  z4 := Tryz.sizeOf4
  v4 := Tryz.zeroValue4
  t5 := Tryz.underlying5
  a5 := Tryz.isAgg5
  z5 := Tryz.sizeOf5
  v5 := Tryz.zeroValue5
  t9 := Tryz.underlying9
  a9 := Tryz.isAgg9
  z9 := Tryz.sizeOf9
  v9 := Tryz.zeroValue9 }
open Go.RowKit in
/-- strings.trimLeftByte (no doc; what TrimLeft and Trim call at a cutset of one ASCII byte): the leading bytes that are c are cut off. The world is as it was. (LAID: no walk: one application.) -/
theorem Tryz.strings_trimLeftByte (s : ByteArray) (c : UInt8) (w : World) :
    Calls Tryz.prog 85 #[.string s, .int .u8 c.toNat] w fun e w' => e = .returned (.string ⟨(Lib.trimLeftB s.data.toList c).toArray⟩) ∧ w' = w := Any.strings_trimLeftByte Tryz.lays231 s c w
def Tryz.lays232_ren : Go.Shelf.Ren := ⟨fun | 232 => 86 | n => n, fun | 9 => 9 | 5 => 5 | 3 => 3 | 4 => 4 | n => n, fun | n => n⟩
theorem Tryz.lays232 : Go.Proofs.Lays.n232 Tryz.prog Tryz.lays232_ren := {
  mixed := by kernel_rfl
  f232 := Tryz.func86.trans (congrArg some (by kernel_rfl))
  t3 := Tryz.underlying3
  a3 := Tryz.isAgg3
  z3 := Tryz.sizeOf3
  v3 := Tryz.zeroValue3
  t4 := Tryz.underlying4
  a4 := Tryz.isAgg4
  z4 := Tryz.sizeOf4
  v4 := Tryz.zeroValue4
  t5 := Tryz.underlying5
  a5 := Tryz.isAgg5
  z5 := Tryz.sizeOf5
  v5 := Tryz.zeroValue5
  t9 := Tryz.underlying9
  a9 := Tryz.isAgg9
  z9 := Tryz.sizeOf9
  v9 := Tryz.zeroValue9 }
open Go.RowKit in
/-- strings.trimRightByte (no doc; what TrimRight and Trim call at a cutset of one ASCII byte): the trailing bytes that are c are cut off. The world is as it was. ('hs': a string's length is a number that an int holds.) (LAID: no walk: one application.) -/
theorem Tryz.strings_trimRightByte (s : ByteArray) (c : UInt8) (w : World) (hs : s.size ≤ 9223372036854775807) :
    Calls Tryz.prog 86 #[.string s, .int .u8 c.toNat] w fun e w' => e = .returned (.string ⟨(Lib.trimRightB s.data.toList c).toArray⟩) ∧ w' = w := Any.strings_trimRightByte Tryz.lays232 s c w hs
def Tryz.lays160_ren : Go.Shelf.Ren := ⟨fun | 160 => 74 | 232 => 86 | 231 => 85 | 227 => 87 | 234 => 89 | 233 => 88 | 236 => 91 | 235 => 90 | 228 => 102 | 271 => 104 | 151 => 62 | 197 => 103 | 120 => 110 | 152 => 77 | 260 => 109 | 137 => 93 | 119 => 94 | 224 => 95 | 225 => 96 | 217 => 105 | 266 => 111 | n => n, fun | 9 => 9 | 4 => 4 | 3 => 3 | 5 => 5 | 117 => 111 | 116 => 110 | 0 => 0 | 124 => 114 | 21 => 21 | 105 => 129 | 46 => 118 | 119 => 137 | 139 => 140 | 138 => 139 | n => n, fun | 3 => 3 | 4 => 4 | n => n⟩
theorem Tryz.lays160 : Go.Proofs.Lays.n160 Tryz.prog Tryz.lays160_ren := {
  mixed := by kernel_rfl
  f119 := Tryz.func94.trans (congrArg some (by kernel_rfl))
  f120 := Tryz.func110.trans (congrArg some (by kernel_rfl))
  f137 := Tryz.func93.trans (congrArg some (by kernel_rfl))
  f151 := Tryz.func62.trans (congrArg some (by kernel_rfl))
  f152 := Tryz.func77.trans (congrArg some (by kernel_rfl))
  f160 := Tryz.func74.trans (congrArg some (by kernel_rfl))
  f197 := Tryz.func103.trans (congrArg some (by kernel_rfl))
  f217 := Tryz.func105.trans (congrArg some (by kernel_rfl))
  f224 := Tryz.func95.trans (congrArg some (by kernel_rfl))
  f225 := Tryz.func96.trans (congrArg some (by kernel_rfl))
  f227 := Tryz.func87.trans (congrArg some (by kernel_rfl))
  f228 := Tryz.func102.trans (congrArg some (by kernel_rfl))
  f231 := Tryz.func85.trans (congrArg some (by kernel_rfl))
  f232 := Tryz.func86.trans (congrArg some (by kernel_rfl))
  f233 := Tryz.func88.trans (congrArg some (by kernel_rfl))
  f234 := Tryz.func89.trans (congrArg some (by kernel_rfl))
  f235 := Tryz.func90.trans (congrArg some (by kernel_rfl))
  f236 := Tryz.func91.trans (congrArg some (by kernel_rfl))
  f260 := Tryz.func109.trans (congrArg some (by kernel_rfl))
  f266 := Tryz.func111.trans (congrArg some (by kernel_rfl))
  f271 := Tryz.func104.trans (congrArg some (by kernel_rfl))
  t0 := Tryz.underlying0
  a0 := Tryz.isAgg0
  z0 := Tryz.sizeOf0
  v0 := Tryz.zeroValue0
  t3 := Tryz.underlying3
  a3 := Tryz.isAgg3
  z3 := Tryz.sizeOf3
  v3 := Tryz.zeroValue3
  t4 := Tryz.underlying4
  a4 := Tryz.isAgg4
  z4 := Tryz.sizeOf4
  v4 := Tryz.zeroValue4
  t5 := Tryz.underlying5
  a5 := Tryz.isAgg5
  z5 := Tryz.sizeOf5
  v5 := Tryz.zeroValue5
  t9 := Tryz.underlying9
  a9 := Tryz.isAgg9
  z9 := Tryz.sizeOf9
  v9 := Tryz.zeroValue9
  t21 := Tryz.underlying21
  a21 := Tryz.isAgg21
  z21 := Tryz.sizeOf21
  v21 := Tryz.zeroValue21
  t46 := Tryz.underlying118
  a46 := Tryz.isAgg118
  z46 := Tryz.sizeOf118
  v46 := Tryz.zeroValue118
  t105 := Tryz.underlying129
  a105 := Tryz.isAgg129
  z105 := Tryz.sizeOf129
  v105 := Tryz.zeroValue129
  t116 := Tryz.underlying110
  a116 := Tryz.isAgg110
  z116 := Tryz.sizeOf110
  t117 := Tryz.underlying111
  a117 := Tryz.isAgg111
  z117 := Tryz.sizeOf111
  v117 := Tryz.zeroValue111
  t119 := Tryz.underlying137
  a119 := Tryz.isAgg137
  z119 := Tryz.sizeOf137
  t124 := Tryz.underlying114
  a124 := Tryz.isAgg114
  z124 := Tryz.sizeOf114
  v124 := Tryz.zeroValue114
  t138 := Tryz.underlying139
  a138 := Tryz.isAgg139
  z138 := Tryz.sizeOf139
  v138 := Tryz.zeroValue139
  t139 := Tryz.underlying140
  a139 := Tryz.isAgg140
  z139 := Tryz.sizeOf140
  v139 := Tryz.zeroValue140
  g3 := by kernel_rfl
  g4 := by kernel_rfl }
open Go.RowKit in
/-- strings.Trim: "Trim returns a slice of the string s with all leading and trailing Unicode code points contained in cutset removed.": AT A cutset OF ONE ASCII BYTE. THE WORLD BEHIND IT: as it was, or (where s is not empty) with ONE DRAW MORE off the tape: the statement 'return trimLeftByte(trimRightByte(s, c), c)' draws its order of evaluation. (LAID: no walk: one application.) -/
theorem Tryz.strings_Trim_one (s : ByteArray) (c : UInt8) (hc : c.toNat < 128) (w : World) (hs : s.size ≤ 9223372036854775807) :
    Calls Tryz.prog 74 #[.string s, .string ⟨#[c]⟩] w fun e w' => e = .returned (.string ⟨(Lib.trimB s.data.toList c).toArray⟩) ∧ (w' = w ∨ w' = w.drew) := Any.strings_Trim_one Tryz.lays160 s c hc w hs
def Tryz.lays119_ren : Go.Shelf.Ren := ⟨fun | 119 => 94 | n => n, fun | 21 => 21 | 4 => 4 | n => n, fun | n => n⟩
theorem Tryz.lays119 : Go.Proofs.Lays.n119 Tryz.prog Tryz.lays119_ren := {
  mixed := by kernel_rfl
  f119 := Tryz.func94.trans (congrArg some (by kernel_rfl))
  t4 := Tryz.underlying4
  a4 := Tryz.isAgg4
  z4 := Tryz.sizeOf4
  v4 := Tryz.zeroValue4
  t21 := Tryz.underlying21
  a21 := Tryz.isAgg21
  z21 := Tryz.sizeOf21
  v21 := Tryz.zeroValue21 }
/-- utf8.ValidRune: "ValidRune reports whether r can be legally encoded as UTF-8. Code points that are out of range or a surrogate half are illegal.": IT RETURNS 'Lib.validRune r'; the world is as it was. (LAID: no walk: one application.) -/
theorem Tryz.utf8_ValidRune (r : Int) (w : World) :
    Calls Tryz.prog 94 #[.int .i32 r] w fun e w' => e = .returned (.bool (Lib.validRune r)) ∧ w' = w := Any.utf8_ValidRune Tryz.lays119 r w
def Tryz.lays120_ren : Go.Shelf.Ren := ⟨fun | 120 => 110 | n => n, fun | 5 => 5 | 4 => 4 | n => n, fun | n => n⟩
theorem Tryz.lays120 : Go.Proofs.Lays.n120 Tryz.prog Tryz.lays120_ren := {
  mixed := by kernel_rfl
  f120 := Tryz.func110.trans (congrArg some (by kernel_rfl))
  t4 := Tryz.underlying4
  a4 := Tryz.isAgg4
  z4 := Tryz.sizeOf4
  v4 := Tryz.zeroValue4
  t5 := Tryz.underlying5
  a5 := Tryz.isAgg5
  z5 := Tryz.sizeOf5
  v5 := Tryz.zeroValue5 }
/-- utf8.RuneStart: "RuneStart reports whether the byte could be the first byte of an encoded, possibly invalid rune. Second and subsequent bytes always have the top two bits set to 10.": IT RETURNS 'Lib.runeStart b'; the world is as it was. ('h0', 'h1': b is a byte: a caller has it of every byte that it was handed.) (LAID: no walk: one application.) -/
theorem Tryz.utf8_RuneStart (b : Int) (w : World) (h0 : 0 ≤ b) (h1 : b < 256) :
    Calls Tryz.prog 110 #[.int .u8 b] w fun e w' => e = .returned (.bool (Lib.runeStart b)) ∧ w' = w := Any.utf8_RuneStart Tryz.lays120 b w h0 h1
def Tryz.lays137_ren : Go.Shelf.Ren := ⟨fun | 137 => 93 | 217 => 105 | 266 => 111 | n => n, fun | 9 => 9 | 5 => 5 | 3 => 3 | n => n, fun | n => n⟩
theorem Tryz.lays137 : Go.Proofs.Lays.n137 Tryz.prog Tryz.lays137_ren := {
  mixed := by kernel_rfl
  f137 := Tryz.func93.trans (congrArg some (by kernel_rfl))
  f217 := Tryz.func105.trans (congrArg some (by kernel_rfl))
  f266 := Tryz.func111.trans (congrArg some (by kernel_rfl))
  t3 := Tryz.underlying3
  a3 := Tryz.isAgg3
  z3 := Tryz.sizeOf3
  v3 := Tryz.zeroValue3
  t5 := Tryz.underlying5
  a5 := Tryz.isAgg5
  z5 := Tryz.sizeOf5
  v5 := Tryz.zeroValue5
  t9 := Tryz.underlying9
  a9 := Tryz.isAgg9
  z9 := Tryz.sizeOf9
  v9 := Tryz.zeroValue9 }
open Go.RowKit in
/-- strings.IndexByte: "IndexByte returns the index of the first instance of c in s, or -1 if c is not present in s.": IT RETURNS 'Lib.indexByte s c'; the world is as it was. (LAID: no walk: one application.) -/
theorem Tryz.strings_IndexByte (s : ByteArray) (c : Int) (w : World) :
    Calls Tryz.prog 93 #[.string s, .int .u8 c] w fun e w' => e = .returned (.int .i64 (Lib.indexByte s.data.toList c.toNat.toUInt8)) ∧ w' = w := Any.strings_IndexByte Tryz.lays137 s c w
def Tryz.lays244_ren : Go.Shelf.Ren := ⟨fun | 244 => 64 | 247 => 78 | 287 => 97 | 321 => 106 | 322 => 107 | n => n, fun | 9 => 9 | 3 => 3 | 75 => 78 | 4 => 4 | 5 => 5 | 167 => 101 | 37 => 56 | 0 => 0 | 85 => 102 | 2 => 2 | 53 => 119 | 175 => 120 | 46 => 118 | 21 => 21 | 80 => 37 | n => n, fun | n => n⟩
theorem Tryz.lays244 : Go.Proofs.Lays.n244 Tryz.prog Tryz.lays244_ren := {
  mixed := by kernel_rfl
  f244 := Tryz.func64.trans (congrArg some (by kernel_rfl))
  f247 := Tryz.func78.trans (congrArg some (by kernel_rfl))
  f287 := Tryz.func97.trans (congrArg some (by kernel_rfl))
  f321 := Tryz.func106.trans (congrArg some (by kernel_rfl))
  f322 := Tryz.func107.trans (congrArg some (by kernel_rfl))
  t0 := Tryz.underlying0
  a0 := Tryz.isAgg0
  z0 := Tryz.sizeOf0
  v0 := Tryz.zeroValue0
  t2 := Tryz.underlying2
  a2 := Tryz.isAgg2
  z2 := Tryz.sizeOf2
  v2 := Tryz.zeroValue2
  t3 := Tryz.underlying3
  a3 := Tryz.isAgg3
  z3 := Tryz.sizeOf3
  v3 := Tryz.zeroValue3
  t4 := Tryz.underlying4
  a4 := Tryz.isAgg4
  z4 := Tryz.sizeOf4
  v4 := Tryz.zeroValue4
  t5 := Tryz.underlying5
  a5 := Tryz.isAgg5
  z5 := Tryz.sizeOf5
  v5 := Tryz.zeroValue5
  t9 := Tryz.underlying9
  a9 := Tryz.isAgg9
  z9 := Tryz.sizeOf9
  v9 := Tryz.zeroValue9
  t21 := Tryz.underlying21
  a21 := Tryz.isAgg21
  z21 := Tryz.sizeOf21
  v21 := Tryz.zeroValue21
  t37 := Tryz.underlying56
  a37 := Tryz.isAgg56
  z37 := Tryz.sizeOf56
  v37 := Tryz.zeroValue56
  t46 := Tryz.underlying118
  a46 := Tryz.isAgg118
  z46 := Tryz.sizeOf118
  v46 := Tryz.zeroValue118
  t53 := Tryz.underlying119
  a53 := Tryz.isAgg119
  z53 := Tryz.sizeOf119
  v53 := Tryz.zeroValue119
  t75 := Tryz.underlying78
  a75 := Tryz.isAgg78
  z75 := Tryz.sizeOf78
  v75 := Tryz.zeroValue78
  t85 := Tryz.underlying102
  a85 := Tryz.isAgg102
  z85 := Tryz.sizeOf102
  v85 := Tryz.zeroValue102
  t167 := Tryz.underlying101
  a167 := Tryz.isAgg101
  z167 := Tryz.sizeOf101
  v167 := Tryz.zeroValue101
  t175 := Tryz.underlying120
  a175 := Tryz.isAgg120
  z175 := Tryz.sizeOf120
  v175 := Tryz.zeroValue120 }
open Go.RowKit in
/-- internal/strconv.Atoi, at a decimal numeral of at most 18 bytes: ITS VALUE, AND NO ERROR. The world behind the call: the one new row that '[]byte(s)' lays. (LAID: no walk: one application.) -/
theorem Tryz.internal_strconv_Atoi (s : ByteArray) (n : Int) (hl : s.size ≤ 18) (h : Lib.atoi s.data.toList = some n) (w : World) :
    Calls Tryz.prog 64 #[.string s] w fun e w' => e = .returned (.tuple #[.int .i64 n, .nilIface]) ∧ ∃ t, w' = Lib.bytesWorld w 5 t := Any.internal_strconv_Atoi Tryz.lays244 s n hl h w
def Tryz.lays172_ren : Go.Shelf.Ren := ⟨fun | 172 => 41 | 244 => 64 | 245 => 65 | 247 => 78 | 279 => 79 | 280 => 80 | 281 => 81 | 282 => 82 | 287 => 97 | 316 => 98 | 171 => 100 | 205 => 99 | 321 => 106 | 322 => 107 | 243 => 108 | 246 => 112 | 283 => 113 | 284 => 114 | 285 => 115 | 286 => 116 | 129 => 118 | 317 => 117 | 318 => 119 | 319 => 120 | 320 => 121 | 337 => 122 | 338 => 123 | n => n, fun | 9 => 9 | 3 => 3 | 75 => 78 | 76 => 79 | 4 => 4 | 5 => 5 | 167 => 101 | 37 => 56 | 0 => 0 | 85 => 102 | 2 => 2 | 168 => 104 | 53 => 119 | 175 => 120 | 46 => 118 | 210 => 124 | 127 => 132 | 145 => 135 | 143 => 133 | 21 => 21 | 171 => 141 | 173 => 144 | 212 => 147 | 51 => 148 | 20 => 20 | 213 => 149 | 232 => 152 | 233 => 153 | 80 => 37 | n => n, fun | 15 => 0 | 16 => 1 | 17 => 5 | 18 => 6 | 19 => 7 | n => n⟩
theorem Tryz.lays172 : Go.Proofs.Lays.n172 Tryz.prog Tryz.lays172_ren := {
  mixed := by kernel_rfl
  f129 := Tryz.func118.trans (congrArg some (by kernel_rfl))
  f171 := Tryz.func100.trans (congrArg some (by kernel_rfl))
  f172 := Tryz.func41.trans (congrArg some (by kernel_rfl))
  f205 := Tryz.func99.trans (congrArg some (by kernel_rfl))
  f243 := Tryz.func108.trans (congrArg some (by kernel_rfl))
  f244 := Tryz.func64.trans (congrArg some (by kernel_rfl))
  f245 := Tryz.func65.trans (congrArg some (by kernel_rfl))
  f246 := Tryz.func112.trans (congrArg some (by kernel_rfl))
  f247 := Tryz.func78.trans (congrArg some (by kernel_rfl))
  f279 := Tryz.func79.trans (congrArg some (by kernel_rfl))
  f280 := Tryz.func80.trans (congrArg some (by kernel_rfl))
  f281 := Tryz.func81.trans (congrArg some (by kernel_rfl))
  f282 := Tryz.func82.trans (congrArg some (by kernel_rfl))
  f283 := Tryz.func113.trans (congrArg some (by kernel_rfl))
  f284 := Tryz.func114.trans (congrArg some (by kernel_rfl))
  f285 := Tryz.func115.trans (congrArg some (by kernel_rfl))
  f286 := Tryz.func116.trans (congrArg some (by kernel_rfl))
  f287 := Tryz.func97.trans (congrArg some (by kernel_rfl))
  f316 := Tryz.func98.trans (congrArg some (by kernel_rfl))
  f317 := Tryz.func117.trans (congrArg some (by kernel_rfl))
  f318 := Tryz.func119.trans (congrArg some (by kernel_rfl))
  f319 := Tryz.func120.trans (congrArg some (by kernel_rfl))
  f320 := Tryz.func121.trans (congrArg some (by kernel_rfl))
  f321 := Tryz.func106.trans (congrArg some (by kernel_rfl))
  f322 := Tryz.func107.trans (congrArg some (by kernel_rfl))
  f337 := Tryz.func122.trans (congrArg some (by kernel_rfl))
  f338 := Tryz.func123.trans (congrArg some (by kernel_rfl))
  t0 := Tryz.underlying0
  a0 := Tryz.isAgg0
  z0 := Tryz.sizeOf0
  v0 := Tryz.zeroValue0
  t2 := Tryz.underlying2
  a2 := Tryz.isAgg2
  z2 := Tryz.sizeOf2
  v2 := Tryz.zeroValue2
  t3 := Tryz.underlying3
  a3 := Tryz.isAgg3
  z3 := Tryz.sizeOf3
  v3 := Tryz.zeroValue3
  t4 := Tryz.underlying4
  a4 := Tryz.isAgg4
  z4 := Tryz.sizeOf4
  v4 := Tryz.zeroValue4
  t5 := Tryz.underlying5
  a5 := Tryz.isAgg5
  z5 := Tryz.sizeOf5
  v5 := Tryz.zeroValue5
  t9 := Tryz.underlying9
  a9 := Tryz.isAgg9
  z9 := Tryz.sizeOf9
  v9 := Tryz.zeroValue9
  t20 := Tryz.underlying20
  a20 := Tryz.isAgg20
  z20 := Tryz.sizeOf20
  v20 := Tryz.zeroValue20
  t21 := Tryz.underlying21
  a21 := Tryz.isAgg21
  z21 := Tryz.sizeOf21
  v21 := Tryz.zeroValue21
  t37 := Tryz.underlying56
  a37 := Tryz.isAgg56
  z37 := Tryz.sizeOf56
  v37 := Tryz.zeroValue56
  t46 := Tryz.underlying118
  a46 := Tryz.isAgg118
  z46 := Tryz.sizeOf118
  v46 := Tryz.zeroValue118
  t51 := Tryz.underlying148
  a51 := Tryz.isAgg148
  z51 := Tryz.sizeOf148
  v51 := Tryz.zeroValue148
  t53 := Tryz.underlying119
  a53 := Tryz.isAgg119
  z53 := Tryz.sizeOf119
  v53 := Tryz.zeroValue119
  t75 := Tryz.underlying78
  a75 := Tryz.isAgg78
  z75 := Tryz.sizeOf78
  v75 := Tryz.zeroValue78
  t76 := Tryz.underlying79
  a76 := Tryz.isAgg79
  z76 := Tryz.sizeOf79
  v76 := Tryz.zeroValue79
  t85 := Tryz.underlying102
  a85 := Tryz.isAgg102
  z85 := Tryz.sizeOf102
  v85 := Tryz.zeroValue102
  t127 := Tryz.underlying132
  a127 := Tryz.isAgg132
  z127 := Tryz.sizeOf132
  v127 := Tryz.zeroValue132
  t143 := Tryz.underlying133
  a143 := Tryz.isAgg133
  z143 := Tryz.sizeOf133
  v143 := Tryz.zeroValue133
  t145 := Tryz.underlying135
  a145 := Tryz.isAgg135
  z145 := Tryz.sizeOf135
  v145 := Tryz.zeroValue135
  t167 := Tryz.underlying101
  a167 := Tryz.isAgg101
  z167 := Tryz.sizeOf101
  v167 := Tryz.zeroValue101
  t168 := Tryz.underlying104
  a168 := Tryz.isAgg104
  z168 := Tryz.sizeOf104
  v168 := Tryz.zeroValue104
  t171 := Tryz.underlying141
  a171 := Tryz.isAgg141
  z171 := Tryz.sizeOf141
  v171 := Tryz.zeroValue141
  t173 := Tryz.underlying144
  a173 := Tryz.isAgg144
  z173 := Tryz.sizeOf144
  v173 := Tryz.zeroValue144
  t175 := Tryz.underlying120
  a175 := Tryz.isAgg120
  z175 := Tryz.sizeOf120
  v175 := Tryz.zeroValue120
  t210 := Tryz.underlying124
  a210 := Tryz.isAgg124
  z210 := Tryz.sizeOf124
  v210 := Tryz.zeroValue124
  t212 := Tryz.underlying147
  a212 := Tryz.isAgg147
  z212 := Tryz.sizeOf147
  v212 := Tryz.zeroValue147
  t213 := Tryz.underlying149
  a213 := Tryz.isAgg149
  z213 := Tryz.sizeOf149
  t232 := Tryz.underlying152
  a232 := Tryz.isAgg152
  z232 := Tryz.sizeOf152
  v232 := Tryz.zeroValue152
  t233 := Tryz.underlying153
  a233 := Tryz.isAgg153
  z233 := Tryz.sizeOf153
  v233 := Tryz.zeroValue153
  g15 := by kernel_rfl
  g16 := by kernel_rfl
  g17 := by kernel_rfl
  g18 := by kernel_rfl
  g19 := by kernel_rfl }
open Go.RowKit in
/-- strconv.Atoi: "Atoi is equivalent to ParseInt(s, 10, 0), converted to type int.": AT A DECIMAL NUMERAL OF AT MOST 18 BYTES: its value, and a nil error. The world behind the call: the one new row that the library's '[]byte(s)' lays. (LAID: no walk: one application.) -/
theorem Tryz.strconv_Atoi (s : ByteArray) (n : Int) (hl : s.size ≤ 18) (h : Lib.atoi s.data.toList = some n) (w : World) :
    Calls Tryz.prog 41 #[.string s] w fun e w' => e = .returned (.tuple #[.int .i64 n, .nilIface]) ∧ ∃ t, w' = Lib.bytesWorld w 5 t := Any.strconv_Atoi Tryz.lays172 s n hl h w
def Tryz.lays129_ren : Go.Shelf.Ren := ⟨fun | 129 => 118 | n => n, fun | 53 => 119 | 3 => 3 | 4 => 4 | 46 => 118 | 5 => 5 | 9 => 9 | n => n, fun | n => n⟩
theorem Tryz.lays129 : Go.Proofs.Lays.n129 Tryz.prog Tryz.lays129_ren := {
  mixed := by kernel_rfl
  f129 := Tryz.func118.trans (congrArg some (by kernel_rfl))
  t3 := Tryz.underlying3
  a3 := Tryz.isAgg3
  z3 := Tryz.sizeOf3
  v3 := Tryz.zeroValue3
  t4 := Tryz.underlying4
  a4 := Tryz.isAgg4
  z4 := Tryz.sizeOf4
  v4 := Tryz.zeroValue4
  t5 := Tryz.underlying5
  a5 := Tryz.isAgg5
  z5 := Tryz.sizeOf5
  v5 := Tryz.zeroValue5
  t9 := Tryz.underlying9
  a9 := Tryz.isAgg9
  z9 := Tryz.sizeOf9
  v9 := Tryz.zeroValue9
  t46 := Tryz.underlying118
  a46 := Tryz.isAgg118
  z46 := Tryz.sizeOf118
  v46 := Tryz.zeroValue118
  t53 := Tryz.underlying119
  a53 := Tryz.isAgg119
  z53 := Tryz.sizeOf119
  v53 := Tryz.zeroValue119 }
/-- bits.Len64: "Len64 returns the minimum number of bits required to represent x; the result is 0 for x == 0.": IT RETURNS 'Lib.bitLen x'; the world is as it was. ('h0', 'h1': x is a uint64.) (LAID: no walk: one application.) -/
theorem Tryz.bits_Len64 (x : Int) (w : World) (h0 : 0 ≤ x) (h1 : x ≤ 18446744073709551615) :
    Calls Tryz.prog 118 #[.int .u64 x] w fun e w' => e = .returned (.int .i64 (Lib.bitLen x.toNat)) ∧ w' = w := Any.bits_Len64 Tryz.lays129 x w h0 h1
def Tryz.lays317_ren : Go.Shelf.Ren := ⟨fun | 317 => 117 | n => n, fun | 3 => 3 | 46 => 118 | n => n, fun | n => n⟩
theorem Tryz.lays317 : Go.Proofs.Lays.n317 Tryz.prog Tryz.lays317_ren := {
  mixed := by kernel_rfl
  f317 := Tryz.func117.trans (congrArg some (by kernel_rfl))
  t3 := Tryz.underlying3
  a3 := Tryz.isAgg3
  z3 := Tryz.sizeOf3
  v3 := Tryz.zeroValue3
  t46 := Tryz.underlying118
  a46 := Tryz.isAgg118
  z46 := Tryz.sizeOf118
  v46 := Tryz.zeroValue118 }
open Go.Lib in
/-- internal/strconv.log10Pow2: "log10Pow2(x) returns ⌊log₁₀ 2**x⌋ = ⌊x * log₁₀ 2⌋.": '(x * 78913) >> 18', at an x up to 64 (a length in bits). The world is as it was. (LAID: no walk: one application.) -/
theorem Tryz.internal_strconv_log10Pow2 (x : Nat) (h : x ≤ 64) (w : World) :
    Calls Tryz.prog 117 #[.int .i64 x] w fun e w' => e = .returned (.int .i64 (Lib.l10 x)) ∧ w' = w := Any.internal_strconv_log10Pow2 Tryz.lays317 x h w
def Tryz.lays318_ren : Go.Shelf.Ren := ⟨fun | 318 => 119 | n => n, fun | 3 => 3 | 4 => 4 | n => n, fun | n => n⟩
theorem Tryz.lays318 : Go.Proofs.Lays.n318 Tryz.prog Tryz.lays318_ren := {
  mixed := by kernel_rfl
  f318 := Tryz.func119.trans (congrArg some (by kernel_rfl))
  t3 := Tryz.underlying3
  a3 := Tryz.isAgg3
  z3 := Tryz.sizeOf3
  v3 := Tryz.zeroValue3
  t4 := Tryz.underlying4
  a4 := Tryz.isAgg4
  z4 := Tryz.sizeOf4
  v4 := Tryz.zeroValue4 }
open Go.Lib in
/-- internal/strconv.bool2: "bool2 converts b to an integer: 1 for true, 0 for false." The world is as it was. (LAID: no walk: one application.) -/
theorem Tryz.internal_strconv_bool2_int (b : Bool) (w : World) :
    Calls Tryz.prog 119 #[.bool b] w fun e w' => e = .returned (.int .i64 (if b then 1 else 0)) ∧ w' = w := Any.internal_strconv_bool2_int Tryz.lays318 b w
def Tryz.lays283_ren : Go.Shelf.Ren := ⟨fun | 283 => 113 | n => n, fun | 3 => 3 | 9 => 9 | 4 => 4 | n => n, fun | n => n⟩
theorem Tryz.lays283 : Go.Proofs.Lays.n283 Tryz.prog Tryz.lays283_ren := {
  mixed := by kernel_rfl
  f283 := Tryz.func113.trans (congrArg some (by kernel_rfl))
  t3 := Tryz.underlying3
  a3 := Tryz.isAgg3
  z3 := Tryz.sizeOf3
  v3 := Tryz.zeroValue3
  t4 := Tryz.underlying4
  a4 := Tryz.isAgg4
  z4 := Tryz.sizeOf4
  v4 := Tryz.zeroValue4
  t9 := Tryz.underlying9
  a9 := Tryz.isAgg9
  z9 := Tryz.sizeOf9
  v9 := Tryz.zeroValue9 }
open Go.Lib in
/-- internal/strconv.small: "small returns the string for an i with 0 <= i < nSmalls.": i's decimal numeral. The world is as it was. (LAID: no walk: one application.) -/
theorem Tryz.internal_strconv_small (i : Nat) (h : i < 100) (w : World) :
    Calls Tryz.prog 113 #[.int .i64 i] w fun e w' => e = .returned (.string ⟨(Lib.decDigits i).toArray⟩) ∧ w' = w := Any.internal_strconv_small Tryz.lays283 i h w
def Tryz.laysM284_ren : Go.Shelf.Ren := ⟨fun | 284 => 114 | 129 => 118 | 317 => 117 | 318 => 119 | n => n, fun | 53 => 119 | 3 => 3 | 212 => 147 | 0 => 0 | 4 => 4 | 46 => 118 | 5 => 5 | 9 => 9 | n => n, fun | 17 => 5 | n => n⟩
theorem Tryz.laysM284 : Go.Proofs.LaysM.n284 Tryz.prog Tryz.laysM284_ren := {
  mixed := by kernel_rfl
  f129 := Tryz.func118.trans (congrArg some (by kernel_rfl))
  f284 := Tryz.func114.trans (congrArg some (by kernel_rfl))
  f317 := Tryz.func117.trans (congrArg some (by kernel_rfl))
  f318 := Tryz.func119.trans (congrArg some (by kernel_rfl))
  t0 := Tryz.underlying0
  a0 := Tryz.isAgg0
  z0 := Tryz.sizeOf0
  v0 := Tryz.zeroValue0
  t3 := Tryz.underlying3
  a3 := Tryz.isAgg3
  z3 := Tryz.sizeOf3
  v3 := Tryz.zeroValue3
  t4 := Tryz.underlying4
  a4 := Tryz.isAgg4
  z4 := Tryz.sizeOf4
  v4 := Tryz.zeroValue4
  t5 := Tryz.underlying5
  a5 := Tryz.isAgg5
  z5 := Tryz.sizeOf5
  v5 := Tryz.zeroValue5
  t9 := Tryz.underlying9
  a9 := Tryz.isAgg9
  z9 := Tryz.sizeOf9
  v9 := Tryz.zeroValue9
  t46 := Tryz.underlying118
  a46 := Tryz.isAgg118
  z46 := Tryz.sizeOf118
  v46 := Tryz.zeroValue118
  t53 := Tryz.underlying119
  a53 := Tryz.isAgg119
  z53 := Tryz.sizeOf119
  v53 := Tryz.zeroValue119
  t212 := Tryz.underlying147
  a212 := Tryz.isAgg147
  z212 := Tryz.sizeOf147
  v212 := Tryz.zeroValue147
  g17 := by kernel_rfl
  i0 := by kernel_rfl
  i3 := by kernel_rfl
  i4 := by kernel_rfl
  i5 := by kernel_rfl
  i9 := by kernel_rfl
  i46 := by kernel_rfl
  i53 := by kernel_rfl
  i212 := by kernel_rfl
  m17 := by kernel_rfl }
open Go.Lib in
/-- internal/strconv.numDigits, at a d that is not 0: THE NUMBER OF d's DECIMAL DIGITS. The world is as it was. (LAID: no walk: one application.) -/
theorem Tryz.internal_strconv_numDigits (u : Nat) (h1 : 1 ≤ u) (h2 : u < 18446744073709551616) (w : World) (htab : Lib.TabIs Tryz.prog w "internal/strconv.uint64pow10" .u64 Lib.pow10Tab) :
    Calls Tryz.prog 114 #[.int .u64 u] w fun e w' => e = .returned (.int .i64 (Lib.nDigits u)) ∧ w' = w := Any.internal_strconv_numDigits Tryz.laysM284 u h1 h2 w htab
def Tryz.lays285_ren : Go.Shelf.Ren := ⟨fun | 285 => 115 | n => n, fun | 37 => 56 | 53 => 119 | 3 => 3 | 4 => 4 | 51 => 148 | 9 => 9 | 5 => 5 | 0 => 0 | n => n, fun | n => n⟩
theorem Tryz.lays285 : Go.Proofs.Lays.n285 Tryz.prog Tryz.lays285_ren := {
  mixed := by kernel_rfl
  f285 := Tryz.func115.trans (congrArg some (by kernel_rfl))
  t0 := Tryz.underlying0
  a0 := Tryz.isAgg0
  z0 := Tryz.sizeOf0
  v0 := Tryz.zeroValue0
  t3 := Tryz.underlying3
  a3 := Tryz.isAgg3
  z3 := Tryz.sizeOf3
  v3 := Tryz.zeroValue3
  t4 := Tryz.underlying4
  a4 := Tryz.isAgg4
  z4 := Tryz.sizeOf4
  v4 := Tryz.zeroValue4
  t5 := Tryz.underlying5
  a5 := Tryz.isAgg5
  z5 := Tryz.sizeOf5
  v5 := Tryz.zeroValue5
  t9 := Tryz.underlying9
  a9 := Tryz.isAgg9
  z9 := Tryz.sizeOf9
  v9 := Tryz.zeroValue9
  t37 := Tryz.underlying56
  a37 := Tryz.isAgg56
  z37 := Tryz.sizeOf56
  v37 := Tryz.zeroValue56
  t51 := Tryz.underlying148
  a51 := Tryz.isAgg148
  z51 := Tryz.sizeOf148
  v51 := Tryz.zeroValue148
  t53 := Tryz.underlying119
  a53 := Tryz.isAgg119
  z53 := Tryz.sizeOf119
  v53 := Tryz.zeroValue119 }
open Go.RowKit Go.Sort Go.Lib in
/-- internal/strconv.formatBase10: "formatBase10 formats the decimal representation of u into a. The caller is responsible for ensuring that a is big enough to hold u. If a is too big, leading zeros will be filled in as needed.": THE ROW HOLDS u's DIGITS ('FmtInv .. 0 ..': every place t holds 'dg u (len - 1 - t)'); all else is as it was but for the count of draws. (LAID: no walk: one application.) -/
theorem Tryz.internal_strconv_formatBase10 (blk off cap : Nat) (u : Nat) (d : Array UInt8) (w : World) (hH : Holds (fun (b : UInt8) => Value.int .u8 (b.toNat : Int)) w blk off d) (hu : u < 10 ^ d.size) (hu64 : u < 18446744073709551616) (hsz : d.size < 4611686018427387904) :
    Calls Tryz.prog 115 #[.slice (some ⟨blk, off, none⟩) d.size cap, .int .u64 u] w fun e w' =>
      e = .returned (.tuple #[]) ∧ ∃ (n v' : Nat) (dk : Array UInt8), w' = (putRow (fun (b : UInt8) => Value.int .u8 (b.toNat : Int)) w blk off dk).drewN n ∧ FmtInv d.size u 0 v' dk := Any.internal_strconv_formatBase10 Tryz.lays285 blk off cap u d w hH hu hu64 hsz
def Tryz.laysM246_ren : Go.Shelf.Ren := ⟨fun | 246 => 112 | 283 => 113 | 284 => 114 | 285 => 115 | 286 => 116 | 129 => 118 | 317 => 117 | 318 => 119 | 319 => 120 | 320 => 121 | 337 => 122 | 338 => 123 | n => n, fun | 2 => 2 | 3 => 3 | 9 => 9 | 4 => 4 | 171 => 141 | 0 => 0 | 53 => 119 | 37 => 56 | 5 => 5 | 173 => 144 | 212 => 147 | 51 => 148 | 20 => 20 | 213 => 149 | 46 => 118 | 232 => 152 | 233 => 153 | n => n, fun | 17 => 5 | 18 => 6 | 19 => 7 | n => n⟩
theorem Tryz.laysM246 : Go.Proofs.LaysM.n246 Tryz.prog Tryz.laysM246_ren := {
  mixed := by kernel_rfl
  f129 := Tryz.func118.trans (congrArg some (by kernel_rfl))
  f246 := Tryz.func112.trans (congrArg some (by kernel_rfl))
  f283 := Tryz.func113.trans (congrArg some (by kernel_rfl))
  f284 := Tryz.func114.trans (congrArg some (by kernel_rfl))
  f285 := Tryz.func115.trans (congrArg some (by kernel_rfl))
  f286 := Tryz.func116.trans (congrArg some (by kernel_rfl))
  f317 := Tryz.func117.trans (congrArg some (by kernel_rfl))
  f318 := Tryz.func119.trans (congrArg some (by kernel_rfl))
  f319 := Tryz.func120.trans (congrArg some (by kernel_rfl))
  f320 := Tryz.func121.trans (congrArg some (by kernel_rfl))
  f337 := Tryz.func122.trans (congrArg some (by kernel_rfl))
  f338 := Tryz.func123.trans (congrArg some (by kernel_rfl))
  t0 := Tryz.underlying0
  a0 := Tryz.isAgg0
  z0 := Tryz.sizeOf0
  v0 := Tryz.zeroValue0
  t2 := Tryz.underlying2
  a2 := Tryz.isAgg2
  z2 := Tryz.sizeOf2
  v2 := Tryz.zeroValue2
  t3 := Tryz.underlying3
  a3 := Tryz.isAgg3
  z3 := Tryz.sizeOf3
  v3 := Tryz.zeroValue3
  t4 := Tryz.underlying4
  a4 := Tryz.isAgg4
  z4 := Tryz.sizeOf4
  v4 := Tryz.zeroValue4
  t5 := Tryz.underlying5
  a5 := Tryz.isAgg5
  z5 := Tryz.sizeOf5
  v5 := Tryz.zeroValue5
  t9 := Tryz.underlying9
  a9 := Tryz.isAgg9
  z9 := Tryz.sizeOf9
  v9 := Tryz.zeroValue9
  t20 := Tryz.underlying20
  a20 := Tryz.isAgg20
  z20 := Tryz.sizeOf20
  v20 := Tryz.zeroValue20
  t37 := Tryz.underlying56
  a37 := Tryz.isAgg56
  z37 := Tryz.sizeOf56
  v37 := Tryz.zeroValue56
  t46 := Tryz.underlying118
  a46 := Tryz.isAgg118
  z46 := Tryz.sizeOf118
  v46 := Tryz.zeroValue118
  t51 := Tryz.underlying148
  a51 := Tryz.isAgg148
  z51 := Tryz.sizeOf148
  v51 := Tryz.zeroValue148
  t53 := Tryz.underlying119
  a53 := Tryz.isAgg119
  z53 := Tryz.sizeOf119
  v53 := Tryz.zeroValue119
  t171 := Tryz.underlying141
  a171 := Tryz.isAgg141
  z171 := Tryz.sizeOf141
  v171 := Tryz.zeroValue141
  t173 := Tryz.underlying144
  a173 := Tryz.isAgg144
  z173 := Tryz.sizeOf144
  v173 := Tryz.zeroValue144
  t212 := Tryz.underlying147
  a212 := Tryz.isAgg147
  z212 := Tryz.sizeOf147
  v212 := Tryz.zeroValue147
  t213 := Tryz.underlying149
  a213 := Tryz.isAgg149
  z213 := Tryz.sizeOf149
  t232 := Tryz.underlying152
  a232 := Tryz.isAgg152
  z232 := Tryz.sizeOf152
  v232 := Tryz.zeroValue152
  t233 := Tryz.underlying153
  a233 := Tryz.isAgg153
  z233 := Tryz.sizeOf153
  v233 := Tryz.zeroValue153
  g17 := by kernel_rfl
  g18 := by kernel_rfl
  g19 := by kernel_rfl
  i0 := by kernel_rfl
  i2 := by kernel_rfl
  i3 := by kernel_rfl
  i4 := by kernel_rfl
  i5 := by kernel_rfl
  i9 := by kernel_rfl
  i20 := by kernel_rfl
  i37 := by kernel_rfl
  i46 := by kernel_rfl
  i51 := by kernel_rfl
  i53 := by kernel_rfl
  i171 := by kernel_rfl
  i173 := by kernel_rfl
  i212 := by kernel_rfl
  i232 := by kernel_rfl
  i233 := by kernel_rfl
  m17 := by kernel_rfl
  m18 := by kernel_rfl
  m19 := by kernel_rfl }
open Go.RowKit Go.Sort Go.Lib in
/-- internal/strconv.FormatInt: "FormatInt returns the string representation of i in the given base": AT BASE 10: i's decimal numeral, for every int64. The world behind the call: the world before it, new blocks behind the heap, draws. (LAID: no walk: one application.) -/
theorem Tryz.internal_strconv_FormatInt_10 (n : Int) (h0 : -9223372036854775808 ≤ n) (h1 : n ≤ 9223372036854775807) (w : World) (htab : Lib.TabIs Tryz.prog w "internal/strconv.uint64pow10" .u64 Lib.pow10Tab) :
    Calls Tryz.prog 112 #[.int .i64 n, .int .i64 10] w fun e w' => e = .returned (.string ⟨(Lib.itoa n).toArray⟩) ∧ ∃ k os, w' = grow (w.drewN k) os := Any.internal_strconv_FormatInt_10 Tryz.laysM246 n h0 h1 w htab
def Tryz.lays246_ren : Go.Shelf.Ren := ⟨fun | 246 => 112 | 283 => 113 | 284 => 114 | 285 => 115 | 286 => 116 | 129 => 118 | 317 => 117 | 318 => 119 | 319 => 120 | 320 => 121 | 337 => 122 | 338 => 123 | n => n, fun | 2 => 2 | 3 => 3 | 9 => 9 | 4 => 4 | 171 => 141 | 0 => 0 | 53 => 119 | 37 => 56 | 5 => 5 | 173 => 144 | 212 => 147 | 51 => 148 | 20 => 20 | 213 => 149 | 46 => 118 | 232 => 152 | 233 => 153 | n => n, fun | 17 => 5 | 18 => 6 | 19 => 7 | n => n⟩
theorem Tryz.lays246 : Go.Proofs.Lays.n246 Tryz.prog Tryz.lays246_ren := {
  mixed := by kernel_rfl
  f129 := Tryz.func118.trans (congrArg some (by kernel_rfl))
  f246 := Tryz.func112.trans (congrArg some (by kernel_rfl))
  f283 := Tryz.func113.trans (congrArg some (by kernel_rfl))
  f284 := Tryz.func114.trans (congrArg some (by kernel_rfl))
  f285 := Tryz.func115.trans (congrArg some (by kernel_rfl))
  f286 := Tryz.func116.trans (congrArg some (by kernel_rfl))
  f317 := Tryz.func117.trans (congrArg some (by kernel_rfl))
  f318 := Tryz.func119.trans (congrArg some (by kernel_rfl))
  f319 := Tryz.func120.trans (congrArg some (by kernel_rfl))
  f320 := Tryz.func121.trans (congrArg some (by kernel_rfl))
  f337 := Tryz.func122.trans (congrArg some (by kernel_rfl))
  f338 := Tryz.func123.trans (congrArg some (by kernel_rfl))
  t0 := Tryz.underlying0
  a0 := Tryz.isAgg0
  z0 := Tryz.sizeOf0
  v0 := Tryz.zeroValue0
  t2 := Tryz.underlying2
  a2 := Tryz.isAgg2
  z2 := Tryz.sizeOf2
  v2 := Tryz.zeroValue2
  t3 := Tryz.underlying3
  a3 := Tryz.isAgg3
  z3 := Tryz.sizeOf3
  v3 := Tryz.zeroValue3
  t4 := Tryz.underlying4
  a4 := Tryz.isAgg4
  z4 := Tryz.sizeOf4
  v4 := Tryz.zeroValue4
  t5 := Tryz.underlying5
  a5 := Tryz.isAgg5
  z5 := Tryz.sizeOf5
  v5 := Tryz.zeroValue5
  t9 := Tryz.underlying9
  a9 := Tryz.isAgg9
  z9 := Tryz.sizeOf9
  v9 := Tryz.zeroValue9
  t20 := Tryz.underlying20
  a20 := Tryz.isAgg20
  z20 := Tryz.sizeOf20
  v20 := Tryz.zeroValue20
  t37 := Tryz.underlying56
  a37 := Tryz.isAgg56
  z37 := Tryz.sizeOf56
  v37 := Tryz.zeroValue56
  t46 := Tryz.underlying118
  a46 := Tryz.isAgg118
  z46 := Tryz.sizeOf118
  v46 := Tryz.zeroValue118
  t51 := Tryz.underlying148
  a51 := Tryz.isAgg148
  z51 := Tryz.sizeOf148
  v51 := Tryz.zeroValue148
  t53 := Tryz.underlying119
  a53 := Tryz.isAgg119
  z53 := Tryz.sizeOf119
  v53 := Tryz.zeroValue119
  t171 := Tryz.underlying141
  a171 := Tryz.isAgg141
  z171 := Tryz.sizeOf141
  v171 := Tryz.zeroValue141
  t173 := Tryz.underlying144
  a173 := Tryz.isAgg144
  z173 := Tryz.sizeOf144
  v173 := Tryz.zeroValue144
  t212 := Tryz.underlying147
  a212 := Tryz.isAgg147
  z212 := Tryz.sizeOf147
  v212 := Tryz.zeroValue147
  t213 := Tryz.underlying149
  a213 := Tryz.isAgg149
  z213 := Tryz.sizeOf149
  t232 := Tryz.underlying152
  a232 := Tryz.isAgg152
  z232 := Tryz.sizeOf152
  v232 := Tryz.zeroValue152
  t233 := Tryz.underlying153
  a233 := Tryz.isAgg153
  z233 := Tryz.sizeOf153
  v233 := Tryz.zeroValue153
  g17 := by kernel_rfl
  g18 := by kernel_rfl
  g19 := by kernel_rfl }
open Go.RowKit Go.Sort Go.Lib in
/-- THE ROAD WITHOUT THE TABLE: 0 <= i < 100: two constants are read, nothing is laid: no premise on the world, and the world is as it was. (LAID: no walk: one application.) -/
theorem Tryz.internal_strconv_FormatInt_10_small (i : Nat) (hi : i < 100) (w : World) :
    Calls Tryz.prog 112 #[.int .i64 i, .int .i64 10] w fun e w' => e = .returned (.string ⟨(Lib.decDigits i).toArray⟩) ∧ w' = w := Any.internal_strconv_FormatInt_10_small Tryz.lays246 i hi w
def Tryz.laysM243_ren : Go.Shelf.Ren := ⟨fun | 243 => 108 | 246 => 112 | 283 => 113 | 284 => 114 | 285 => 115 | 286 => 116 | 129 => 118 | 317 => 117 | 318 => 119 | 319 => 120 | 320 => 121 | 337 => 122 | 338 => 123 | n => n, fun | 3 => 3 | 9 => 9 | 2 => 2 | 4 => 4 | 171 => 141 | 0 => 0 | 53 => 119 | 37 => 56 | 5 => 5 | 173 => 144 | 212 => 147 | 51 => 148 | 20 => 20 | 213 => 149 | 46 => 118 | 232 => 152 | 233 => 153 | n => n, fun | 17 => 5 | 18 => 6 | 19 => 7 | n => n⟩
theorem Tryz.laysM243 : Go.Proofs.LaysM.n243 Tryz.prog Tryz.laysM243_ren := {
  mixed := by kernel_rfl
  f129 := Tryz.func118.trans (congrArg some (by kernel_rfl))
  f243 := Tryz.func108.trans (congrArg some (by kernel_rfl))
  f246 := Tryz.func112.trans (congrArg some (by kernel_rfl))
  f283 := Tryz.func113.trans (congrArg some (by kernel_rfl))
  f284 := Tryz.func114.trans (congrArg some (by kernel_rfl))
  f285 := Tryz.func115.trans (congrArg some (by kernel_rfl))
  f286 := Tryz.func116.trans (congrArg some (by kernel_rfl))
  f317 := Tryz.func117.trans (congrArg some (by kernel_rfl))
  f318 := Tryz.func119.trans (congrArg some (by kernel_rfl))
  f319 := Tryz.func120.trans (congrArg some (by kernel_rfl))
  f320 := Tryz.func121.trans (congrArg some (by kernel_rfl))
  f337 := Tryz.func122.trans (congrArg some (by kernel_rfl))
  f338 := Tryz.func123.trans (congrArg some (by kernel_rfl))
  t0 := Tryz.underlying0
  a0 := Tryz.isAgg0
  z0 := Tryz.sizeOf0
  v0 := Tryz.zeroValue0
  t2 := Tryz.underlying2
  a2 := Tryz.isAgg2
  z2 := Tryz.sizeOf2
  v2 := Tryz.zeroValue2
  t3 := Tryz.underlying3
  a3 := Tryz.isAgg3
  z3 := Tryz.sizeOf3
  v3 := Tryz.zeroValue3
  t4 := Tryz.underlying4
  a4 := Tryz.isAgg4
  z4 := Tryz.sizeOf4
  v4 := Tryz.zeroValue4
  t5 := Tryz.underlying5
  a5 := Tryz.isAgg5
  z5 := Tryz.sizeOf5
  v5 := Tryz.zeroValue5
  t9 := Tryz.underlying9
  a9 := Tryz.isAgg9
  z9 := Tryz.sizeOf9
  v9 := Tryz.zeroValue9
  t20 := Tryz.underlying20
  a20 := Tryz.isAgg20
  z20 := Tryz.sizeOf20
  v20 := Tryz.zeroValue20
  t37 := Tryz.underlying56
  a37 := Tryz.isAgg56
  z37 := Tryz.sizeOf56
  v37 := Tryz.zeroValue56
  t46 := Tryz.underlying118
  a46 := Tryz.isAgg118
  z46 := Tryz.sizeOf118
  v46 := Tryz.zeroValue118
  t51 := Tryz.underlying148
  a51 := Tryz.isAgg148
  z51 := Tryz.sizeOf148
  v51 := Tryz.zeroValue148
  t53 := Tryz.underlying119
  a53 := Tryz.isAgg119
  z53 := Tryz.sizeOf119
  v53 := Tryz.zeroValue119
  t171 := Tryz.underlying141
  a171 := Tryz.isAgg141
  z171 := Tryz.sizeOf141
  v171 := Tryz.zeroValue141
  t173 := Tryz.underlying144
  a173 := Tryz.isAgg144
  z173 := Tryz.sizeOf144
  v173 := Tryz.zeroValue144
  t212 := Tryz.underlying147
  a212 := Tryz.isAgg147
  z212 := Tryz.sizeOf147
  v212 := Tryz.zeroValue147
  t213 := Tryz.underlying149
  a213 := Tryz.isAgg149
  z213 := Tryz.sizeOf149
  t232 := Tryz.underlying152
  a232 := Tryz.isAgg152
  z232 := Tryz.sizeOf152
  v232 := Tryz.zeroValue152
  t233 := Tryz.underlying153
  a233 := Tryz.isAgg153
  z233 := Tryz.sizeOf153
  v233 := Tryz.zeroValue153
  g17 := by kernel_rfl
  g18 := by kernel_rfl
  g19 := by kernel_rfl
  i0 := by kernel_rfl
  i2 := by kernel_rfl
  i3 := by kernel_rfl
  i4 := by kernel_rfl
  i5 := by kernel_rfl
  i9 := by kernel_rfl
  i20 := by kernel_rfl
  i37 := by kernel_rfl
  i46 := by kernel_rfl
  i51 := by kernel_rfl
  i53 := by kernel_rfl
  i171 := by kernel_rfl
  i173 := by kernel_rfl
  i212 := by kernel_rfl
  i232 := by kernel_rfl
  i233 := by kernel_rfl
  m17 := by kernel_rfl
  m18 := by kernel_rfl
  m19 := by kernel_rfl }
open Go.RowKit Go.Sort Go.Lib in
/-- internal/strconv.Itoa: "Itoa is equivalent to FormatInt(int64(i), 10).": i's decimal numeral, for every int. (LAID: no walk: one application.) -/
theorem Tryz.internal_strconv_Itoa (n : Int) (h0 : -9223372036854775808 ≤ n) (h1 : n ≤ 9223372036854775807) (w : World) (htab : Lib.TabIs Tryz.prog w "internal/strconv.uint64pow10" .u64 Lib.pow10Tab) :
    Calls Tryz.prog 108 #[.int .i64 n] w fun e w' => e = .returned (.string ⟨(Lib.itoa n).toArray⟩) ∧ ∃ k os, w' = grow (w.drewN k) os := Any.internal_strconv_Itoa Tryz.laysM243 n h0 h1 w htab
def Tryz.lays243_ren : Go.Shelf.Ren := ⟨fun | 243 => 108 | 246 => 112 | 283 => 113 | 284 => 114 | 285 => 115 | 286 => 116 | 129 => 118 | 317 => 117 | 318 => 119 | 319 => 120 | 320 => 121 | 337 => 122 | 338 => 123 | n => n, fun | 3 => 3 | 9 => 9 | 2 => 2 | 4 => 4 | 171 => 141 | 0 => 0 | 53 => 119 | 37 => 56 | 5 => 5 | 173 => 144 | 212 => 147 | 51 => 148 | 20 => 20 | 213 => 149 | 46 => 118 | 232 => 152 | 233 => 153 | n => n, fun | 17 => 5 | 18 => 6 | 19 => 7 | n => n⟩
theorem Tryz.lays243 : Go.Proofs.Lays.n243 Tryz.prog Tryz.lays243_ren := {
  mixed := by kernel_rfl
  f129 := Tryz.func118.trans (congrArg some (by kernel_rfl))
  f243 := Tryz.func108.trans (congrArg some (by kernel_rfl))
  f246 := Tryz.func112.trans (congrArg some (by kernel_rfl))
  f283 := Tryz.func113.trans (congrArg some (by kernel_rfl))
  f284 := Tryz.func114.trans (congrArg some (by kernel_rfl))
  f285 := Tryz.func115.trans (congrArg some (by kernel_rfl))
  f286 := Tryz.func116.trans (congrArg some (by kernel_rfl))
  f317 := Tryz.func117.trans (congrArg some (by kernel_rfl))
  f318 := Tryz.func119.trans (congrArg some (by kernel_rfl))
  f319 := Tryz.func120.trans (congrArg some (by kernel_rfl))
  f320 := Tryz.func121.trans (congrArg some (by kernel_rfl))
  f337 := Tryz.func122.trans (congrArg some (by kernel_rfl))
  f338 := Tryz.func123.trans (congrArg some (by kernel_rfl))
  t0 := Tryz.underlying0
  a0 := Tryz.isAgg0
  z0 := Tryz.sizeOf0
  v0 := Tryz.zeroValue0
  t2 := Tryz.underlying2
  a2 := Tryz.isAgg2
  z2 := Tryz.sizeOf2
  v2 := Tryz.zeroValue2
  t3 := Tryz.underlying3
  a3 := Tryz.isAgg3
  z3 := Tryz.sizeOf3
  v3 := Tryz.zeroValue3
  t4 := Tryz.underlying4
  a4 := Tryz.isAgg4
  z4 := Tryz.sizeOf4
  v4 := Tryz.zeroValue4
  t5 := Tryz.underlying5
  a5 := Tryz.isAgg5
  z5 := Tryz.sizeOf5
  v5 := Tryz.zeroValue5
  t9 := Tryz.underlying9
  a9 := Tryz.isAgg9
  z9 := Tryz.sizeOf9
  v9 := Tryz.zeroValue9
  t20 := Tryz.underlying20
  a20 := Tryz.isAgg20
  z20 := Tryz.sizeOf20
  v20 := Tryz.zeroValue20
  t37 := Tryz.underlying56
  a37 := Tryz.isAgg56
  z37 := Tryz.sizeOf56
  v37 := Tryz.zeroValue56
  t46 := Tryz.underlying118
  a46 := Tryz.isAgg118
  z46 := Tryz.sizeOf118
  v46 := Tryz.zeroValue118
  t51 := Tryz.underlying148
  a51 := Tryz.isAgg148
  z51 := Tryz.sizeOf148
  v51 := Tryz.zeroValue148
  t53 := Tryz.underlying119
  a53 := Tryz.isAgg119
  z53 := Tryz.sizeOf119
  v53 := Tryz.zeroValue119
  t171 := Tryz.underlying141
  a171 := Tryz.isAgg141
  z171 := Tryz.sizeOf141
  v171 := Tryz.zeroValue141
  t173 := Tryz.underlying144
  a173 := Tryz.isAgg144
  z173 := Tryz.sizeOf144
  v173 := Tryz.zeroValue144
  t212 := Tryz.underlying147
  a212 := Tryz.isAgg147
  z212 := Tryz.sizeOf147
  v212 := Tryz.zeroValue147
  t213 := Tryz.underlying149
  a213 := Tryz.isAgg149
  z213 := Tryz.sizeOf149
  t232 := Tryz.underlying152
  a232 := Tryz.isAgg152
  z232 := Tryz.sizeOf152
  v232 := Tryz.zeroValue152
  t233 := Tryz.underlying153
  a233 := Tryz.isAgg153
  z233 := Tryz.sizeOf153
  v233 := Tryz.zeroValue153
  g17 := by kernel_rfl
  g18 := by kernel_rfl
  g19 := by kernel_rfl }
open Go.RowKit Go.Sort Go.Lib in
/-- THE ROAD WITHOUT THE TABLE: 0 <= i < 100. (LAID: no walk: one application.) -/
theorem Tryz.internal_strconv_Itoa_small (i : Nat) (hi : i < 100) (w : World) :
    Calls Tryz.prog 108 #[.int .i64 i] w fun e w' => e = .returned (.string ⟨(Lib.decDigits i).toArray⟩) ∧ w' = w := Any.internal_strconv_Itoa_small Tryz.lays243 i hi w
def Tryz.laysM171_ren : Go.Shelf.Ren := ⟨fun | 171 => 100 | 243 => 108 | 246 => 112 | 283 => 113 | 284 => 114 | 285 => 115 | 286 => 116 | 129 => 118 | 317 => 117 | 318 => 119 | 319 => 120 | 320 => 121 | 337 => 122 | 338 => 123 | n => n, fun | 3 => 3 | 9 => 9 | 2 => 2 | 4 => 4 | 171 => 141 | 0 => 0 | 53 => 119 | 37 => 56 | 5 => 5 | 173 => 144 | 212 => 147 | 51 => 148 | 20 => 20 | 213 => 149 | 46 => 118 | 232 => 152 | 233 => 153 | n => n, fun | 17 => 5 | 18 => 6 | 19 => 7 | n => n⟩
theorem Tryz.laysM171 : Go.Proofs.LaysM.n171 Tryz.prog Tryz.laysM171_ren := {
  mixed := by kernel_rfl
  f129 := Tryz.func118.trans (congrArg some (by kernel_rfl))
  f171 := Tryz.func100.trans (congrArg some (by kernel_rfl))
  f243 := Tryz.func108.trans (congrArg some (by kernel_rfl))
  f246 := Tryz.func112.trans (congrArg some (by kernel_rfl))
  f283 := Tryz.func113.trans (congrArg some (by kernel_rfl))
  f284 := Tryz.func114.trans (congrArg some (by kernel_rfl))
  f285 := Tryz.func115.trans (congrArg some (by kernel_rfl))
  f286 := Tryz.func116.trans (congrArg some (by kernel_rfl))
  f317 := Tryz.func117.trans (congrArg some (by kernel_rfl))
  f318 := Tryz.func119.trans (congrArg some (by kernel_rfl))
  f319 := Tryz.func120.trans (congrArg some (by kernel_rfl))
  f320 := Tryz.func121.trans (congrArg some (by kernel_rfl))
  f337 := Tryz.func122.trans (congrArg some (by kernel_rfl))
  f338 := Tryz.func123.trans (congrArg some (by kernel_rfl))
  t0 := Tryz.underlying0
  a0 := Tryz.isAgg0
  z0 := Tryz.sizeOf0
  v0 := Tryz.zeroValue0
  t2 := Tryz.underlying2
  a2 := Tryz.isAgg2
  z2 := Tryz.sizeOf2
  v2 := Tryz.zeroValue2
  t3 := Tryz.underlying3
  a3 := Tryz.isAgg3
  z3 := Tryz.sizeOf3
  v3 := Tryz.zeroValue3
  t4 := Tryz.underlying4
  a4 := Tryz.isAgg4
  z4 := Tryz.sizeOf4
  v4 := Tryz.zeroValue4
  t5 := Tryz.underlying5
  a5 := Tryz.isAgg5
  z5 := Tryz.sizeOf5
  v5 := Tryz.zeroValue5
  t9 := Tryz.underlying9
  a9 := Tryz.isAgg9
  z9 := Tryz.sizeOf9
  v9 := Tryz.zeroValue9
  t20 := Tryz.underlying20
  a20 := Tryz.isAgg20
  z20 := Tryz.sizeOf20
  v20 := Tryz.zeroValue20
  t37 := Tryz.underlying56
  a37 := Tryz.isAgg56
  z37 := Tryz.sizeOf56
  v37 := Tryz.zeroValue56
  t46 := Tryz.underlying118
  a46 := Tryz.isAgg118
  z46 := Tryz.sizeOf118
  v46 := Tryz.zeroValue118
  t51 := Tryz.underlying148
  a51 := Tryz.isAgg148
  z51 := Tryz.sizeOf148
  v51 := Tryz.zeroValue148
  t53 := Tryz.underlying119
  a53 := Tryz.isAgg119
  z53 := Tryz.sizeOf119
  v53 := Tryz.zeroValue119
  t171 := Tryz.underlying141
  a171 := Tryz.isAgg141
  z171 := Tryz.sizeOf141
  v171 := Tryz.zeroValue141
  t173 := Tryz.underlying144
  a173 := Tryz.isAgg144
  z173 := Tryz.sizeOf144
  v173 := Tryz.zeroValue144
  t212 := Tryz.underlying147
  a212 := Tryz.isAgg147
  z212 := Tryz.sizeOf147
  v212 := Tryz.zeroValue147
  t213 := Tryz.underlying149
  a213 := Tryz.isAgg149
  z213 := Tryz.sizeOf149
  t232 := Tryz.underlying152
  a232 := Tryz.isAgg152
  z232 := Tryz.sizeOf152
  v232 := Tryz.zeroValue152
  t233 := Tryz.underlying153
  a233 := Tryz.isAgg153
  z233 := Tryz.sizeOf153
  v233 := Tryz.zeroValue153
  g17 := by kernel_rfl
  g18 := by kernel_rfl
  g19 := by kernel_rfl
  i0 := by kernel_rfl
  i2 := by kernel_rfl
  i3 := by kernel_rfl
  i4 := by kernel_rfl
  i5 := by kernel_rfl
  i9 := by kernel_rfl
  i20 := by kernel_rfl
  i37 := by kernel_rfl
  i46 := by kernel_rfl
  i51 := by kernel_rfl
  i53 := by kernel_rfl
  i171 := by kernel_rfl
  i173 := by kernel_rfl
  i212 := by kernel_rfl
  i232 := by kernel_rfl
  i233 := by kernel_rfl
  m17 := by kernel_rfl
  m18 := by kernel_rfl
  m19 := by kernel_rfl }
open Go.RowKit Go.Sort Go.Lib in
/-- strconv.Itoa: "Itoa is equivalent to FormatInt(int64(i), 10).": i's DECIMAL NUMERAL ('Lib.itoa': a '-' where i is negative, then the digits), FOR EVERY int. The world behind the call: the world before it, new blocks behind the heap (the library's 'var a [24]byte'), draws. (LAID: no walk: one application.) -/
theorem Tryz.strconv_Itoa (n : Int) (h0 : -9223372036854775808 ≤ n) (h1 : n ≤ 9223372036854775807) (w : World) (htab : Lib.TabIs Tryz.prog w "internal/strconv.uint64pow10" .u64 Lib.pow10Tab) :
    Calls Tryz.prog 100 #[.int .i64 n] w fun e w' => e = .returned (.string ⟨(Lib.itoa n).toArray⟩) ∧ ∃ k os, w' = grow (w.drewN k) os := Any.strconv_Itoa Tryz.laysM171 n h0 h1 w htab
def Tryz.lays171_ren : Go.Shelf.Ren := ⟨fun | 171 => 100 | 243 => 108 | 246 => 112 | 283 => 113 | 284 => 114 | 285 => 115 | 286 => 116 | 129 => 118 | 317 => 117 | 318 => 119 | 319 => 120 | 320 => 121 | 337 => 122 | 338 => 123 | n => n, fun | 3 => 3 | 9 => 9 | 2 => 2 | 4 => 4 | 171 => 141 | 0 => 0 | 53 => 119 | 37 => 56 | 5 => 5 | 173 => 144 | 212 => 147 | 51 => 148 | 20 => 20 | 213 => 149 | 46 => 118 | 232 => 152 | 233 => 153 | n => n, fun | 17 => 5 | 18 => 6 | 19 => 7 | n => n⟩
theorem Tryz.lays171 : Go.Proofs.Lays.n171 Tryz.prog Tryz.lays171_ren := {
  mixed := by kernel_rfl
  f129 := Tryz.func118.trans (congrArg some (by kernel_rfl))
  f171 := Tryz.func100.trans (congrArg some (by kernel_rfl))
  f243 := Tryz.func108.trans (congrArg some (by kernel_rfl))
  f246 := Tryz.func112.trans (congrArg some (by kernel_rfl))
  f283 := Tryz.func113.trans (congrArg some (by kernel_rfl))
  f284 := Tryz.func114.trans (congrArg some (by kernel_rfl))
  f285 := Tryz.func115.trans (congrArg some (by kernel_rfl))
  f286 := Tryz.func116.trans (congrArg some (by kernel_rfl))
  f317 := Tryz.func117.trans (congrArg some (by kernel_rfl))
  f318 := Tryz.func119.trans (congrArg some (by kernel_rfl))
  f319 := Tryz.func120.trans (congrArg some (by kernel_rfl))
  f320 := Tryz.func121.trans (congrArg some (by kernel_rfl))
  f337 := Tryz.func122.trans (congrArg some (by kernel_rfl))
  f338 := Tryz.func123.trans (congrArg some (by kernel_rfl))
  t0 := Tryz.underlying0
  a0 := Tryz.isAgg0
  z0 := Tryz.sizeOf0
  v0 := Tryz.zeroValue0
  t2 := Tryz.underlying2
  a2 := Tryz.isAgg2
  z2 := Tryz.sizeOf2
  v2 := Tryz.zeroValue2
  t3 := Tryz.underlying3
  a3 := Tryz.isAgg3
  z3 := Tryz.sizeOf3
  v3 := Tryz.zeroValue3
  t4 := Tryz.underlying4
  a4 := Tryz.isAgg4
  z4 := Tryz.sizeOf4
  v4 := Tryz.zeroValue4
  t5 := Tryz.underlying5
  a5 := Tryz.isAgg5
  z5 := Tryz.sizeOf5
  v5 := Tryz.zeroValue5
  t9 := Tryz.underlying9
  a9 := Tryz.isAgg9
  z9 := Tryz.sizeOf9
  v9 := Tryz.zeroValue9
  t20 := Tryz.underlying20
  a20 := Tryz.isAgg20
  z20 := Tryz.sizeOf20
  v20 := Tryz.zeroValue20
  t37 := Tryz.underlying56
  a37 := Tryz.isAgg56
  z37 := Tryz.sizeOf56
  v37 := Tryz.zeroValue56
  t46 := Tryz.underlying118
  a46 := Tryz.isAgg118
  z46 := Tryz.sizeOf118
  v46 := Tryz.zeroValue118
  t51 := Tryz.underlying148
  a51 := Tryz.isAgg148
  z51 := Tryz.sizeOf148
  v51 := Tryz.zeroValue148
  t53 := Tryz.underlying119
  a53 := Tryz.isAgg119
  z53 := Tryz.sizeOf119
  v53 := Tryz.zeroValue119
  t171 := Tryz.underlying141
  a171 := Tryz.isAgg141
  z171 := Tryz.sizeOf141
  v171 := Tryz.zeroValue141
  t173 := Tryz.underlying144
  a173 := Tryz.isAgg144
  z173 := Tryz.sizeOf144
  v173 := Tryz.zeroValue144
  t212 := Tryz.underlying147
  a212 := Tryz.isAgg147
  z212 := Tryz.sizeOf147
  v212 := Tryz.zeroValue147
  t213 := Tryz.underlying149
  a213 := Tryz.isAgg149
  z213 := Tryz.sizeOf149
  t232 := Tryz.underlying152
  a232 := Tryz.isAgg152
  z232 := Tryz.sizeOf152
  v232 := Tryz.zeroValue152
  t233 := Tryz.underlying153
  a233 := Tryz.isAgg153
  z233 := Tryz.sizeOf153
  v233 := Tryz.zeroValue153
  g17 := by kernel_rfl
  g18 := by kernel_rfl
  g19 := by kernel_rfl }
open Go.RowKit Go.Sort Go.Lib in
/-- THE ROAD WITHOUT THE TABLE: 0 <= i < 100: NO PREMISE ON THE WORLD, AND THE WORLD IS AS IT WAS: a row that keeps its argument in that range need list no table ('laid = []'). (LAID: no walk: one application.) -/
theorem Tryz.strconv_Itoa_small (i : Nat) (hi : i < 100) (w : World) :
    Calls Tryz.prog 100 #[.int .i64 i] w fun e w' => e = .returned (.string ⟨(Lib.decDigits i).toArray⟩) ∧ w' = w := Any.strconv_Itoa_small Tryz.lays171 i hi w
def Tryz.lays217_ren : Go.Shelf.Ren := ⟨fun | 217 => 105 | 266 => 111 | n => n, fun | 9 => 9 | 5 => 5 | 3 => 3 | n => n, fun | n => n⟩
theorem Tryz.lays217 : Go.Proofs.Lays.n217 Tryz.prog Tryz.lays217_ren := {
  mixed := by kernel_rfl
  f217 := Tryz.func105.trans (congrArg some (by kernel_rfl))
  f266 := Tryz.func111.trans (congrArg some (by kernel_rfl))
  t3 := Tryz.underlying3
  a3 := Tryz.isAgg3
  z3 := Tryz.sizeOf3
  v3 := Tryz.zeroValue3
  t5 := Tryz.underlying5
  a5 := Tryz.isAgg5
  z5 := Tryz.sizeOf5
  v5 := Tryz.zeroValue5
  t9 := Tryz.underlying9
  a9 := Tryz.isAgg9
  z9 := Tryz.sizeOf9
  v9 := Tryz.zeroValue9 }
open Go.RowKit Go.Lib in
/-- internal/stringslite.IndexByte (what strings.IndexByte calls): IT RETURNS 'Lib.indexByte s c'; the world is as it was. (LAID: no walk: one application.) -/
theorem Tryz.stringslite_IndexByte (s : ByteArray) (c : Int) (w : World) :
    Calls Tryz.prog 105 #[.string s, .int .u8 c] w fun e w' => e = .returned (.int .i64 (Lib.indexByte s.data.toList c.toNat.toUInt8)) ∧ w' = w := Any.stringslite_IndexByte Tryz.lays217 s c w
def Tryz.lays224_ren : Go.Shelf.Ren := ⟨fun | 224 => 95 | n => n, fun | 3 => 3 | n => n, fun | n => n⟩
theorem Tryz.lays224 : Go.Proofs.Lays.n224 Tryz.prog Tryz.lays224_ren := {
  mixed := by kernel_rfl
  f224 := Tryz.func95.trans (congrArg some (by kernel_rfl))
  t3 := Tryz.underlying3
  a3 := Tryz.isAgg3
  z3 := Tryz.sizeOf3
  v3 := Tryz.zeroValue3 }
open Go.RowKit Go.Lib in
/-- internal/bytealg.Cutover: "Cutover reports the number of failures of IndexByte we should tolerate before switching over to Index. n is the number of bytes processed so far.": on amd64: (n + 16) / 8. (LAID: no walk: one application.) -/
theorem Tryz.bytealg_Cutover (n : Int) (h0 : 0 ≤ n) (h1 : n < 4611686018427387904) (w : World) :
    Calls Tryz.prog 95 #[.int .i64 n] w fun e w' => e = .returned (.int .i64 ((n + 16) / 8)) ∧ w' = w := Any.bytealg_Cutover Tryz.lays224 n h0 h1 w
def Tryz.lays206_ren : Go.Shelf.Ren := ⟨fun | 206 => 83 | n => n, fun | 9 => 9 | 4 => 4 | 3 => 3 | n => n, fun | n => n⟩
theorem Tryz.lays206 : Go.Proofs.Lays.n206 Tryz.prog Tryz.lays206_ren := {
  mixed := by kernel_rfl
  f206 := Tryz.func83.trans (congrArg some (by kernel_rfl))
  t3 := Tryz.underlying3
  a3 := Tryz.isAgg3
  z3 := Tryz.sizeOf3
  v3 := Tryz.zeroValue3
  t4 := Tryz.underlying4
  a4 := Tryz.isAgg4
  z4 := Tryz.sizeOf4
  v4 := Tryz.zeroValue4
  t9 := Tryz.underlying9
  a9 := Tryz.isAgg9
  z9 := Tryz.sizeOf9
  v9 := Tryz.zeroValue9 }
open Go.RowKit Go.Lib in
/-- internal/stringslite.HasPrefix (what strings.HasPrefix calls). (LAID: no walk: one application.) -/
theorem Tryz.stringslite_HasPrefix (s p : ByteArray) (w : World) :
    Calls Tryz.prog 83 #[.string s, .string p] w fun e w' => e = .returned (.bool (Lib.hasPrefix s.data.toList p.data.toList)) ∧ w' = w := Any.stringslite_HasPrefix Tryz.lays206 s p w
def Tryz.lays99_ren : Go.Shelf.Ren := ⟨fun | 99 => 72 | 206 => 83 | n => n, fun | 9 => 9 | 4 => 4 | 3 => 3 | n => n, fun | n => n⟩
theorem Tryz.lays99 : Go.Proofs.Lays.n99 Tryz.prog Tryz.lays99_ren := {
  mixed := by kernel_rfl
  f99 := Tryz.func72.trans (congrArg some (by kernel_rfl))
  f206 := Tryz.func83.trans (congrArg some (by kernel_rfl))
  t3 := Tryz.underlying3
  a3 := Tryz.isAgg3
  z3 := Tryz.sizeOf3
  v3 := Tryz.zeroValue3
  t4 := Tryz.underlying4
  a4 := Tryz.isAgg4
  z4 := Tryz.sizeOf4
  v4 := Tryz.zeroValue4
  t9 := Tryz.underlying9
  a9 := Tryz.isAgg9
  z9 := Tryz.sizeOf9
  v9 := Tryz.zeroValue9 }
open Go.RowKit Go.Lib in
/-- strings.HasPrefix: "HasPrefix reports whether the string s begins with prefix.": IT RETURNS 'Lib.hasPrefix s prefix'; the world is as it was. (LAID: no walk: one application.) -/
theorem Tryz.strings_HasPrefix (s p : ByteArray) (w : World) :
    Calls Tryz.prog 72 #[.string s, .string p] w fun e w' => e = .returned (.bool (Lib.hasPrefix s.data.toList p.data.toList)) ∧ w' = w := Any.strings_HasPrefix Tryz.lays99 s p w
def Tryz.lays197_ren : Go.Shelf.Ren := ⟨fun | 197 => 103 | 260 => 109 | n => n, fun | 9 => 9 | 21 => 21 | 3 => 3 | 4 => 4 | 5 => 5 | 105 => 129 | 119 => 137 | 0 => 0 | 46 => 118 | 139 => 140 | 138 => 139 | n => n, fun | 3 => 3 | 4 => 4 | n => n⟩
theorem Tryz.lays197 : Go.Proofs.Lays.n197 Tryz.prog Tryz.lays197_ren := {
  mixed := by kernel_rfl
  f197 := Tryz.func103.trans (congrArg some (by kernel_rfl))
  f260 := Tryz.func109.trans (congrArg some (by kernel_rfl))
  t0 := Tryz.underlying0
  a0 := Tryz.isAgg0
  z0 := Tryz.sizeOf0
  v0 := Tryz.zeroValue0
  t3 := Tryz.underlying3
  a3 := Tryz.isAgg3
  z3 := Tryz.sizeOf3
  v3 := Tryz.zeroValue3
  t4 := Tryz.underlying4
  a4 := Tryz.isAgg4
  z4 := Tryz.sizeOf4
  v4 := Tryz.zeroValue4
  t5 := Tryz.underlying5
  a5 := Tryz.isAgg5
  z5 := Tryz.sizeOf5
  v5 := Tryz.zeroValue5
  t9 := Tryz.underlying9
  a9 := Tryz.isAgg9
  z9 := Tryz.sizeOf9
  v9 := Tryz.zeroValue9
  t21 := Tryz.underlying21
  a21 := Tryz.isAgg21
  z21 := Tryz.sizeOf21
  v21 := Tryz.zeroValue21
  t46 := Tryz.underlying118
  a46 := Tryz.isAgg118
  z46 := Tryz.sizeOf118
  v46 := Tryz.zeroValue118
  t105 := Tryz.underlying129
  a105 := Tryz.isAgg129
  z105 := Tryz.sizeOf129
  v105 := Tryz.zeroValue129
  t119 := Tryz.underlying137
  a119 := Tryz.isAgg137
  z119 := Tryz.sizeOf137
  t138 := Tryz.underlying139
  a138 := Tryz.isAgg139
  z138 := Tryz.sizeOf139
  v138 := Tryz.zeroValue139
  t139 := Tryz.underlying140
  a139 := Tryz.isAgg140
  z139 := Tryz.sizeOf140
  v139 := Tryz.zeroValue140
  g3 := by kernel_rfl
  g4 := by kernel_rfl }
open Go.RowKit Go.Lib in
/-- unicode/utf8.DecodeRuneInString: "DecodeRuneInString is like DecodeRune but its input is a string.": ("DecodeRune unpacks the first UTF-8 encoding in p and returns the rune and its width in bytes."): WHERE s BEGINS WITH AN ASCII BYTE x: (x, 1). (LAID: no walk: one application.) -/
theorem Tryz.utf8_DecodeRuneInString_ascii (s : ByteArray) (x : UInt8) (w : World) (h0 : s.data.toList[0]? = some x) (hx : x.toNat < 128) :
    Calls Tryz.prog 103 #[.string s] w fun e w' => e = .returned (.tuple #[.int .i32 x.toNat, .int .i64 1]) ∧ w' = w := Any.utf8_DecodeRuneInString_ascii Tryz.lays197 s x w h0 hx
def Tryz.lays152_ren : Go.Shelf.Ren := ⟨fun | 152 => 77 | 137 => 93 | 119 => 94 | 224 => 95 | 225 => 96 | 217 => 105 | 266 => 111 | n => n, fun | 9 => 9 | 21 => 21 | 3 => 3 | 4 => 4 | 5 => 5 | 0 => 0 | 46 => 118 | n => n, fun | n => n⟩
theorem Tryz.lays152 : Go.Proofs.Lays.n152 Tryz.prog Tryz.lays152_ren := {
  mixed := by kernel_rfl
  f119 := Tryz.func94.trans (congrArg some (by kernel_rfl))
  f137 := Tryz.func93.trans (congrArg some (by kernel_rfl))
  f152 := Tryz.func77.trans (congrArg some (by kernel_rfl))
  f217 := Tryz.func105.trans (congrArg some (by kernel_rfl))
  f224 := Tryz.func95.trans (congrArg some (by kernel_rfl))
  f225 := Tryz.func96.trans (congrArg some (by kernel_rfl))
  f266 := Tryz.func111.trans (congrArg some (by kernel_rfl))
  t0 := Tryz.underlying0
  a0 := Tryz.isAgg0
  z0 := Tryz.sizeOf0
  v0 := Tryz.zeroValue0
  t3 := Tryz.underlying3
  a3 := Tryz.isAgg3
  z3 := Tryz.sizeOf3
  v3 := Tryz.zeroValue3
  t4 := Tryz.underlying4
  a4 := Tryz.isAgg4
  z4 := Tryz.sizeOf4
  v4 := Tryz.zeroValue4
  t5 := Tryz.underlying5
  a5 := Tryz.isAgg5
  z5 := Tryz.sizeOf5
  v5 := Tryz.zeroValue5
  t9 := Tryz.underlying9
  a9 := Tryz.isAgg9
  z9 := Tryz.sizeOf9
  v9 := Tryz.zeroValue9
  t21 := Tryz.underlying21
  a21 := Tryz.isAgg21
  z21 := Tryz.sizeOf21
  v21 := Tryz.zeroValue21
  t46 := Tryz.underlying118
  a46 := Tryz.isAgg118
  z46 := Tryz.sizeOf118
  v46 := Tryz.zeroValue118 }
open Go.RowKit Go.Lib in
theorem Tryz.strings_IndexRune_ascii (s : ByteArray) (r : Int) (w : World) (h0 : 0 ≤ r) (h1 : r < 128) :
    Calls Tryz.prog 77 #[.string s, .int .i32 r] w fun e w' => e = .returned (.int .i64 (Lib.indexByte s.data.toList r.toNat.toUInt8)) ∧ w' = w := Any.strings_IndexRune_ascii Tryz.lays152 s r w h0 h1
def Tryz.lays151_ren : Go.Shelf.Ren := ⟨fun | 151 => 62 | 152 => 77 | 137 => 93 | 119 => 94 | 224 => 95 | 225 => 96 | 217 => 105 | 266 => 111 | n => n, fun | 9 => 9 | 21 => 21 | 4 => 4 | 3 => 3 | 5 => 5 | 0 => 0 | 46 => 118 | n => n, fun | n => n⟩
theorem Tryz.lays151 : Go.Proofs.Lays.n151 Tryz.prog Tryz.lays151_ren := {
  mixed := by kernel_rfl
  f119 := Tryz.func94.trans (congrArg some (by kernel_rfl))
  f137 := Tryz.func93.trans (congrArg some (by kernel_rfl))
  f151 := Tryz.func62.trans (congrArg some (by kernel_rfl))
  f152 := Tryz.func77.trans (congrArg some (by kernel_rfl))
  f217 := Tryz.func105.trans (congrArg some (by kernel_rfl))
  f224 := Tryz.func95.trans (congrArg some (by kernel_rfl))
  f225 := Tryz.func96.trans (congrArg some (by kernel_rfl))
  f266 := Tryz.func111.trans (congrArg some (by kernel_rfl))
  t0 := Tryz.underlying0
  a0 := Tryz.isAgg0
  z0 := Tryz.sizeOf0
  v0 := Tryz.zeroValue0
  t3 := Tryz.underlying3
  a3 := Tryz.isAgg3
  z3 := Tryz.sizeOf3
  v3 := Tryz.zeroValue3
  t4 := Tryz.underlying4
  a4 := Tryz.isAgg4
  z4 := Tryz.sizeOf4
  v4 := Tryz.zeroValue4
  t5 := Tryz.underlying5
  a5 := Tryz.isAgg5
  z5 := Tryz.sizeOf5
  v5 := Tryz.zeroValue5
  t9 := Tryz.underlying9
  a9 := Tryz.isAgg9
  z9 := Tryz.sizeOf9
  v9 := Tryz.zeroValue9
  t21 := Tryz.underlying21
  a21 := Tryz.isAgg21
  z21 := Tryz.sizeOf21
  v21 := Tryz.zeroValue21
  t46 := Tryz.underlying118
  a46 := Tryz.isAgg118
  z46 := Tryz.sizeOf118
  v46 := Tryz.zeroValue118 }
open Go.RowKit Go.Lib in
theorem Tryz.strings_ContainsRune_ascii (s : ByteArray) (r : Int) (w : World) (h0 : 0 ≤ r) (h1 : r < 128) :
    Calls Tryz.prog 62 #[.string s, .int .i32 r] w fun e w' => e = .returned (.bool (decide (0 ≤ Lib.indexByte s.data.toList r.toNat.toUInt8))) ∧ w' = w := Any.strings_ContainsRune_ascii Tryz.lays151 s r w h0 h1
def Tryz.lays226_ren : Go.Shelf.Ren := ⟨fun | 226 => 101 | n => n, fun | 3 => 3 | 4 => 4 | n => n, fun | n => n⟩
theorem Tryz.lays226 : Go.Proofs.Lays.n226 Tryz.prog Tryz.lays226_ren := {
  mixed := by kernel_rfl
  f226 := Tryz.func101.trans (congrArg some (by kernel_rfl))
  t3 := Tryz.underlying3
  a3 := Tryz.isAgg3
  z3 := Tryz.sizeOf3
  v3 := Tryz.zeroValue3
  t4 := Tryz.underlying4
  a4 := Tryz.isAgg4
  z4 := Tryz.sizeOf4
  v4 := Tryz.zeroValue4 }
open Go.RowKit Go.Lib in
theorem Tryz.strings_shouldUseASCIISet (n : Int) (w : World) :
    Calls Tryz.prog 101 #[.int .i64 n] w fun e w' => e = .returned (.bool (decide (8 < n))) ∧ w' = w := Any.strings_shouldUseASCIISet Tryz.lays226 n w
def Tryz.lays153_ren : Go.Shelf.Ren := ⟨fun | 153 => 84 | 152 => 77 | 226 => 101 | 227 => 87 | 228 => 102 | 137 => 93 | 119 => 94 | 224 => 95 | 225 => 96 | 217 => 105 | 266 => 111 | n => n, fun | 9 => 9 | 3 => 3 | 4 => 4 | 5 => 5 | 21 => 21 | 117 => 111 | 116 => 110 | 0 => 0 | 46 => 118 | 124 => 114 | n => n, fun | n => n⟩
theorem Tryz.lays153 : Go.Proofs.Lays.n153 Tryz.prog Tryz.lays153_ren := {
  mixed := by kernel_rfl
  f119 := Tryz.func94.trans (congrArg some (by kernel_rfl))
  f137 := Tryz.func93.trans (congrArg some (by kernel_rfl))
  f152 := Tryz.func77.trans (congrArg some (by kernel_rfl))
  f153 := Tryz.func84.trans (congrArg some (by kernel_rfl))
  f217 := Tryz.func105.trans (congrArg some (by kernel_rfl))
  f224 := Tryz.func95.trans (congrArg some (by kernel_rfl))
  f225 := Tryz.func96.trans (congrArg some (by kernel_rfl))
  f226 := Tryz.func101.trans (congrArg some (by kernel_rfl))
  f227 := Tryz.func87.trans (congrArg some (by kernel_rfl))
  f228 := Tryz.func102.trans (congrArg some (by kernel_rfl))
  f266 := Tryz.func111.trans (congrArg some (by kernel_rfl))
  t0 := Tryz.underlying0
  a0 := Tryz.isAgg0
  z0 := Tryz.sizeOf0
  v0 := Tryz.zeroValue0
  t3 := Tryz.underlying3
  a3 := Tryz.isAgg3
  z3 := Tryz.sizeOf3
  v3 := Tryz.zeroValue3
  t4 := Tryz.underlying4
  a4 := Tryz.isAgg4
  z4 := Tryz.sizeOf4
  v4 := Tryz.zeroValue4
  t5 := Tryz.underlying5
  a5 := Tryz.isAgg5
  z5 := Tryz.sizeOf5
  v5 := Tryz.zeroValue5
  t9 := Tryz.underlying9
  a9 := Tryz.isAgg9
  z9 := Tryz.sizeOf9
  v9 := Tryz.zeroValue9
  t21 := Tryz.underlying21
  a21 := Tryz.isAgg21
  z21 := Tryz.sizeOf21
  v21 := Tryz.zeroValue21
  t46 := Tryz.underlying118
  a46 := Tryz.isAgg118
  z46 := Tryz.sizeOf118
  v46 := Tryz.zeroValue118
  t116 := Tryz.underlying110
  a116 := Tryz.isAgg110
  z116 := Tryz.sizeOf110
  t117 := Tryz.underlying111
  a117 := Tryz.isAgg111
  z117 := Tryz.sizeOf111
  v117 := Tryz.zeroValue111
  t124 := Tryz.underlying114
  a124 := Tryz.isAgg114
  z124 := Tryz.sizeOf114
  v124 := Tryz.zeroValue114 }
open Go.RowKit Go.Lib in
/-- chars is empty. (LAID: no walk: one application.) -/
theorem Tryz.strings_IndexAny_none (s chars : ByteArray) (w : World) (h0 : chars.size = 0) :
    Calls Tryz.prog 84 #[.string s, .string chars] w fun e w' => e = .returned (.int .i64 (Lib.indexAny s.data.toList chars.data.toList)) ∧ w' = w := Any.strings_IndexAny_none Tryz.lays153 s chars w h0
open Go.RowKit Go.Lib in
/-- chars is one ASCII byte. (LAID: no walk: one application.) -/
theorem Tryz.strings_IndexAny_one (s chars : ByteArray) (w : World) (h1 : chars.size = 1) (hascii : ∀ (j : Nat) b, chars.data.toList[j]? = some b → b.toNat < 128) :
    Calls Tryz.prog 84 #[.string s, .string chars] w fun e w' => e = .returned (.int .i64 (Lib.indexAny s.data.toList chars.data.toList)) ∧ w' = w := Any.strings_IndexAny_one Tryz.lays153 s chars w h1 hascii
open Go.RowKit Go.Lib in
/-- s of at most 8 bytes; chars of two or more: 'for i, c := range s { if IndexRune(chars, c) >= 0 { return i } }'. One block more: the model's iterator over s. (LAID: no walk: one application.) -/
theorem Tryz.strings_IndexAny_short (s chars : ByteArray) (w : World) (h2 : 2 ≤ chars.size) (h8 : s.size ≤ 8) (hascii : ∀ (j : Nat) b, s.data.toList[j]? = some b → b.toNat < 128) :
    Calls Tryz.prog 84 #[.string s, .string chars] w fun e w' => e = .returned (.int .i64 (Lib.indexAny s.data.toList chars.data.toList)) ∧ ∃ pos, w' = w.iter s pos := Any.strings_IndexAny_short Tryz.lays153 s chars w h2 h8 hascii
def Tryz.lays227_ren : Go.Shelf.Ren := ⟨fun | 227 => 87 | n => n, fun | 9 => 9 | 116 => 110 | 4 => 4 | 0 => 0 | 3 => 3 | 5 => 5 | n => n, fun | n => n⟩
theorem Tryz.lays227 : Go.Proofs.Lays.n227 Tryz.prog Tryz.lays227_ren := {
  mixed := by kernel_rfl
  f227 := Tryz.func87.trans (congrArg some (by kernel_rfl))
  t0 := Tryz.underlying0
  a0 := Tryz.isAgg0
  z0 := Tryz.sizeOf0
  v0 := Tryz.zeroValue0
  t3 := Tryz.underlying3
  a3 := Tryz.isAgg3
  z3 := Tryz.sizeOf3
  v3 := Tryz.zeroValue3
  t4 := Tryz.underlying4
  a4 := Tryz.isAgg4
  z4 := Tryz.sizeOf4
  v4 := Tryz.zeroValue4
  t5 := Tryz.underlying5
  a5 := Tryz.isAgg5
  z5 := Tryz.sizeOf5
  v5 := Tryz.zeroValue5
  t9 := Tryz.underlying9
  a9 := Tryz.isAgg9
  z9 := Tryz.sizeOf9
  v9 := Tryz.zeroValue9
  t116 := Tryz.underlying110
  a116 := Tryz.isAgg110
  z116 := Tryz.sizeOf110 }
open Go.RowKit Go.Lib in
theorem Tryz.strings_makeASCIISet (hv116 : ∀ w, (zeroValue 110).run Tryz.prog w = .ok (.agg (Array.replicate 256 (.bool false))) w) (chars : ByteArray) (w : World) (hs : chars.size < 4294967281) (hascii : ∀ (j : Nat) b, chars.data.toList[j]? = some b → b.toNat < 128) :
    Calls Tryz.prog 87 #[.string chars] w fun e w' => e = .returned (.tuple #[.agg (Lib.setCells chars.data.toList), .bool true]) ∧ w' = w.alloc (.cells (Lib.setCells chars.data.toList) 110) := Any.strings_makeASCIISet Tryz.lays227 hv116 (by kernel_rfl) chars w hs hascii
def Tryz.lays228_ren : Go.Shelf.Ren := ⟨fun | 228 => 102 | n => n, fun | 124 => 114 | 5 => 5 | 4 => 4 | 0 => 0 | 116 => 110 | n => n, fun | n => n⟩
theorem Tryz.lays228 : Go.Proofs.Lays.n228 Tryz.prog Tryz.lays228_ren := {
  mixed := by kernel_rfl
  f228 := Tryz.func102.trans (congrArg some (by kernel_rfl))
  t0 := Tryz.underlying0
  a0 := Tryz.isAgg0
  z0 := Tryz.sizeOf0
  v0 := Tryz.zeroValue0
  t4 := Tryz.underlying4
  a4 := Tryz.isAgg4
  z4 := Tryz.sizeOf4
  v4 := Tryz.zeroValue4
  t5 := Tryz.underlying5
  a5 := Tryz.isAgg5
  z5 := Tryz.sizeOf5
  v5 := Tryz.zeroValue5
  t116 := Tryz.underlying110
  a116 := Tryz.isAgg110
  z116 := Tryz.sizeOf110
  t124 := Tryz.underlying114
  a124 := Tryz.isAgg114
  z124 := Tryz.sizeOf114
  v124 := Tryz.zeroValue114 }
open Go.RowKit Go.Lib in
/-- '(as *asciiSet) contains(c)': 'as[c]': the set lies at block b, whole. (LAID: no walk: one application.) -/
theorem Tryz.asciiSet_contains (b : Nat) (x : UInt8) (v : Bool) (w : World) (hc : w.cell? ⟨b, x.toNat, none⟩ = some (.bool v)) :
    Calls Tryz.prog 102 #[.pointer (some ⟨b, 0, none⟩), .int .u8 x.toNat] w fun e w' => e = .returned (.bool v) ∧ w' = w := Any.asciiSet_contains Tryz.lays228 b x v w hc
open Go.RowKit Go.Lib in
theorem Tryz.strings_IndexAny_long (hv116 : ∀ w, (zeroValue 110).run Tryz.prog w = .ok (.agg (Array.replicate 256 (.bool false))) w) (s chars : ByteArray) (w : World) (h2 : 2 ≤ chars.size) (h8 : 8 < s.size) (hs : s.size < 4294967281) (hcs : chars.size < 4294967281) (hascii : ∀ (j : Nat) b, chars.data.toList[j]? = some b → b.toNat < 128) :
    Calls Tryz.prog 84 #[.string s, .string chars] w fun e w' => e = .returned (.int .i64 (Lib.indexAny s.data.toList chars.data.toList)) ∧ w' = ((w.alloc (.cells (Lib.setCells chars.data.toList) 110)).alloc (.cells (Lib.setCells chars.data.toList) 110)) := Any.strings_IndexAny_long Tryz.lays153 hv116 (by kernel_rfl) s chars w h2 h8 hs hcs hascii
open Go.RowKit Go.Lib in
/-- strings.IndexAny ON ASCII BYTES: the four roads under one statement. (LAID: no walk: one application.) -/
theorem Tryz.strings_IndexAny (hv116 : ∀ w, (zeroValue 110).run Tryz.prog w = .ok (.agg (Array.replicate 256 (.bool false))) w) (s chars : ByteArray) (w : World) (hs : s.size < 4294967281) (hcs : chars.size < 4294967281) (has : ∀ (j : Nat) b, s.data.toList[j]? = some b → b.toNat < 128) (hac : ∀ (j : Nat) b, chars.data.toList[j]? = some b → b.toNat < 128) :
    Calls Tryz.prog 84 #[.string s, .string chars] w fun e w' => e = .returned (.int .i64 (Lib.indexAny s.data.toList chars.data.toList)) ∧ Below w.heap.size w w' := Any.strings_IndexAny Tryz.lays153 hv116 (by kernel_rfl) s chars w hs hcs has hac
def Tryz.lays150_ren : Go.Shelf.Ren := ⟨fun | 150 => 73 | 153 => 84 | 152 => 77 | 226 => 101 | 227 => 87 | 228 => 102 | 137 => 93 | 119 => 94 | 224 => 95 | 225 => 96 | 217 => 105 | 266 => 111 | n => n, fun | 9 => 9 | 4 => 4 | 3 => 3 | 5 => 5 | 21 => 21 | 117 => 111 | 116 => 110 | 0 => 0 | 46 => 118 | 124 => 114 | n => n, fun | n => n⟩
theorem Tryz.lays150 : Go.Proofs.Lays.n150 Tryz.prog Tryz.lays150_ren := {
  mixed := by kernel_rfl
  f119 := Tryz.func94.trans (congrArg some (by kernel_rfl))
  f137 := Tryz.func93.trans (congrArg some (by kernel_rfl))
  f150 := Tryz.func73.trans (congrArg some (by kernel_rfl))
  f152 := Tryz.func77.trans (congrArg some (by kernel_rfl))
  f153 := Tryz.func84.trans (congrArg some (by kernel_rfl))
  f217 := Tryz.func105.trans (congrArg some (by kernel_rfl))
  f224 := Tryz.func95.trans (congrArg some (by kernel_rfl))
  f225 := Tryz.func96.trans (congrArg some (by kernel_rfl))
  f226 := Tryz.func101.trans (congrArg some (by kernel_rfl))
  f227 := Tryz.func87.trans (congrArg some (by kernel_rfl))
  f228 := Tryz.func102.trans (congrArg some (by kernel_rfl))
  f266 := Tryz.func111.trans (congrArg some (by kernel_rfl))
  t0 := Tryz.underlying0
  a0 := Tryz.isAgg0
  z0 := Tryz.sizeOf0
  v0 := Tryz.zeroValue0
  t3 := Tryz.underlying3
  a3 := Tryz.isAgg3
  z3 := Tryz.sizeOf3
  v3 := Tryz.zeroValue3
  t4 := Tryz.underlying4
  a4 := Tryz.isAgg4
  z4 := Tryz.sizeOf4
  v4 := Tryz.zeroValue4
  t5 := Tryz.underlying5
  a5 := Tryz.isAgg5
  z5 := Tryz.sizeOf5
  v5 := Tryz.zeroValue5
  t9 := Tryz.underlying9
  a9 := Tryz.isAgg9
  z9 := Tryz.sizeOf9
  v9 := Tryz.zeroValue9
  t21 := Tryz.underlying21
  a21 := Tryz.isAgg21
  z21 := Tryz.sizeOf21
  v21 := Tryz.zeroValue21
  t46 := Tryz.underlying118
  a46 := Tryz.isAgg118
  z46 := Tryz.sizeOf118
  v46 := Tryz.zeroValue118
  t116 := Tryz.underlying110
  a116 := Tryz.isAgg110
  z116 := Tryz.sizeOf110
  t117 := Tryz.underlying111
  a117 := Tryz.isAgg111
  z117 := Tryz.sizeOf111
  v117 := Tryz.zeroValue111
  t124 := Tryz.underlying114
  a124 := Tryz.isAgg114
  z124 := Tryz.sizeOf114
  v124 := Tryz.zeroValue114 }
open Go.RowKit Go.Lib in
/-- strings.ContainsAny ON ASCII BYTES. (LAID: no walk: one application.) -/
theorem Tryz.strings_ContainsAny (hv116 : ∀ w, (zeroValue 110).run Tryz.prog w = .ok (.agg (Array.replicate 256 (.bool false))) w) (s chars : ByteArray) (w : World) (hs : s.size < 4294967281) (hcs : chars.size < 4294967281) (has : ∀ (j : Nat) b, s.data.toList[j]? = some b → b.toNat < 128) (hac : ∀ (j : Nat) b, chars.data.toList[j]? = some b → b.toNat < 128) :
    Calls Tryz.prog 73 #[.string s, .string chars] w fun e w' => e = .returned (.bool (Lib.containsAny s.data.toList chars.data.toList)) ∧ Below w.heap.size w w' := Any.strings_ContainsAny Tryz.lays150 hv116 (by kernel_rfl) s chars w hs hcs has hac
open Go.RowKit Go.Lib in
theorem Tryz.strings_IndexAny_laid (s chars : ByteArray) (w : World) (hs : s.size < 4294967281) (hcs : chars.size < 4294967281) (has : ∀ (j : Nat) b, s.data.toList[j]? = some b → b.toNat < 128) (hac : ∀ (j : Nat) b, chars.data.toList[j]? = some b → b.toNat < 128) :
    Calls Tryz.prog 84 #[.string s, .string chars] w fun e w' => e = .returned (.int .i64 (Lib.indexAny s.data.toList chars.data.toList)) ∧ Below w.heap.size w w' := Any.strings_IndexAny_laid Tryz.lays153 (by kernel_rfl) s chars w hs hcs has hac
open Go.RowKit Go.Lib in
theorem Tryz.strings_ContainsAny_laid (s chars : ByteArray) (w : World) (hs : s.size < 4294967281) (hcs : chars.size < 4294967281) (has : ∀ (j : Nat) b, s.data.toList[j]? = some b → b.toNat < 128) (hac : ∀ (j : Nat) b, chars.data.toList[j]? = some b → b.toNat < 128) :
    Calls Tryz.prog 73 #[.string s, .string chars] w fun e w' => e = .returned (.bool (Lib.containsAny s.data.toList chars.data.toList)) ∧ Below w.heap.size w w' := Any.strings_ContainsAny_laid Tryz.lays150 (by kernel_rfl) s chars w hs hcs has hac
def Tryz.lays260_ren : Go.Shelf.Ren := ⟨fun | 260 => 109 | n => n, fun | 9 => 9 | 21 => 21 | 3 => 3 | 4 => 4 | 5 => 5 | 119 => 137 | 0 => 0 | 46 => 118 | 139 => 140 | 138 => 139 | n => n, fun | 3 => 3 | 4 => 4 | n => n⟩
theorem Tryz.lays260 : Go.Proofs.Lays.n260 Tryz.prog Tryz.lays260_ren := {
  mixed := by kernel_rfl
  f260 := Tryz.func109.trans (congrArg some (by kernel_rfl))
  t0 := Tryz.underlying0
  a0 := Tryz.isAgg0
  z0 := Tryz.sizeOf0
  v0 := Tryz.zeroValue0
  t3 := Tryz.underlying3
  a3 := Tryz.isAgg3
  z3 := Tryz.sizeOf3
  v3 := Tryz.zeroValue3
  t4 := Tryz.underlying4
  a4 := Tryz.isAgg4
  z4 := Tryz.sizeOf4
  v4 := Tryz.zeroValue4
  t5 := Tryz.underlying5
  a5 := Tryz.isAgg5
  z5 := Tryz.sizeOf5
  v5 := Tryz.zeroValue5
  t9 := Tryz.underlying9
  a9 := Tryz.isAgg9
  z9 := Tryz.sizeOf9
  v9 := Tryz.zeroValue9
  t21 := Tryz.underlying21
  a21 := Tryz.isAgg21
  z21 := Tryz.sizeOf21
  v21 := Tryz.zeroValue21
  t46 := Tryz.underlying118
  a46 := Tryz.isAgg118
  z46 := Tryz.sizeOf118
  v46 := Tryz.zeroValue118
  t119 := Tryz.underlying137
  a119 := Tryz.isAgg137
  z119 := Tryz.sizeOf137
  t138 := Tryz.underlying139
  a138 := Tryz.isAgg139
  z138 := Tryz.sizeOf139
  v138 := Tryz.zeroValue139
  t139 := Tryz.underlying140
  a139 := Tryz.isAgg140
  z139 := Tryz.sizeOf140
  v139 := Tryz.zeroValue140
  g3 := by kernel_rfl
  g4 := by kernel_rfl }
open Go.RowKit Go.Lib in
theorem Tryz.utf8_decodeRuneInStringSlow (s : ByteArray) (w : World) (hT : Lib.Utf8Tabs 3 4 w) :
    Calls Tryz.prog 109 #[.string s] w fun e w' => e = .returned (.tuple #[.int .i32 (Lib.decodeGo s).1, .int .i64 (Lib.decodeGo s).2]) ∧ Below w.heap.size w w' := Any.utf8_decodeRuneInStringSlow Tryz.lays260 s w hT
open Go.RowKit Go.Lib in
/-- **unicode/utf8.DecodeRuneInString AT EVERY STRING.** (LAID: no walk: one application.) -/
theorem Tryz.utf8_DecodeRuneInString (s : ByteArray) (w : World) (hT : Lib.Utf8Tabs 3 4 w) :
    Calls Tryz.prog 103 #[.string s] w fun e w' => e = .returned (.tuple #[.int .i32 (Lib.decodeGo s).1, .int .i64 (Lib.decodeGo s).2]) ∧ Below w.heap.size w w' := Any.utf8_DecodeRuneInString Tryz.lays197 s w hT
def Tryz.lays271_ren : Go.Shelf.Ren := ⟨fun | 271 => 104 | 120 => 110 | 197 => 103 | 260 => 109 | n => n, fun | 9 => 9 | 21 => 21 | 3 => 3 | 4 => 4 | 5 => 5 | 105 => 129 | 119 => 137 | 0 => 0 | 46 => 118 | 139 => 140 | 138 => 139 | n => n, fun | 3 => 3 | 4 => 4 | n => n⟩
theorem Tryz.lays271 : Go.Proofs.Lays.n271 Tryz.prog Tryz.lays271_ren := {
  mixed := by kernel_rfl
  f120 := Tryz.func110.trans (congrArg some (by kernel_rfl))
  f197 := Tryz.func103.trans (congrArg some (by kernel_rfl))
  f260 := Tryz.func109.trans (congrArg some (by kernel_rfl))
  f271 := Tryz.func104.trans (congrArg some (by kernel_rfl))
  t0 := Tryz.underlying0
  a0 := Tryz.isAgg0
  z0 := Tryz.sizeOf0
  v0 := Tryz.zeroValue0
  t3 := Tryz.underlying3
  a3 := Tryz.isAgg3
  z3 := Tryz.sizeOf3
  v3 := Tryz.zeroValue3
  t4 := Tryz.underlying4
  a4 := Tryz.isAgg4
  z4 := Tryz.sizeOf4
  v4 := Tryz.zeroValue4
  t5 := Tryz.underlying5
  a5 := Tryz.isAgg5
  z5 := Tryz.sizeOf5
  v5 := Tryz.zeroValue5
  t9 := Tryz.underlying9
  a9 := Tryz.isAgg9
  z9 := Tryz.sizeOf9
  v9 := Tryz.zeroValue9
  t21 := Tryz.underlying21
  a21 := Tryz.isAgg21
  z21 := Tryz.sizeOf21
  v21 := Tryz.zeroValue21
  t46 := Tryz.underlying118
  a46 := Tryz.isAgg118
  z46 := Tryz.sizeOf118
  v46 := Tryz.zeroValue118
  t105 := Tryz.underlying129
  a105 := Tryz.isAgg129
  z105 := Tryz.sizeOf129
  v105 := Tryz.zeroValue129
  t119 := Tryz.underlying137
  a119 := Tryz.isAgg137
  z119 := Tryz.sizeOf137
  t138 := Tryz.underlying139
  a138 := Tryz.isAgg139
  z138 := Tryz.sizeOf139
  v138 := Tryz.zeroValue139
  t139 := Tryz.underlying140
  a139 := Tryz.isAgg140
  z139 := Tryz.sizeOf140
  v139 := Tryz.zeroValue140
  g3 := by kernel_rfl
  g4 := by kernel_rfl }
open Go.RowKit Go.Lib in
/-- **unicode/utf8.DecodeLastRuneInString AT EVERY STRING.** (LAID: no walk: one application.) -/
theorem Tryz.utf8_DecodeLastRuneInString (s : ByteArray) (w : World) (hs : s.size ≤ 9223372036854775807) (hT : Lib.Utf8Tabs 3 4 w) :
    Calls Tryz.prog 104 #[.string s] w fun e w' => e = .returned (.tuple #[.int .i32 (Lib.decodeLastL s.data.toList).1, .int .i64 (Lib.decodeLastL s.data.toList).2]) ∧ Below w.heap.size w w' := Any.utf8_DecodeLastRuneInString Tryz.lays271 s w hs hT
def Tryz.lays109_ren : Go.Shelf.Ren := ⟨fun | 109 => 55 | n => n, fun | 31 => 70 | 9 => 9 | 3 => 3 | 0 => 0 | 4 => 4 | n => n, fun | n => n⟩
theorem Tryz.lays109 : Go.Proofs.Lays.n109 Tryz.prog Tryz.lays109_ren := {
  mixed := by kernel_rfl
  f109 := Tryz.func55.trans (congrArg some (by kernel_rfl))
  t0 := Tryz.underlying0
  a0 := Tryz.isAgg0
  z0 := Tryz.sizeOf0
  v0 := Tryz.zeroValue0
  t3 := Tryz.underlying3
  a3 := Tryz.isAgg3
  z3 := Tryz.sizeOf3
  v3 := Tryz.zeroValue3
  t4 := Tryz.underlying4
  a4 := Tryz.isAgg4
  z4 := Tryz.sizeOf4
  v4 := Tryz.zeroValue4
  t9 := Tryz.underlying9
  a9 := Tryz.isAgg9
  z9 := Tryz.sizeOf9
  v9 := Tryz.zeroValue9
  t31 := Tryz.underlying70
  a31 := Tryz.isAgg70
  z31 := Tryz.sizeOf70
  v31 := Tryz.zeroValue70 }
open Go.Lib in
/-- slices.Index at []string: "Index returns the index of the first occurrence of v in s, or -1 if not present.": IT RETURNS 'Lib.idxOfS (the elements) v'; the world is as it was. 'zs': what the cells behind the slice's address hold (its spare capacity too, if you have it); 'zs.take n': its elements. (LAID: no walk: one application.) -/
theorem Tryz.slices_Index_string (b off n c : Nat) (zs : List ByteArray) (x : ByteArray) (w : World) (hz : n ≤ zs.length) (hbig : n ≤ 9223372036854775807) (hc : ∀ j, j < zs.length → w.cell? ⟨b, off + j, none⟩ = some (.string (zs.getD j ByteArray.empty))) :
    Calls Tryz.prog 55 #[.slice (some ⟨b, off, none⟩) n c, .string x] w fun e w' => e = .returned (.int .i64 (Lib.idxOfS (zs.take n) x)) ∧ w' = w := Any.slices_Index_string Tryz.lays109 b off n c zs x w hz hbig hc
open Go.Lib in
/-- The same at a slice of length 0, a nil one too: no cell is known, none is asked for. (LAID: no walk: one application.) -/
theorem Tryz.slices_Index_string_empty (a : Option Addr) (c : Nat) (x : ByteArray) (w : World) :
    Calls Tryz.prog 55 #[.slice a 0 c, .string x] w fun e w' => e = .returned (.int .i64 (Lib.idxOfS [] x)) ∧ w' = w := Any.slices_Index_string_empty Tryz.lays109 a c x w
end Go.Proofs
