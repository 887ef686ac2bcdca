/-
  DERIVED: THE SHELF's CONTRACTS AT THIS DUMP, IN PLAIN WORDS (tools/lay-plain.mjs out of 'TryzShelf.lean', which tools/lay-shelf.mjs wrote): THE SAME DECLARATIONS UNDER THE SAME NAMES: 'import', 'namespace', 'open', 'def', 'theorem' AND NOTHING ELSE: no command of the shelf's: FOR A HAND-IN. Each laying: the table of numbers ('.._ren') and one theorem, a field a fact of the dump's own or the kernel's comparison; each contract: ONE APPLICATION.
-/
import Derived.Shelf.Strings.Trim
import Derived.Shelf.Small.Utf8
import Derived.Shelf.Small.Strs
import Derived.Shelf.Strconv.Atoi
import Derived.Shelf.Strconv.Itoa0
import Derived.Shelf.Strconv.Itoa1
import Derived.Shelf.LaysM
import Derived.Shelf.Strconv.Itoa2
import Derived.Shelf.Strconv.Itoa3
import Derived.Shelf.Strings.Search1
import Derived.Shelf.Strings.Prefix
import Derived.Shelf.Strings.Runes
import Derived.Shelf.Strings.IndexAny
import Derived.Shelf.Strings.AsciiSet
import Derived.Shelf.Strings.IndexAnyAll
import Derived.Shelf.Unicode.DecodeSlow
import Derived.Shelf.Slices.Turned
import Derived.Test.YtenojladalnifaaGreatDoorProg
namespace Go.Proofs
open Go.Shelf
def Tryz.lays231_ren : Go.Shelf.Ren := ⟨fun | 231 => 75 | n => n, fun | 9 => 9 | 5 => 5 | 3 => 3 | 4 => 4 | n => n, fun | n => n⟩
theorem Tryz.lays231 : Go.Proofs.Lays.n231 Tryz.prog Tryz.lays231_ren := {
  mixed := by kernel_rfl
  f231 := Tryz.func75.trans (congrArg some (by kernel_rfl))
  t3 := Tryz.underlying3
  a3 := Tryz.isAgg3
  z3 := Tryz.sizeOf3
  v3 := Tryz.zeroValue3
  t4 := Tryz.underlying4
  a4 := Tryz.isAgg4
  z4 := Tryz.sizeOf4
  v4 := Tryz.zeroValue4
  t5 := Tryz.underlying5
  a5 := Tryz.isAgg5
  z5 := Tryz.sizeOf5
  v5 := Tryz.zeroValue5
  t9 := Tryz.underlying9
  a9 := Tryz.isAgg9
  z9 := Tryz.sizeOf9
  v9 := Tryz.zeroValue9 }
open Go.RowKit in
/-- strings.trimLeftByte (no doc; what TrimLeft and Trim call at a cutset of one ASCII byte): the leading bytes that are c are cut off. The world is as it was. (LAID: no walk: one application.) -/
theorem Tryz.strings_trimLeftByte (s : ByteArray) (c : UInt8) (w : World) :
    Calls Tryz.prog 75 #[.string s, .int .u8 c.toNat] w fun e w' => e = .returned (.string ⟨(Lib.trimLeftB s.data.toList c).toArray⟩) ∧ w' = w := Any.strings_trimLeftByte Tryz.lays231 s c w
def Tryz.lays232_ren : Go.Shelf.Ren := ⟨fun | 232 => 76 | n => n, fun | 9 => 9 | 5 => 5 | 3 => 3 | 4 => 4 | n => n, fun | n => n⟩
theorem Tryz.lays232 : Go.Proofs.Lays.n232 Tryz.prog Tryz.lays232_ren := {
  mixed := by kernel_rfl
  f232 := Tryz.func76.trans (congrArg some (by kernel_rfl))
  t3 := Tryz.underlying3
  a3 := Tryz.isAgg3
  z3 := Tryz.sizeOf3
  v3 := Tryz.zeroValue3
  t4 := Tryz.underlying4
  a4 := Tryz.isAgg4
  z4 := Tryz.sizeOf4
  v4 := Tryz.zeroValue4
  t5 := Tryz.underlying5
  a5 := Tryz.isAgg5
  z5 := Tryz.sizeOf5
  v5 := Tryz.zeroValue5
  t9 := Tryz.underlying9
  a9 := Tryz.isAgg9
  z9 := Tryz.sizeOf9
  v9 := Tryz.zeroValue9 }
open Go.RowKit in
/-- strings.trimRightByte (no doc; what TrimRight and Trim call at a cutset of one ASCII byte): the trailing bytes that are c are cut off. The world is as it was. ('hs': a string's length is a number that an int holds.) (LAID: no walk: one application.) -/
theorem Tryz.strings_trimRightByte (s : ByteArray) (c : UInt8) (w : World) (hs : s.size ≤ 9223372036854775807) :
    Calls Tryz.prog 76 #[.string s, .int .u8 c.toNat] w fun e w' => e = .returned (.string ⟨(Lib.trimRightB s.data.toList c).toArray⟩) ∧ w' = w := Any.strings_trimRightByte Tryz.lays232 s c w hs
def Tryz.lays160_ren : Go.Shelf.Ren := ⟨fun | 160 => 58 | 232 => 76 | 231 => 75 | 227 => 77 | 234 => 79 | 233 => 78 | 236 => 81 | 235 => 80 | 228 => 90 | 271 => 92 | 151 => 71 | 197 => 91 | 120 => 100 | 152 => 88 | 260 => 99 | 137 => 95 | 119 => 96 | 224 => 97 | 225 => 98 | 217 => 101 | 266 => 102 | n => n, fun | 9 => 9 | 4 => 4 | 3 => 3 | 5 => 5 | 117 => 126 | 116 => 125 | 0 => 0 | 124 => 129 | 21 => 21 | 105 => 139 | 46 => 118 | 119 => 149 | 139 => 152 | 138 => 151 | n => n, fun | 3 => 6 | 4 => 7 | n => n⟩
theorem Tryz.lays160 : Go.Proofs.Lays.n160 Tryz.prog Tryz.lays160_ren := {
  mixed := by kernel_rfl
  f119 := Tryz.func96.trans (congrArg some (by kernel_rfl))
  f120 := Tryz.func100.trans (congrArg some (by kernel_rfl))
  f137 := Tryz.func95.trans (congrArg some (by kernel_rfl))
  f151 := Tryz.func71.trans (congrArg some (by kernel_rfl))
  f152 := Tryz.func88.trans (congrArg some (by kernel_rfl))
  f160 := Tryz.func58.trans (congrArg some (by kernel_rfl))
  f197 := Tryz.func91.trans (congrArg some (by kernel_rfl))
  f217 := Tryz.func101.trans (congrArg some (by kernel_rfl))
  f224 := Tryz.func97.trans (congrArg some (by kernel_rfl))
  f225 := Tryz.func98.trans (congrArg some (by kernel_rfl))
  f227 := Tryz.func77.trans (congrArg some (by kernel_rfl))
  f228 := Tryz.func90.trans (congrArg some (by kernel_rfl))
  f231 := Tryz.func75.trans (congrArg some (by kernel_rfl))
  f232 := Tryz.func76.trans (congrArg some (by kernel_rfl))
  f233 := Tryz.func78.trans (congrArg some (by kernel_rfl))
  f234 := Tryz.func79.trans (congrArg some (by kernel_rfl))
  f235 := Tryz.func80.trans (congrArg some (by kernel_rfl))
  f236 := Tryz.func81.trans (congrArg some (by kernel_rfl))
  f260 := Tryz.func99.trans (congrArg some (by kernel_rfl))
  f266 := Tryz.func102.trans (congrArg some (by kernel_rfl))
  f271 := Tryz.func92.trans (congrArg some (by kernel_rfl))
  t0 := Tryz.underlying0
  a0 := Tryz.isAgg0
  z0 := Tryz.sizeOf0
  v0 := Tryz.zeroValue0
  t3 := Tryz.underlying3
  a3 := Tryz.isAgg3
  z3 := Tryz.sizeOf3
  v3 := Tryz.zeroValue3
  t4 := Tryz.underlying4
  a4 := Tryz.isAgg4
  z4 := Tryz.sizeOf4
  v4 := Tryz.zeroValue4
  t5 := Tryz.underlying5
  a5 := Tryz.isAgg5
  z5 := Tryz.sizeOf5
  v5 := Tryz.zeroValue5
  t9 := Tryz.underlying9
  a9 := Tryz.isAgg9
  z9 := Tryz.sizeOf9
  v9 := Tryz.zeroValue9
  t21 := Tryz.underlying21
  a21 := Tryz.isAgg21
  z21 := Tryz.sizeOf21
  v21 := Tryz.zeroValue21
  t46 := Tryz.underlying118
  a46 := Tryz.isAgg118
  z46 := Tryz.sizeOf118
  v46 := Tryz.zeroValue118
  t105 := Tryz.underlying139
  a105 := Tryz.isAgg139
  z105 := Tryz.sizeOf139
  v105 := Tryz.zeroValue139
  t116 := Tryz.underlying125
  a116 := Tryz.isAgg125
  z116 := Tryz.sizeOf125
  t117 := Tryz.underlying126
  a117 := Tryz.isAgg126
  z117 := Tryz.sizeOf126
  v117 := Tryz.zeroValue126
  t119 := Tryz.underlying149
  a119 := Tryz.isAgg149
  z119 := Tryz.sizeOf149
  t124 := Tryz.underlying129
  a124 := Tryz.isAgg129
  z124 := Tryz.sizeOf129
  v124 := Tryz.zeroValue129
  t138 := Tryz.underlying151
  a138 := Tryz.isAgg151
  z138 := Tryz.sizeOf151
  v138 := Tryz.zeroValue151
  t139 := Tryz.underlying152
  a139 := Tryz.isAgg152
  z139 := Tryz.sizeOf152
  v139 := Tryz.zeroValue152
  g3 := by kernel_rfl
  g4 := by kernel_rfl }
open Go.RowKit in
/-- strings.Trim: "Trim returns a slice of the string s with all leading and trailing Unicode code points contained in cutset removed.": AT A cutset OF ONE ASCII BYTE. THE WORLD BEHIND IT: as it was, or (where s is not empty) with ONE DRAW MORE off the tape: the statement 'return trimLeftByte(trimRightByte(s, c), c)' draws its order of evaluation. (LAID: no walk: one application.) -/
theorem Tryz.strings_Trim_one (s : ByteArray) (c : UInt8) (hc : c.toNat < 128) (w : World) (hs : s.size ≤ 9223372036854775807) :
    Calls Tryz.prog 58 #[.string s, .string ⟨#[c]⟩] w fun e w' => e = .returned (.string ⟨(Lib.trimB s.data.toList c).toArray⟩) ∧ (w' = w ∨ w' = w.drew) := Any.strings_Trim_one Tryz.lays160 s c hc w hs
def Tryz.lays119_ren : Go.Shelf.Ren := ⟨fun | 119 => 96 | n => n, fun | 21 => 21 | 4 => 4 | n => n, fun | n => n⟩
theorem Tryz.lays119 : Go.Proofs.Lays.n119 Tryz.prog Tryz.lays119_ren := {
  mixed := by kernel_rfl
  f119 := Tryz.func96.trans (congrArg some (by kernel_rfl))
  t4 := Tryz.underlying4
  a4 := Tryz.isAgg4
  z4 := Tryz.sizeOf4
  v4 := Tryz.zeroValue4
  t21 := Tryz.underlying21
  a21 := Tryz.isAgg21
  z21 := Tryz.sizeOf21
  v21 := Tryz.zeroValue21 }
/-- utf8.ValidRune: "ValidRune reports whether r can be legally encoded as UTF-8. Code points that are out of range or a surrogate half are illegal.": IT RETURNS 'Lib.validRune r'; the world is as it was. (LAID: no walk: one application.) -/
theorem Tryz.utf8_ValidRune (r : Int) (w : World) :
    Calls Tryz.prog 96 #[.int .i32 r] w fun e w' => e = .returned (.bool (Lib.validRune r)) ∧ w' = w := Any.utf8_ValidRune Tryz.lays119 r w
def Tryz.lays120_ren : Go.Shelf.Ren := ⟨fun | 120 => 100 | n => n, fun | 5 => 5 | 4 => 4 | n => n, fun | n => n⟩
theorem Tryz.lays120 : Go.Proofs.Lays.n120 Tryz.prog Tryz.lays120_ren := {
  mixed := by kernel_rfl
  f120 := Tryz.func100.trans (congrArg some (by kernel_rfl))
  t4 := Tryz.underlying4
  a4 := Tryz.isAgg4
  z4 := Tryz.sizeOf4
  v4 := Tryz.zeroValue4
  t5 := Tryz.underlying5
  a5 := Tryz.isAgg5
  z5 := Tryz.sizeOf5
  v5 := Tryz.zeroValue5 }
/-- utf8.RuneStart: "RuneStart reports whether the byte could be the first byte of an encoded, possibly invalid rune. Second and subsequent bytes always have the top two bits set to 10.": IT RETURNS 'Lib.runeStart b'; the world is as it was. ('h0', 'h1': b is a byte: a caller has it of every byte that it was handed.) (LAID: no walk: one application.) -/
theorem Tryz.utf8_RuneStart (b : Int) (w : World) (h0 : 0 ≤ b) (h1 : b < 256) :
    Calls Tryz.prog 100 #[.int .u8 b] w fun e w' => e = .returned (.bool (Lib.runeStart b)) ∧ w' = w := Any.utf8_RuneStart Tryz.lays120 b w h0 h1
def Tryz.lays137_ren : Go.Shelf.Ren := ⟨fun | 137 => 95 | 217 => 101 | 266 => 102 | n => n, fun | 9 => 9 | 5 => 5 | 3 => 3 | n => n, fun | n => n⟩
theorem Tryz.lays137 : Go.Proofs.Lays.n137 Tryz.prog Tryz.lays137_ren := {
  mixed := by kernel_rfl
  f137 := Tryz.func95.trans (congrArg some (by kernel_rfl))
  f217 := Tryz.func101.trans (congrArg some (by kernel_rfl))
  f266 := Tryz.func102.trans (congrArg some (by kernel_rfl))
  t3 := Tryz.underlying3
  a3 := Tryz.isAgg3
  z3 := Tryz.sizeOf3
  v3 := Tryz.zeroValue3
  t5 := Tryz.underlying5
  a5 := Tryz.isAgg5
  z5 := Tryz.sizeOf5
  v5 := Tryz.zeroValue5
  t9 := Tryz.underlying9
  a9 := Tryz.isAgg9
  z9 := Tryz.sizeOf9
  v9 := Tryz.zeroValue9 }
open Go.RowKit in
/-- strings.IndexByte: "IndexByte returns the index of the first instance of c in s, or -1 if c is not present in s.": IT RETURNS 'Lib.indexByte s c'; the world is as it was. (LAID: no walk: one application.) -/
theorem Tryz.strings_IndexByte (s : ByteArray) (c : Int) (w : World) :
    Calls Tryz.prog 95 #[.string s, .int .u8 c] w fun e w' => e = .returned (.int .i64 (Lib.indexByte s.data.toList c.toNat.toUInt8)) ∧ w' = w := Any.strings_IndexByte Tryz.lays137 s c w
def Tryz.lays244_ren : Go.Shelf.Ren := ⟨fun | 244 => 46 | 247 => 61 | 287 => 83 | 321 => 93 | 322 => 94 | n => n, fun | 9 => 9 | 3 => 3 | 75 => 79 | 4 => 4 | 5 => 5 | 167 => 106 | 37 => 74 | 0 => 0 | 85 => 107 | 2 => 2 | 53 => 94 | 175 => 131 | 46 => 118 | 21 => 21 | 80 => 153 | n => n, fun | n => n⟩
theorem Tryz.lays244 : Go.Proofs.Lays.n244 Tryz.prog Tryz.lays244_ren := {
  mixed := by kernel_rfl
  f244 := Tryz.func46.trans (congrArg some (by kernel_rfl))
  f247 := Tryz.func61.trans (congrArg some (by kernel_rfl))
  f287 := Tryz.func83.trans (congrArg some (by kernel_rfl))
  f321 := Tryz.func93.trans (congrArg some (by kernel_rfl))
  f322 := Tryz.func94.trans (congrArg some (by kernel_rfl))
  t0 := Tryz.underlying0
  a0 := Tryz.isAgg0
  z0 := Tryz.sizeOf0
  v0 := Tryz.zeroValue0
  t2 := Tryz.underlying2
  a2 := Tryz.isAgg2
  z2 := Tryz.sizeOf2
  v2 := Tryz.zeroValue2
  t3 := Tryz.underlying3
  a3 := Tryz.isAgg3
  z3 := Tryz.sizeOf3
  v3 := Tryz.zeroValue3
  t4 := Tryz.underlying4
  a4 := Tryz.isAgg4
  z4 := Tryz.sizeOf4
  v4 := Tryz.zeroValue4
  t5 := Tryz.underlying5
  a5 := Tryz.isAgg5
  z5 := Tryz.sizeOf5
  v5 := Tryz.zeroValue5
  t9 := Tryz.underlying9
  a9 := Tryz.isAgg9
  z9 := Tryz.sizeOf9
  v9 := Tryz.zeroValue9
  t21 := Tryz.underlying21
  a21 := Tryz.isAgg21
  z21 := Tryz.sizeOf21
  v21 := Tryz.zeroValue21
  t37 := Tryz.underlying74
  a37 := Tryz.isAgg74
  z37 := Tryz.sizeOf74
  v37 := Tryz.zeroValue74
  t46 := Tryz.underlying118
  a46 := Tryz.isAgg118
  z46 := Tryz.sizeOf118
  v46 := Tryz.zeroValue118
  t53 := Tryz.underlying94
  a53 := Tryz.isAgg94
  z53 := Tryz.sizeOf94
  v53 := Tryz.zeroValue94
  t75 := Tryz.underlying79
  a75 := Tryz.isAgg79
  z75 := Tryz.sizeOf79
  v75 := Tryz.zeroValue79
  t85 := Tryz.underlying107
  a85 := Tryz.isAgg107
  z85 := Tryz.sizeOf107
  v85 := Tryz.zeroValue107
  t167 := Tryz.underlying106
  a167 := Tryz.isAgg106
  z167 := Tryz.sizeOf106
  v167 := Tryz.zeroValue106
  t175 := Tryz.underlying131
  a175 := Tryz.isAgg131
  z175 := Tryz.sizeOf131
  v175 := Tryz.zeroValue131 }
open Go.RowKit in
/-- internal/strconv.Atoi, at a decimal numeral of at most 18 bytes: ITS VALUE, AND NO ERROR. The world behind the call: the one new row that '[]byte(s)' lays. (LAID: no walk: one application.) -/
theorem Tryz.internal_strconv_Atoi (s : ByteArray) (n : Int) (hl : s.size ≤ 18) (h : Lib.atoi s.data.toList = some n) (w : World) :
    Calls Tryz.prog 46 #[.string s] w fun e w' => e = .returned (.tuple #[.int .i64 n, .nilIface]) ∧ ∃ t, w' = Lib.bytesWorld w 5 t := Any.internal_strconv_Atoi Tryz.lays244 s n hl h w
def Tryz.lays172_ren : Go.Shelf.Ren := ⟨fun | 172 => 32 | 244 => 46 | 245 => 47 | 247 => 61 | 279 => 62 | 280 => 63 | 281 => 64 | 282 => 65 | 287 => 83 | 316 => 84 | 171 => 13 | 205 => 85 | 321 => 93 | 322 => 94 | 243 => 23 | 246 => 33 | 283 => 48 | 284 => 49 | 285 => 50 | 286 => 51 | 129 => 67 | 317 => 66 | 318 => 68 | 319 => 69 | 320 => 70 | 337 => 86 | 338 => 87 | n => n, fun | 9 => 9 | 3 => 3 | 75 => 79 | 76 => 80 | 4 => 4 | 5 => 5 | 167 => 106 | 37 => 74 | 0 => 0 | 85 => 107 | 2 => 2 | 168 => 109 | 53 => 94 | 175 => 131 | 46 => 118 | 210 => 134 | 127 => 142 | 145 => 145 | 143 => 143 | 21 => 21 | 171 => 93 | 173 => 97 | 212 => 114 | 51 => 115 | 20 => 20 | 213 => 116 | 232 => 146 | 233 => 147 | 80 => 153 | n => n, fun | 15 => 1 | 16 => 2 | 17 => 0 | 18 => 3 | 19 => 4 | n => n⟩
theorem Tryz.lays172 : Go.Proofs.Lays.n172 Tryz.prog Tryz.lays172_ren := {
  mixed := by kernel_rfl
  f129 := Tryz.func67.trans (congrArg some (by kernel_rfl))
  f171 := Tryz.func13.trans (congrArg some (by kernel_rfl))
  f172 := Tryz.func32.trans (congrArg some (by kernel_rfl))
  f205 := Tryz.func85.trans (congrArg some (by kernel_rfl))
  f243 := Tryz.func23.trans (congrArg some (by kernel_rfl))
  f244 := Tryz.func46.trans (congrArg some (by kernel_rfl))
  f245 := Tryz.func47.trans (congrArg some (by kernel_rfl))
  f246 := Tryz.func33.trans (congrArg some (by kernel_rfl))
  f247 := Tryz.func61.trans (congrArg some (by kernel_rfl))
  f279 := Tryz.func62.trans (congrArg some (by kernel_rfl))
  f280 := Tryz.func63.trans (congrArg some (by kernel_rfl))
  f281 := Tryz.func64.trans (congrArg some (by kernel_rfl))
  f282 := Tryz.func65.trans (congrArg some (by kernel_rfl))
  f283 := Tryz.func48.trans (congrArg some (by kernel_rfl))
  f284 := Tryz.func49.trans (congrArg some (by kernel_rfl))
  f285 := Tryz.func50.trans (congrArg some (by kernel_rfl))
  f286 := Tryz.func51.trans (congrArg some (by kernel_rfl))
  f287 := Tryz.func83.trans (congrArg some (by kernel_rfl))
  f316 := Tryz.func84.trans (congrArg some (by kernel_rfl))
  f317 := Tryz.func66.trans (congrArg some (by kernel_rfl))
  f318 := Tryz.func68.trans (congrArg some (by kernel_rfl))
  f319 := Tryz.func69.trans (congrArg some (by kernel_rfl))
  f320 := Tryz.func70.trans (congrArg some (by kernel_rfl))
  f321 := Tryz.func93.trans (congrArg some (by kernel_rfl))
  f322 := Tryz.func94.trans (congrArg some (by kernel_rfl))
  f337 := Tryz.func86.trans (congrArg some (by kernel_rfl))
  f338 := Tryz.func87.trans (congrArg some (by kernel_rfl))
  t0 := Tryz.underlying0
  a0 := Tryz.isAgg0
  z0 := Tryz.sizeOf0
  v0 := Tryz.zeroValue0
  t2 := Tryz.underlying2
  a2 := Tryz.isAgg2
  z2 := Tryz.sizeOf2
  v2 := Tryz.zeroValue2
  t3 := Tryz.underlying3
  a3 := Tryz.isAgg3
  z3 := Tryz.sizeOf3
  v3 := Tryz.zeroValue3
  t4 := Tryz.underlying4
  a4 := Tryz.isAgg4
  z4 := Tryz.sizeOf4
  v4 := Tryz.zeroValue4
  t5 := Tryz.underlying5
  a5 := Tryz.isAgg5
  z5 := Tryz.sizeOf5
  v5 := Tryz.zeroValue5
  t9 := Tryz.underlying9
  a9 := Tryz.isAgg9
  z9 := Tryz.sizeOf9
  v9 := Tryz.zeroValue9
  t20 := Tryz.underlying20
  a20 := Tryz.isAgg20
  z20 := Tryz.sizeOf20
  v20 := Tryz.zeroValue20
  t21 := Tryz.underlying21
  a21 := Tryz.isAgg21
  z21 := Tryz.sizeOf21
  v21 := Tryz.zeroValue21
  t37 := Tryz.underlying74
  a37 := Tryz.isAgg74
  z37 := Tryz.sizeOf74
  v37 := Tryz.zeroValue74
  t46 := Tryz.underlying118
  a46 := Tryz.isAgg118
  z46 := Tryz.sizeOf118
  v46 := Tryz.zeroValue118
  t51 := Tryz.underlying115
  a51 := Tryz.isAgg115
  z51 := Tryz.sizeOf115
  v51 := Tryz.zeroValue115
  t53 := Tryz.underlying94
  a53 := Tryz.isAgg94
  z53 := Tryz.sizeOf94
  v53 := Tryz.zeroValue94
  t75 := Tryz.underlying79
  a75 := Tryz.isAgg79
  z75 := Tryz.sizeOf79
  v75 := Tryz.zeroValue79
  t76 := Tryz.underlying80
  a76 := Tryz.isAgg80
  z76 := Tryz.sizeOf80
  v76 := Tryz.zeroValue80
  t85 := Tryz.underlying107
  a85 := Tryz.isAgg107
  z85 := Tryz.sizeOf107
  v85 := Tryz.zeroValue107
  t127 := Tryz.underlying142
  a127 := Tryz.isAgg142
  z127 := Tryz.sizeOf142
  v127 := Tryz.zeroValue142
  t143 := Tryz.underlying143
  a143 := Tryz.isAgg143
  z143 := Tryz.sizeOf143
  v143 := Tryz.zeroValue143
  t145 := Tryz.underlying145
  a145 := Tryz.isAgg145
  z145 := Tryz.sizeOf145
  v145 := Tryz.zeroValue145
  t167 := Tryz.underlying106
  a167 := Tryz.isAgg106
  z167 := Tryz.sizeOf106
  v167 := Tryz.zeroValue106
  t168 := Tryz.underlying109
  a168 := Tryz.isAgg109
  z168 := Tryz.sizeOf109
  v168 := Tryz.zeroValue109
  t171 := Tryz.underlying93
  a171 := Tryz.isAgg93
  z171 := Tryz.sizeOf93
  v171 := Tryz.zeroValue93
  t173 := Tryz.underlying97
  a173 := Tryz.isAgg97
  z173 := Tryz.sizeOf97
  v173 := Tryz.zeroValue97
  t175 := Tryz.underlying131
  a175 := Tryz.isAgg131
  z175 := Tryz.sizeOf131
  v175 := Tryz.zeroValue131
  t210 := Tryz.underlying134
  a210 := Tryz.isAgg134
  z210 := Tryz.sizeOf134
  v210 := Tryz.zeroValue134
  t212 := Tryz.underlying114
  a212 := Tryz.isAgg114
  z212 := Tryz.sizeOf114
  v212 := Tryz.zeroValue114
  t213 := Tryz.underlying116
  a213 := Tryz.isAgg116
  z213 := Tryz.sizeOf116
  t232 := Tryz.underlying146
  a232 := Tryz.isAgg146
  z232 := Tryz.sizeOf146
  v232 := Tryz.zeroValue146
  t233 := Tryz.underlying147
  a233 := Tryz.isAgg147
  z233 := Tryz.sizeOf147
  v233 := Tryz.zeroValue147
  g15 := by kernel_rfl
  g16 := by kernel_rfl
  g17 := by kernel_rfl
  g18 := by kernel_rfl
  g19 := by kernel_rfl }
open Go.RowKit in
/-- strconv.Atoi: "Atoi is equivalent to ParseInt(s, 10, 0), converted to type int.": AT A DECIMAL NUMERAL OF AT MOST 18 BYTES: its value, and a nil error. The world behind the call: the one new row that the library's '[]byte(s)' lays. (LAID: no walk: one application.) -/
theorem Tryz.strconv_Atoi (s : ByteArray) (n : Int) (hl : s.size ≤ 18) (h : Lib.atoi s.data.toList = some n) (w : World) :
    Calls Tryz.prog 32 #[.string s] w fun e w' => e = .returned (.tuple #[.int .i64 n, .nilIface]) ∧ ∃ t, w' = Lib.bytesWorld w 5 t := Any.strconv_Atoi Tryz.lays172 s n hl h w
def Tryz.lays129_ren : Go.Shelf.Ren := ⟨fun | 129 => 67 | n => n, fun | 53 => 94 | 3 => 3 | 4 => 4 | 46 => 118 | 5 => 5 | 9 => 9 | n => n, fun | n => n⟩
theorem Tryz.lays129 : Go.Proofs.Lays.n129 Tryz.prog Tryz.lays129_ren := {
  mixed := by kernel_rfl
  f129 := Tryz.func67.trans (congrArg some (by kernel_rfl))
  t3 := Tryz.underlying3
  a3 := Tryz.isAgg3
  z3 := Tryz.sizeOf3
  v3 := Tryz.zeroValue3
  t4 := Tryz.underlying4
  a4 := Tryz.isAgg4
  z4 := Tryz.sizeOf4
  v4 := Tryz.zeroValue4
  t5 := Tryz.underlying5
  a5 := Tryz.isAgg5
  z5 := Tryz.sizeOf5
  v5 := Tryz.zeroValue5
  t9 := Tryz.underlying9
  a9 := Tryz.isAgg9
  z9 := Tryz.sizeOf9
  v9 := Tryz.zeroValue9
  t46 := Tryz.underlying118
  a46 := Tryz.isAgg118
  z46 := Tryz.sizeOf118
  v46 := Tryz.zeroValue118
  t53 := Tryz.underlying94
  a53 := Tryz.isAgg94
  z53 := Tryz.sizeOf94
  v53 := Tryz.zeroValue94 }
/-- bits.Len64: "Len64 returns the minimum number of bits required to represent x; the result is 0 for x == 0.": IT RETURNS 'Lib.bitLen x'; the world is as it was. ('h0', 'h1': x is a uint64.) (LAID: no walk: one application.) -/
theorem Tryz.bits_Len64 (x : Int) (w : World) (h0 : 0 ≤ x) (h1 : x ≤ 18446744073709551615) :
    Calls Tryz.prog 67 #[.int .u64 x] w fun e w' => e = .returned (.int .i64 (Lib.bitLen x.toNat)) ∧ w' = w := Any.bits_Len64 Tryz.lays129 x w h0 h1
def Tryz.lays317_ren : Go.Shelf.Ren := ⟨fun | 317 => 66 | n => n, fun | 3 => 3 | 46 => 118 | n => n, fun | n => n⟩
theorem Tryz.lays317 : Go.Proofs.Lays.n317 Tryz.prog Tryz.lays317_ren := {
  mixed := by kernel_rfl
  f317 := Tryz.func66.trans (congrArg some (by kernel_rfl))
  t3 := Tryz.underlying3
  a3 := Tryz.isAgg3
  z3 := Tryz.sizeOf3
  v3 := Tryz.zeroValue3
  t46 := Tryz.underlying118
  a46 := Tryz.isAgg118
  z46 := Tryz.sizeOf118
  v46 := Tryz.zeroValue118 }
open Go.Lib in
/-- internal/strconv.log10Pow2: "log10Pow2(x) returns ⌊log₁₀ 2**x⌋ = ⌊x * log₁₀ 2⌋.": '(x * 78913) >> 18', at an x up to 64 (a length in bits). The world is as it was. (LAID: no walk: one application.) -/
theorem Tryz.internal_strconv_log10Pow2 (x : Nat) (h : x ≤ 64) (w : World) :
    Calls Tryz.prog 66 #[.int .i64 x] w fun e w' => e = .returned (.int .i64 (Lib.l10 x)) ∧ w' = w := Any.internal_strconv_log10Pow2 Tryz.lays317 x h w
def Tryz.lays318_ren : Go.Shelf.Ren := ⟨fun | 318 => 68 | n => n, fun | 3 => 3 | 4 => 4 | n => n, fun | n => n⟩
theorem Tryz.lays318 : Go.Proofs.Lays.n318 Tryz.prog Tryz.lays318_ren := {
  mixed := by kernel_rfl
  f318 := Tryz.func68.trans (congrArg some (by kernel_rfl))
  t3 := Tryz.underlying3
  a3 := Tryz.isAgg3
  z3 := Tryz.sizeOf3
  v3 := Tryz.zeroValue3
  t4 := Tryz.underlying4
  a4 := Tryz.isAgg4
  z4 := Tryz.sizeOf4
  v4 := Tryz.zeroValue4 }
open Go.Lib in
/-- internal/strconv.bool2: "bool2 converts b to an integer: 1 for true, 0 for false." The world is as it was. (LAID: no walk: one application.) -/
theorem Tryz.internal_strconv_bool2_int (b : Bool) (w : World) :
    Calls Tryz.prog 68 #[.bool b] w fun e w' => e = .returned (.int .i64 (if b then 1 else 0)) ∧ w' = w := Any.internal_strconv_bool2_int Tryz.lays318 b w
def Tryz.lays283_ren : Go.Shelf.Ren := ⟨fun | 283 => 48 | n => n, fun | 3 => 3 | 9 => 9 | 4 => 4 | n => n, fun | n => n⟩
theorem Tryz.lays283 : Go.Proofs.Lays.n283 Tryz.prog Tryz.lays283_ren := {
  mixed := by kernel_rfl
  f283 := Tryz.func48.trans (congrArg some (by kernel_rfl))
  t3 := Tryz.underlying3
  a3 := Tryz.isAgg3
  z3 := Tryz.sizeOf3
  v3 := Tryz.zeroValue3
  t4 := Tryz.underlying4
  a4 := Tryz.isAgg4
  z4 := Tryz.sizeOf4
  v4 := Tryz.zeroValue4
  t9 := Tryz.underlying9
  a9 := Tryz.isAgg9
  z9 := Tryz.sizeOf9
  v9 := Tryz.zeroValue9 }
open Go.Lib in
/-- internal/strconv.small: "small returns the string for an i with 0 <= i < nSmalls.": i's decimal numeral. The world is as it was. (LAID: no walk: one application.) -/
theorem Tryz.internal_strconv_small (i : Nat) (h : i < 100) (w : World) :
    Calls Tryz.prog 48 #[.int .i64 i] w fun e w' => e = .returned (.string ⟨(Lib.decDigits i).toArray⟩) ∧ w' = w := Any.internal_strconv_small Tryz.lays283 i h w
def Tryz.laysM284_ren : Go.Shelf.Ren := ⟨fun | 284 => 49 | 129 => 67 | 317 => 66 | 318 => 68 | n => n, fun | 53 => 94 | 3 => 3 | 212 => 114 | 0 => 0 | 4 => 4 | 46 => 118 | 5 => 5 | 9 => 9 | n => n, fun | 17 => 0 | n => n⟩
theorem Tryz.laysM284 : Go.Proofs.LaysM.n284 Tryz.prog Tryz.laysM284_ren := {
  mixed := by kernel_rfl
  f129 := Tryz.func67.trans (congrArg some (by kernel_rfl))
  f284 := Tryz.func49.trans (congrArg some (by kernel_rfl))
  f317 := Tryz.func66.trans (congrArg some (by kernel_rfl))
  f318 := Tryz.func68.trans (congrArg some (by kernel_rfl))
  t0 := Tryz.underlying0
  a0 := Tryz.isAgg0
  z0 := Tryz.sizeOf0
  v0 := Tryz.zeroValue0
  t3 := Tryz.underlying3
  a3 := Tryz.isAgg3
  z3 := Tryz.sizeOf3
  v3 := Tryz.zeroValue3
  t4 := Tryz.underlying4
  a4 := Tryz.isAgg4
  z4 := Tryz.sizeOf4
  v4 := Tryz.zeroValue4
  t5 := Tryz.underlying5
  a5 := Tryz.isAgg5
  z5 := Tryz.sizeOf5
  v5 := Tryz.zeroValue5
  t9 := Tryz.underlying9
  a9 := Tryz.isAgg9
  z9 := Tryz.sizeOf9
  v9 := Tryz.zeroValue9
  t46 := Tryz.underlying118
  a46 := Tryz.isAgg118
  z46 := Tryz.sizeOf118
  v46 := Tryz.zeroValue118
  t53 := Tryz.underlying94
  a53 := Tryz.isAgg94
  z53 := Tryz.sizeOf94
  v53 := Tryz.zeroValue94
  t212 := Tryz.underlying114
  a212 := Tryz.isAgg114
  z212 := Tryz.sizeOf114
  v212 := Tryz.zeroValue114
  g17 := by kernel_rfl
  i0 := by kernel_rfl
  i3 := by kernel_rfl
  i4 := by kernel_rfl
  i5 := by kernel_rfl
  i9 := by kernel_rfl
  i46 := by kernel_rfl
  i53 := by kernel_rfl
  i212 := by kernel_rfl
  m17 := by kernel_rfl }
open Go.Lib in
/-- internal/strconv.numDigits, at a d that is not 0: THE NUMBER OF d's DECIMAL DIGITS. The world is as it was. (LAID: no walk: one application.) -/
theorem Tryz.internal_strconv_numDigits (u : Nat) (h1 : 1 ≤ u) (h2 : u < 18446744073709551616) (w : World) (htab : Lib.TabIs Tryz.prog w "internal/strconv.uint64pow10" .u64 Lib.pow10Tab) :
    Calls Tryz.prog 49 #[.int .u64 u] w fun e w' => e = .returned (.int .i64 (Lib.nDigits u)) ∧ w' = w := Any.internal_strconv_numDigits Tryz.laysM284 u h1 h2 w htab
def Tryz.lays285_ren : Go.Shelf.Ren := ⟨fun | 285 => 50 | n => n, fun | 37 => 74 | 53 => 94 | 3 => 3 | 4 => 4 | 51 => 115 | 9 => 9 | 5 => 5 | 0 => 0 | n => n, fun | n => n⟩
theorem Tryz.lays285 : Go.Proofs.Lays.n285 Tryz.prog Tryz.lays285_ren := {
  mixed := by kernel_rfl
  f285 := Tryz.func50.trans (congrArg some (by kernel_rfl))
  t0 := Tryz.underlying0
  a0 := Tryz.isAgg0
  z0 := Tryz.sizeOf0
  v0 := Tryz.zeroValue0
  t3 := Tryz.underlying3
  a3 := Tryz.isAgg3
  z3 := Tryz.sizeOf3
  v3 := Tryz.zeroValue3
  t4 := Tryz.underlying4
  a4 := Tryz.isAgg4
  z4 := Tryz.sizeOf4
  v4 := Tryz.zeroValue4
  t5 := Tryz.underlying5
  a5 := Tryz.isAgg5
  z5 := Tryz.sizeOf5
  v5 := Tryz.zeroValue5
  t9 := Tryz.underlying9
  a9 := Tryz.isAgg9
  z9 := Tryz.sizeOf9
  v9 := Tryz.zeroValue9
  t37 := Tryz.underlying74
  a37 := Tryz.isAgg74
  z37 := Tryz.sizeOf74
  v37 := Tryz.zeroValue74
  t51 := Tryz.underlying115
  a51 := Tryz.isAgg115
  z51 := Tryz.sizeOf115
  v51 := Tryz.zeroValue115
  t53 := Tryz.underlying94
  a53 := Tryz.isAgg94
  z53 := Tryz.sizeOf94
  v53 := Tryz.zeroValue94 }
open Go.RowKit Go.Sort Go.Lib in
/-- internal/strconv.formatBase10: "formatBase10 formats the decimal representation of u into a. The caller is responsible for ensuring that a is big enough to hold u. If a is too big, leading zeros will be filled in as needed.": THE ROW HOLDS u's DIGITS ('FmtInv .. 0 ..': every place t holds 'dg u (len - 1 - t)'); all else is as it was but for the count of draws. (LAID: no walk: one application.) -/
theorem Tryz.internal_strconv_formatBase10 (blk off cap : Nat) (u : Nat) (d : Array UInt8) (w : World) (hH : Holds (fun (b : UInt8) => Value.int .u8 (b.toNat : Int)) w blk off d) (hu : u < 10 ^ d.size) (hu64 : u < 18446744073709551616) (hsz : d.size < 4611686018427387904) :
    Calls Tryz.prog 50 #[.slice (some ⟨blk, off, none⟩) d.size cap, .int .u64 u] w fun e w' =>
      e = .returned (.tuple #[]) ∧ ∃ (n v' : Nat) (dk : Array UInt8), w' = (putRow (fun (b : UInt8) => Value.int .u8 (b.toNat : Int)) w blk off dk).drewN n ∧ FmtInv d.size u 0 v' dk := Any.internal_strconv_formatBase10 Tryz.lays285 blk off cap u d w hH hu hu64 hsz
def Tryz.laysM246_ren : Go.Shelf.Ren := ⟨fun | 246 => 33 | 283 => 48 | 284 => 49 | 285 => 50 | 286 => 51 | 129 => 67 | 317 => 66 | 318 => 68 | 319 => 69 | 320 => 70 | 337 => 86 | 338 => 87 | n => n, fun | 2 => 2 | 3 => 3 | 9 => 9 | 4 => 4 | 171 => 93 | 0 => 0 | 53 => 94 | 37 => 74 | 5 => 5 | 173 => 97 | 212 => 114 | 51 => 115 | 20 => 20 | 213 => 116 | 46 => 118 | 232 => 146 | 233 => 147 | n => n, fun | 17 => 0 | 18 => 3 | 19 => 4 | n => n⟩
theorem Tryz.laysM246 : Go.Proofs.LaysM.n246 Tryz.prog Tryz.laysM246_ren := {
  mixed := by kernel_rfl
  f129 := Tryz.func67.trans (congrArg some (by kernel_rfl))
  f246 := Tryz.func33.trans (congrArg some (by kernel_rfl))
  f283 := Tryz.func48.trans (congrArg some (by kernel_rfl))
  f284 := Tryz.func49.trans (congrArg some (by kernel_rfl))
  f285 := Tryz.func50.trans (congrArg some (by kernel_rfl))
  f286 := Tryz.func51.trans (congrArg some (by kernel_rfl))
  f317 := Tryz.func66.trans (congrArg some (by kernel_rfl))
  f318 := Tryz.func68.trans (congrArg some (by kernel_rfl))
  f319 := Tryz.func69.trans (congrArg some (by kernel_rfl))
  f320 := Tryz.func70.trans (congrArg some (by kernel_rfl))
  f337 := Tryz.func86.trans (congrArg some (by kernel_rfl))
  f338 := Tryz.func87.trans (congrArg some (by kernel_rfl))
  t0 := Tryz.underlying0
  a0 := Tryz.isAgg0
  z0 := Tryz.sizeOf0
  v0 := Tryz.zeroValue0
  t2 := Tryz.underlying2
  a2 := Tryz.isAgg2
  z2 := Tryz.sizeOf2
  v2 := Tryz.zeroValue2
  t3 := Tryz.underlying3
  a3 := Tryz.isAgg3
  z3 := Tryz.sizeOf3
  v3 := Tryz.zeroValue3
  t4 := Tryz.underlying4
  a4 := Tryz.isAgg4
  z4 := Tryz.sizeOf4
  v4 := Tryz.zeroValue4
  t5 := Tryz.underlying5
  a5 := Tryz.isAgg5
  z5 := Tryz.sizeOf5
  v5 := Tryz.zeroValue5
  t9 := Tryz.underlying9
  a9 := Tryz.isAgg9
  z9 := Tryz.sizeOf9
  v9 := Tryz.zeroValue9
  t20 := Tryz.underlying20
  a20 := Tryz.isAgg20
  z20 := Tryz.sizeOf20
  v20 := Tryz.zeroValue20
  t37 := Tryz.underlying74
  a37 := Tryz.isAgg74
  z37 := Tryz.sizeOf74
  v37 := Tryz.zeroValue74
  t46 := Tryz.underlying118
  a46 := Tryz.isAgg118
  z46 := Tryz.sizeOf118
  v46 := Tryz.zeroValue118
  t51 := Tryz.underlying115
  a51 := Tryz.isAgg115
  z51 := Tryz.sizeOf115
  v51 := Tryz.zeroValue115
  t53 := Tryz.underlying94
  a53 := Tryz.isAgg94
  z53 := Tryz.sizeOf94
  v53 := Tryz.zeroValue94
  t171 := Tryz.underlying93
  a171 := Tryz.isAgg93
  z171 := Tryz.sizeOf93
  v171 := Tryz.zeroValue93
  t173 := Tryz.underlying97
  a173 := Tryz.isAgg97
  z173 := Tryz.sizeOf97
  v173 := Tryz.zeroValue97
  t212 := Tryz.underlying114
  a212 := Tryz.isAgg114
  z212 := Tryz.sizeOf114
  v212 := Tryz.zeroValue114
  t213 := Tryz.underlying116
  a213 := Tryz.isAgg116
  z213 := Tryz.sizeOf116
  t232 := Tryz.underlying146
  a232 := Tryz.isAgg146
  z232 := Tryz.sizeOf146
  v232 := Tryz.zeroValue146
  t233 := Tryz.underlying147
  a233 := Tryz.isAgg147
  z233 := Tryz.sizeOf147
  v233 := Tryz.zeroValue147
  g17 := by kernel_rfl
  g18 := by kernel_rfl
  g19 := by kernel_rfl
  i0 := by kernel_rfl
  i2 := by kernel_rfl
  i3 := by kernel_rfl
  i4 := by kernel_rfl
  i5 := by kernel_rfl
  i9 := by kernel_rfl
  i20 := by kernel_rfl
  i37 := by kernel_rfl
  i46 := by kernel_rfl
  i51 := by kernel_rfl
  i53 := by kernel_rfl
  i171 := by kernel_rfl
  i173 := by kernel_rfl
  i212 := by kernel_rfl
  i232 := by kernel_rfl
  i233 := by kernel_rfl
  m17 := by kernel_rfl
  m18 := by kernel_rfl
  m19 := by kernel_rfl }
open Go.RowKit Go.Sort Go.Lib in
/-- internal/strconv.FormatInt: "FormatInt returns the string representation of i in the given base": AT BASE 10: i's decimal numeral, for every int64. The world behind the call: the world before it, new blocks behind the heap, draws. (LAID: no walk: one application.) -/
theorem Tryz.internal_strconv_FormatInt_10 (n : Int) (h0 : -9223372036854775808 ≤ n) (h1 : n ≤ 9223372036854775807) (w : World) (htab : Lib.TabIs Tryz.prog w "internal/strconv.uint64pow10" .u64 Lib.pow10Tab) :
    Calls Tryz.prog 33 #[.int .i64 n, .int .i64 10] w fun e w' => e = .returned (.string ⟨(Lib.itoa n).toArray⟩) ∧ ∃ k os, w' = grow (w.drewN k) os := Any.internal_strconv_FormatInt_10 Tryz.laysM246 n h0 h1 w htab
def Tryz.lays246_ren : Go.Shelf.Ren := ⟨fun | 246 => 33 | 283 => 48 | 284 => 49 | 285 => 50 | 286 => 51 | 129 => 67 | 317 => 66 | 318 => 68 | 319 => 69 | 320 => 70 | 337 => 86 | 338 => 87 | n => n, fun | 2 => 2 | 3 => 3 | 9 => 9 | 4 => 4 | 171 => 93 | 0 => 0 | 53 => 94 | 37 => 74 | 5 => 5 | 173 => 97 | 212 => 114 | 51 => 115 | 20 => 20 | 213 => 116 | 46 => 118 | 232 => 146 | 233 => 147 | n => n, fun | 17 => 0 | 18 => 3 | 19 => 4 | n => n⟩
theorem Tryz.lays246 : Go.Proofs.Lays.n246 Tryz.prog Tryz.lays246_ren := {
  mixed := by kernel_rfl
  f129 := Tryz.func67.trans (congrArg some (by kernel_rfl))
  f246 := Tryz.func33.trans (congrArg some (by kernel_rfl))
  f283 := Tryz.func48.trans (congrArg some (by kernel_rfl))
  f284 := Tryz.func49.trans (congrArg some (by kernel_rfl))
  f285 := Tryz.func50.trans (congrArg some (by kernel_rfl))
  f286 := Tryz.func51.trans (congrArg some (by kernel_rfl))
  f317 := Tryz.func66.trans (congrArg some (by kernel_rfl))
  f318 := Tryz.func68.trans (congrArg some (by kernel_rfl))
  f319 := Tryz.func69.trans (congrArg some (by kernel_rfl))
  f320 := Tryz.func70.trans (congrArg some (by kernel_rfl))
  f337 := Tryz.func86.trans (congrArg some (by kernel_rfl))
  f338 := Tryz.func87.trans (congrArg some (by kernel_rfl))
  t0 := Tryz.underlying0
  a0 := Tryz.isAgg0
  z0 := Tryz.sizeOf0
  v0 := Tryz.zeroValue0
  t2 := Tryz.underlying2
  a2 := Tryz.isAgg2
  z2 := Tryz.sizeOf2
  v2 := Tryz.zeroValue2
  t3 := Tryz.underlying3
  a3 := Tryz.isAgg3
  z3 := Tryz.sizeOf3
  v3 := Tryz.zeroValue3
  t4 := Tryz.underlying4
  a4 := Tryz.isAgg4
  z4 := Tryz.sizeOf4
  v4 := Tryz.zeroValue4
  t5 := Tryz.underlying5
  a5 := Tryz.isAgg5
  z5 := Tryz.sizeOf5
  v5 := Tryz.zeroValue5
  t9 := Tryz.underlying9
  a9 := Tryz.isAgg9
  z9 := Tryz.sizeOf9
  v9 := Tryz.zeroValue9
  t20 := Tryz.underlying20
  a20 := Tryz.isAgg20
  z20 := Tryz.sizeOf20
  v20 := Tryz.zeroValue20
  t37 := Tryz.underlying74
  a37 := Tryz.isAgg74
  z37 := Tryz.sizeOf74
  v37 := Tryz.zeroValue74
  t46 := Tryz.underlying118
  a46 := Tryz.isAgg118
  z46 := Tryz.sizeOf118
  v46 := Tryz.zeroValue118
  t51 := Tryz.underlying115
  a51 := Tryz.isAgg115
  z51 := Tryz.sizeOf115
  v51 := Tryz.zeroValue115
  t53 := Tryz.underlying94
  a53 := Tryz.isAgg94
  z53 := Tryz.sizeOf94
  v53 := Tryz.zeroValue94
  t171 := Tryz.underlying93
  a171 := Tryz.isAgg93
  z171 := Tryz.sizeOf93
  v171 := Tryz.zeroValue93
  t173 := Tryz.underlying97
  a173 := Tryz.isAgg97
  z173 := Tryz.sizeOf97
  v173 := Tryz.zeroValue97
  t212 := Tryz.underlying114
  a212 := Tryz.isAgg114
  z212 := Tryz.sizeOf114
  v212 := Tryz.zeroValue114
  t213 := Tryz.underlying116
  a213 := Tryz.isAgg116
  z213 := Tryz.sizeOf116
  t232 := Tryz.underlying146
  a232 := Tryz.isAgg146
  z232 := Tryz.sizeOf146
  v232 := Tryz.zeroValue146
  t233 := Tryz.underlying147
  a233 := Tryz.isAgg147
  z233 := Tryz.sizeOf147
  v233 := Tryz.zeroValue147
  g17 := by kernel_rfl
  g18 := by kernel_rfl
  g19 := by kernel_rfl }
open Go.RowKit Go.Sort Go.Lib in
/-- THE ROAD WITHOUT THE TABLE: 0 <= i < 100: two constants are read, nothing is laid: no premise on the world, and the world is as it was. (LAID: no walk: one application.) -/
theorem Tryz.internal_strconv_FormatInt_10_small (i : Nat) (hi : i < 100) (w : World) :
    Calls Tryz.prog 33 #[.int .i64 i, .int .i64 10] w fun e w' => e = .returned (.string ⟨(Lib.decDigits i).toArray⟩) ∧ w' = w := Any.internal_strconv_FormatInt_10_small Tryz.lays246 i hi w
def Tryz.laysM243_ren : Go.Shelf.Ren := ⟨fun | 243 => 23 | 246 => 33 | 283 => 48 | 284 => 49 | 285 => 50 | 286 => 51 | 129 => 67 | 317 => 66 | 318 => 68 | 319 => 69 | 320 => 70 | 337 => 86 | 338 => 87 | n => n, fun | 3 => 3 | 9 => 9 | 2 => 2 | 4 => 4 | 171 => 93 | 0 => 0 | 53 => 94 | 37 => 74 | 5 => 5 | 173 => 97 | 212 => 114 | 51 => 115 | 20 => 20 | 213 => 116 | 46 => 118 | 232 => 146 | 233 => 147 | n => n, fun | 17 => 0 | 18 => 3 | 19 => 4 | n => n⟩
theorem Tryz.laysM243 : Go.Proofs.LaysM.n243 Tryz.prog Tryz.laysM243_ren := {
  mixed := by kernel_rfl
  f129 := Tryz.func67.trans (congrArg some (by kernel_rfl))
  f243 := Tryz.func23.trans (congrArg some (by kernel_rfl))
  f246 := Tryz.func33.trans (congrArg some (by kernel_rfl))
  f283 := Tryz.func48.trans (congrArg some (by kernel_rfl))
  f284 := Tryz.func49.trans (congrArg some (by kernel_rfl))
  f285 := Tryz.func50.trans (congrArg some (by kernel_rfl))
  f286 := Tryz.func51.trans (congrArg some (by kernel_rfl))
  f317 := Tryz.func66.trans (congrArg some (by kernel_rfl))
  f318 := Tryz.func68.trans (congrArg some (by kernel_rfl))
  f319 := Tryz.func69.trans (congrArg some (by kernel_rfl))
  f320 := Tryz.func70.trans (congrArg some (by kernel_rfl))
  f337 := Tryz.func86.trans (congrArg some (by kernel_rfl))
  f338 := Tryz.func87.trans (congrArg some (by kernel_rfl))
  t0 := Tryz.underlying0
  a0 := Tryz.isAgg0
  z0 := Tryz.sizeOf0
  v0 := Tryz.zeroValue0
  t2 := Tryz.underlying2
  a2 := Tryz.isAgg2
  z2 := Tryz.sizeOf2
  v2 := Tryz.zeroValue2
  t3 := Tryz.underlying3
  a3 := Tryz.isAgg3
  z3 := Tryz.sizeOf3
  v3 := Tryz.zeroValue3
  t4 := Tryz.underlying4
  a4 := Tryz.isAgg4
  z4 := Tryz.sizeOf4
  v4 := Tryz.zeroValue4
  t5 := Tryz.underlying5
  a5 := Tryz.isAgg5
  z5 := Tryz.sizeOf5
  v5 := Tryz.zeroValue5
  t9 := Tryz.underlying9
  a9 := Tryz.isAgg9
  z9 := Tryz.sizeOf9
  v9 := Tryz.zeroValue9
  t20 := Tryz.underlying20
  a20 := Tryz.isAgg20
  z20 := Tryz.sizeOf20
  v20 := Tryz.zeroValue20
  t37 := Tryz.underlying74
  a37 := Tryz.isAgg74
  z37 := Tryz.sizeOf74
  v37 := Tryz.zeroValue74
  t46 := Tryz.underlying118
  a46 := Tryz.isAgg118
  z46 := Tryz.sizeOf118
  v46 := Tryz.zeroValue118
  t51 := Tryz.underlying115
  a51 := Tryz.isAgg115
  z51 := Tryz.sizeOf115
  v51 := Tryz.zeroValue115
  t53 := Tryz.underlying94
  a53 := Tryz.isAgg94
  z53 := Tryz.sizeOf94
  v53 := Tryz.zeroValue94
  t171 := Tryz.underlying93
  a171 := Tryz.isAgg93
  z171 := Tryz.sizeOf93
  v171 := Tryz.zeroValue93
  t173 := Tryz.underlying97
  a173 := Tryz.isAgg97
  z173 := Tryz.sizeOf97
  v173 := Tryz.zeroValue97
  t212 := Tryz.underlying114
  a212 := Tryz.isAgg114
  z212 := Tryz.sizeOf114
  v212 := Tryz.zeroValue114
  t213 := Tryz.underlying116
  a213 := Tryz.isAgg116
  z213 := Tryz.sizeOf116
  t232 := Tryz.underlying146
  a232 := Tryz.isAgg146
  z232 := Tryz.sizeOf146
  v232 := Tryz.zeroValue146
  t233 := Tryz.underlying147
  a233 := Tryz.isAgg147
  z233 := Tryz.sizeOf147
  v233 := Tryz.zeroValue147
  g17 := by kernel_rfl
  g18 := by kernel_rfl
  g19 := by kernel_rfl
  i0 := by kernel_rfl
  i2 := by kernel_rfl
  i3 := by kernel_rfl
  i4 := by kernel_rfl
  i5 := by kernel_rfl
  i9 := by kernel_rfl
  i20 := by kernel_rfl
  i37 := by kernel_rfl
  i46 := by kernel_rfl
  i51 := by kernel_rfl
  i53 := by kernel_rfl
  i171 := by kernel_rfl
  i173 := by kernel_rfl
  i212 := by kernel_rfl
  i232 := by kernel_rfl
  i233 := by kernel_rfl
  m17 := by kernel_rfl
  m18 := by kernel_rfl
  m19 := by kernel_rfl }
open Go.RowKit Go.Sort Go.Lib in
/-- internal/strconv.Itoa: "Itoa is equivalent to FormatInt(int64(i), 10).": i's decimal numeral, for every int. (LAID: no walk: one application.) -/
theorem Tryz.internal_strconv_Itoa (n : Int) (h0 : -9223372036854775808 ≤ n) (h1 : n ≤ 9223372036854775807) (w : World) (htab : Lib.TabIs Tryz.prog w "internal/strconv.uint64pow10" .u64 Lib.pow10Tab) :
    Calls Tryz.prog 23 #[.int .i64 n] w fun e w' => e = .returned (.string ⟨(Lib.itoa n).toArray⟩) ∧ ∃ k os, w' = grow (w.drewN k) os := Any.internal_strconv_Itoa Tryz.laysM243 n h0 h1 w htab
def Tryz.lays243_ren : Go.Shelf.Ren := ⟨fun | 243 => 23 | 246 => 33 | 283 => 48 | 284 => 49 | 285 => 50 | 286 => 51 | 129 => 67 | 317 => 66 | 318 => 68 | 319 => 69 | 320 => 70 | 337 => 86 | 338 => 87 | n => n, fun | 3 => 3 | 9 => 9 | 2 => 2 | 4 => 4 | 171 => 93 | 0 => 0 | 53 => 94 | 37 => 74 | 5 => 5 | 173 => 97 | 212 => 114 | 51 => 115 | 20 => 20 | 213 => 116 | 46 => 118 | 232 => 146 | 233 => 147 | n => n, fun | 17 => 0 | 18 => 3 | 19 => 4 | n => n⟩
theorem Tryz.lays243 : Go.Proofs.Lays.n243 Tryz.prog Tryz.lays243_ren := {
  mixed := by kernel_rfl
  f129 := Tryz.func67.trans (congrArg some (by kernel_rfl))
  f243 := Tryz.func23.trans (congrArg some (by kernel_rfl))
  f246 := Tryz.func33.trans (congrArg some (by kernel_rfl))
  f283 := Tryz.func48.trans (congrArg some (by kernel_rfl))
  f284 := Tryz.func49.trans (congrArg some (by kernel_rfl))
  f285 := Tryz.func50.trans (congrArg some (by kernel_rfl))
  f286 := Tryz.func51.trans (congrArg some (by kernel_rfl))
  f317 := Tryz.func66.trans (congrArg some (by kernel_rfl))
  f318 := Tryz.func68.trans (congrArg some (by kernel_rfl))
  f319 := Tryz.func69.trans (congrArg some (by kernel_rfl))
  f320 := Tryz.func70.trans (congrArg some (by kernel_rfl))
  f337 := Tryz.func86.trans (congrArg some (by kernel_rfl))
  f338 := Tryz.func87.trans (congrArg some (by kernel_rfl))
  t0 := Tryz.underlying0
  a0 := Tryz.isAgg0
  z0 := Tryz.sizeOf0
  v0 := Tryz.zeroValue0
  t2 := Tryz.underlying2
  a2 := Tryz.isAgg2
  z2 := Tryz.sizeOf2
  v2 := Tryz.zeroValue2
  t3 := Tryz.underlying3
  a3 := Tryz.isAgg3
  z3 := Tryz.sizeOf3
  v3 := Tryz.zeroValue3
  t4 := Tryz.underlying4
  a4 := Tryz.isAgg4
  z4 := Tryz.sizeOf4
  v4 := Tryz.zeroValue4
  t5 := Tryz.underlying5
  a5 := Tryz.isAgg5
  z5 := Tryz.sizeOf5
  v5 := Tryz.zeroValue5
  t9 := Tryz.underlying9
  a9 := Tryz.isAgg9
  z9 := Tryz.sizeOf9
  v9 := Tryz.zeroValue9
  t20 := Tryz.underlying20
  a20 := Tryz.isAgg20
  z20 := Tryz.sizeOf20
  v20 := Tryz.zeroValue20
  t37 := Tryz.underlying74
  a37 := Tryz.isAgg74
  z37 := Tryz.sizeOf74
  v37 := Tryz.zeroValue74
  t46 := Tryz.underlying118
  a46 := Tryz.isAgg118
  z46 := Tryz.sizeOf118
  v46 := Tryz.zeroValue118
  t51 := Tryz.underlying115
  a51 := Tryz.isAgg115
  z51 := Tryz.sizeOf115
  v51 := Tryz.zeroValue115
  t53 := Tryz.underlying94
  a53 := Tryz.isAgg94
  z53 := Tryz.sizeOf94
  v53 := Tryz.zeroValue94
  t171 := Tryz.underlying93
  a171 := Tryz.isAgg93
  z171 := Tryz.sizeOf93
  v171 := Tryz.zeroValue93
  t173 := Tryz.underlying97
  a173 := Tryz.isAgg97
  z173 := Tryz.sizeOf97
  v173 := Tryz.zeroValue97
  t212 := Tryz.underlying114
  a212 := Tryz.isAgg114
  z212 := Tryz.sizeOf114
  v212 := Tryz.zeroValue114
  t213 := Tryz.underlying116
  a213 := Tryz.isAgg116
  z213 := Tryz.sizeOf116
  t232 := Tryz.underlying146
  a232 := Tryz.isAgg146
  z232 := Tryz.sizeOf146
  v232 := Tryz.zeroValue146
  t233 := Tryz.underlying147
  a233 := Tryz.isAgg147
  z233 := Tryz.sizeOf147
  v233 := Tryz.zeroValue147
  g17 := by kernel_rfl
  g18 := by kernel_rfl
  g19 := by kernel_rfl }
open Go.RowKit Go.Sort Go.Lib in
/-- THE ROAD WITHOUT THE TABLE: 0 <= i < 100. (LAID: no walk: one application.) -/
theorem Tryz.internal_strconv_Itoa_small (i : Nat) (hi : i < 100) (w : World) :
    Calls Tryz.prog 23 #[.int .i64 i] w fun e w' => e = .returned (.string ⟨(Lib.decDigits i).toArray⟩) ∧ w' = w := Any.internal_strconv_Itoa_small Tryz.lays243 i hi w
def Tryz.laysM171_ren : Go.Shelf.Ren := ⟨fun | 171 => 13 | 243 => 23 | 246 => 33 | 283 => 48 | 284 => 49 | 285 => 50 | 286 => 51 | 129 => 67 | 317 => 66 | 318 => 68 | 319 => 69 | 320 => 70 | 337 => 86 | 338 => 87 | n => n, fun | 3 => 3 | 9 => 9 | 2 => 2 | 4 => 4 | 171 => 93 | 0 => 0 | 53 => 94 | 37 => 74 | 5 => 5 | 173 => 97 | 212 => 114 | 51 => 115 | 20 => 20 | 213 => 116 | 46 => 118 | 232 => 146 | 233 => 147 | n => n, fun | 17 => 0 | 18 => 3 | 19 => 4 | n => n⟩
theorem Tryz.laysM171 : Go.Proofs.LaysM.n171 Tryz.prog Tryz.laysM171_ren := {
  mixed := by kernel_rfl
  f129 := Tryz.func67.trans (congrArg some (by kernel_rfl))
  f171 := Tryz.func13.trans (congrArg some (by kernel_rfl))
  f243 := Tryz.func23.trans (congrArg some (by kernel_rfl))
  f246 := Tryz.func33.trans (congrArg some (by kernel_rfl))
  f283 := Tryz.func48.trans (congrArg some (by kernel_rfl))
  f284 := Tryz.func49.trans (congrArg some (by kernel_rfl))
  f285 := Tryz.func50.trans (congrArg some (by kernel_rfl))
  f286 := Tryz.func51.trans (congrArg some (by kernel_rfl))
  f317 := Tryz.func66.trans (congrArg some (by kernel_rfl))
  f318 := Tryz.func68.trans (congrArg some (by kernel_rfl))
  f319 := Tryz.func69.trans (congrArg some (by kernel_rfl))
  f320 := Tryz.func70.trans (congrArg some (by kernel_rfl))
  f337 := Tryz.func86.trans (congrArg some (by kernel_rfl))
  f338 := Tryz.func87.trans (congrArg some (by kernel_rfl))
  t0 := Tryz.underlying0
  a0 := Tryz.isAgg0
  z0 := Tryz.sizeOf0
  v0 := Tryz.zeroValue0
  t2 := Tryz.underlying2
  a2 := Tryz.isAgg2
  z2 := Tryz.sizeOf2
  v2 := Tryz.zeroValue2
  t3 := Tryz.underlying3
  a3 := Tryz.isAgg3
  z3 := Tryz.sizeOf3
  v3 := Tryz.zeroValue3
  t4 := Tryz.underlying4
  a4 := Tryz.isAgg4
  z4 := Tryz.sizeOf4
  v4 := Tryz.zeroValue4
  t5 := Tryz.underlying5
  a5 := Tryz.isAgg5
  z5 := Tryz.sizeOf5
  v5 := Tryz.zeroValue5
  t9 := Tryz.underlying9
  a9 := Tryz.isAgg9
  z9 := Tryz.sizeOf9
  v9 := Tryz.zeroValue9
  t20 := Tryz.underlying20
  a20 := Tryz.isAgg20
  z20 := Tryz.sizeOf20
  v20 := Tryz.zeroValue20
  t37 := Tryz.underlying74
  a37 := Tryz.isAgg74
  z37 := Tryz.sizeOf74
  v37 := Tryz.zeroValue74
  t46 := Tryz.underlying118
  a46 := Tryz.isAgg118
  z46 := Tryz.sizeOf118
  v46 := Tryz.zeroValue118
  t51 := Tryz.underlying115
  a51 := Tryz.isAgg115
  z51 := Tryz.sizeOf115
  v51 := Tryz.zeroValue115
  t53 := Tryz.underlying94
  a53 := Tryz.isAgg94
  z53 := Tryz.sizeOf94
  v53 := Tryz.zeroValue94
  t171 := Tryz.underlying93
  a171 := Tryz.isAgg93
  z171 := Tryz.sizeOf93
  v171 := Tryz.zeroValue93
  t173 := Tryz.underlying97
  a173 := Tryz.isAgg97
  z173 := Tryz.sizeOf97
  v173 := Tryz.zeroValue97
  t212 := Tryz.underlying114
  a212 := Tryz.isAgg114
  z212 := Tryz.sizeOf114
  v212 := Tryz.zeroValue114
  t213 := Tryz.underlying116
  a213 := Tryz.isAgg116
  z213 := Tryz.sizeOf116
  t232 := Tryz.underlying146
  a232 := Tryz.isAgg146
  z232 := Tryz.sizeOf146
  v232 := Tryz.zeroValue146
  t233 := Tryz.underlying147
  a233 := Tryz.isAgg147
  z233 := Tryz.sizeOf147
  v233 := Tryz.zeroValue147
  g17 := by kernel_rfl
  g18 := by kernel_rfl
  g19 := by kernel_rfl
  i0 := by kernel_rfl
  i2 := by kernel_rfl
  i3 := by kernel_rfl
  i4 := by kernel_rfl
  i5 := by kernel_rfl
  i9 := by kernel_rfl
  i20 := by kernel_rfl
  i37 := by kernel_rfl
  i46 := by kernel_rfl
  i51 := by kernel_rfl
  i53 := by kernel_rfl
  i171 := by kernel_rfl
  i173 := by kernel_rfl
  i212 := by kernel_rfl
  i232 := by kernel_rfl
  i233 := by kernel_rfl
  m17 := by kernel_rfl
  m18 := by kernel_rfl
  m19 := by kernel_rfl }
open Go.RowKit Go.Sort Go.Lib in
/-- strconv.Itoa: "Itoa is equivalent to FormatInt(int64(i), 10).": i's DECIMAL NUMERAL ('Lib.itoa': a '-' where i is negative, then the digits), FOR EVERY int. The world behind the call: the world before it, new blocks behind the heap (the library's 'var a [24]byte'), draws. (LAID: no walk: one application.) -/
theorem Tryz.strconv_Itoa (n : Int) (h0 : -9223372036854775808 ≤ n) (h1 : n ≤ 9223372036854775807) (w : World) (htab : Lib.TabIs Tryz.prog w "internal/strconv.uint64pow10" .u64 Lib.pow10Tab) :
    Calls Tryz.prog 13 #[.int .i64 n] w fun e w' => e = .returned (.string ⟨(Lib.itoa n).toArray⟩) ∧ ∃ k os, w' = grow (w.drewN k) os := Any.strconv_Itoa Tryz.laysM171 n h0 h1 w htab
def Tryz.lays171_ren : Go.Shelf.Ren := ⟨fun | 171 => 13 | 243 => 23 | 246 => 33 | 283 => 48 | 284 => 49 | 285 => 50 | 286 => 51 | 129 => 67 | 317 => 66 | 318 => 68 | 319 => 69 | 320 => 70 | 337 => 86 | 338 => 87 | n => n, fun | 3 => 3 | 9 => 9 | 2 => 2 | 4 => 4 | 171 => 93 | 0 => 0 | 53 => 94 | 37 => 74 | 5 => 5 | 173 => 97 | 212 => 114 | 51 => 115 | 20 => 20 | 213 => 116 | 46 => 118 | 232 => 146 | 233 => 147 | n => n, fun | 17 => 0 | 18 => 3 | 19 => 4 | n => n⟩
theorem Tryz.lays171 : Go.Proofs.Lays.n171 Tryz.prog Tryz.lays171_ren := {
  mixed := by kernel_rfl
  f129 := Tryz.func67.trans (congrArg some (by kernel_rfl))
  f171 := Tryz.func13.trans (congrArg some (by kernel_rfl))
  f243 := Tryz.func23.trans (congrArg some (by kernel_rfl))
  f246 := Tryz.func33.trans (congrArg some (by kernel_rfl))
  f283 := Tryz.func48.trans (congrArg some (by kernel_rfl))
  f284 := Tryz.func49.trans (congrArg some (by kernel_rfl))
  f285 := Tryz.func50.trans (congrArg some (by kernel_rfl))
  f286 := Tryz.func51.trans (congrArg some (by kernel_rfl))
  f317 := Tryz.func66.trans (congrArg some (by kernel_rfl))
  f318 := Tryz.func68.trans (congrArg some (by kernel_rfl))
  f319 := Tryz.func69.trans (congrArg some (by kernel_rfl))
  f320 := Tryz.func70.trans (congrArg some (by kernel_rfl))
  f337 := Tryz.func86.trans (congrArg some (by kernel_rfl))
  f338 := Tryz.func87.trans (congrArg some (by kernel_rfl))
  t0 := Tryz.underlying0
  a0 := Tryz.isAgg0
  z0 := Tryz.sizeOf0
  v0 := Tryz.zeroValue0
  t2 := Tryz.underlying2
  a2 := Tryz.isAgg2
  z2 := Tryz.sizeOf2
  v2 := Tryz.zeroValue2
  t3 := Tryz.underlying3
  a3 := Tryz.isAgg3
  z3 := Tryz.sizeOf3
  v3 := Tryz.zeroValue3
  t4 := Tryz.underlying4
  a4 := Tryz.isAgg4
  z4 := Tryz.sizeOf4
  v4 := Tryz.zeroValue4
  t5 := Tryz.underlying5
  a5 := Tryz.isAgg5
  z5 := Tryz.sizeOf5
  v5 := Tryz.zeroValue5
  t9 := Tryz.underlying9
  a9 := Tryz.isAgg9
  z9 := Tryz.sizeOf9
  v9 := Tryz.zeroValue9
  t20 := Tryz.underlying20
  a20 := Tryz.isAgg20
  z20 := Tryz.sizeOf20
  v20 := Tryz.zeroValue20
  t37 := Tryz.underlying74
  a37 := Tryz.isAgg74
  z37 := Tryz.sizeOf74
  v37 := Tryz.zeroValue74
  t46 := Tryz.underlying118
  a46 := Tryz.isAgg118
  z46 := Tryz.sizeOf118
  v46 := Tryz.zeroValue118
  t51 := Tryz.underlying115
  a51 := Tryz.isAgg115
  z51 := Tryz.sizeOf115
  v51 := Tryz.zeroValue115
  t53 := Tryz.underlying94
  a53 := Tryz.isAgg94
  z53 := Tryz.sizeOf94
  v53 := Tryz.zeroValue94
  t171 := Tryz.underlying93
  a171 := Tryz.isAgg93
  z171 := Tryz.sizeOf93
  v171 := Tryz.zeroValue93
  t173 := Tryz.underlying97
  a173 := Tryz.isAgg97
  z173 := Tryz.sizeOf97
  v173 := Tryz.zeroValue97
  t212 := Tryz.underlying114
  a212 := Tryz.isAgg114
  z212 := Tryz.sizeOf114
  v212 := Tryz.zeroValue114
  t213 := Tryz.underlying116
  a213 := Tryz.isAgg116
  z213 := Tryz.sizeOf116
  t232 := Tryz.underlying146
  a232 := Tryz.isAgg146
  z232 := Tryz.sizeOf146
  v232 := Tryz.zeroValue146
  t233 := Tryz.underlying147
  a233 := Tryz.isAgg147
  z233 := Tryz.sizeOf147
  v233 := Tryz.zeroValue147
  g17 := by kernel_rfl
  g18 := by kernel_rfl
  g19 := by kernel_rfl }
open Go.RowKit Go.Sort Go.Lib in
/-- THE ROAD WITHOUT THE TABLE: 0 <= i < 100: NO PREMISE ON THE WORLD, AND THE WORLD IS AS IT WAS: a row that keeps its argument in that range need list no table ('laid = []'). (LAID: no walk: one application.) -/
theorem Tryz.strconv_Itoa_small (i : Nat) (hi : i < 100) (w : World) :
    Calls Tryz.prog 13 #[.int .i64 i] w fun e w' => e = .returned (.string ⟨(Lib.decDigits i).toArray⟩) ∧ w' = w := Any.strconv_Itoa_small Tryz.lays171 i hi w
def Tryz.lays217_ren : Go.Shelf.Ren := ⟨fun | 217 => 101 | 266 => 102 | n => n, fun | 9 => 9 | 5 => 5 | 3 => 3 | n => n, fun | n => n⟩
theorem Tryz.lays217 : Go.Proofs.Lays.n217 Tryz.prog Tryz.lays217_ren := {
  mixed := by kernel_rfl
  f217 := Tryz.func101.trans (congrArg some (by kernel_rfl))
  f266 := Tryz.func102.trans (congrArg some (by kernel_rfl))
  t3 := Tryz.underlying3
  a3 := Tryz.isAgg3
  z3 := Tryz.sizeOf3
  v3 := Tryz.zeroValue3
  t5 := Tryz.underlying5
  a5 := Tryz.isAgg5
  z5 := Tryz.sizeOf5
  v5 := Tryz.zeroValue5
  t9 := Tryz.underlying9
  a9 := Tryz.isAgg9
  z9 := Tryz.sizeOf9
  v9 := Tryz.zeroValue9 }
open Go.RowKit Go.Lib in
/-- internal/stringslite.IndexByte (what strings.IndexByte calls): IT RETURNS 'Lib.indexByte s c'; the world is as it was. (LAID: no walk: one application.) -/
theorem Tryz.stringslite_IndexByte (s : ByteArray) (c : Int) (w : World) :
    Calls Tryz.prog 101 #[.string s, .int .u8 c] w fun e w' => e = .returned (.int .i64 (Lib.indexByte s.data.toList c.toNat.toUInt8)) ∧ w' = w := Any.stringslite_IndexByte Tryz.lays217 s c w
def Tryz.lays224_ren : Go.Shelf.Ren := ⟨fun | 224 => 97 | n => n, fun | 3 => 3 | n => n, fun | n => n⟩
theorem Tryz.lays224 : Go.Proofs.Lays.n224 Tryz.prog Tryz.lays224_ren := {
  mixed := by kernel_rfl
  f224 := Tryz.func97.trans (congrArg some (by kernel_rfl))
  t3 := Tryz.underlying3
  a3 := Tryz.isAgg3
  z3 := Tryz.sizeOf3
  v3 := Tryz.zeroValue3 }
open Go.RowKit Go.Lib in
/-- internal/bytealg.Cutover: "Cutover reports the number of failures of IndexByte we should tolerate before switching over to Index. n is the number of bytes processed so far.": on amd64: (n + 16) / 8. (LAID: no walk: one application.) -/
theorem Tryz.bytealg_Cutover (n : Int) (h0 : 0 ≤ n) (h1 : n < 4611686018427387904) (w : World) :
    Calls Tryz.prog 97 #[.int .i64 n] w fun e w' => e = .returned (.int .i64 ((n + 16) / 8)) ∧ w' = w := Any.bytealg_Cutover Tryz.lays224 n h0 h1 w
def Tryz.lays206_ren : Go.Shelf.Ren := ⟨fun | 206 => 73 | n => n, fun | 9 => 9 | 4 => 4 | 3 => 3 | n => n, fun | n => n⟩
theorem Tryz.lays206 : Go.Proofs.Lays.n206 Tryz.prog Tryz.lays206_ren := {
  mixed := by kernel_rfl
  f206 := Tryz.func73.trans (congrArg some (by kernel_rfl))
  t3 := Tryz.underlying3
  a3 := Tryz.isAgg3
  z3 := Tryz.sizeOf3
  v3 := Tryz.zeroValue3
  t4 := Tryz.underlying4
  a4 := Tryz.isAgg4
  z4 := Tryz.sizeOf4
  v4 := Tryz.zeroValue4
  t9 := Tryz.underlying9
  a9 := Tryz.isAgg9
  z9 := Tryz.sizeOf9
  v9 := Tryz.zeroValue9 }
open Go.RowKit Go.Lib in
/-- internal/stringslite.HasPrefix (what strings.HasPrefix calls). (LAID: no walk: one application.) -/
theorem Tryz.stringslite_HasPrefix (s p : ByteArray) (w : World) :
    Calls Tryz.prog 73 #[.string s, .string p] w fun e w' => e = .returned (.bool (Lib.hasPrefix s.data.toList p.data.toList)) ∧ w' = w := Any.stringslite_HasPrefix Tryz.lays206 s p w
def Tryz.lays99_ren : Go.Shelf.Ren := ⟨fun | 99 => 56 | 206 => 73 | n => n, fun | 9 => 9 | 4 => 4 | 3 => 3 | n => n, fun | n => n⟩
theorem Tryz.lays99 : Go.Proofs.Lays.n99 Tryz.prog Tryz.lays99_ren := {
  mixed := by kernel_rfl
  f99 := Tryz.func56.trans (congrArg some (by kernel_rfl))
  f206 := Tryz.func73.trans (congrArg some (by kernel_rfl))
  t3 := Tryz.underlying3
  a3 := Tryz.isAgg3
  z3 := Tryz.sizeOf3
  v3 := Tryz.zeroValue3
  t4 := Tryz.underlying4
  a4 := Tryz.isAgg4
  z4 := Tryz.sizeOf4
  v4 := Tryz.zeroValue4
  t9 := Tryz.underlying9
  a9 := Tryz.isAgg9
  z9 := Tryz.sizeOf9
  v9 := Tryz.zeroValue9 }
open Go.RowKit Go.Lib in
/-- strings.HasPrefix: "HasPrefix reports whether the string s begins with prefix.": IT RETURNS 'Lib.hasPrefix s prefix'; the world is as it was. (LAID: no walk: one application.) -/
theorem Tryz.strings_HasPrefix (s p : ByteArray) (w : World) :
    Calls Tryz.prog 56 #[.string s, .string p] w fun e w' => e = .returned (.bool (Lib.hasPrefix s.data.toList p.data.toList)) ∧ w' = w := Any.strings_HasPrefix Tryz.lays99 s p w
def Tryz.lays152_ren : Go.Shelf.Ren := ⟨fun | 152 => 88 | 137 => 95 | 119 => 96 | 224 => 97 | 225 => 98 | 217 => 101 | 266 => 102 | n => n, fun | 9 => 9 | 21 => 21 | 3 => 3 | 4 => 4 | 5 => 5 | 0 => 0 | 46 => 118 | n => n, fun | n => n⟩
theorem Tryz.lays152 : Go.Proofs.Lays.n152 Tryz.prog Tryz.lays152_ren := {
  mixed := by kernel_rfl
  f119 := Tryz.func96.trans (congrArg some (by kernel_rfl))
  f137 := Tryz.func95.trans (congrArg some (by kernel_rfl))
  f152 := Tryz.func88.trans (congrArg some (by kernel_rfl))
  f217 := Tryz.func101.trans (congrArg some (by kernel_rfl))
  f224 := Tryz.func97.trans (congrArg some (by kernel_rfl))
  f225 := Tryz.func98.trans (congrArg some (by kernel_rfl))
  f266 := Tryz.func102.trans (congrArg some (by kernel_rfl))
  t0 := Tryz.underlying0
  a0 := Tryz.isAgg0
  z0 := Tryz.sizeOf0
  v0 := Tryz.zeroValue0
  t3 := Tryz.underlying3
  a3 := Tryz.isAgg3
  z3 := Tryz.sizeOf3
  v3 := Tryz.zeroValue3
  t4 := Tryz.underlying4
  a4 := Tryz.isAgg4
  z4 := Tryz.sizeOf4
  v4 := Tryz.zeroValue4
  t5 := Tryz.underlying5
  a5 := Tryz.isAgg5
  z5 := Tryz.sizeOf5
  v5 := Tryz.zeroValue5
  t9 := Tryz.underlying9
  a9 := Tryz.isAgg9
  z9 := Tryz.sizeOf9
  v9 := Tryz.zeroValue9
  t21 := Tryz.underlying21
  a21 := Tryz.isAgg21
  z21 := Tryz.sizeOf21
  v21 := Tryz.zeroValue21
  t46 := Tryz.underlying118
  a46 := Tryz.isAgg118
  z46 := Tryz.sizeOf118
  v46 := Tryz.zeroValue118 }
open Go.RowKit Go.Lib in
theorem Tryz.strings_IndexRune_ascii (s : ByteArray) (r : Int) (w : World) (h0 : 0 ≤ r) (h1 : r < 128) :
    Calls Tryz.prog 88 #[.string s, .int .i32 r] w fun e w' => e = .returned (.int .i64 (Lib.indexByte s.data.toList r.toNat.toUInt8)) ∧ w' = w := Any.strings_IndexRune_ascii Tryz.lays152 s r w h0 h1
def Tryz.lays151_ren : Go.Shelf.Ren := ⟨fun | 151 => 71 | 152 => 88 | 137 => 95 | 119 => 96 | 224 => 97 | 225 => 98 | 217 => 101 | 266 => 102 | n => n, fun | 9 => 9 | 21 => 21 | 4 => 4 | 3 => 3 | 5 => 5 | 0 => 0 | 46 => 118 | n => n, fun | n => n⟩
theorem Tryz.lays151 : Go.Proofs.Lays.n151 Tryz.prog Tryz.lays151_ren := {
  mixed := by kernel_rfl
  f119 := Tryz.func96.trans (congrArg some (by kernel_rfl))
  f137 := Tryz.func95.trans (congrArg some (by kernel_rfl))
  f151 := Tryz.func71.trans (congrArg some (by kernel_rfl))
  f152 := Tryz.func88.trans (congrArg some (by kernel_rfl))
  f217 := Tryz.func101.trans (congrArg some (by kernel_rfl))
  f224 := Tryz.func97.trans (congrArg some (by kernel_rfl))
  f225 := Tryz.func98.trans (congrArg some (by kernel_rfl))
  f266 := Tryz.func102.trans (congrArg some (by kernel_rfl))
  t0 := Tryz.underlying0
  a0 := Tryz.isAgg0
  z0 := Tryz.sizeOf0
  v0 := Tryz.zeroValue0
  t3 := Tryz.underlying3
  a3 := Tryz.isAgg3
  z3 := Tryz.sizeOf3
  v3 := Tryz.zeroValue3
  t4 := Tryz.underlying4
  a4 := Tryz.isAgg4
  z4 := Tryz.sizeOf4
  v4 := Tryz.zeroValue4
  t5 := Tryz.underlying5
  a5 := Tryz.isAgg5
  z5 := Tryz.sizeOf5
  v5 := Tryz.zeroValue5
  t9 := Tryz.underlying9
  a9 := Tryz.isAgg9
  z9 := Tryz.sizeOf9
  v9 := Tryz.zeroValue9
  t21 := Tryz.underlying21
  a21 := Tryz.isAgg21
  z21 := Tryz.sizeOf21
  v21 := Tryz.zeroValue21
  t46 := Tryz.underlying118
  a46 := Tryz.isAgg118
  z46 := Tryz.sizeOf118
  v46 := Tryz.zeroValue118 }
open Go.RowKit Go.Lib in
theorem Tryz.strings_ContainsRune_ascii (s : ByteArray) (r : Int) (w : World) (h0 : 0 ≤ r) (h1 : r < 128) :
    Calls Tryz.prog 71 #[.string s, .int .i32 r] w fun e w' => e = .returned (.bool (decide (0 ≤ Lib.indexByte s.data.toList r.toNat.toUInt8))) ∧ w' = w := Any.strings_ContainsRune_ascii Tryz.lays151 s r w h0 h1
def Tryz.lays226_ren : Go.Shelf.Ren := ⟨fun | 226 => 89 | n => n, fun | 3 => 3 | 4 => 4 | n => n, fun | n => n⟩
theorem Tryz.lays226 : Go.Proofs.Lays.n226 Tryz.prog Tryz.lays226_ren := {
  mixed := by kernel_rfl
  f226 := Tryz.func89.trans (congrArg some (by kernel_rfl))
  t3 := Tryz.underlying3
  a3 := Tryz.isAgg3
  z3 := Tryz.sizeOf3
  v3 := Tryz.zeroValue3
  t4 := Tryz.underlying4
  a4 := Tryz.isAgg4
  z4 := Tryz.sizeOf4
  v4 := Tryz.zeroValue4 }
open Go.RowKit Go.Lib in
theorem Tryz.strings_shouldUseASCIISet (n : Int) (w : World) :
    Calls Tryz.prog 89 #[.int .i64 n] w fun e w' => e = .returned (.bool (decide (8 < n))) ∧ w' = w := Any.strings_shouldUseASCIISet Tryz.lays226 n w
def Tryz.lays153_ren : Go.Shelf.Ren := ⟨fun | 153 => 74 | 152 => 88 | 226 => 89 | 227 => 77 | 228 => 90 | 137 => 95 | 119 => 96 | 224 => 97 | 225 => 98 | 217 => 101 | 266 => 102 | n => n, fun | 9 => 9 | 3 => 3 | 4 => 4 | 5 => 5 | 21 => 21 | 117 => 126 | 116 => 125 | 0 => 0 | 46 => 118 | 124 => 129 | n => n, fun | n => n⟩
theorem Tryz.lays153 : Go.Proofs.Lays.n153 Tryz.prog Tryz.lays153_ren := {
  mixed := by kernel_rfl
  f119 := Tryz.func96.trans (congrArg some (by kernel_rfl))
  f137 := Tryz.func95.trans (congrArg some (by kernel_rfl))
  f152 := Tryz.func88.trans (congrArg some (by kernel_rfl))
  f153 := Tryz.func74.trans (congrArg some (by kernel_rfl))
  f217 := Tryz.func101.trans (congrArg some (by kernel_rfl))
  f224 := Tryz.func97.trans (congrArg some (by kernel_rfl))
  f225 := Tryz.func98.trans (congrArg some (by kernel_rfl))
  f226 := Tryz.func89.trans (congrArg some (by kernel_rfl))
  f227 := Tryz.func77.trans (congrArg some (by kernel_rfl))
  f228 := Tryz.func90.trans (congrArg some (by kernel_rfl))
  f266 := Tryz.func102.trans (congrArg some (by kernel_rfl))
  t0 := Tryz.underlying0
  a0 := Tryz.isAgg0
  z0 := Tryz.sizeOf0
  v0 := Tryz.zeroValue0
  t3 := Tryz.underlying3
  a3 := Tryz.isAgg3
  z3 := Tryz.sizeOf3
  v3 := Tryz.zeroValue3
  t4 := Tryz.underlying4
  a4 := Tryz.isAgg4
  z4 := Tryz.sizeOf4
  v4 := Tryz.zeroValue4
  t5 := Tryz.underlying5
  a5 := Tryz.isAgg5
  z5 := Tryz.sizeOf5
  v5 := Tryz.zeroValue5
  t9 := Tryz.underlying9
  a9 := Tryz.isAgg9
  z9 := Tryz.sizeOf9
  v9 := Tryz.zeroValue9
  t21 := Tryz.underlying21
  a21 := Tryz.isAgg21
  z21 := Tryz.sizeOf21
  v21 := Tryz.zeroValue21
  t46 := Tryz.underlying118
  a46 := Tryz.isAgg118
  z46 := Tryz.sizeOf118
  v46 := Tryz.zeroValue118
  t116 := Tryz.underlying125
  a116 := Tryz.isAgg125
  z116 := Tryz.sizeOf125
  t117 := Tryz.underlying126
  a117 := Tryz.isAgg126
  z117 := Tryz.sizeOf126
  v117 := Tryz.zeroValue126
  t124 := Tryz.underlying129
  a124 := Tryz.isAgg129
  z124 := Tryz.sizeOf129
  v124 := Tryz.zeroValue129 }
open Go.RowKit Go.Lib in
/-- chars is empty. (LAID: no walk: one application.) -/
theorem Tryz.strings_IndexAny_none (s chars : ByteArray) (w : World) (h0 : chars.size = 0) :
    Calls Tryz.prog 74 #[.string s, .string chars] w fun e w' => e = .returned (.int .i64 (Lib.indexAny s.data.toList chars.data.toList)) ∧ w' = w := Any.strings_IndexAny_none Tryz.lays153 s chars w h0
open Go.RowKit Go.Lib in
/-- chars is one ASCII byte. (LAID: no walk: one application.) -/
theorem Tryz.strings_IndexAny_one (s chars : ByteArray) (w : World) (h1 : chars.size = 1) (hascii : ∀ (j : Nat) b, chars.data.toList[j]? = some b → b.toNat < 128) :
    Calls Tryz.prog 74 #[.string s, .string chars] w fun e w' => e = .returned (.int .i64 (Lib.indexAny s.data.toList chars.data.toList)) ∧ w' = w := Any.strings_IndexAny_one Tryz.lays153 s chars w h1 hascii
open Go.RowKit Go.Lib in
/-- s of at most 8 bytes; chars of two or more: 'for i, c := range s { if IndexRune(chars, c) >= 0 { return i } }'. One block more: the model's iterator over s. (LAID: no walk: one application.) -/
theorem Tryz.strings_IndexAny_short (s chars : ByteArray) (w : World) (h2 : 2 ≤ chars.size) (h8 : s.size ≤ 8) (hascii : ∀ (j : Nat) b, s.data.toList[j]? = some b → b.toNat < 128) :
    Calls Tryz.prog 74 #[.string s, .string chars] w fun e w' => e = .returned (.int .i64 (Lib.indexAny s.data.toList chars.data.toList)) ∧ ∃ pos, w' = w.iter s pos := Any.strings_IndexAny_short Tryz.lays153 s chars w h2 h8 hascii
def Tryz.lays227_ren : Go.Shelf.Ren := ⟨fun | 227 => 77 | n => n, fun | 9 => 9 | 116 => 125 | 4 => 4 | 0 => 0 | 3 => 3 | 5 => 5 | n => n, fun | n => n⟩
theorem Tryz.lays227 : Go.Proofs.Lays.n227 Tryz.prog Tryz.lays227_ren := {
  mixed := by kernel_rfl
  f227 := Tryz.func77.trans (congrArg some (by kernel_rfl))
  t0 := Tryz.underlying0
  a0 := Tryz.isAgg0
  z0 := Tryz.sizeOf0
  v0 := Tryz.zeroValue0
  t3 := Tryz.underlying3
  a3 := Tryz.isAgg3
  z3 := Tryz.sizeOf3
  v3 := Tryz.zeroValue3
  t4 := Tryz.underlying4
  a4 := Tryz.isAgg4
  z4 := Tryz.sizeOf4
  v4 := Tryz.zeroValue4
  t5 := Tryz.underlying5
  a5 := Tryz.isAgg5
  z5 := Tryz.sizeOf5
  v5 := Tryz.zeroValue5
  t9 := Tryz.underlying9
  a9 := Tryz.isAgg9
  z9 := Tryz.sizeOf9
  v9 := Tryz.zeroValue9
  t116 := Tryz.underlying125
  a116 := Tryz.isAgg125
  z116 := Tryz.sizeOf125 }
open Go.RowKit Go.Lib in
theorem Tryz.strings_makeASCIISet (hv116 : ∀ w, (zeroValue 125).run Tryz.prog w = .ok (.agg (Array.replicate 256 (.bool false))) w) (chars : ByteArray) (w : World) (hs : chars.size < 4294967281) (hascii : ∀ (j : Nat) b, chars.data.toList[j]? = some b → b.toNat < 128) :
    Calls Tryz.prog 77 #[.string chars] w fun e w' => e = .returned (.tuple #[.agg (Lib.setCells chars.data.toList), .bool true]) ∧ w' = w.alloc (.cells (Lib.setCells chars.data.toList) 125) := Any.strings_makeASCIISet Tryz.lays227 hv116 (by kernel_rfl) chars w hs hascii
def Tryz.lays228_ren : Go.Shelf.Ren := ⟨fun | 228 => 90 | n => n, fun | 124 => 129 | 5 => 5 | 4 => 4 | 0 => 0 | 116 => 125 | n => n, fun | n => n⟩
theorem Tryz.lays228 : Go.Proofs.Lays.n228 Tryz.prog Tryz.lays228_ren := {
  mixed := by kernel_rfl
  f228 := Tryz.func90.trans (congrArg some (by kernel_rfl))
  t0 := Tryz.underlying0
  a0 := Tryz.isAgg0
  z0 := Tryz.sizeOf0
  v0 := Tryz.zeroValue0
  t4 := Tryz.underlying4
  a4 := Tryz.isAgg4
  z4 := Tryz.sizeOf4
  v4 := Tryz.zeroValue4
  t5 := Tryz.underlying5
  a5 := Tryz.isAgg5
  z5 := Tryz.sizeOf5
  v5 := Tryz.zeroValue5
  t116 := Tryz.underlying125
  a116 := Tryz.isAgg125
  z116 := Tryz.sizeOf125
  t124 := Tryz.underlying129
  a124 := Tryz.isAgg129
  z124 := Tryz.sizeOf129
  v124 := Tryz.zeroValue129 }
open Go.RowKit Go.Lib in
/-- '(as *asciiSet) contains(c)': 'as[c]': the set lies at block b, whole. (LAID: no walk: one application.) -/
theorem Tryz.asciiSet_contains (b : Nat) (x : UInt8) (v : Bool) (w : World) (hc : w.cell? ⟨b, x.toNat, none⟩ = some (.bool v)) :
    Calls Tryz.prog 90 #[.pointer (some ⟨b, 0, none⟩), .int .u8 x.toNat] w fun e w' => e = .returned (.bool v) ∧ w' = w := Any.asciiSet_contains Tryz.lays228 b x v w hc
open Go.RowKit Go.Lib in
theorem Tryz.strings_IndexAny_long (hv116 : ∀ w, (zeroValue 125).run Tryz.prog w = .ok (.agg (Array.replicate 256 (.bool false))) w) (s chars : ByteArray) (w : World) (h2 : 2 ≤ chars.size) (h8 : 8 < s.size) (hs : s.size < 4294967281) (hcs : chars.size < 4294967281) (hascii : ∀ (j : Nat) b, chars.data.toList[j]? = some b → b.toNat < 128) :
    Calls Tryz.prog 74 #[.string s, .string chars] w fun e w' => e = .returned (.int .i64 (Lib.indexAny s.data.toList chars.data.toList)) ∧ w' = ((w.alloc (.cells (Lib.setCells chars.data.toList) 125)).alloc (.cells (Lib.setCells chars.data.toList) 125)) := Any.strings_IndexAny_long Tryz.lays153 hv116 (by kernel_rfl) s chars w h2 h8 hs hcs hascii
open Go.RowKit Go.Lib in
/-- strings.IndexAny ON ASCII BYTES: the four roads under one statement. (LAID: no walk: one application.) -/
theorem Tryz.strings_IndexAny (hv116 : ∀ w, (zeroValue 125).run Tryz.prog w = .ok (.agg (Array.replicate 256 (.bool false))) w) (s chars : ByteArray) (w : World) (hs : s.size < 4294967281) (hcs : chars.size < 4294967281) (has : ∀ (j : Nat) b, s.data.toList[j]? = some b → b.toNat < 128) (hac : ∀ (j : Nat) b, chars.data.toList[j]? = some b → b.toNat < 128) :
    Calls Tryz.prog 74 #[.string s, .string chars] w fun e w' => e = .returned (.int .i64 (Lib.indexAny s.data.toList chars.data.toList)) ∧ Below w.heap.size w w' := Any.strings_IndexAny Tryz.lays153 hv116 (by kernel_rfl) s chars w hs hcs has hac
def Tryz.lays150_ren : Go.Shelf.Ren := ⟨fun | 150 => 57 | 153 => 74 | 152 => 88 | 226 => 89 | 227 => 77 | 228 => 90 | 137 => 95 | 119 => 96 | 224 => 97 | 225 => 98 | 217 => 101 | 266 => 102 | n => n, fun | 9 => 9 | 4 => 4 | 3 => 3 | 5 => 5 | 21 => 21 | 117 => 126 | 116 => 125 | 0 => 0 | 46 => 118 | 124 => 129 | n => n, fun | n => n⟩
theorem Tryz.lays150 : Go.Proofs.Lays.n150 Tryz.prog Tryz.lays150_ren := {
  mixed := by kernel_rfl
  f119 := Tryz.func96.trans (congrArg some (by kernel_rfl))
  f137 := Tryz.func95.trans (congrArg some (by kernel_rfl))
  f150 := Tryz.func57.trans (congrArg some (by kernel_rfl))
  f152 := Tryz.func88.trans (congrArg some (by kernel_rfl))
  f153 := Tryz.func74.trans (congrArg some (by kernel_rfl))
  f217 := Tryz.func101.trans (congrArg some (by kernel_rfl))
  f224 := Tryz.func97.trans (congrArg some (by kernel_rfl))
  f225 := Tryz.func98.trans (congrArg some (by kernel_rfl))
  f226 := Tryz.func89.trans (congrArg some (by kernel_rfl))
  f227 := Tryz.func77.trans (congrArg some (by kernel_rfl))
  f228 := Tryz.func90.trans (congrArg some (by kernel_rfl))
  f266 := Tryz.func102.trans (congrArg some (by kernel_rfl))
  t0 := Tryz.underlying0
  a0 := Tryz.isAgg0
  z0 := Tryz.sizeOf0
  v0 := Tryz.zeroValue0
  t3 := Tryz.underlying3
  a3 := Tryz.isAgg3
  z3 := Tryz.sizeOf3
  v3 := Tryz.zeroValue3
  t4 := Tryz.underlying4
  a4 := Tryz.isAgg4
  z4 := Tryz.sizeOf4
  v4 := Tryz.zeroValue4
  t5 := Tryz.underlying5
  a5 := Tryz.isAgg5
  z5 := Tryz.sizeOf5
  v5 := Tryz.zeroValue5
  t9 := Tryz.underlying9
  a9 := Tryz.isAgg9
  z9 := Tryz.sizeOf9
  v9 := Tryz.zeroValue9
  t21 := Tryz.underlying21
  a21 := Tryz.isAgg21
  z21 := Tryz.sizeOf21
  v21 := Tryz.zeroValue21
  t46 := Tryz.underlying118
  a46 := Tryz.isAgg118
  z46 := Tryz.sizeOf118
  v46 := Tryz.zeroValue118
  t116 := Tryz.underlying125
  a116 := Tryz.isAgg125
  z116 := Tryz.sizeOf125
  t117 := Tryz.underlying126
  a117 := Tryz.isAgg126
  z117 := Tryz.sizeOf126
  v117 := Tryz.zeroValue126
  t124 := Tryz.underlying129
  a124 := Tryz.isAgg129
  z124 := Tryz.sizeOf129
  v124 := Tryz.zeroValue129 }
open Go.RowKit Go.Lib in
/-- strings.ContainsAny ON ASCII BYTES. (LAID: no walk: one application.) -/
theorem Tryz.strings_ContainsAny (hv116 : ∀ w, (zeroValue 125).run Tryz.prog w = .ok (.agg (Array.replicate 256 (.bool false))) w) (s chars : ByteArray) (w : World) (hs : s.size < 4294967281) (hcs : chars.size < 4294967281) (has : ∀ (j : Nat) b, s.data.toList[j]? = some b → b.toNat < 128) (hac : ∀ (j : Nat) b, chars.data.toList[j]? = some b → b.toNat < 128) :
    Calls Tryz.prog 57 #[.string s, .string chars] w fun e w' => e = .returned (.bool (Lib.containsAny s.data.toList chars.data.toList)) ∧ Below w.heap.size w w' := Any.strings_ContainsAny Tryz.lays150 hv116 (by kernel_rfl) s chars w hs hcs has hac
open Go.RowKit Go.Lib in
theorem Tryz.strings_IndexAny_laid (s chars : ByteArray) (w : World) (hs : s.size < 4294967281) (hcs : chars.size < 4294967281) (has : ∀ (j : Nat) b, s.data.toList[j]? = some b → b.toNat < 128) (hac : ∀ (j : Nat) b, chars.data.toList[j]? = some b → b.toNat < 128) :
    Calls Tryz.prog 74 #[.string s, .string chars] w fun e w' => e = .returned (.int .i64 (Lib.indexAny s.data.toList chars.data.toList)) ∧ Below w.heap.size w w' := Any.strings_IndexAny_laid Tryz.lays153 (by kernel_rfl) s chars w hs hcs has hac
open Go.RowKit Go.Lib in
theorem Tryz.strings_ContainsAny_laid (s chars : ByteArray) (w : World) (hs : s.size < 4294967281) (hcs : chars.size < 4294967281) (has : ∀ (j : Nat) b, s.data.toList[j]? = some b → b.toNat < 128) (hac : ∀ (j : Nat) b, chars.data.toList[j]? = some b → b.toNat < 128) :
    Calls Tryz.prog 57 #[.string s, .string chars] w fun e w' => e = .returned (.bool (Lib.containsAny s.data.toList chars.data.toList)) ∧ Below w.heap.size w w' := Any.strings_ContainsAny_laid Tryz.lays150 (by kernel_rfl) s chars w hs hcs has hac
def Tryz.lays260_ren : Go.Shelf.Ren := ⟨fun | 260 => 99 | n => n, fun | 9 => 9 | 21 => 21 | 3 => 3 | 4 => 4 | 5 => 5 | 119 => 149 | 0 => 0 | 46 => 118 | 139 => 152 | 138 => 151 | n => n, fun | 3 => 6 | 4 => 7 | n => n⟩
theorem Tryz.lays260 : Go.Proofs.Lays.n260 Tryz.prog Tryz.lays260_ren := {
  mixed := by kernel_rfl
  f260 := Tryz.func99.trans (congrArg some (by kernel_rfl))
  t0 := Tryz.underlying0
  a0 := Tryz.isAgg0
  z0 := Tryz.sizeOf0
  v0 := Tryz.zeroValue0
  t3 := Tryz.underlying3
  a3 := Tryz.isAgg3
  z3 := Tryz.sizeOf3
  v3 := Tryz.zeroValue3
  t4 := Tryz.underlying4
  a4 := Tryz.isAgg4
  z4 := Tryz.sizeOf4
  v4 := Tryz.zeroValue4
  t5 := Tryz.underlying5
  a5 := Tryz.isAgg5
  z5 := Tryz.sizeOf5
  v5 := Tryz.zeroValue5
  t9 := Tryz.underlying9
  a9 := Tryz.isAgg9
  z9 := Tryz.sizeOf9
  v9 := Tryz.zeroValue9
  t21 := Tryz.underlying21
  a21 := Tryz.isAgg21
  z21 := Tryz.sizeOf21
  v21 := Tryz.zeroValue21
  t46 := Tryz.underlying118
  a46 := Tryz.isAgg118
  z46 := Tryz.sizeOf118
  v46 := Tryz.zeroValue118
  t119 := Tryz.underlying149
  a119 := Tryz.isAgg149
  z119 := Tryz.sizeOf149
  t138 := Tryz.underlying151
  a138 := Tryz.isAgg151
  z138 := Tryz.sizeOf151
  v138 := Tryz.zeroValue151
  t139 := Tryz.underlying152
  a139 := Tryz.isAgg152
  z139 := Tryz.sizeOf152
  v139 := Tryz.zeroValue152
  g3 := by kernel_rfl
  g4 := by kernel_rfl }
open Go.RowKit Go.Lib in
theorem Tryz.utf8_decodeRuneInStringSlow (s : ByteArray) (w : World) (hT : Lib.Utf8Tabs 6 7 w) :
    Calls Tryz.prog 99 #[.string s] w fun e w' => e = .returned (.tuple #[.int .i32 (Lib.decodeGo s).1, .int .i64 (Lib.decodeGo s).2]) ∧ Below w.heap.size w w' := Any.utf8_decodeRuneInStringSlow Tryz.lays260 s w hT
def Tryz.lays109_ren : Go.Shelf.Ren := ⟨fun | 109 => 43 | n => n, fun | 31 => 45 | 9 => 9 | 3 => 3 | 0 => 0 | 4 => 4 | n => n, fun | n => n⟩
theorem Tryz.lays109 : Go.Proofs.Lays.n109 Tryz.prog Tryz.lays109_ren := {
  mixed := by kernel_rfl
  f109 := Tryz.func43.trans (congrArg some (by kernel_rfl))
  t0 := Tryz.underlying0
  a0 := Tryz.isAgg0
  z0 := Tryz.sizeOf0
  v0 := Tryz.zeroValue0
  t3 := Tryz.underlying3
  a3 := Tryz.isAgg3
  z3 := Tryz.sizeOf3
  v3 := Tryz.zeroValue3
  t4 := Tryz.underlying4
  a4 := Tryz.isAgg4
  z4 := Tryz.sizeOf4
  v4 := Tryz.zeroValue4
  t9 := Tryz.underlying9
  a9 := Tryz.isAgg9
  z9 := Tryz.sizeOf9
  v9 := Tryz.zeroValue9
  t31 := Tryz.underlying45
  a31 := Tryz.isAgg45
  z31 := Tryz.sizeOf45
  v31 := Tryz.zeroValue45 }
open Go.Lib in
/-- slices.Index at []string: "Index returns the index of the first occurrence of v in s, or -1 if not present.": IT RETURNS 'Lib.idxOfS (the elements) v'; the world is as it was. 'zs': what the cells behind the slice's address hold (its spare capacity too, if you have it); 'zs.take n': its elements. (LAID: no walk: one application.) -/
theorem Tryz.slices_Index_string (b off n c : Nat) (zs : List ByteArray) (x : ByteArray) (w : World) (hz : n ≤ zs.length) (hbig : n ≤ 9223372036854775807) (hc : ∀ j, j < zs.length → w.cell? ⟨b, off + j, none⟩ = some (.string (zs.getD j ByteArray.empty))) :
    Calls Tryz.prog 43 #[.slice (some ⟨b, off, none⟩) n c, .string x] w fun e w' => e = .returned (.int .i64 (Lib.idxOfS (zs.take n) x)) ∧ w' = w := Any.slices_Index_string Tryz.lays109 b off n c zs x w hz hbig hc
open Go.Lib in
/-- The same at a slice of length 0, a nil one too: no cell is known, none is asked for. (LAID: no walk: one application.) -/
theorem Tryz.slices_Index_string_empty (a : Option Addr) (c : Nat) (x : ByteArray) (w : World) :
    Calls Tryz.prog 43 #[.slice a 0 c, .string x] w fun e w' => e = .returned (.int .i64 (Lib.idxOfS [] x)) ∧ w' = w := Any.slices_Index_string_empty Tryz.lays109 a c x w
end Go.Proofs
