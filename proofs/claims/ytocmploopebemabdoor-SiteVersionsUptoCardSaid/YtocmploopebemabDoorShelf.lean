/-
  DERIVED: THE SHELF's CONTRACTS AT THIS DUMP, IN PLAIN WORDS (tools/lay-plain.mjs out of 'TrydShelf.lean', which tools/lay-shelf.mjs wrote): THE SAME DECLARATIONS UNDER THE SAME NAMES: 'import', 'namespace', 'open', 'def', 'theorem' AND NOTHING ELSE: no command of the shelf's: FOR A HAND-IN. Each laying: the table of numbers ('.._ren') and one theorem, a field a fact of the dump's own or the kernel's comparison; each contract: ONE APPLICATION.
-/
import Derived.Shelf.Strings.Trim
import Derived.Shelf.Small.Utf8
import Derived.Shelf.Small.Strs
import Derived.Shelf.Strconv.Atoi
import Derived.Shelf.Strconv.Itoa0
import Derived.Shelf.Strconv.Itoa1
import Derived.Shelf.LaysM
import Derived.Shelf.Strconv.Itoa2
import Derived.Shelf.Strconv.Itoa3
import Derived.Shelf.Strings.Search1
import Derived.Shelf.Strings.Prefix
import Derived.Shelf.Strings.Runes
import Derived.Shelf.Strings.IndexAny
import Derived.Shelf.Strings.AsciiSet
import Derived.Shelf.Strings.IndexAnyAll
import Derived.Shelf.Unicode.DecodeSlow
import Derived.Shelf.Slices.Turned
import Derived.Test.YtocmploopebemabDoorProg
namespace Go.Proofs
open Go.Shelf
def Tryd.lays231_ren : Go.Shelf.Ren := ⟨fun | 231 => 108 | n => n, fun | 9 => 9 | 5 => 5 | 3 => 3 | 4 => 4 | n => n, fun | n => n⟩
theorem Tryd.lays231 : Go.Proofs.Lays.n231 Tryd.prog Tryd.lays231_ren := {
  mixed := by kernel_rfl
  f231 := Tryd.func108.trans (congrArg some (by kernel_rfl))
  t3 := Tryd.underlying3
  a3 := Tryd.isAgg3
  z3 := Tryd.sizeOf3
  v3 := Tryd.zeroValue3
  t4 := Tryd.underlying4
  a4 := Tryd.isAgg4
  z4 := Tryd.sizeOf4
  v4 := Tryd.zeroValue4
  t5 := Tryd.underlying5
  a5 := Tryd.isAgg5
  z5 := Tryd.sizeOf5
  v5 := Tryd.zeroValue5
  t9 := Tryd.underlying9
  a9 := Tryd.isAgg9
  z9 := Tryd.sizeOf9
  v9 := Tryd.zeroValue9 }
open Go.RowKit in
/-- strings.trimLeftByte (no doc; what TrimLeft and Trim call at a cutset of one ASCII byte): the leading bytes that are c are cut off. The world is as it was. (LAID: no walk: one application.) -/
theorem Tryd.strings_trimLeftByte (s : ByteArray) (c : UInt8) (w : World) :
    Calls Tryd.prog 108 #[.string s, .int .u8 c.toNat] w fun e w' => e = .returned (.string ⟨(Lib.trimLeftB s.data.toList c).toArray⟩) ∧ w' = w := Any.strings_trimLeftByte Tryd.lays231 s c w
def Tryd.lays232_ren : Go.Shelf.Ren := ⟨fun | 232 => 109 | n => n, fun | 9 => 9 | 5 => 5 | 3 => 3 | 4 => 4 | n => n, fun | n => n⟩
theorem Tryd.lays232 : Go.Proofs.Lays.n232 Tryd.prog Tryd.lays232_ren := {
  mixed := by kernel_rfl
  f232 := Tryd.func109.trans (congrArg some (by kernel_rfl))
  t3 := Tryd.underlying3
  a3 := Tryd.isAgg3
  z3 := Tryd.sizeOf3
  v3 := Tryd.zeroValue3
  t4 := Tryd.underlying4
  a4 := Tryd.isAgg4
  z4 := Tryd.sizeOf4
  v4 := Tryd.zeroValue4
  t5 := Tryd.underlying5
  a5 := Tryd.isAgg5
  z5 := Tryd.sizeOf5
  v5 := Tryd.zeroValue5
  t9 := Tryd.underlying9
  a9 := Tryd.isAgg9
  z9 := Tryd.sizeOf9
  v9 := Tryd.zeroValue9 }
open Go.RowKit in
/-- strings.trimRightByte (no doc; what TrimRight and Trim call at a cutset of one ASCII byte): the trailing bytes that are c are cut off. The world is as it was. ('hs': a string's length is a number that an int holds.) (LAID: no walk: one application.) -/
theorem Tryd.strings_trimRightByte (s : ByteArray) (c : UInt8) (w : World) (hs : s.size ≤ 9223372036854775807) :
    Calls Tryd.prog 109 #[.string s, .int .u8 c.toNat] w fun e w' => e = .returned (.string ⟨(Lib.trimRightB s.data.toList c).toArray⟩) ∧ w' = w := Any.strings_trimRightByte Tryd.lays232 s c w hs
def Tryd.lays160_ren : Go.Shelf.Ren := ⟨fun | 160 => 87 | 232 => 109 | 231 => 108 | 227 => 110 | 234 => 112 | 233 => 111 | 236 => 114 | 235 => 113 | 228 => 130 | 271 => 132 | 151 => 93 | 197 => 131 | 120 => 144 | 152 => 116 | 260 => 143 | 137 => 134 | 119 => 135 | 224 => 136 | 225 => 137 | 217 => 145 | 266 => 148 | n => n, fun | 9 => 9 | 4 => 4 | 3 => 3 | 5 => 5 | 117 => 148 | 116 => 147 | 0 => 0 | 124 => 151 | 21 => 21 | 105 => 170 | 46 => 166 | 119 => 186 | 139 => 189 | 138 => 188 | n => n, fun | 3 => 6 | 4 => 7 | n => n⟩
theorem Tryd.lays160 : Go.Proofs.Lays.n160 Tryd.prog Tryd.lays160_ren := {
  mixed := by kernel_rfl
  f119 := Tryd.func135.trans (congrArg some (by kernel_rfl))
  f120 := Tryd.func144.trans (congrArg some (by kernel_rfl))
  f137 := Tryd.func134.trans (congrArg some (by kernel_rfl))
  f151 := Tryd.func93.trans (congrArg some (by kernel_rfl))
  f152 := Tryd.func116.trans (congrArg some (by kernel_rfl))
  f160 := Tryd.func87.trans (congrArg some (by kernel_rfl))
  f197 := Tryd.func131.trans (congrArg some (by kernel_rfl))
  f217 := Tryd.func145.trans (congrArg some (by kernel_rfl))
  f224 := Tryd.func136.trans (congrArg some (by kernel_rfl))
  f225 := Tryd.func137.trans (congrArg some (by kernel_rfl))
  f227 := Tryd.func110.trans (congrArg some (by kernel_rfl))
  f228 := Tryd.func130.trans (congrArg some (by kernel_rfl))
  f231 := Tryd.func108.trans (congrArg some (by kernel_rfl))
  f232 := Tryd.func109.trans (congrArg some (by kernel_rfl))
  f233 := Tryd.func111.trans (congrArg some (by kernel_rfl))
  f234 := Tryd.func112.trans (congrArg some (by kernel_rfl))
  f235 := Tryd.func113.trans (congrArg some (by kernel_rfl))
  f236 := Tryd.func114.trans (congrArg some (by kernel_rfl))
  f260 := Tryd.func143.trans (congrArg some (by kernel_rfl))
  f266 := Tryd.func148.trans (congrArg some (by kernel_rfl))
  f271 := Tryd.func132.trans (congrArg some (by kernel_rfl))
  t0 := Tryd.underlying0
  a0 := Tryd.isAgg0
  z0 := Tryd.sizeOf0
  v0 := Tryd.zeroValue0
  t3 := Tryd.underlying3
  a3 := Tryd.isAgg3
  z3 := Tryd.sizeOf3
  v3 := Tryd.zeroValue3
  t4 := Tryd.underlying4
  a4 := Tryd.isAgg4
  z4 := Tryd.sizeOf4
  v4 := Tryd.zeroValue4
  t5 := Tryd.underlying5
  a5 := Tryd.isAgg5
  z5 := Tryd.sizeOf5
  v5 := Tryd.zeroValue5
  t9 := Tryd.underlying9
  a9 := Tryd.isAgg9
  z9 := Tryd.sizeOf9
  v9 := Tryd.zeroValue9
  t21 := Tryd.underlying21
  a21 := Tryd.isAgg21
  z21 := Tryd.sizeOf21
  v21 := Tryd.zeroValue21
  t46 := Tryd.underlying166
  a46 := Tryd.isAgg166
  z46 := Tryd.sizeOf166
  v46 := Tryd.zeroValue166
  t105 := Tryd.underlying170
  a105 := Tryd.isAgg170
  z105 := Tryd.sizeOf170
  v105 := Tryd.zeroValue170
  t116 := Tryd.underlying147
  a116 := Tryd.isAgg147
  z116 := Tryd.sizeOf147
  t117 := Tryd.underlying148
  a117 := Tryd.isAgg148
  z117 := Tryd.sizeOf148
  v117 := Tryd.zeroValue148
  t119 := Tryd.underlying186
  a119 := Tryd.isAgg186
  z119 := Tryd.sizeOf186
  t124 := Tryd.underlying151
  a124 := Tryd.isAgg151
  z124 := Tryd.sizeOf151
  v124 := Tryd.zeroValue151
  t138 := Tryd.underlying188
  a138 := Tryd.isAgg188
  z138 := Tryd.sizeOf188
  v138 := Tryd.zeroValue188
  t139 := Tryd.underlying189
  a139 := Tryd.isAgg189
  z139 := Tryd.sizeOf189
  v139 := Tryd.zeroValue189
  g3 := by kernel_rfl
  g4 := by kernel_rfl }
open Go.RowKit in
/-- strings.Trim: "Trim returns a slice of the string s with all leading and trailing Unicode code points contained in cutset removed.": AT A cutset OF ONE ASCII BYTE. THE WORLD BEHIND IT: as it was, or (where s is not empty) with ONE DRAW MORE off the tape: the statement 'return trimLeftByte(trimRightByte(s, c), c)' draws its order of evaluation. (LAID: no walk: one application.) -/
theorem Tryd.strings_Trim_one (s : ByteArray) (c : UInt8) (hc : c.toNat < 128) (w : World) (hs : s.size ≤ 9223372036854775807) :
    Calls Tryd.prog 87 #[.string s, .string ⟨#[c]⟩] w fun e w' => e = .returned (.string ⟨(Lib.trimB s.data.toList c).toArray⟩) ∧ (w' = w ∨ w' = w.drew) := Any.strings_Trim_one Tryd.lays160 s c hc w hs
def Tryd.lays119_ren : Go.Shelf.Ren := ⟨fun | 119 => 135 | n => n, fun | 21 => 21 | 4 => 4 | n => n, fun | n => n⟩
theorem Tryd.lays119 : Go.Proofs.Lays.n119 Tryd.prog Tryd.lays119_ren := {
  mixed := by kernel_rfl
  f119 := Tryd.func135.trans (congrArg some (by kernel_rfl))
  t4 := Tryd.underlying4
  a4 := Tryd.isAgg4
  z4 := Tryd.sizeOf4
  v4 := Tryd.zeroValue4
  t21 := Tryd.underlying21
  a21 := Tryd.isAgg21
  z21 := Tryd.sizeOf21
  v21 := Tryd.zeroValue21 }
/-- utf8.ValidRune: "ValidRune reports whether r can be legally encoded as UTF-8. Code points that are out of range or a surrogate half are illegal.": IT RETURNS 'Lib.validRune r'; the world is as it was. (LAID: no walk: one application.) -/
theorem Tryd.utf8_ValidRune (r : Int) (w : World) :
    Calls Tryd.prog 135 #[.int .i32 r] w fun e w' => e = .returned (.bool (Lib.validRune r)) ∧ w' = w := Any.utf8_ValidRune Tryd.lays119 r w
def Tryd.lays120_ren : Go.Shelf.Ren := ⟨fun | 120 => 144 | n => n, fun | 5 => 5 | 4 => 4 | n => n, fun | n => n⟩
theorem Tryd.lays120 : Go.Proofs.Lays.n120 Tryd.prog Tryd.lays120_ren := {
  mixed := by kernel_rfl
  f120 := Tryd.func144.trans (congrArg some (by kernel_rfl))
  t4 := Tryd.underlying4
  a4 := Tryd.isAgg4
  z4 := Tryd.sizeOf4
  v4 := Tryd.zeroValue4
  t5 := Tryd.underlying5
  a5 := Tryd.isAgg5
  z5 := Tryd.sizeOf5
  v5 := Tryd.zeroValue5 }
/-- utf8.RuneStart: "RuneStart reports whether the byte could be the first byte of an encoded, possibly invalid rune. Second and subsequent bytes always have the top two bits set to 10.": IT RETURNS 'Lib.runeStart b'; the world is as it was. ('h0', 'h1': b is a byte: a caller has it of every byte that it was handed.) (LAID: no walk: one application.) -/
theorem Tryd.utf8_RuneStart (b : Int) (w : World) (h0 : 0 ≤ b) (h1 : b < 256) :
    Calls Tryd.prog 144 #[.int .u8 b] w fun e w' => e = .returned (.bool (Lib.runeStart b)) ∧ w' = w := Any.utf8_RuneStart Tryd.lays120 b w h0 h1
def Tryd.lays137_ren : Go.Shelf.Ren := ⟨fun | 137 => 134 | 217 => 145 | 266 => 148 | n => n, fun | 9 => 9 | 5 => 5 | 3 => 3 | n => n, fun | n => n⟩
theorem Tryd.lays137 : Go.Proofs.Lays.n137 Tryd.prog Tryd.lays137_ren := {
  mixed := by kernel_rfl
  f137 := Tryd.func134.trans (congrArg some (by kernel_rfl))
  f217 := Tryd.func145.trans (congrArg some (by kernel_rfl))
  f266 := Tryd.func148.trans (congrArg some (by kernel_rfl))
  t3 := Tryd.underlying3
  a3 := Tryd.isAgg3
  z3 := Tryd.sizeOf3
  v3 := Tryd.zeroValue3
  t5 := Tryd.underlying5
  a5 := Tryd.isAgg5
  z5 := Tryd.sizeOf5
  v5 := Tryd.zeroValue5
  t9 := Tryd.underlying9
  a9 := Tryd.isAgg9
  z9 := Tryd.sizeOf9
  v9 := Tryd.zeroValue9 }
open Go.RowKit in
/-- strings.IndexByte: "IndexByte returns the index of the first instance of c in s, or -1 if c is not present in s.": IT RETURNS 'Lib.indexByte s c'; the world is as it was. (LAID: no walk: one application.) -/
theorem Tryd.strings_IndexByte (s : ByteArray) (c : Int) (w : World) :
    Calls Tryd.prog 134 #[.string s, .int .u8 c] w fun e w' => e = .returned (.int .i64 (Lib.indexByte s.data.toList c.toNat.toUInt8)) ∧ w' = w := Any.strings_IndexByte Tryd.lays137 s c w
def Tryd.lays244_ren : Go.Shelf.Ren := ⟨fun | 244 => 95 | 247 => 117 | 287 => 138 | 321 => 146 | 322 => 147 | n => n, fun | 9 => 9 | 3 => 3 | 75 => 115 | 4 => 4 | 5 => 5 | 167 => 153 | 37 => 83 | 0 => 0 | 85 => 154 | 2 => 2 | 53 => 136 | 175 => 173 | 46 => 166 | 21 => 21 | 80 => 190 | n => n, fun | n => n⟩
theorem Tryd.lays244 : Go.Proofs.Lays.n244 Tryd.prog Tryd.lays244_ren := {
  mixed := by kernel_rfl
  f244 := Tryd.func95.trans (congrArg some (by kernel_rfl))
  f247 := Tryd.func117.trans (congrArg some (by kernel_rfl))
  f287 := Tryd.func138.trans (congrArg some (by kernel_rfl))
  f321 := Tryd.func146.trans (congrArg some (by kernel_rfl))
  f322 := Tryd.func147.trans (congrArg some (by kernel_rfl))
  t0 := Tryd.underlying0
  a0 := Tryd.isAgg0
  z0 := Tryd.sizeOf0
  v0 := Tryd.zeroValue0
  t2 := Tryd.underlying2
  a2 := Tryd.isAgg2
  z2 := Tryd.sizeOf2
  v2 := Tryd.zeroValue2
  t3 := Tryd.underlying3
  a3 := Tryd.isAgg3
  z3 := Tryd.sizeOf3
  v3 := Tryd.zeroValue3
  t4 := Tryd.underlying4
  a4 := Tryd.isAgg4
  z4 := Tryd.sizeOf4
  v4 := Tryd.zeroValue4
  t5 := Tryd.underlying5
  a5 := Tryd.isAgg5
  z5 := Tryd.sizeOf5
  v5 := Tryd.zeroValue5
  t9 := Tryd.underlying9
  a9 := Tryd.isAgg9
  z9 := Tryd.sizeOf9
  v9 := Tryd.zeroValue9
  t21 := Tryd.underlying21
  a21 := Tryd.isAgg21
  z21 := Tryd.sizeOf21
  v21 := Tryd.zeroValue21
  t37 := Tryd.underlying83
  a37 := Tryd.isAgg83
  z37 := Tryd.sizeOf83
  v37 := Tryd.zeroValue83
  t46 := Tryd.underlying166
  a46 := Tryd.isAgg166
  z46 := Tryd.sizeOf166
  v46 := Tryd.zeroValue166
  t53 := Tryd.underlying136
  a53 := Tryd.isAgg136
  z53 := Tryd.sizeOf136
  v53 := Tryd.zeroValue136
  t75 := Tryd.underlying115
  a75 := Tryd.isAgg115
  z75 := Tryd.sizeOf115
  v75 := Tryd.zeroValue115
  t85 := Tryd.underlying154
  a85 := Tryd.isAgg154
  z85 := Tryd.sizeOf154
  v85 := Tryd.zeroValue154
  t167 := Tryd.underlying153
  a167 := Tryd.isAgg153
  z167 := Tryd.sizeOf153
  v167 := Tryd.zeroValue153
  t175 := Tryd.underlying173
  a175 := Tryd.isAgg173
  z175 := Tryd.sizeOf173
  v175 := Tryd.zeroValue173 }
open Go.RowKit in
/-- internal/strconv.Atoi, at a decimal numeral of at most 18 bytes: ITS VALUE, AND NO ERROR. The world behind the call: the one new row that '[]byte(s)' lays. (LAID: no walk: one application.) -/
theorem Tryd.internal_strconv_Atoi (s : ByteArray) (n : Int) (hl : s.size ≤ 18) (h : Lib.atoi s.data.toList = some n) (w : World) :
    Calls Tryd.prog 95 #[.string s] w fun e w' => e = .returned (.tuple #[.int .i64 n, .nilIface]) ∧ ∃ t, w' = Lib.bytesWorld w 5 t := Any.internal_strconv_Atoi Tryd.lays244 s n hl h w
def Tryd.lays172_ren : Go.Shelf.Ren := ⟨fun | 172 => 71 | 244 => 95 | 245 => 96 | 247 => 117 | 279 => 118 | 280 => 119 | 281 => 120 | 282 => 121 | 287 => 138 | 316 => 139 | 171 => 27 | 205 => 140 | 321 => 146 | 322 => 147 | 243 => 56 | 246 => 80 | 283 => 101 | 284 => 102 | 285 => 103 | 286 => 104 | 129 => 124 | 317 => 123 | 318 => 125 | 319 => 126 | 320 => 127 | 337 => 141 | 338 => 142 | n => n, fun | 9 => 9 | 3 => 3 | 75 => 115 | 76 => 116 | 4 => 4 | 5 => 5 | 167 => 153 | 37 => 83 | 0 => 0 | 85 => 154 | 2 => 2 | 168 => 156 | 53 => 136 | 175 => 173 | 46 => 166 | 210 => 176 | 127 => 180 | 145 => 183 | 143 => 181 | 21 => 21 | 171 => 135 | 173 => 139 | 212 => 162 | 51 => 163 | 20 => 20 | 213 => 164 | 232 => 184 | 233 => 185 | 80 => 190 | n => n, fun | 15 => 1 | 16 => 2 | 17 => 0 | 18 => 4 | 19 => 5 | n => n⟩
theorem Tryd.lays172 : Go.Proofs.Lays.n172 Tryd.prog Tryd.lays172_ren := {
  mixed := by kernel_rfl
  f129 := Tryd.func124.trans (congrArg some (by kernel_rfl))
  f171 := Tryd.func27.trans (congrArg some (by kernel_rfl))
  f172 := Tryd.func71.trans (congrArg some (by kernel_rfl))
  f205 := Tryd.func140.trans (congrArg some (by kernel_rfl))
  f243 := Tryd.func56.trans (congrArg some (by kernel_rfl))
  f244 := Tryd.func95.trans (congrArg some (by kernel_rfl))
  f245 := Tryd.func96.trans (congrArg some (by kernel_rfl))
  f246 := Tryd.func80.trans (congrArg some (by kernel_rfl))
  f247 := Tryd.func117.trans (congrArg some (by kernel_rfl))
  f279 := Tryd.func118.trans (congrArg some (by kernel_rfl))
  f280 := Tryd.func119.trans (congrArg some (by kernel_rfl))
  f281 := Tryd.func120.trans (congrArg some (by kernel_rfl))
  f282 := Tryd.func121.trans (congrArg some (by kernel_rfl))
  f283 := Tryd.func101.trans (congrArg some (by kernel_rfl))
  f284 := Tryd.func102.trans (congrArg some (by kernel_rfl))
  f285 := Tryd.func103.trans (congrArg some (by kernel_rfl))
  f286 := Tryd.func104.trans (congrArg some (by kernel_rfl))
  f287 := Tryd.func138.trans (congrArg some (by kernel_rfl))
  f316 := Tryd.func139.trans (congrArg some (by kernel_rfl))
  f317 := Tryd.func123.trans (congrArg some (by kernel_rfl))
  f318 := Tryd.func125.trans (congrArg some (by kernel_rfl))
  f319 := Tryd.func126.trans (congrArg some (by kernel_rfl))
  f320 := Tryd.func127.trans (congrArg some (by kernel_rfl))
  f321 := Tryd.func146.trans (congrArg some (by kernel_rfl))
  f322 := Tryd.func147.trans (congrArg some (by kernel_rfl))
  f337 := Tryd.func141.trans (congrArg some (by kernel_rfl))
  f338 := Tryd.func142.trans (congrArg some (by kernel_rfl))
  t0 := Tryd.underlying0
  a0 := Tryd.isAgg0
  z0 := Tryd.sizeOf0
  v0 := Tryd.zeroValue0
  t2 := Tryd.underlying2
  a2 := Tryd.isAgg2
  z2 := Tryd.sizeOf2
  v2 := Tryd.zeroValue2
  t3 := Tryd.underlying3
  a3 := Tryd.isAgg3
  z3 := Tryd.sizeOf3
  v3 := Tryd.zeroValue3
  t4 := Tryd.underlying4
  a4 := Tryd.isAgg4
  z4 := Tryd.sizeOf4
  v4 := Tryd.zeroValue4
  t5 := Tryd.underlying5
  a5 := Tryd.isAgg5
  z5 := Tryd.sizeOf5
  v5 := Tryd.zeroValue5
  t9 := Tryd.underlying9
  a9 := Tryd.isAgg9
  z9 := Tryd.sizeOf9
  v9 := Tryd.zeroValue9
  t20 := Tryd.underlying20
  a20 := Tryd.isAgg20
  z20 := Tryd.sizeOf20
  v20 := Tryd.zeroValue20
  t21 := Tryd.underlying21
  a21 := Tryd.isAgg21
  z21 := Tryd.sizeOf21
  v21 := Tryd.zeroValue21
  t37 := Tryd.underlying83
  a37 := Tryd.isAgg83
  z37 := Tryd.sizeOf83
  v37 := Tryd.zeroValue83
  t46 := Tryd.underlying166
  a46 := Tryd.isAgg166
  z46 := Tryd.sizeOf166
  v46 := Tryd.zeroValue166
  t51 := Tryd.underlying163
  a51 := Tryd.isAgg163
  z51 := Tryd.sizeOf163
  v51 := Tryd.zeroValue163
  t53 := Tryd.underlying136
  a53 := Tryd.isAgg136
  z53 := Tryd.sizeOf136
  v53 := Tryd.zeroValue136
  t75 := Tryd.underlying115
  a75 := Tryd.isAgg115
  z75 := Tryd.sizeOf115
  v75 := Tryd.zeroValue115
  t76 := Tryd.underlying116
  a76 := Tryd.isAgg116
  z76 := Tryd.sizeOf116
  v76 := Tryd.zeroValue116
  t85 := Tryd.underlying154
  a85 := Tryd.isAgg154
  z85 := Tryd.sizeOf154
  v85 := Tryd.zeroValue154
  t127 := Tryd.underlying180
  a127 := Tryd.isAgg180
  z127 := Tryd.sizeOf180
  v127 := Tryd.zeroValue180
  t143 := Tryd.underlying181
  a143 := Tryd.isAgg181
  z143 := Tryd.sizeOf181
  v143 := Tryd.zeroValue181
  t145 := Tryd.underlying183
  a145 := Tryd.isAgg183
  z145 := Tryd.sizeOf183
  v145 := Tryd.zeroValue183
  t167 := Tryd.underlying153
  a167 := Tryd.isAgg153
  z167 := Tryd.sizeOf153
  v167 := Tryd.zeroValue153
  t168 := Tryd.underlying156
  a168 := Tryd.isAgg156
  z168 := Tryd.sizeOf156
  v168 := Tryd.zeroValue156
  t171 := Tryd.underlying135
  a171 := Tryd.isAgg135
  z171 := Tryd.sizeOf135
  v171 := Tryd.zeroValue135
  t173 := Tryd.underlying139
  a173 := Tryd.isAgg139
  z173 := Tryd.sizeOf139
  v173 := Tryd.zeroValue139
  t175 := Tryd.underlying173
  a175 := Tryd.isAgg173
  z175 := Tryd.sizeOf173
  v175 := Tryd.zeroValue173
  t210 := Tryd.underlying176
  a210 := Tryd.isAgg176
  z210 := Tryd.sizeOf176
  v210 := Tryd.zeroValue176
  t212 := Tryd.underlying162
  a212 := Tryd.isAgg162
  z212 := Tryd.sizeOf162
  v212 := Tryd.zeroValue162
  t213 := Tryd.underlying164
  a213 := Tryd.isAgg164
  z213 := Tryd.sizeOf164
  t232 := Tryd.underlying184
  a232 := Tryd.isAgg184
  z232 := Tryd.sizeOf184
  v232 := Tryd.zeroValue184
  t233 := Tryd.underlying185
  a233 := Tryd.isAgg185
  z233 := Tryd.sizeOf185
  v233 := Tryd.zeroValue185
  g15 := by kernel_rfl
  g16 := by kernel_rfl
  g17 := by kernel_rfl
  g18 := by kernel_rfl
  g19 := by kernel_rfl }
open Go.RowKit in
/-- strconv.Atoi: "Atoi is equivalent to ParseInt(s, 10, 0), converted to type int.": AT A DECIMAL NUMERAL OF AT MOST 18 BYTES: its value, and a nil error. The world behind the call: the one new row that the library's '[]byte(s)' lays. (LAID: no walk: one application.) -/
theorem Tryd.strconv_Atoi (s : ByteArray) (n : Int) (hl : s.size ≤ 18) (h : Lib.atoi s.data.toList = some n) (w : World) :
    Calls Tryd.prog 71 #[.string s] w fun e w' => e = .returned (.tuple #[.int .i64 n, .nilIface]) ∧ ∃ t, w' = Lib.bytesWorld w 5 t := Any.strconv_Atoi Tryd.lays172 s n hl h w
def Tryd.lays129_ren : Go.Shelf.Ren := ⟨fun | 129 => 124 | n => n, fun | 53 => 136 | 3 => 3 | 4 => 4 | 46 => 166 | 5 => 5 | 9 => 9 | n => n, fun | n => n⟩
theorem Tryd.lays129 : Go.Proofs.Lays.n129 Tryd.prog Tryd.lays129_ren := {
  mixed := by kernel_rfl
  f129 := Tryd.func124.trans (congrArg some (by kernel_rfl))
  t3 := Tryd.underlying3
  a3 := Tryd.isAgg3
  z3 := Tryd.sizeOf3
  v3 := Tryd.zeroValue3
  t4 := Tryd.underlying4
  a4 := Tryd.isAgg4
  z4 := Tryd.sizeOf4
  v4 := Tryd.zeroValue4
  t5 := Tryd.underlying5
  a5 := Tryd.isAgg5
  z5 := Tryd.sizeOf5
  v5 := Tryd.zeroValue5
  t9 := Tryd.underlying9
  a9 := Tryd.isAgg9
  z9 := Tryd.sizeOf9
  v9 := Tryd.zeroValue9
  t46 := Tryd.underlying166
  a46 := Tryd.isAgg166
  z46 := Tryd.sizeOf166
  v46 := Tryd.zeroValue166
  t53 := Tryd.underlying136
  a53 := Tryd.isAgg136
  z53 := Tryd.sizeOf136
  v53 := Tryd.zeroValue136 }
/-- bits.Len64: "Len64 returns the minimum number of bits required to represent x; the result is 0 for x == 0.": IT RETURNS 'Lib.bitLen x'; the world is as it was. ('h0', 'h1': x is a uint64.) (LAID: no walk: one application.) -/
theorem Tryd.bits_Len64 (x : Int) (w : World) (h0 : 0 ≤ x) (h1 : x ≤ 18446744073709551615) :
    Calls Tryd.prog 124 #[.int .u64 x] w fun e w' => e = .returned (.int .i64 (Lib.bitLen x.toNat)) ∧ w' = w := Any.bits_Len64 Tryd.lays129 x w h0 h1
def Tryd.lays317_ren : Go.Shelf.Ren := ⟨fun | 317 => 123 | n => n, fun | 3 => 3 | 46 => 166 | n => n, fun | n => n⟩
theorem Tryd.lays317 : Go.Proofs.Lays.n317 Tryd.prog Tryd.lays317_ren := {
  mixed := by kernel_rfl
  f317 := Tryd.func123.trans (congrArg some (by kernel_rfl))
  t3 := Tryd.underlying3
  a3 := Tryd.isAgg3
  z3 := Tryd.sizeOf3
  v3 := Tryd.zeroValue3
  t46 := Tryd.underlying166
  a46 := Tryd.isAgg166
  z46 := Tryd.sizeOf166
  v46 := Tryd.zeroValue166 }
open Go.Lib in
/-- internal/strconv.log10Pow2: "log10Pow2(x) returns ⌊log₁₀ 2**x⌋ = ⌊x * log₁₀ 2⌋.": '(x * 78913) >> 18', at an x up to 64 (a length in bits). The world is as it was. (LAID: no walk: one application.) -/
theorem Tryd.internal_strconv_log10Pow2 (x : Nat) (h : x ≤ 64) (w : World) :
    Calls Tryd.prog 123 #[.int .i64 x] w fun e w' => e = .returned (.int .i64 (Lib.l10 x)) ∧ w' = w := Any.internal_strconv_log10Pow2 Tryd.lays317 x h w
def Tryd.lays318_ren : Go.Shelf.Ren := ⟨fun | 318 => 125 | n => n, fun | 3 => 3 | 4 => 4 | n => n, fun | n => n⟩
theorem Tryd.lays318 : Go.Proofs.Lays.n318 Tryd.prog Tryd.lays318_ren := {
  mixed := by kernel_rfl
  f318 := Tryd.func125.trans (congrArg some (by kernel_rfl))
  t3 := Tryd.underlying3
  a3 := Tryd.isAgg3
  z3 := Tryd.sizeOf3
  v3 := Tryd.zeroValue3
  t4 := Tryd.underlying4
  a4 := Tryd.isAgg4
  z4 := Tryd.sizeOf4
  v4 := Tryd.zeroValue4 }
open Go.Lib in
/-- internal/strconv.bool2: "bool2 converts b to an integer: 1 for true, 0 for false." The world is as it was. (LAID: no walk: one application.) -/
theorem Tryd.internal_strconv_bool2_int (b : Bool) (w : World) :
    Calls Tryd.prog 125 #[.bool b] w fun e w' => e = .returned (.int .i64 (if b then 1 else 0)) ∧ w' = w := Any.internal_strconv_bool2_int Tryd.lays318 b w
def Tryd.lays283_ren : Go.Shelf.Ren := ⟨fun | 283 => 101 | n => n, fun | 3 => 3 | 9 => 9 | 4 => 4 | n => n, fun | n => n⟩
theorem Tryd.lays283 : Go.Proofs.Lays.n283 Tryd.prog Tryd.lays283_ren := {
  mixed := by kernel_rfl
  f283 := Tryd.func101.trans (congrArg some (by kernel_rfl))
  t3 := Tryd.underlying3
  a3 := Tryd.isAgg3
  z3 := Tryd.sizeOf3
  v3 := Tryd.zeroValue3
  t4 := Tryd.underlying4
  a4 := Tryd.isAgg4
  z4 := Tryd.sizeOf4
  v4 := Tryd.zeroValue4
  t9 := Tryd.underlying9
  a9 := Tryd.isAgg9
  z9 := Tryd.sizeOf9
  v9 := Tryd.zeroValue9 }
open Go.Lib in
/-- internal/strconv.small: "small returns the string for an i with 0 <= i < nSmalls.": i's decimal numeral. The world is as it was. (LAID: no walk: one application.) -/
theorem Tryd.internal_strconv_small (i : Nat) (h : i < 100) (w : World) :
    Calls Tryd.prog 101 #[.int .i64 i] w fun e w' => e = .returned (.string ⟨(Lib.decDigits i).toArray⟩) ∧ w' = w := Any.internal_strconv_small Tryd.lays283 i h w
def Tryd.laysM284_ren : Go.Shelf.Ren := ⟨fun | 284 => 102 | 129 => 124 | 317 => 123 | 318 => 125 | n => n, fun | 53 => 136 | 3 => 3 | 212 => 162 | 0 => 0 | 4 => 4 | 46 => 166 | 5 => 5 | 9 => 9 | n => n, fun | 17 => 0 | n => n⟩
theorem Tryd.laysM284 : Go.Proofs.LaysM.n284 Tryd.prog Tryd.laysM284_ren := {
  mixed := by kernel_rfl
  f129 := Tryd.func124.trans (congrArg some (by kernel_rfl))
  f284 := Tryd.func102.trans (congrArg some (by kernel_rfl))
  f317 := Tryd.func123.trans (congrArg some (by kernel_rfl))
  f318 := Tryd.func125.trans (congrArg some (by kernel_rfl))
  t0 := Tryd.underlying0
  a0 := Tryd.isAgg0
  z0 := Tryd.sizeOf0
  v0 := Tryd.zeroValue0
  t3 := Tryd.underlying3
  a3 := Tryd.isAgg3
  z3 := Tryd.sizeOf3
  v3 := Tryd.zeroValue3
  t4 := Tryd.underlying4
  a4 := Tryd.isAgg4
  z4 := Tryd.sizeOf4
  v4 := Tryd.zeroValue4
  t5 := Tryd.underlying5
  a5 := Tryd.isAgg5
  z5 := Tryd.sizeOf5
  v5 := Tryd.zeroValue5
  t9 := Tryd.underlying9
  a9 := Tryd.isAgg9
  z9 := Tryd.sizeOf9
  v9 := Tryd.zeroValue9
  t46 := Tryd.underlying166
  a46 := Tryd.isAgg166
  z46 := Tryd.sizeOf166
  v46 := Tryd.zeroValue166
  t53 := Tryd.underlying136
  a53 := Tryd.isAgg136
  z53 := Tryd.sizeOf136
  v53 := Tryd.zeroValue136
  t212 := Tryd.underlying162
  a212 := Tryd.isAgg162
  z212 := Tryd.sizeOf162
  v212 := Tryd.zeroValue162
  g17 := by kernel_rfl
  i0 := by kernel_rfl
  i3 := by kernel_rfl
  i4 := by kernel_rfl
  i5 := by kernel_rfl
  i9 := by kernel_rfl
  i46 := by kernel_rfl
  i53 := by kernel_rfl
  i212 := by kernel_rfl
  m17 := by kernel_rfl }
open Go.Lib in
/-- internal/strconv.numDigits, at a d that is not 0: THE NUMBER OF d's DECIMAL DIGITS. The world is as it was. (LAID: no walk: one application.) -/
theorem Tryd.internal_strconv_numDigits (u : Nat) (h1 : 1 ≤ u) (h2 : u < 18446744073709551616) (w : World) (htab : Lib.TabIs Tryd.prog w "internal/strconv.uint64pow10" .u64 Lib.pow10Tab) :
    Calls Tryd.prog 102 #[.int .u64 u] w fun e w' => e = .returned (.int .i64 (Lib.nDigits u)) ∧ w' = w := Any.internal_strconv_numDigits Tryd.laysM284 u h1 h2 w htab
def Tryd.lays285_ren : Go.Shelf.Ren := ⟨fun | 285 => 103 | n => n, fun | 37 => 83 | 53 => 136 | 3 => 3 | 4 => 4 | 51 => 163 | 9 => 9 | 5 => 5 | 0 => 0 | n => n, fun | n => n⟩
theorem Tryd.lays285 : Go.Proofs.Lays.n285 Tryd.prog Tryd.lays285_ren := {
  mixed := by kernel_rfl
  f285 := Tryd.func103.trans (congrArg some (by kernel_rfl))
  t0 := Tryd.underlying0
  a0 := Tryd.isAgg0
  z0 := Tryd.sizeOf0
  v0 := Tryd.zeroValue0
  t3 := Tryd.underlying3
  a3 := Tryd.isAgg3
  z3 := Tryd.sizeOf3
  v3 := Tryd.zeroValue3
  t4 := Tryd.underlying4
  a4 := Tryd.isAgg4
  z4 := Tryd.sizeOf4
  v4 := Tryd.zeroValue4
  t5 := Tryd.underlying5
  a5 := Tryd.isAgg5
  z5 := Tryd.sizeOf5
  v5 := Tryd.zeroValue5
  t9 := Tryd.underlying9
  a9 := Tryd.isAgg9
  z9 := Tryd.sizeOf9
  v9 := Tryd.zeroValue9
  t37 := Tryd.underlying83
  a37 := Tryd.isAgg83
  z37 := Tryd.sizeOf83
  v37 := Tryd.zeroValue83
  t51 := Tryd.underlying163
  a51 := Tryd.isAgg163
  z51 := Tryd.sizeOf163
  v51 := Tryd.zeroValue163
  t53 := Tryd.underlying136
  a53 := Tryd.isAgg136
  z53 := Tryd.sizeOf136
  v53 := Tryd.zeroValue136 }
open Go.RowKit Go.Sort Go.Lib in
/-- internal/strconv.formatBase10: "formatBase10 formats the decimal representation of u into a. The caller is responsible for ensuring that a is big enough to hold u. If a is too big, leading zeros will be filled in as needed.": THE ROW HOLDS u's DIGITS ('FmtInv .. 0 ..': every place t holds 'dg u (len - 1 - t)'); all else is as it was but for the count of draws. (LAID: no walk: one application.) -/
theorem Tryd.internal_strconv_formatBase10 (blk off cap : Nat) (u : Nat) (d : Array UInt8) (w : World) (hH : Holds (fun (b : UInt8) => Value.int .u8 (b.toNat : Int)) w blk off d) (hu : u < 10 ^ d.size) (hu64 : u < 18446744073709551616) (hsz : d.size < 4611686018427387904) :
    Calls Tryd.prog 103 #[.slice (some ⟨blk, off, none⟩) d.size cap, .int .u64 u] w fun e w' =>
      e = .returned (.tuple #[]) ∧ ∃ (n v' : Nat) (dk : Array UInt8), w' = (putRow (fun (b : UInt8) => Value.int .u8 (b.toNat : Int)) w blk off dk).drewN n ∧ FmtInv d.size u 0 v' dk := Any.internal_strconv_formatBase10 Tryd.lays285 blk off cap u d w hH hu hu64 hsz
def Tryd.laysM246_ren : Go.Shelf.Ren := ⟨fun | 246 => 80 | 283 => 101 | 284 => 102 | 285 => 103 | 286 => 104 | 129 => 124 | 317 => 123 | 318 => 125 | 319 => 126 | 320 => 127 | 337 => 141 | 338 => 142 | n => n, fun | 2 => 2 | 3 => 3 | 9 => 9 | 4 => 4 | 171 => 135 | 0 => 0 | 53 => 136 | 37 => 83 | 5 => 5 | 173 => 139 | 212 => 162 | 51 => 163 | 20 => 20 | 213 => 164 | 46 => 166 | 232 => 184 | 233 => 185 | n => n, fun | 17 => 0 | 18 => 4 | 19 => 5 | n => n⟩
theorem Tryd.laysM246 : Go.Proofs.LaysM.n246 Tryd.prog Tryd.laysM246_ren := {
  mixed := by kernel_rfl
  f129 := Tryd.func124.trans (congrArg some (by kernel_rfl))
  f246 := Tryd.func80.trans (congrArg some (by kernel_rfl))
  f283 := Tryd.func101.trans (congrArg some (by kernel_rfl))
  f284 := Tryd.func102.trans (congrArg some (by kernel_rfl))
  f285 := Tryd.func103.trans (congrArg some (by kernel_rfl))
  f286 := Tryd.func104.trans (congrArg some (by kernel_rfl))
  f317 := Tryd.func123.trans (congrArg some (by kernel_rfl))
  f318 := Tryd.func125.trans (congrArg some (by kernel_rfl))
  f319 := Tryd.func126.trans (congrArg some (by kernel_rfl))
  f320 := Tryd.func127.trans (congrArg some (by kernel_rfl))
  f337 := Tryd.func141.trans (congrArg some (by kernel_rfl))
  f338 := Tryd.func142.trans (congrArg some (by kernel_rfl))
  t0 := Tryd.underlying0
  a0 := Tryd.isAgg0
  z0 := Tryd.sizeOf0
  v0 := Tryd.zeroValue0
  t2 := Tryd.underlying2
  a2 := Tryd.isAgg2
  z2 := Tryd.sizeOf2
  v2 := Tryd.zeroValue2
  t3 := Tryd.underlying3
  a3 := Tryd.isAgg3
  z3 := Tryd.sizeOf3
  v3 := Tryd.zeroValue3
  t4 := Tryd.underlying4
  a4 := Tryd.isAgg4
  z4 := Tryd.sizeOf4
  v4 := Tryd.zeroValue4
  t5 := Tryd.underlying5
  a5 := Tryd.isAgg5
  z5 := Tryd.sizeOf5
  v5 := Tryd.zeroValue5
  t9 := Tryd.underlying9
  a9 := Tryd.isAgg9
  z9 := Tryd.sizeOf9
  v9 := Tryd.zeroValue9
  t20 := Tryd.underlying20
  a20 := Tryd.isAgg20
  z20 := Tryd.sizeOf20
  v20 := Tryd.zeroValue20
  t37 := Tryd.underlying83
  a37 := Tryd.isAgg83
  z37 := Tryd.sizeOf83
  v37 := Tryd.zeroValue83
  t46 := Tryd.underlying166
  a46 := Tryd.isAgg166
  z46 := Tryd.sizeOf166
  v46 := Tryd.zeroValue166
  t51 := Tryd.underlying163
  a51 := Tryd.isAgg163
  z51 := Tryd.sizeOf163
  v51 := Tryd.zeroValue163
  t53 := Tryd.underlying136
  a53 := Tryd.isAgg136
  z53 := Tryd.sizeOf136
  v53 := Tryd.zeroValue136
  t171 := Tryd.underlying135
  a171 := Tryd.isAgg135
  z171 := Tryd.sizeOf135
  v171 := Tryd.zeroValue135
  t173 := Tryd.underlying139
  a173 := Tryd.isAgg139
  z173 := Tryd.sizeOf139
  v173 := Tryd.zeroValue139
  t212 := Tryd.underlying162
  a212 := Tryd.isAgg162
  z212 := Tryd.sizeOf162
  v212 := Tryd.zeroValue162
  t213 := Tryd.underlying164
  a213 := Tryd.isAgg164
  z213 := Tryd.sizeOf164
  t232 := Tryd.underlying184
  a232 := Tryd.isAgg184
  z232 := Tryd.sizeOf184
  v232 := Tryd.zeroValue184
  t233 := Tryd.underlying185
  a233 := Tryd.isAgg185
  z233 := Tryd.sizeOf185
  v233 := Tryd.zeroValue185
  g17 := by kernel_rfl
  g18 := by kernel_rfl
  g19 := by kernel_rfl
  i0 := by kernel_rfl
  i2 := by kernel_rfl
  i3 := by kernel_rfl
  i4 := by kernel_rfl
  i5 := by kernel_rfl
  i9 := by kernel_rfl
  i20 := by kernel_rfl
  i37 := by kernel_rfl
  i46 := by kernel_rfl
  i51 := by kernel_rfl
  i53 := by kernel_rfl
  i171 := by kernel_rfl
  i173 := by kernel_rfl
  i212 := by kernel_rfl
  i232 := by kernel_rfl
  i233 := by kernel_rfl
  m17 := by kernel_rfl
  m18 := by kernel_rfl
  m19 := by kernel_rfl }
open Go.RowKit Go.Sort Go.Lib in
/-- internal/strconv.FormatInt: "FormatInt returns the string representation of i in the given base": AT BASE 10: i's decimal numeral, for every int64. The world behind the call: the world before it, new blocks behind the heap, draws. (LAID: no walk: one application.) -/
theorem Tryd.internal_strconv_FormatInt_10 (n : Int) (h0 : -9223372036854775808 ≤ n) (h1 : n ≤ 9223372036854775807) (w : World) (htab : Lib.TabIs Tryd.prog w "internal/strconv.uint64pow10" .u64 Lib.pow10Tab) :
    Calls Tryd.prog 80 #[.int .i64 n, .int .i64 10] w fun e w' => e = .returned (.string ⟨(Lib.itoa n).toArray⟩) ∧ ∃ k os, w' = grow (w.drewN k) os := Any.internal_strconv_FormatInt_10 Tryd.laysM246 n h0 h1 w htab
def Tryd.lays246_ren : Go.Shelf.Ren := ⟨fun | 246 => 80 | 283 => 101 | 284 => 102 | 285 => 103 | 286 => 104 | 129 => 124 | 317 => 123 | 318 => 125 | 319 => 126 | 320 => 127 | 337 => 141 | 338 => 142 | n => n, fun | 2 => 2 | 3 => 3 | 9 => 9 | 4 => 4 | 171 => 135 | 0 => 0 | 53 => 136 | 37 => 83 | 5 => 5 | 173 => 139 | 212 => 162 | 51 => 163 | 20 => 20 | 213 => 164 | 46 => 166 | 232 => 184 | 233 => 185 | n => n, fun | 17 => 0 | 18 => 4 | 19 => 5 | n => n⟩
theorem Tryd.lays246 : Go.Proofs.Lays.n246 Tryd.prog Tryd.lays246_ren := {
  mixed := by kernel_rfl
  f129 := Tryd.func124.trans (congrArg some (by kernel_rfl))
  f246 := Tryd.func80.trans (congrArg some (by kernel_rfl))
  f283 := Tryd.func101.trans (congrArg some (by kernel_rfl))
  f284 := Tryd.func102.trans (congrArg some (by kernel_rfl))
  f285 := Tryd.func103.trans (congrArg some (by kernel_rfl))
  f286 := Tryd.func104.trans (congrArg some (by kernel_rfl))
  f317 := Tryd.func123.trans (congrArg some (by kernel_rfl))
  f318 := Tryd.func125.trans (congrArg some (by kernel_rfl))
  f319 := Tryd.func126.trans (congrArg some (by kernel_rfl))
  f320 := Tryd.func127.trans (congrArg some (by kernel_rfl))
  f337 := Tryd.func141.trans (congrArg some (by kernel_rfl))
  f338 := Tryd.func142.trans (congrArg some (by kernel_rfl))
  t0 := Tryd.underlying0
  a0 := Tryd.isAgg0
  z0 := Tryd.sizeOf0
  v0 := Tryd.zeroValue0
  t2 := Tryd.underlying2
  a2 := Tryd.isAgg2
  z2 := Tryd.sizeOf2
  v2 := Tryd.zeroValue2
  t3 := Tryd.underlying3
  a3 := Tryd.isAgg3
  z3 := Tryd.sizeOf3
  v3 := Tryd.zeroValue3
  t4 := Tryd.underlying4
  a4 := Tryd.isAgg4
  z4 := Tryd.sizeOf4
  v4 := Tryd.zeroValue4
  t5 := Tryd.underlying5
  a5 := Tryd.isAgg5
  z5 := Tryd.sizeOf5
  v5 := Tryd.zeroValue5
  t9 := Tryd.underlying9
  a9 := Tryd.isAgg9
  z9 := Tryd.sizeOf9
  v9 := Tryd.zeroValue9
  t20 := Tryd.underlying20
  a20 := Tryd.isAgg20
  z20 := Tryd.sizeOf20
  v20 := Tryd.zeroValue20
  t37 := Tryd.underlying83
  a37 := Tryd.isAgg83
  z37 := Tryd.sizeOf83
  v37 := Tryd.zeroValue83
  t46 := Tryd.underlying166
  a46 := Tryd.isAgg166
  z46 := Tryd.sizeOf166
  v46 := Tryd.zeroValue166
  t51 := Tryd.underlying163
  a51 := Tryd.isAgg163
  z51 := Tryd.sizeOf163
  v51 := Tryd.zeroValue163
  t53 := Tryd.underlying136
  a53 := Tryd.isAgg136
  z53 := Tryd.sizeOf136
  v53 := Tryd.zeroValue136
  t171 := Tryd.underlying135
  a171 := Tryd.isAgg135
  z171 := Tryd.sizeOf135
  v171 := Tryd.zeroValue135
  t173 := Tryd.underlying139
  a173 := Tryd.isAgg139
  z173 := Tryd.sizeOf139
  v173 := Tryd.zeroValue139
  t212 := Tryd.underlying162
  a212 := Tryd.isAgg162
  z212 := Tryd.sizeOf162
  v212 := Tryd.zeroValue162
  t213 := Tryd.underlying164
  a213 := Tryd.isAgg164
  z213 := Tryd.sizeOf164
  t232 := Tryd.underlying184
  a232 := Tryd.isAgg184
  z232 := Tryd.sizeOf184
  v232 := Tryd.zeroValue184
  t233 := Tryd.underlying185
  a233 := Tryd.isAgg185
  z233 := Tryd.sizeOf185
  v233 := Tryd.zeroValue185
  g17 := by kernel_rfl
  g18 := by kernel_rfl
  g19 := by kernel_rfl }
open Go.RowKit Go.Sort Go.Lib in
/-- THE ROAD WITHOUT THE TABLE: 0 <= i < 100: two constants are read, nothing is laid: no premise on the world, and the world is as it was. (LAID: no walk: one application.) -/
theorem Tryd.internal_strconv_FormatInt_10_small (i : Nat) (hi : i < 100) (w : World) :
    Calls Tryd.prog 80 #[.int .i64 i, .int .i64 10] w fun e w' => e = .returned (.string ⟨(Lib.decDigits i).toArray⟩) ∧ w' = w := Any.internal_strconv_FormatInt_10_small Tryd.lays246 i hi w
def Tryd.laysM243_ren : Go.Shelf.Ren := ⟨fun | 243 => 56 | 246 => 80 | 283 => 101 | 284 => 102 | 285 => 103 | 286 => 104 | 129 => 124 | 317 => 123 | 318 => 125 | 319 => 126 | 320 => 127 | 337 => 141 | 338 => 142 | n => n, fun | 3 => 3 | 9 => 9 | 2 => 2 | 4 => 4 | 171 => 135 | 0 => 0 | 53 => 136 | 37 => 83 | 5 => 5 | 173 => 139 | 212 => 162 | 51 => 163 | 20 => 20 | 213 => 164 | 46 => 166 | 232 => 184 | 233 => 185 | n => n, fun | 17 => 0 | 18 => 4 | 19 => 5 | n => n⟩
theorem Tryd.laysM243 : Go.Proofs.LaysM.n243 Tryd.prog Tryd.laysM243_ren := {
  mixed := by kernel_rfl
  f129 := Tryd.func124.trans (congrArg some (by kernel_rfl))
  f243 := Tryd.func56.trans (congrArg some (by kernel_rfl))
  f246 := Tryd.func80.trans (congrArg some (by kernel_rfl))
  f283 := Tryd.func101.trans (congrArg some (by kernel_rfl))
  f284 := Tryd.func102.trans (congrArg some (by kernel_rfl))
  f285 := Tryd.func103.trans (congrArg some (by kernel_rfl))
  f286 := Tryd.func104.trans (congrArg some (by kernel_rfl))
  f317 := Tryd.func123.trans (congrArg some (by kernel_rfl))
  f318 := Tryd.func125.trans (congrArg some (by kernel_rfl))
  f319 := Tryd.func126.trans (congrArg some (by kernel_rfl))
  f320 := Tryd.func127.trans (congrArg some (by kernel_rfl))
  f337 := Tryd.func141.trans (congrArg some (by kernel_rfl))
  f338 := Tryd.func142.trans (congrArg some (by kernel_rfl))
  t0 := Tryd.underlying0
  a0 := Tryd.isAgg0
  z0 := Tryd.sizeOf0
  v0 := Tryd.zeroValue0
  t2 := Tryd.underlying2
  a2 := Tryd.isAgg2
  z2 := Tryd.sizeOf2
  v2 := Tryd.zeroValue2
  t3 := Tryd.underlying3
  a3 := Tryd.isAgg3
  z3 := Tryd.sizeOf3
  v3 := Tryd.zeroValue3
  t4 := Tryd.underlying4
  a4 := Tryd.isAgg4
  z4 := Tryd.sizeOf4
  v4 := Tryd.zeroValue4
  t5 := Tryd.underlying5
  a5 := Tryd.isAgg5
  z5 := Tryd.sizeOf5
  v5 := Tryd.zeroValue5
  t9 := Tryd.underlying9
  a9 := Tryd.isAgg9
  z9 := Tryd.sizeOf9
  v9 := Tryd.zeroValue9
  t20 := Tryd.underlying20
  a20 := Tryd.isAgg20
  z20 := Tryd.sizeOf20
  v20 := Tryd.zeroValue20
  t37 := Tryd.underlying83
  a37 := Tryd.isAgg83
  z37 := Tryd.sizeOf83
  v37 := Tryd.zeroValue83
  t46 := Tryd.underlying166
  a46 := Tryd.isAgg166
  z46 := Tryd.sizeOf166
  v46 := Tryd.zeroValue166
  t51 := Tryd.underlying163
  a51 := Tryd.isAgg163
  z51 := Tryd.sizeOf163
  v51 := Tryd.zeroValue163
  t53 := Tryd.underlying136
  a53 := Tryd.isAgg136
  z53 := Tryd.sizeOf136
  v53 := Tryd.zeroValue136
  t171 := Tryd.underlying135
  a171 := Tryd.isAgg135
  z171 := Tryd.sizeOf135
  v171 := Tryd.zeroValue135
  t173 := Tryd.underlying139
  a173 := Tryd.isAgg139
  z173 := Tryd.sizeOf139
  v173 := Tryd.zeroValue139
  t212 := Tryd.underlying162
  a212 := Tryd.isAgg162
  z212 := Tryd.sizeOf162
  v212 := Tryd.zeroValue162
  t213 := Tryd.underlying164
  a213 := Tryd.isAgg164
  z213 := Tryd.sizeOf164
  t232 := Tryd.underlying184
  a232 := Tryd.isAgg184
  z232 := Tryd.sizeOf184
  v232 := Tryd.zeroValue184
  t233 := Tryd.underlying185
  a233 := Tryd.isAgg185
  z233 := Tryd.sizeOf185
  v233 := Tryd.zeroValue185
  g17 := by kernel_rfl
  g18 := by kernel_rfl
  g19 := by kernel_rfl
  i0 := by kernel_rfl
  i2 := by kernel_rfl
  i3 := by kernel_rfl
  i4 := by kernel_rfl
  i5 := by kernel_rfl
  i9 := by kernel_rfl
  i20 := by kernel_rfl
  i37 := by kernel_rfl
  i46 := by kernel_rfl
  i51 := by kernel_rfl
  i53 := by kernel_rfl
  i171 := by kernel_rfl
  i173 := by kernel_rfl
  i212 := by kernel_rfl
  i232 := by kernel_rfl
  i233 := by kernel_rfl
  m17 := by kernel_rfl
  m18 := by kernel_rfl
  m19 := by kernel_rfl }
open Go.RowKit Go.Sort Go.Lib in
/-- internal/strconv.Itoa: "Itoa is equivalent to FormatInt(int64(i), 10).": i's decimal numeral, for every int. (LAID: no walk: one application.) -/
theorem Tryd.internal_strconv_Itoa (n : Int) (h0 : -9223372036854775808 ≤ n) (h1 : n ≤ 9223372036854775807) (w : World) (htab : Lib.TabIs Tryd.prog w "internal/strconv.uint64pow10" .u64 Lib.pow10Tab) :
    Calls Tryd.prog 56 #[.int .i64 n] w fun e w' => e = .returned (.string ⟨(Lib.itoa n).toArray⟩) ∧ ∃ k os, w' = grow (w.drewN k) os := Any.internal_strconv_Itoa Tryd.laysM243 n h0 h1 w htab
def Tryd.lays243_ren : Go.Shelf.Ren := ⟨fun | 243 => 56 | 246 => 80 | 283 => 101 | 284 => 102 | 285 => 103 | 286 => 104 | 129 => 124 | 317 => 123 | 318 => 125 | 319 => 126 | 320 => 127 | 337 => 141 | 338 => 142 | n => n, fun | 3 => 3 | 9 => 9 | 2 => 2 | 4 => 4 | 171 => 135 | 0 => 0 | 53 => 136 | 37 => 83 | 5 => 5 | 173 => 139 | 212 => 162 | 51 => 163 | 20 => 20 | 213 => 164 | 46 => 166 | 232 => 184 | 233 => 185 | n => n, fun | 17 => 0 | 18 => 4 | 19 => 5 | n => n⟩
theorem Tryd.lays243 : Go.Proofs.Lays.n243 Tryd.prog Tryd.lays243_ren := {
  mixed := by kernel_rfl
  f129 := Tryd.func124.trans (congrArg some (by kernel_rfl))
  f243 := Tryd.func56.trans (congrArg some (by kernel_rfl))
  f246 := Tryd.func80.trans (congrArg some (by kernel_rfl))
  f283 := Tryd.func101.trans (congrArg some (by kernel_rfl))
  f284 := Tryd.func102.trans (congrArg some (by kernel_rfl))
  f285 := Tryd.func103.trans (congrArg some (by kernel_rfl))
  f286 := Tryd.func104.trans (congrArg some (by kernel_rfl))
  f317 := Tryd.func123.trans (congrArg some (by kernel_rfl))
  f318 := Tryd.func125.trans (congrArg some (by kernel_rfl))
  f319 := Tryd.func126.trans (congrArg some (by kernel_rfl))
  f320 := Tryd.func127.trans (congrArg some (by kernel_rfl))
  f337 := Tryd.func141.trans (congrArg some (by kernel_rfl))
  f338 := Tryd.func142.trans (congrArg some (by kernel_rfl))
  t0 := Tryd.underlying0
  a0 := Tryd.isAgg0
  z0 := Tryd.sizeOf0
  v0 := Tryd.zeroValue0
  t2 := Tryd.underlying2
  a2 := Tryd.isAgg2
  z2 := Tryd.sizeOf2
  v2 := Tryd.zeroValue2
  t3 := Tryd.underlying3
  a3 := Tryd.isAgg3
  z3 := Tryd.sizeOf3
  v3 := Tryd.zeroValue3
  t4 := Tryd.underlying4
  a4 := Tryd.isAgg4
  z4 := Tryd.sizeOf4
  v4 := Tryd.zeroValue4
  t5 := Tryd.underlying5
  a5 := Tryd.isAgg5
  z5 := Tryd.sizeOf5
  v5 := Tryd.zeroValue5
  t9 := Tryd.underlying9
  a9 := Tryd.isAgg9
  z9 := Tryd.sizeOf9
  v9 := Tryd.zeroValue9
  t20 := Tryd.underlying20
  a20 := Tryd.isAgg20
  z20 := Tryd.sizeOf20
  v20 := Tryd.zeroValue20
  t37 := Tryd.underlying83
  a37 := Tryd.isAgg83
  z37 := Tryd.sizeOf83
  v37 := Tryd.zeroValue83
  t46 := Tryd.underlying166
  a46 := Tryd.isAgg166
  z46 := Tryd.sizeOf166
  v46 := Tryd.zeroValue166
  t51 := Tryd.underlying163
  a51 := Tryd.isAgg163
  z51 := Tryd.sizeOf163
  v51 := Tryd.zeroValue163
  t53 := Tryd.underlying136
  a53 := Tryd.isAgg136
  z53 := Tryd.sizeOf136
  v53 := Tryd.zeroValue136
  t171 := Tryd.underlying135
  a171 := Tryd.isAgg135
  z171 := Tryd.sizeOf135
  v171 := Tryd.zeroValue135
  t173 := Tryd.underlying139
  a173 := Tryd.isAgg139
  z173 := Tryd.sizeOf139
  v173 := Tryd.zeroValue139
  t212 := Tryd.underlying162
  a212 := Tryd.isAgg162
  z212 := Tryd.sizeOf162
  v212 := Tryd.zeroValue162
  t213 := Tryd.underlying164
  a213 := Tryd.isAgg164
  z213 := Tryd.sizeOf164
  t232 := Tryd.underlying184
  a232 := Tryd.isAgg184
  z232 := Tryd.sizeOf184
  v232 := Tryd.zeroValue184
  t233 := Tryd.underlying185
  a233 := Tryd.isAgg185
  z233 := Tryd.sizeOf185
  v233 := Tryd.zeroValue185
  g17 := by kernel_rfl
  g18 := by kernel_rfl
  g19 := by kernel_rfl }
open Go.RowKit Go.Sort Go.Lib in
/-- THE ROAD WITHOUT THE TABLE: 0 <= i < 100. (LAID: no walk: one application.) -/
theorem Tryd.internal_strconv_Itoa_small (i : Nat) (hi : i < 100) (w : World) :
    Calls Tryd.prog 56 #[.int .i64 i] w fun e w' => e = .returned (.string ⟨(Lib.decDigits i).toArray⟩) ∧ w' = w := Any.internal_strconv_Itoa_small Tryd.lays243 i hi w
def Tryd.laysM171_ren : Go.Shelf.Ren := ⟨fun | 171 => 27 | 243 => 56 | 246 => 80 | 283 => 101 | 284 => 102 | 285 => 103 | 286 => 104 | 129 => 124 | 317 => 123 | 318 => 125 | 319 => 126 | 320 => 127 | 337 => 141 | 338 => 142 | n => n, fun | 3 => 3 | 9 => 9 | 2 => 2 | 4 => 4 | 171 => 135 | 0 => 0 | 53 => 136 | 37 => 83 | 5 => 5 | 173 => 139 | 212 => 162 | 51 => 163 | 20 => 20 | 213 => 164 | 46 => 166 | 232 => 184 | 233 => 185 | n => n, fun | 17 => 0 | 18 => 4 | 19 => 5 | n => n⟩
theorem Tryd.laysM171 : Go.Proofs.LaysM.n171 Tryd.prog Tryd.laysM171_ren := {
  mixed := by kernel_rfl
  f129 := Tryd.func124.trans (congrArg some (by kernel_rfl))
  f171 := Tryd.func27.trans (congrArg some (by kernel_rfl))
  f243 := Tryd.func56.trans (congrArg some (by kernel_rfl))
  f246 := Tryd.func80.trans (congrArg some (by kernel_rfl))
  f283 := Tryd.func101.trans (congrArg some (by kernel_rfl))
  f284 := Tryd.func102.trans (congrArg some (by kernel_rfl))
  f285 := Tryd.func103.trans (congrArg some (by kernel_rfl))
  f286 := Tryd.func104.trans (congrArg some (by kernel_rfl))
  f317 := Tryd.func123.trans (congrArg some (by kernel_rfl))
  f318 := Tryd.func125.trans (congrArg some (by kernel_rfl))
  f319 := Tryd.func126.trans (congrArg some (by kernel_rfl))
  f320 := Tryd.func127.trans (congrArg some (by kernel_rfl))
  f337 := Tryd.func141.trans (congrArg some (by kernel_rfl))
  f338 := Tryd.func142.trans (congrArg some (by kernel_rfl))
  t0 := Tryd.underlying0
  a0 := Tryd.isAgg0
  z0 := Tryd.sizeOf0
  v0 := Tryd.zeroValue0
  t2 := Tryd.underlying2
  a2 := Tryd.isAgg2
  z2 := Tryd.sizeOf2
  v2 := Tryd.zeroValue2
  t3 := Tryd.underlying3
  a3 := Tryd.isAgg3
  z3 := Tryd.sizeOf3
  v3 := Tryd.zeroValue3
  t4 := Tryd.underlying4
  a4 := Tryd.isAgg4
  z4 := Tryd.sizeOf4
  v4 := Tryd.zeroValue4
  t5 := Tryd.underlying5
  a5 := Tryd.isAgg5
  z5 := Tryd.sizeOf5
  v5 := Tryd.zeroValue5
  t9 := Tryd.underlying9
  a9 := Tryd.isAgg9
  z9 := Tryd.sizeOf9
  v9 := Tryd.zeroValue9
  t20 := Tryd.underlying20
  a20 := Tryd.isAgg20
  z20 := Tryd.sizeOf20
  v20 := Tryd.zeroValue20
  t37 := Tryd.underlying83
  a37 := Tryd.isAgg83
  z37 := Tryd.sizeOf83
  v37 := Tryd.zeroValue83
  t46 := Tryd.underlying166
  a46 := Tryd.isAgg166
  z46 := Tryd.sizeOf166
  v46 := Tryd.zeroValue166
  t51 := Tryd.underlying163
  a51 := Tryd.isAgg163
  z51 := Tryd.sizeOf163
  v51 := Tryd.zeroValue163
  t53 := Tryd.underlying136
  a53 := Tryd.isAgg136
  z53 := Tryd.sizeOf136
  v53 := Tryd.zeroValue136
  t171 := Tryd.underlying135
  a171 := Tryd.isAgg135
  z171 := Tryd.sizeOf135
  v171 := Tryd.zeroValue135
  t173 := Tryd.underlying139
  a173 := Tryd.isAgg139
  z173 := Tryd.sizeOf139
  v173 := Tryd.zeroValue139
  t212 := Tryd.underlying162
  a212 := Tryd.isAgg162
  z212 := Tryd.sizeOf162
  v212 := Tryd.zeroValue162
  t213 := Tryd.underlying164
  a213 := Tryd.isAgg164
  z213 := Tryd.sizeOf164
  t232 := Tryd.underlying184
  a232 := Tryd.isAgg184
  z232 := Tryd.sizeOf184
  v232 := Tryd.zeroValue184
  t233 := Tryd.underlying185
  a233 := Tryd.isAgg185
  z233 := Tryd.sizeOf185
  v233 := Tryd.zeroValue185
  g17 := by kernel_rfl
  g18 := by kernel_rfl
  g19 := by kernel_rfl
  i0 := by kernel_rfl
  i2 := by kernel_rfl
  i3 := by kernel_rfl
  i4 := by kernel_rfl
  i5 := by kernel_rfl
  i9 := by kernel_rfl
  i20 := by kernel_rfl
  i37 := by kernel_rfl
  i46 := by kernel_rfl
  i51 := by kernel_rfl
  i53 := by kernel_rfl
  i171 := by kernel_rfl
  i173 := by kernel_rfl
  i212 := by kernel_rfl
  i232 := by kernel_rfl
  i233 := by kernel_rfl
  m17 := by kernel_rfl
  m18 := by kernel_rfl
  m19 := by kernel_rfl }
open Go.RowKit Go.Sort Go.Lib in
/-- strconv.Itoa: "Itoa is equivalent to FormatInt(int64(i), 10).": i's DECIMAL NUMERAL ('Lib.itoa': a '-' where i is negative, then the digits), FOR EVERY int. The world behind the call: the world before it, new blocks behind the heap (the library's 'var a [24]byte'), draws. (LAID: no walk: one application.) -/
theorem Tryd.strconv_Itoa (n : Int) (h0 : -9223372036854775808 ≤ n) (h1 : n ≤ 9223372036854775807) (w : World) (htab : Lib.TabIs Tryd.prog w "internal/strconv.uint64pow10" .u64 Lib.pow10Tab) :
    Calls Tryd.prog 27 #[.int .i64 n] w fun e w' => e = .returned (.string ⟨(Lib.itoa n).toArray⟩) ∧ ∃ k os, w' = grow (w.drewN k) os := Any.strconv_Itoa Tryd.laysM171 n h0 h1 w htab
def Tryd.lays171_ren : Go.Shelf.Ren := ⟨fun | 171 => 27 | 243 => 56 | 246 => 80 | 283 => 101 | 284 => 102 | 285 => 103 | 286 => 104 | 129 => 124 | 317 => 123 | 318 => 125 | 319 => 126 | 320 => 127 | 337 => 141 | 338 => 142 | n => n, fun | 3 => 3 | 9 => 9 | 2 => 2 | 4 => 4 | 171 => 135 | 0 => 0 | 53 => 136 | 37 => 83 | 5 => 5 | 173 => 139 | 212 => 162 | 51 => 163 | 20 => 20 | 213 => 164 | 46 => 166 | 232 => 184 | 233 => 185 | n => n, fun | 17 => 0 | 18 => 4 | 19 => 5 | n => n⟩
theorem Tryd.lays171 : Go.Proofs.Lays.n171 Tryd.prog Tryd.lays171_ren := {
  mixed := by kernel_rfl
  f129 := Tryd.func124.trans (congrArg some (by kernel_rfl))
  f171 := Tryd.func27.trans (congrArg some (by kernel_rfl))
  f243 := Tryd.func56.trans (congrArg some (by kernel_rfl))
  f246 := Tryd.func80.trans (congrArg some (by kernel_rfl))
  f283 := Tryd.func101.trans (congrArg some (by kernel_rfl))
  f284 := Tryd.func102.trans (congrArg some (by kernel_rfl))
  f285 := Tryd.func103.trans (congrArg some (by kernel_rfl))
  f286 := Tryd.func104.trans (congrArg some (by kernel_rfl))
  f317 := Tryd.func123.trans (congrArg some (by kernel_rfl))
  f318 := Tryd.func125.trans (congrArg some (by kernel_rfl))
  f319 := Tryd.func126.trans (congrArg some (by kernel_rfl))
  f320 := Tryd.func127.trans (congrArg some (by kernel_rfl))
  f337 := Tryd.func141.trans (congrArg some (by kernel_rfl))
  f338 := Tryd.func142.trans (congrArg some (by kernel_rfl))
  t0 := Tryd.underlying0
  a0 := Tryd.isAgg0
  z0 := Tryd.sizeOf0
  v0 := Tryd.zeroValue0
  t2 := Tryd.underlying2
  a2 := Tryd.isAgg2
  z2 := Tryd.sizeOf2
  v2 := Tryd.zeroValue2
  t3 := Tryd.underlying3
  a3 := Tryd.isAgg3
  z3 := Tryd.sizeOf3
  v3 := Tryd.zeroValue3
  t4 := Tryd.underlying4
  a4 := Tryd.isAgg4
  z4 := Tryd.sizeOf4
  v4 := Tryd.zeroValue4
  t5 := Tryd.underlying5
  a5 := Tryd.isAgg5
  z5 := Tryd.sizeOf5
  v5 := Tryd.zeroValue5
  t9 := Tryd.underlying9
  a9 := Tryd.isAgg9
  z9 := Tryd.sizeOf9
  v9 := Tryd.zeroValue9
  t20 := Tryd.underlying20
  a20 := Tryd.isAgg20
  z20 := Tryd.sizeOf20
  v20 := Tryd.zeroValue20
  t37 := Tryd.underlying83
  a37 := Tryd.isAgg83
  z37 := Tryd.sizeOf83
  v37 := Tryd.zeroValue83
  t46 := Tryd.underlying166
  a46 := Tryd.isAgg166
  z46 := Tryd.sizeOf166
  v46 := Tryd.zeroValue166
  t51 := Tryd.underlying163
  a51 := Tryd.isAgg163
  z51 := Tryd.sizeOf163
  v51 := Tryd.zeroValue163
  t53 := Tryd.underlying136
  a53 := Tryd.isAgg136
  z53 := Tryd.sizeOf136
  v53 := Tryd.zeroValue136
  t171 := Tryd.underlying135
  a171 := Tryd.isAgg135
  z171 := Tryd.sizeOf135
  v171 := Tryd.zeroValue135
  t173 := Tryd.underlying139
  a173 := Tryd.isAgg139
  z173 := Tryd.sizeOf139
  v173 := Tryd.zeroValue139
  t212 := Tryd.underlying162
  a212 := Tryd.isAgg162
  z212 := Tryd.sizeOf162
  v212 := Tryd.zeroValue162
  t213 := Tryd.underlying164
  a213 := Tryd.isAgg164
  z213 := Tryd.sizeOf164
  t232 := Tryd.underlying184
  a232 := Tryd.isAgg184
  z232 := Tryd.sizeOf184
  v232 := Tryd.zeroValue184
  t233 := Tryd.underlying185
  a233 := Tryd.isAgg185
  z233 := Tryd.sizeOf185
  v233 := Tryd.zeroValue185
  g17 := by kernel_rfl
  g18 := by kernel_rfl
  g19 := by kernel_rfl }
open Go.RowKit Go.Sort Go.Lib in
/-- THE ROAD WITHOUT THE TABLE: 0 <= i < 100: NO PREMISE ON THE WORLD, AND THE WORLD IS AS IT WAS: a row that keeps its argument in that range need list no table ('laid = []'). (LAID: no walk: one application.) -/
theorem Tryd.strconv_Itoa_small (i : Nat) (hi : i < 100) (w : World) :
    Calls Tryd.prog 27 #[.int .i64 i] w fun e w' => e = .returned (.string ⟨(Lib.decDigits i).toArray⟩) ∧ w' = w := Any.strconv_Itoa_small Tryd.lays171 i hi w
def Tryd.lays217_ren : Go.Shelf.Ren := ⟨fun | 217 => 145 | 266 => 148 | n => n, fun | 9 => 9 | 5 => 5 | 3 => 3 | n => n, fun | n => n⟩
theorem Tryd.lays217 : Go.Proofs.Lays.n217 Tryd.prog Tryd.lays217_ren := {
  mixed := by kernel_rfl
  f217 := Tryd.func145.trans (congrArg some (by kernel_rfl))
  f266 := Tryd.func148.trans (congrArg some (by kernel_rfl))
  t3 := Tryd.underlying3
  a3 := Tryd.isAgg3
  z3 := Tryd.sizeOf3
  v3 := Tryd.zeroValue3
  t5 := Tryd.underlying5
  a5 := Tryd.isAgg5
  z5 := Tryd.sizeOf5
  v5 := Tryd.zeroValue5
  t9 := Tryd.underlying9
  a9 := Tryd.isAgg9
  z9 := Tryd.sizeOf9
  v9 := Tryd.zeroValue9 }
open Go.RowKit Go.Lib in
/-- internal/stringslite.IndexByte (what strings.IndexByte calls): IT RETURNS 'Lib.indexByte s c'; the world is as it was. (LAID: no walk: one application.) -/
theorem Tryd.stringslite_IndexByte (s : ByteArray) (c : Int) (w : World) :
    Calls Tryd.prog 145 #[.string s, .int .u8 c] w fun e w' => e = .returned (.int .i64 (Lib.indexByte s.data.toList c.toNat.toUInt8)) ∧ w' = w := Any.stringslite_IndexByte Tryd.lays217 s c w
def Tryd.lays224_ren : Go.Shelf.Ren := ⟨fun | 224 => 136 | n => n, fun | 3 => 3 | n => n, fun | n => n⟩
theorem Tryd.lays224 : Go.Proofs.Lays.n224 Tryd.prog Tryd.lays224_ren := {
  mixed := by kernel_rfl
  f224 := Tryd.func136.trans (congrArg some (by kernel_rfl))
  t3 := Tryd.underlying3
  a3 := Tryd.isAgg3
  z3 := Tryd.sizeOf3
  v3 := Tryd.zeroValue3 }
open Go.RowKit Go.Lib in
/-- internal/bytealg.Cutover: "Cutover reports the number of failures of IndexByte we should tolerate before switching over to Index. n is the number of bytes processed so far.": on amd64: (n + 16) / 8. (LAID: no walk: one application.) -/
theorem Tryd.bytealg_Cutover (n : Int) (h0 : 0 ≤ n) (h1 : n < 4611686018427387904) (w : World) :
    Calls Tryd.prog 136 #[.int .i64 n] w fun e w' => e = .returned (.int .i64 ((n + 16) / 8)) ∧ w' = w := Any.bytealg_Cutover Tryd.lays224 n h0 h1 w
def Tryd.lays206_ren : Go.Shelf.Ren := ⟨fun | 206 => 133 | n => n, fun | 9 => 9 | 4 => 4 | 3 => 3 | n => n, fun | n => n⟩
theorem Tryd.lays206 : Go.Proofs.Lays.n206 Tryd.prog Tryd.lays206_ren := {
  mixed := by kernel_rfl
  f206 := Tryd.func133.trans (congrArg some (by kernel_rfl))
  t3 := Tryd.underlying3
  a3 := Tryd.isAgg3
  z3 := Tryd.sizeOf3
  v3 := Tryd.zeroValue3
  t4 := Tryd.underlying4
  a4 := Tryd.isAgg4
  z4 := Tryd.sizeOf4
  v4 := Tryd.zeroValue4
  t9 := Tryd.underlying9
  a9 := Tryd.isAgg9
  z9 := Tryd.sizeOf9
  v9 := Tryd.zeroValue9 }
open Go.RowKit Go.Lib in
/-- internal/stringslite.HasPrefix (what strings.HasPrefix calls). (LAID: no walk: one application.) -/
theorem Tryd.stringslite_HasPrefix (s p : ByteArray) (w : World) :
    Calls Tryd.prog 133 #[.string s, .string p] w fun e w' => e = .returned (.bool (Lib.hasPrefix s.data.toList p.data.toList)) ∧ w' = w := Any.stringslite_HasPrefix Tryd.lays206 s p w
def Tryd.lays99_ren : Go.Shelf.Ren := ⟨fun | 99 => 115 | 206 => 133 | n => n, fun | 9 => 9 | 4 => 4 | 3 => 3 | n => n, fun | n => n⟩
theorem Tryd.lays99 : Go.Proofs.Lays.n99 Tryd.prog Tryd.lays99_ren := {
  mixed := by kernel_rfl
  f99 := Tryd.func115.trans (congrArg some (by kernel_rfl))
  f206 := Tryd.func133.trans (congrArg some (by kernel_rfl))
  t3 := Tryd.underlying3
  a3 := Tryd.isAgg3
  z3 := Tryd.sizeOf3
  v3 := Tryd.zeroValue3
  t4 := Tryd.underlying4
  a4 := Tryd.isAgg4
  z4 := Tryd.sizeOf4
  v4 := Tryd.zeroValue4
  t9 := Tryd.underlying9
  a9 := Tryd.isAgg9
  z9 := Tryd.sizeOf9
  v9 := Tryd.zeroValue9 }
open Go.RowKit Go.Lib in
/-- strings.HasPrefix: "HasPrefix reports whether the string s begins with prefix.": IT RETURNS 'Lib.hasPrefix s prefix'; the world is as it was. (LAID: no walk: one application.) -/
theorem Tryd.strings_HasPrefix (s p : ByteArray) (w : World) :
    Calls Tryd.prog 115 #[.string s, .string p] w fun e w' => e = .returned (.bool (Lib.hasPrefix s.data.toList p.data.toList)) ∧ w' = w := Any.strings_HasPrefix Tryd.lays99 s p w
def Tryd.lays152_ren : Go.Shelf.Ren := ⟨fun | 152 => 116 | 137 => 134 | 119 => 135 | 224 => 136 | 225 => 137 | 217 => 145 | 266 => 148 | n => n, fun | 9 => 9 | 21 => 21 | 3 => 3 | 4 => 4 | 5 => 5 | 0 => 0 | 46 => 166 | n => n, fun | n => n⟩
theorem Tryd.lays152 : Go.Proofs.Lays.n152 Tryd.prog Tryd.lays152_ren := {
  mixed := by kernel_rfl
  f119 := Tryd.func135.trans (congrArg some (by kernel_rfl))
  f137 := Tryd.func134.trans (congrArg some (by kernel_rfl))
  f152 := Tryd.func116.trans (congrArg some (by kernel_rfl))
  f217 := Tryd.func145.trans (congrArg some (by kernel_rfl))
  f224 := Tryd.func136.trans (congrArg some (by kernel_rfl))
  f225 := Tryd.func137.trans (congrArg some (by kernel_rfl))
  f266 := Tryd.func148.trans (congrArg some (by kernel_rfl))
  t0 := Tryd.underlying0
  a0 := Tryd.isAgg0
  z0 := Tryd.sizeOf0
  v0 := Tryd.zeroValue0
  t3 := Tryd.underlying3
  a3 := Tryd.isAgg3
  z3 := Tryd.sizeOf3
  v3 := Tryd.zeroValue3
  t4 := Tryd.underlying4
  a4 := Tryd.isAgg4
  z4 := Tryd.sizeOf4
  v4 := Tryd.zeroValue4
  t5 := Tryd.underlying5
  a5 := Tryd.isAgg5
  z5 := Tryd.sizeOf5
  v5 := Tryd.zeroValue5
  t9 := Tryd.underlying9
  a9 := Tryd.isAgg9
  z9 := Tryd.sizeOf9
  v9 := Tryd.zeroValue9
  t21 := Tryd.underlying21
  a21 := Tryd.isAgg21
  z21 := Tryd.sizeOf21
  v21 := Tryd.zeroValue21
  t46 := Tryd.underlying166
  a46 := Tryd.isAgg166
  z46 := Tryd.sizeOf166
  v46 := Tryd.zeroValue166 }
open Go.RowKit Go.Lib in
theorem Tryd.strings_IndexRune_ascii (s : ByteArray) (r : Int) (w : World) (h0 : 0 ≤ r) (h1 : r < 128) :
    Calls Tryd.prog 116 #[.string s, .int .i32 r] w fun e w' => e = .returned (.int .i64 (Lib.indexByte s.data.toList r.toNat.toUInt8)) ∧ w' = w := Any.strings_IndexRune_ascii Tryd.lays152 s r w h0 h1
def Tryd.lays151_ren : Go.Shelf.Ren := ⟨fun | 151 => 93 | 152 => 116 | 137 => 134 | 119 => 135 | 224 => 136 | 225 => 137 | 217 => 145 | 266 => 148 | n => n, fun | 9 => 9 | 21 => 21 | 4 => 4 | 3 => 3 | 5 => 5 | 0 => 0 | 46 => 166 | n => n, fun | n => n⟩
theorem Tryd.lays151 : Go.Proofs.Lays.n151 Tryd.prog Tryd.lays151_ren := {
  mixed := by kernel_rfl
  f119 := Tryd.func135.trans (congrArg some (by kernel_rfl))
  f137 := Tryd.func134.trans (congrArg some (by kernel_rfl))
  f151 := Tryd.func93.trans (congrArg some (by kernel_rfl))
  f152 := Tryd.func116.trans (congrArg some (by kernel_rfl))
  f217 := Tryd.func145.trans (congrArg some (by kernel_rfl))
  f224 := Tryd.func136.trans (congrArg some (by kernel_rfl))
  f225 := Tryd.func137.trans (congrArg some (by kernel_rfl))
  f266 := Tryd.func148.trans (congrArg some (by kernel_rfl))
  t0 := Tryd.underlying0
  a0 := Tryd.isAgg0
  z0 := Tryd.sizeOf0
  v0 := Tryd.zeroValue0
  t3 := Tryd.underlying3
  a3 := Tryd.isAgg3
  z3 := Tryd.sizeOf3
  v3 := Tryd.zeroValue3
  t4 := Tryd.underlying4
  a4 := Tryd.isAgg4
  z4 := Tryd.sizeOf4
  v4 := Tryd.zeroValue4
  t5 := Tryd.underlying5
  a5 := Tryd.isAgg5
  z5 := Tryd.sizeOf5
  v5 := Tryd.zeroValue5
  t9 := Tryd.underlying9
  a9 := Tryd.isAgg9
  z9 := Tryd.sizeOf9
  v9 := Tryd.zeroValue9
  t21 := Tryd.underlying21
  a21 := Tryd.isAgg21
  z21 := Tryd.sizeOf21
  v21 := Tryd.zeroValue21
  t46 := Tryd.underlying166
  a46 := Tryd.isAgg166
  z46 := Tryd.sizeOf166
  v46 := Tryd.zeroValue166 }
open Go.RowKit Go.Lib in
theorem Tryd.strings_ContainsRune_ascii (s : ByteArray) (r : Int) (w : World) (h0 : 0 ≤ r) (h1 : r < 128) :
    Calls Tryd.prog 93 #[.string s, .int .i32 r] w fun e w' => e = .returned (.bool (decide (0 ≤ Lib.indexByte s.data.toList r.toNat.toUInt8))) ∧ w' = w := Any.strings_ContainsRune_ascii Tryd.lays151 s r w h0 h1
def Tryd.lays226_ren : Go.Shelf.Ren := ⟨fun | 226 => 129 | n => n, fun | 3 => 3 | 4 => 4 | n => n, fun | n => n⟩
theorem Tryd.lays226 : Go.Proofs.Lays.n226 Tryd.prog Tryd.lays226_ren := {
  mixed := by kernel_rfl
  f226 := Tryd.func129.trans (congrArg some (by kernel_rfl))
  t3 := Tryd.underlying3
  a3 := Tryd.isAgg3
  z3 := Tryd.sizeOf3
  v3 := Tryd.zeroValue3
  t4 := Tryd.underlying4
  a4 := Tryd.isAgg4
  z4 := Tryd.sizeOf4
  v4 := Tryd.zeroValue4 }
open Go.RowKit Go.Lib in
theorem Tryd.strings_shouldUseASCIISet (n : Int) (w : World) :
    Calls Tryd.prog 129 #[.int .i64 n] w fun e w' => e = .returned (.bool (decide (8 < n))) ∧ w' = w := Any.strings_shouldUseASCIISet Tryd.lays226 n w
def Tryd.lays153_ren : Go.Shelf.Ren := ⟨fun | 153 => 107 | 152 => 116 | 226 => 129 | 227 => 110 | 228 => 130 | 137 => 134 | 119 => 135 | 224 => 136 | 225 => 137 | 217 => 145 | 266 => 148 | n => n, fun | 9 => 9 | 3 => 3 | 4 => 4 | 5 => 5 | 21 => 21 | 117 => 148 | 116 => 147 | 0 => 0 | 46 => 166 | 124 => 151 | n => n, fun | n => n⟩
theorem Tryd.lays153 : Go.Proofs.Lays.n153 Tryd.prog Tryd.lays153_ren := {
  mixed := by kernel_rfl
  f119 := Tryd.func135.trans (congrArg some (by kernel_rfl))
  f137 := Tryd.func134.trans (congrArg some (by kernel_rfl))
  f152 := Tryd.func116.trans (congrArg some (by kernel_rfl))
  f153 := Tryd.func107.trans (congrArg some (by kernel_rfl))
  f217 := Tryd.func145.trans (congrArg some (by kernel_rfl))
  f224 := Tryd.func136.trans (congrArg some (by kernel_rfl))
  f225 := Tryd.func137.trans (congrArg some (by kernel_rfl))
  f226 := Tryd.func129.trans (congrArg some (by kernel_rfl))
  f227 := Tryd.func110.trans (congrArg some (by kernel_rfl))
  f228 := Tryd.func130.trans (congrArg some (by kernel_rfl))
  f266 := Tryd.func148.trans (congrArg some (by kernel_rfl))
  t0 := Tryd.underlying0
  a0 := Tryd.isAgg0
  z0 := Tryd.sizeOf0
  v0 := Tryd.zeroValue0
  t3 := Tryd.underlying3
  a3 := Tryd.isAgg3
  z3 := Tryd.sizeOf3
  v3 := Tryd.zeroValue3
  t4 := Tryd.underlying4
  a4 := Tryd.isAgg4
  z4 := Tryd.sizeOf4
  v4 := Tryd.zeroValue4
  t5 := Tryd.underlying5
  a5 := Tryd.isAgg5
  z5 := Tryd.sizeOf5
  v5 := Tryd.zeroValue5
  t9 := Tryd.underlying9
  a9 := Tryd.isAgg9
  z9 := Tryd.sizeOf9
  v9 := Tryd.zeroValue9
  t21 := Tryd.underlying21
  a21 := Tryd.isAgg21
  z21 := Tryd.sizeOf21
  v21 := Tryd.zeroValue21
  t46 := Tryd.underlying166
  a46 := Tryd.isAgg166
  z46 := Tryd.sizeOf166
  v46 := Tryd.zeroValue166
  t116 := Tryd.underlying147
  a116 := Tryd.isAgg147
  z116 := Tryd.sizeOf147
  t117 := Tryd.underlying148
  a117 := Tryd.isAgg148
  z117 := Tryd.sizeOf148
  v117 := Tryd.zeroValue148
  t124 := Tryd.underlying151
  a124 := Tryd.isAgg151
  z124 := Tryd.sizeOf151
  v124 := Tryd.zeroValue151 }
open Go.RowKit Go.Lib in
/-- chars is empty. (LAID: no walk: one application.) -/
theorem Tryd.strings_IndexAny_none (s chars : ByteArray) (w : World) (h0 : chars.size = 0) :
    Calls Tryd.prog 107 #[.string s, .string chars] w fun e w' => e = .returned (.int .i64 (Lib.indexAny s.data.toList chars.data.toList)) ∧ w' = w := Any.strings_IndexAny_none Tryd.lays153 s chars w h0
open Go.RowKit Go.Lib in
/-- chars is one ASCII byte. (LAID: no walk: one application.) -/
theorem Tryd.strings_IndexAny_one (s chars : ByteArray) (w : World) (h1 : chars.size = 1) (hascii : ∀ (j : Nat) b, chars.data.toList[j]? = some b → b.toNat < 128) :
    Calls Tryd.prog 107 #[.string s, .string chars] w fun e w' => e = .returned (.int .i64 (Lib.indexAny s.data.toList chars.data.toList)) ∧ w' = w := Any.strings_IndexAny_one Tryd.lays153 s chars w h1 hascii
open Go.RowKit Go.Lib in
/-- s of at most 8 bytes; chars of two or more: 'for i, c := range s { if IndexRune(chars, c) >= 0 { return i } }'. One block more: the model's iterator over s. (LAID: no walk: one application.) -/
theorem Tryd.strings_IndexAny_short (s chars : ByteArray) (w : World) (h2 : 2 ≤ chars.size) (h8 : s.size ≤ 8) (hascii : ∀ (j : Nat) b, s.data.toList[j]? = some b → b.toNat < 128) :
    Calls Tryd.prog 107 #[.string s, .string chars] w fun e w' => e = .returned (.int .i64 (Lib.indexAny s.data.toList chars.data.toList)) ∧ ∃ pos, w' = w.iter s pos := Any.strings_IndexAny_short Tryd.lays153 s chars w h2 h8 hascii
def Tryd.lays227_ren : Go.Shelf.Ren := ⟨fun | 227 => 110 | n => n, fun | 9 => 9 | 116 => 147 | 4 => 4 | 0 => 0 | 3 => 3 | 5 => 5 | n => n, fun | n => n⟩
theorem Tryd.lays227 : Go.Proofs.Lays.n227 Tryd.prog Tryd.lays227_ren := {
  mixed := by kernel_rfl
  f227 := Tryd.func110.trans (congrArg some (by kernel_rfl))
  t0 := Tryd.underlying0
  a0 := Tryd.isAgg0
  z0 := Tryd.sizeOf0
  v0 := Tryd.zeroValue0
  t3 := Tryd.underlying3
  a3 := Tryd.isAgg3
  z3 := Tryd.sizeOf3
  v3 := Tryd.zeroValue3
  t4 := Tryd.underlying4
  a4 := Tryd.isAgg4
  z4 := Tryd.sizeOf4
  v4 := Tryd.zeroValue4
  t5 := Tryd.underlying5
  a5 := Tryd.isAgg5
  z5 := Tryd.sizeOf5
  v5 := Tryd.zeroValue5
  t9 := Tryd.underlying9
  a9 := Tryd.isAgg9
  z9 := Tryd.sizeOf9
  v9 := Tryd.zeroValue9
  t116 := Tryd.underlying147
  a116 := Tryd.isAgg147
  z116 := Tryd.sizeOf147 }
open Go.RowKit Go.Lib in
theorem Tryd.strings_makeASCIISet (hv116 : ∀ w, (zeroValue 147).run Tryd.prog w = .ok (.agg (Array.replicate 256 (.bool false))) w) (chars : ByteArray) (w : World) (hs : chars.size < 4294967281) (hascii : ∀ (j : Nat) b, chars.data.toList[j]? = some b → b.toNat < 128) :
    Calls Tryd.prog 110 #[.string chars] w fun e w' => e = .returned (.tuple #[.agg (Lib.setCells chars.data.toList), .bool true]) ∧ w' = w.alloc (.cells (Lib.setCells chars.data.toList) 147) := Any.strings_makeASCIISet Tryd.lays227 hv116 (by kernel_rfl) chars w hs hascii
def Tryd.lays228_ren : Go.Shelf.Ren := ⟨fun | 228 => 130 | n => n, fun | 124 => 151 | 5 => 5 | 4 => 4 | 0 => 0 | 116 => 147 | n => n, fun | n => n⟩
theorem Tryd.lays228 : Go.Proofs.Lays.n228 Tryd.prog Tryd.lays228_ren := {
  mixed := by kernel_rfl
  f228 := Tryd.func130.trans (congrArg some (by kernel_rfl))
  t0 := Tryd.underlying0
  a0 := Tryd.isAgg0
  z0 := Tryd.sizeOf0
  v0 := Tryd.zeroValue0
  t4 := Tryd.underlying4
  a4 := Tryd.isAgg4
  z4 := Tryd.sizeOf4
  v4 := Tryd.zeroValue4
  t5 := Tryd.underlying5
  a5 := Tryd.isAgg5
  z5 := Tryd.sizeOf5
  v5 := Tryd.zeroValue5
  t116 := Tryd.underlying147
  a116 := Tryd.isAgg147
  z116 := Tryd.sizeOf147
  t124 := Tryd.underlying151
  a124 := Tryd.isAgg151
  z124 := Tryd.sizeOf151
  v124 := Tryd.zeroValue151 }
open Go.RowKit Go.Lib in
/-- '(as *asciiSet) contains(c)': 'as[c]': the set lies at block b, whole. (LAID: no walk: one application.) -/
theorem Tryd.asciiSet_contains (b : Nat) (x : UInt8) (v : Bool) (w : World) (hc : w.cell? ⟨b, x.toNat, none⟩ = some (.bool v)) :
    Calls Tryd.prog 130 #[.pointer (some ⟨b, 0, none⟩), .int .u8 x.toNat] w fun e w' => e = .returned (.bool v) ∧ w' = w := Any.asciiSet_contains Tryd.lays228 b x v w hc
open Go.RowKit Go.Lib in
theorem Tryd.strings_IndexAny_long (hv116 : ∀ w, (zeroValue 147).run Tryd.prog w = .ok (.agg (Array.replicate 256 (.bool false))) w) (s chars : ByteArray) (w : World) (h2 : 2 ≤ chars.size) (h8 : 8 < s.size) (hs : s.size < 4294967281) (hcs : chars.size < 4294967281) (hascii : ∀ (j : Nat) b, chars.data.toList[j]? = some b → b.toNat < 128) :
    Calls Tryd.prog 107 #[.string s, .string chars] w fun e w' => e = .returned (.int .i64 (Lib.indexAny s.data.toList chars.data.toList)) ∧ w' = ((w.alloc (.cells (Lib.setCells chars.data.toList) 147)).alloc (.cells (Lib.setCells chars.data.toList) 147)) := Any.strings_IndexAny_long Tryd.lays153 hv116 (by kernel_rfl) s chars w h2 h8 hs hcs hascii
open Go.RowKit Go.Lib in
/-- strings.IndexAny ON ASCII BYTES: the four roads under one statement. (LAID: no walk: one application.) -/
theorem Tryd.strings_IndexAny (hv116 : ∀ w, (zeroValue 147).run Tryd.prog w = .ok (.agg (Array.replicate 256 (.bool false))) w) (s chars : ByteArray) (w : World) (hs : s.size < 4294967281) (hcs : chars.size < 4294967281) (has : ∀ (j : Nat) b, s.data.toList[j]? = some b → b.toNat < 128) (hac : ∀ (j : Nat) b, chars.data.toList[j]? = some b → b.toNat < 128) :
    Calls Tryd.prog 107 #[.string s, .string chars] w fun e w' => e = .returned (.int .i64 (Lib.indexAny s.data.toList chars.data.toList)) ∧ Below w.heap.size w w' := Any.strings_IndexAny Tryd.lays153 hv116 (by kernel_rfl) s chars w hs hcs has hac
def Tryd.lays150_ren : Go.Shelf.Ren := ⟨fun | 150 => 86 | 153 => 107 | 152 => 116 | 226 => 129 | 227 => 110 | 228 => 130 | 137 => 134 | 119 => 135 | 224 => 136 | 225 => 137 | 217 => 145 | 266 => 148 | n => n, fun | 9 => 9 | 4 => 4 | 3 => 3 | 5 => 5 | 21 => 21 | 117 => 148 | 116 => 147 | 0 => 0 | 46 => 166 | 124 => 151 | n => n, fun | n => n⟩
theorem Tryd.lays150 : Go.Proofs.Lays.n150 Tryd.prog Tryd.lays150_ren := {
  mixed := by kernel_rfl
  f119 := Tryd.func135.trans (congrArg some (by kernel_rfl))
  f137 := Tryd.func134.trans (congrArg some (by kernel_rfl))
  f150 := Tryd.func86.trans (congrArg some (by kernel_rfl))
  f152 := Tryd.func116.trans (congrArg some (by kernel_rfl))
  f153 := Tryd.func107.trans (congrArg some (by kernel_rfl))
  f217 := Tryd.func145.trans (congrArg some (by kernel_rfl))
  f224 := Tryd.func136.trans (congrArg some (by kernel_rfl))
  f225 := Tryd.func137.trans (congrArg some (by kernel_rfl))
  f226 := Tryd.func129.trans (congrArg some (by kernel_rfl))
  f227 := Tryd.func110.trans (congrArg some (by kernel_rfl))
  f228 := Tryd.func130.trans (congrArg some (by kernel_rfl))
  f266 := Tryd.func148.trans (congrArg some (by kernel_rfl))
  t0 := Tryd.underlying0
  a0 := Tryd.isAgg0
  z0 := Tryd.sizeOf0
  v0 := Tryd.zeroValue0
  t3 := Tryd.underlying3
  a3 := Tryd.isAgg3
  z3 := Tryd.sizeOf3
  v3 := Tryd.zeroValue3
  t4 := Tryd.underlying4
  a4 := Tryd.isAgg4
  z4 := Tryd.sizeOf4
  v4 := Tryd.zeroValue4
  t5 := Tryd.underlying5
  a5 := Tryd.isAgg5
  z5 := Tryd.sizeOf5
  v5 := Tryd.zeroValue5
  t9 := Tryd.underlying9
  a9 := Tryd.isAgg9
  z9 := Tryd.sizeOf9
  v9 := Tryd.zeroValue9
  t21 := Tryd.underlying21
  a21 := Tryd.isAgg21
  z21 := Tryd.sizeOf21
  v21 := Tryd.zeroValue21
  t46 := Tryd.underlying166
  a46 := Tryd.isAgg166
  z46 := Tryd.sizeOf166
  v46 := Tryd.zeroValue166
  t116 := Tryd.underlying147
  a116 := Tryd.isAgg147
  z116 := Tryd.sizeOf147
  t117 := Tryd.underlying148
  a117 := Tryd.isAgg148
  z117 := Tryd.sizeOf148
  v117 := Tryd.zeroValue148
  t124 := Tryd.underlying151
  a124 := Tryd.isAgg151
  z124 := Tryd.sizeOf151
  v124 := Tryd.zeroValue151 }
open Go.RowKit Go.Lib in
/-- strings.ContainsAny ON ASCII BYTES. (LAID: no walk: one application.) -/
theorem Tryd.strings_ContainsAny (hv116 : ∀ w, (zeroValue 147).run Tryd.prog w = .ok (.agg (Array.replicate 256 (.bool false))) w) (s chars : ByteArray) (w : World) (hs : s.size < 4294967281) (hcs : chars.size < 4294967281) (has : ∀ (j : Nat) b, s.data.toList[j]? = some b → b.toNat < 128) (hac : ∀ (j : Nat) b, chars.data.toList[j]? = some b → b.toNat < 128) :
    Calls Tryd.prog 86 #[.string s, .string chars] w fun e w' => e = .returned (.bool (Lib.containsAny s.data.toList chars.data.toList)) ∧ Below w.heap.size w w' := Any.strings_ContainsAny Tryd.lays150 hv116 (by kernel_rfl) s chars w hs hcs has hac
open Go.RowKit Go.Lib in
theorem Tryd.strings_IndexAny_laid (s chars : ByteArray) (w : World) (hs : s.size < 4294967281) (hcs : chars.size < 4294967281) (has : ∀ (j : Nat) b, s.data.toList[j]? = some b → b.toNat < 128) (hac : ∀ (j : Nat) b, chars.data.toList[j]? = some b → b.toNat < 128) :
    Calls Tryd.prog 107 #[.string s, .string chars] w fun e w' => e = .returned (.int .i64 (Lib.indexAny s.data.toList chars.data.toList)) ∧ Below w.heap.size w w' := Any.strings_IndexAny_laid Tryd.lays153 (by kernel_rfl) s chars w hs hcs has hac
open Go.RowKit Go.Lib in
theorem Tryd.strings_ContainsAny_laid (s chars : ByteArray) (w : World) (hs : s.size < 4294967281) (hcs : chars.size < 4294967281) (has : ∀ (j : Nat) b, s.data.toList[j]? = some b → b.toNat < 128) (hac : ∀ (j : Nat) b, chars.data.toList[j]? = some b → b.toNat < 128) :
    Calls Tryd.prog 86 #[.string s, .string chars] w fun e w' => e = .returned (.bool (Lib.containsAny s.data.toList chars.data.toList)) ∧ Below w.heap.size w w' := Any.strings_ContainsAny_laid Tryd.lays150 (by kernel_rfl) s chars w hs hcs has hac
def Tryd.lays260_ren : Go.Shelf.Ren := ⟨fun | 260 => 143 | n => n, fun | 9 => 9 | 21 => 21 | 3 => 3 | 4 => 4 | 5 => 5 | 119 => 186 | 0 => 0 | 46 => 166 | 139 => 189 | 138 => 188 | n => n, fun | 3 => 6 | 4 => 7 | n => n⟩
theorem Tryd.lays260 : Go.Proofs.Lays.n260 Tryd.prog Tryd.lays260_ren := {
  mixed := by kernel_rfl
  f260 := Tryd.func143.trans (congrArg some (by kernel_rfl))
  t0 := Tryd.underlying0
  a0 := Tryd.isAgg0
  z0 := Tryd.sizeOf0
  v0 := Tryd.zeroValue0
  t3 := Tryd.underlying3
  a3 := Tryd.isAgg3
  z3 := Tryd.sizeOf3
  v3 := Tryd.zeroValue3
  t4 := Tryd.underlying4
  a4 := Tryd.isAgg4
  z4 := Tryd.sizeOf4
  v4 := Tryd.zeroValue4
  t5 := Tryd.underlying5
  a5 := Tryd.isAgg5
  z5 := Tryd.sizeOf5
  v5 := Tryd.zeroValue5
  t9 := Tryd.underlying9
  a9 := Tryd.isAgg9
  z9 := Tryd.sizeOf9
  v9 := Tryd.zeroValue9
  t21 := Tryd.underlying21
  a21 := Tryd.isAgg21
  z21 := Tryd.sizeOf21
  v21 := Tryd.zeroValue21
  t46 := Tryd.underlying166
  a46 := Tryd.isAgg166
  z46 := Tryd.sizeOf166
  v46 := Tryd.zeroValue166
  t119 := Tryd.underlying186
  a119 := Tryd.isAgg186
  z119 := Tryd.sizeOf186
  t138 := Tryd.underlying188
  a138 := Tryd.isAgg188
  z138 := Tryd.sizeOf188
  v138 := Tryd.zeroValue188
  t139 := Tryd.underlying189
  a139 := Tryd.isAgg189
  z139 := Tryd.sizeOf189
  v139 := Tryd.zeroValue189
  g3 := by kernel_rfl
  g4 := by kernel_rfl }
open Go.RowKit Go.Lib in
theorem Tryd.utf8_decodeRuneInStringSlow (s : ByteArray) (w : World) (hT : Lib.Utf8Tabs 6 7 w) :
    Calls Tryd.prog 143 #[.string s] w fun e w' => e = .returned (.tuple #[.int .i32 (Lib.decodeGo s).1, .int .i64 (Lib.decodeGo s).2]) ∧ Below w.heap.size w w' := Any.utf8_decodeRuneInStringSlow Tryd.lays260 s w hT
def Tryd.lays109_ren : Go.Shelf.Ren := ⟨fun | 109 => 90 | n => n, fun | 31 => 51 | 9 => 9 | 3 => 3 | 0 => 0 | 4 => 4 | n => n, fun | n => n⟩
theorem Tryd.lays109 : Go.Proofs.Lays.n109 Tryd.prog Tryd.lays109_ren := {
  mixed := by kernel_rfl
  f109 := Tryd.func90.trans (congrArg some (by kernel_rfl))
  t0 := Tryd.underlying0
  a0 := Tryd.isAgg0
  z0 := Tryd.sizeOf0
  v0 := Tryd.zeroValue0
  t3 := Tryd.underlying3
  a3 := Tryd.isAgg3
  z3 := Tryd.sizeOf3
  v3 := Tryd.zeroValue3
  t4 := Tryd.underlying4
  a4 := Tryd.isAgg4
  z4 := Tryd.sizeOf4
  v4 := Tryd.zeroValue4
  t9 := Tryd.underlying9
  a9 := Tryd.isAgg9
  z9 := Tryd.sizeOf9
  v9 := Tryd.zeroValue9
  t31 := Tryd.underlying51
  a31 := Tryd.isAgg51
  z31 := Tryd.sizeOf51
  v31 := Tryd.zeroValue51 }
open Go.Lib in
/-- slices.Index at []string: "Index returns the index of the first occurrence of v in s, or -1 if not present.": IT RETURNS 'Lib.idxOfS (the elements) v'; the world is as it was. 'zs': what the cells behind the slice's address hold (its spare capacity too, if you have it); 'zs.take n': its elements. (LAID: no walk: one application.) -/
theorem Tryd.slices_Index_string (b off n c : Nat) (zs : List ByteArray) (x : ByteArray) (w : World) (hz : n ≤ zs.length) (hbig : n ≤ 9223372036854775807) (hc : ∀ j, j < zs.length → w.cell? ⟨b, off + j, none⟩ = some (.string (zs.getD j ByteArray.empty))) :
    Calls Tryd.prog 90 #[.slice (some ⟨b, off, none⟩) n c, .string x] w fun e w' => e = .returned (.int .i64 (Lib.idxOfS (zs.take n) x)) ∧ w' = w := Any.slices_Index_string Tryd.lays109 b off n c zs x w hz hbig hc
open Go.Lib in
/-- The same at a slice of length 0, a nil one too: no cell is known, none is asked for. (LAID: no walk: one application.) -/
theorem Tryd.slices_Index_string_empty (a : Option Addr) (c : Nat) (x : ByteArray) (w : World) :
    Calls Tryd.prog 90 #[.slice a 0 c, .string x] w fun e w' => e = .returned (.int .i64 (Lib.idxOfS [] x)) ∧ w' = w := Any.slices_Index_string_empty Tryd.lays109 a c x w
end Go.Proofs
