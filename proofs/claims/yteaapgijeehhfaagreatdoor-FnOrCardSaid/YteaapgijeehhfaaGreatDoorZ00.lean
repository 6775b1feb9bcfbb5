/-
  DERIVED: THE SHELF's CONTRACTS AT THIS DUMP, IN PLAIN WORDS (tools/lay-plain.mjs out of 'TryzShelfB.lean', which tools/lay-shelf.mjs wrote): THE SAME DECLARATIONS UNDER THE SAME NAMES: 'import', 'namespace', 'open', 'def', 'theorem' AND NOTHING ELSE: no command of the shelf's: FOR A HAND-IN. Each laying: the table of numbers ('.._ren') and one theorem, a field a fact of the dump's own or the kernel's comparison; each contract: ONE APPLICATION.
-/
/- Words that all later texts use: the bytes of a string as a list, small lemmas on them. -/
/- The spec's functions on single texts, walked. -/
import Derived.Shelf.Strings.OnBuilder
import Derived.Shelf.Strconv.Atoi
import Derived.Shelf.Strings.Prefix
import Derived.Shelf.Strings.Fold
import Derived.Test.YteaapgijeehhfaaGreatDoorProg
import Derived.WalkKit
import Derived.KernelRfl
import Derived.Lib.Hide
namespace Go.Proofs
open Go.Shelf
def Tryz.lays159_ren : Go.Shelf.Ren := ⟨fun | 159 => 93 | 165 => 67 | 166 => 68 | 167 => 99 | 169 => 69 | 230 => 100 | 204 => 101 | 240 => 75 | 241 => 76 | 197 => 107 | 118 => 108 | 168 => 109 | 270 => 110 | 262 => 111 | 276 => 84 | 277 => 85 | 260 => 117 | 242 => 118 | 313 => 119 | 278 => 127 | 274 => 128 | 275 => 129 | n => n, fun | 9 => 9 | 4 => 4 | 3 => 3 | 5 => 5 | 72 => 142 | 0 => 0 | 76 => 144 | 75 => 58 | 107 => 204 | 70 => 140 | 20 => 20 | 37 => 133 | 127 => 150 | 21 => 21 | 105 => 213 | 164 => 172 | 162 => 226 | 203 => 224 | 119 => 232 | 46 => 206 | 139 => 235 | 138 => 234 | 51 => 98 | 160 => 236 | 208 => 246 | 206 => 244 | 80 => 111 | n => n, fun | 13 => 4 | 3 => 5 | 4 => 6 | n => n⟩
theorem Tryz.lays159 : Go.Proofs.Lays.n159 Tryz.prog Tryz.lays159_ren := {
  mixed := by kernel_rfl
  f118 := Tryz.func108.trans (congrArg some (by kernel_rfl))
  f159 := Tryz.func93.trans (congrArg some (by kernel_rfl))
  f165 := Tryz.func67.trans (congrArg some (by kernel_rfl))
  f166 := Tryz.func68.trans (congrArg some (by kernel_rfl))
  f167 := Tryz.func99.trans (congrArg some (by kernel_rfl))
  f168 := Tryz.func109.trans (congrArg some (by kernel_rfl))
  f169 := Tryz.func69.trans (congrArg some (by kernel_rfl))
  f197 := Tryz.func107.trans (congrArg some (by kernel_rfl))
  f204 := Tryz.func101.trans (congrArg some (by kernel_rfl))
  f230 := Tryz.func100.trans (congrArg some (by kernel_rfl))
  f240 := Tryz.func75.trans (congrArg some (by kernel_rfl))
  f241 := Tryz.func76.trans (congrArg some (by kernel_rfl))
  f242 := Tryz.func118.trans (congrArg some (by kernel_rfl))
  f260 := Tryz.func117.trans (congrArg some (by kernel_rfl))
  f262 := Tryz.func111.trans (congrArg some (by kernel_rfl))
  f270 := Tryz.func110.trans (congrArg some (by kernel_rfl))
  f274 := Tryz.func128.trans (congrArg some (by kernel_rfl))
  f275 := Tryz.func129.trans (congrArg some (by kernel_rfl))
  f276 := Tryz.func84.trans (congrArg some (by kernel_rfl))
  f277 := Tryz.func85.trans (congrArg some (by kernel_rfl))
  f278 := Tryz.func127.trans (congrArg some (by kernel_rfl))
  f313 := Tryz.func119.trans (congrArg some (by kernel_rfl))
  t0 := Tryz.underlying0
  a0 := Tryz.isAgg0
  z0 := Tryz.sizeOf0
  v0 := Tryz.zeroValue0
  t3 := Tryz.underlying3
  a3 := Tryz.isAgg3
  z3 := Tryz.sizeOf3
  v3 := Tryz.zeroValue3
  t4 := Tryz.underlying4
  a4 := Tryz.isAgg4
  z4 := Tryz.sizeOf4
  v4 := Tryz.zeroValue4
  t5 := Tryz.underlying5
  a5 := Tryz.isAgg5
  z5 := Tryz.sizeOf5
  v5 := Tryz.zeroValue5
  t9 := Tryz.underlying9
  a9 := Tryz.isAgg9
  z9 := Tryz.sizeOf9
  v9 := Tryz.zeroValue9
  t20 := Tryz.underlying20
  a20 := Tryz.isAgg20
  z20 := Tryz.sizeOf20
  v20 := Tryz.zeroValue20
  t21 := Tryz.underlying21
  a21 := Tryz.isAgg21
  z21 := Tryz.sizeOf21
  v21 := Tryz.zeroValue21
  t37 := Tryz.underlying133
  a37 := Tryz.isAgg133
  z37 := Tryz.sizeOf133
  v37 := Tryz.zeroValue133
  t46 := Tryz.underlying206
  a46 := Tryz.isAgg206
  z46 := Tryz.sizeOf206
  v46 := Tryz.zeroValue206
  t51 := Tryz.underlying98
  a51 := Tryz.isAgg98
  z51 := Tryz.sizeOf98
  v51 := Tryz.zeroValue98
  t70 := Tryz.underlying140
  a70 := Tryz.isAgg140
  z70 := Tryz.sizeOf140
  v70 := Tryz.zeroValue140
  t72 := Tryz.underlying142
  a72 := Tryz.isAgg142
  z72 := Tryz.sizeOf142
  v72 := Tryz.zeroValue142
  t75 := Tryz.underlying58
  a75 := Tryz.isAgg58
  z75 := Tryz.sizeOf58
  v75 := Tryz.zeroValue58
  t76 := Tryz.underlying144
  a76 := Tryz.isAgg144
  z76 := Tryz.sizeOf144
  v76 := Tryz.zeroValue144
  t105 := Tryz.underlying213
  a105 := Tryz.isAgg213
  z105 := Tryz.sizeOf213
  v105 := Tryz.zeroValue213
  t107 := Tryz.underlying204
  a107 := Tryz.isAgg204
  z107 := Tryz.sizeOf204
  v107 := Tryz.zeroValue204
  t119 := Tryz.underlying232
  a119 := Tryz.isAgg232
  z119 := Tryz.sizeOf232
  t127 := Tryz.underlying150
  a127 := Tryz.isAgg150
  z127 := Tryz.sizeOf150
  v127 := Tryz.zeroValue150
  t138 := Tryz.underlying234
  a138 := Tryz.isAgg234
  z138 := Tryz.sizeOf234
  v138 := Tryz.zeroValue234
  t139 := Tryz.underlying235
  a139 := Tryz.isAgg235
  z139 := Tryz.sizeOf235
  v139 := Tryz.zeroValue235
  t160 := Tryz.underlying236
  a160 := Tryz.isAgg236
  z160 := Tryz.sizeOf236
  v160 := Tryz.zeroValue236
  t162 := Tryz.underlying226
  a162 := Tryz.isAgg226
  z162 := Tryz.sizeOf226
  v162 := Tryz.zeroValue226
  t164 := Tryz.underlying172
  a164 := Tryz.isAgg172
  z164 := Tryz.sizeOf172
  v164 := Tryz.zeroValue172
  t203 := Tryz.underlying224
  a203 := Tryz.isAgg224
  z203 := Tryz.sizeOf224
  v203 := Tryz.zeroValue224
  t206 := Tryz.underlying244
  a206 := Tryz.isAgg244
  z206 := Tryz.sizeOf244
  v206 := Tryz.zeroValue244
  t208 := Tryz.underlying246
  a208 := Tryz.isAgg246
  z208 := Tryz.sizeOf246
  v208 := Tryz.zeroValue246
  g3 := by kernel_rfl
  g4 := by kernel_rfl
  g13 := by kernel_rfl }
theorem Tryz.Builder_Extra_159 : Builder.Extra Tryz.prog Tryz.lays159_ren := {
  sizeBuilder := by kernel_rfl
  liesBuilder := by kernel_rfl
  t5 := Tryz.underlying5
  a5 := Tryz.isAgg5
  z5 := Tryz.sizeOf5
  v5 := Tryz.zeroValue5
  infoByte := by kernel_rfl
  cellsByte := by kernel_rfl
  sizeByte := by kernel_rfl
  neB5 := by decide }
open Go.RowKit in
/-- strings.ToLower: "ToLower returns s with all Unicode letters mapped to their lower case.": ON ASCII TEXT OF AT MOST 2^47 BYTES. Below the heap's end the world is as it was: where a letter turns, the call makes a builder and its buffer. (LAID: no walk: one application.) -/
theorem Tryz.strings_ToLower_ascii (s : ByteArray) (w : World) (hs : s.size ≤ 140737488355328) (hascii : ∀ (j : Nat) (b : UInt8), s.data.toList[j]? = some b → b.toNat < 128) :
    Calls Tryz.prog 93 #[.string s] w fun e w' => e = .returned (.string ⟨(Lib.toLowerA s.data.toList).toArray⟩) ∧ Below w.heap.size w w' := Any.strings_ToLower_ascii Tryz.lays159 Tryz.Builder_Extra_159 s w hs hascii
def Tryz.lays172_ren : Go.Shelf.Ren := ⟨fun | 172 => 112 | 244 => 120 | 245 => 116 | 247 => 130 | 279 => 123 | 280 => 124 | 281 => 125 | 282 => 126 | 287 => 115 | 316 => 131 | 171 => 132 | 205 => 53 | 321 => 121 | 322 => 122 | 243 => 133 | 246 => 134 | 283 => 135 | 284 => 136 | 285 => 137 | 286 => 138 | 129 => 140 | 317 => 139 | 318 => 141 | 319 => 142 | 320 => 143 | 337 => 144 | 338 => 145 | n => n, fun | 9 => 9 | 3 => 3 | 75 => 58 | 76 => 144 | 4 => 4 | 5 => 5 | 167 => 227 | 37 => 133 | 0 => 0 | 85 => 239 | 2 => 2 | 168 => 229 | 53 => 210 | 175 => 211 | 46 => 206 | 210 => 242 | 127 => 150 | 145 => 132 | 143 => 130 | 21 => 21 | 171 => 248 | 173 => 251 | 212 => 255 | 51 => 98 | 20 => 20 | 213 => 256 | 232 => 260 | 233 => 261 | 80 => 111 | n => n, fun | 15 => 7 | 16 => 8 | 17 => 9 | 18 => 10 | 19 => 11 | n => n⟩
theorem Tryz.lays172 : Go.Proofs.Lays.n172 Tryz.prog Tryz.lays172_ren := {
  mixed := by kernel_rfl
  f129 := Tryz.func140.trans (congrArg some (by kernel_rfl))
  f171 := Tryz.func132.trans (congrArg some (by kernel_rfl))
  f172 := Tryz.func112.trans (congrArg some (by kernel_rfl))
  f205 := Tryz.func53.trans (congrArg some (by kernel_rfl))
  f243 := Tryz.func133.trans (congrArg some (by kernel_rfl))
  f244 := Tryz.func120.trans (congrArg some (by kernel_rfl))
  f245 := Tryz.func116.trans (congrArg some (by kernel_rfl))
  f246 := Tryz.func134.trans (congrArg some (by kernel_rfl))
  f247 := Tryz.func130.trans (congrArg some (by kernel_rfl))
  f279 := Tryz.func123.trans (congrArg some (by kernel_rfl))
  f280 := Tryz.func124.trans (congrArg some (by kernel_rfl))
  f281 := Tryz.func125.trans (congrArg some (by kernel_rfl))
  f282 := Tryz.func126.trans (congrArg some (by kernel_rfl))
  f283 := Tryz.func135.trans (congrArg some (by kernel_rfl))
  f284 := Tryz.func136.trans (congrArg some (by kernel_rfl))
  f285 := Tryz.func137.trans (congrArg some (by kernel_rfl))
  f286 := Tryz.func138.trans (congrArg some (by kernel_rfl))
  f287 := Tryz.func115.trans (congrArg some (by kernel_rfl))
  f316 := Tryz.func131.trans (congrArg some (by kernel_rfl))
  f317 := Tryz.func139.trans (congrArg some (by kernel_rfl))
  f318 := Tryz.func141.trans (congrArg some (by kernel_rfl))
  f319 := Tryz.func142.trans (congrArg some (by kernel_rfl))
  f320 := Tryz.func143.trans (congrArg some (by kernel_rfl))
  f321 := Tryz.func121.trans (congrArg some (by kernel_rfl))
  f322 := Tryz.func122.trans (congrArg some (by kernel_rfl))
  f337 := Tryz.func144.trans (congrArg some (by kernel_rfl))
  f338 := Tryz.func145.trans (congrArg some (by kernel_rfl))
  t0 := Tryz.underlying0
  a0 := Tryz.isAgg0
  z0 := Tryz.sizeOf0
  v0 := Tryz.zeroValue0
  t2 := Tryz.underlying2
  a2 := Tryz.isAgg2
  z2 := Tryz.sizeOf2
  v2 := Tryz.zeroValue2
  t3 := Tryz.underlying3
  a3 := Tryz.isAgg3
  z3 := Tryz.sizeOf3
  v3 := Tryz.zeroValue3
  t4 := Tryz.underlying4
  a4 := Tryz.isAgg4
  z4 := Tryz.sizeOf4
  v4 := Tryz.zeroValue4
  t5 := Tryz.underlying5
  a5 := Tryz.isAgg5
  z5 := Tryz.sizeOf5
  v5 := Tryz.zeroValue5
  t9 := Tryz.underlying9
  a9 := Tryz.isAgg9
  z9 := Tryz.sizeOf9
  v9 := Tryz.zeroValue9
  t20 := Tryz.underlying20
  a20 := Tryz.isAgg20
  z20 := Tryz.sizeOf20
  v20 := Tryz.zeroValue20
  t21 := Tryz.underlying21
  a21 := Tryz.isAgg21
  z21 := Tryz.sizeOf21
  v21 := Tryz.zeroValue21
  t37 := Tryz.underlying133
  a37 := Tryz.isAgg133
  z37 := Tryz.sizeOf133
  v37 := Tryz.zeroValue133
  t46 := Tryz.underlying206
  a46 := Tryz.isAgg206
  z46 := Tryz.sizeOf206
  v46 := Tryz.zeroValue206
  t51 := Tryz.underlying98
  a51 := Tryz.isAgg98
  z51 := Tryz.sizeOf98
  v51 := Tryz.zeroValue98
  t53 := Tryz.underlying210
  a53 := Tryz.isAgg210
  z53 := Tryz.sizeOf210
  v53 := Tryz.zeroValue210
  t75 := Tryz.underlying58
  a75 := Tryz.isAgg58
  z75 := Tryz.sizeOf58
  v75 := Tryz.zeroValue58
  t76 := Tryz.underlying144
  a76 := Tryz.isAgg144
  z76 := Tryz.sizeOf144
  v76 := Tryz.zeroValue144
  t85 := Tryz.underlying239
  a85 := Tryz.isAgg239
  z85 := Tryz.sizeOf239
  v85 := Tryz.zeroValue239
  t127 := Tryz.underlying150
  a127 := Tryz.isAgg150
  z127 := Tryz.sizeOf150
  v127 := Tryz.zeroValue150
  t143 := Tryz.underlying130
  a143 := Tryz.isAgg130
  z143 := Tryz.sizeOf130
  v143 := Tryz.zeroValue130
  t145 := Tryz.underlying132
  a145 := Tryz.isAgg132
  z145 := Tryz.sizeOf132
  v145 := Tryz.zeroValue132
  t167 := Tryz.underlying227
  a167 := Tryz.isAgg227
  z167 := Tryz.sizeOf227
  v167 := Tryz.zeroValue227
  t168 := Tryz.underlying229
  a168 := Tryz.isAgg229
  z168 := Tryz.sizeOf229
  v168 := Tryz.zeroValue229
  t171 := Tryz.underlying248
  a171 := Tryz.isAgg248
  z171 := Tryz.sizeOf248
  v171 := Tryz.zeroValue248
  t173 := Tryz.underlying251
  a173 := Tryz.isAgg251
  z173 := Tryz.sizeOf251
  v173 := Tryz.zeroValue251
  t175 := Tryz.underlying211
  a175 := Tryz.isAgg211
  z175 := Tryz.sizeOf211
  v175 := Tryz.zeroValue211
  t210 := Tryz.underlying242
  a210 := Tryz.isAgg242
  z210 := Tryz.sizeOf242
  v210 := Tryz.zeroValue242
  t212 := Tryz.underlying255
  a212 := Tryz.isAgg255
  z212 := Tryz.sizeOf255
  v212 := Tryz.zeroValue255
  t213 := Tryz.underlying256
  a213 := Tryz.isAgg256
  z213 := Tryz.sizeOf256
  t232 := Tryz.underlying260
  a232 := Tryz.isAgg260
  z232 := Tryz.sizeOf260
  v232 := Tryz.zeroValue260
  t233 := Tryz.underlying261
  a233 := Tryz.isAgg261
  z233 := Tryz.sizeOf261
  v233 := Tryz.zeroValue261
  g15 := by kernel_rfl
  g16 := by kernel_rfl
  g17 := by kernel_rfl
  g18 := by kernel_rfl
  g19 := by kernel_rfl }
open Go.RowKit in
/-- strconv.Atoi: "Atoi is equivalent to ParseInt(s, 10, 0), converted to type int.": AT A DECIMAL NUMERAL OF AT MOST 18 BYTES: its value, and a nil error. The world behind the call: the one new row that the library's '[]byte(s)' lays. (LAID: no walk: one application.) -/
theorem Tryz.strconv_Atoi (s : ByteArray) (n : Int) (hl : s.size ≤ 18) (h : Lib.atoi s.data.toList = some n) (w : World) :
    Calls Tryz.prog 112 #[.string s] w fun e w' => e = .returned (.tuple #[.int .i64 n, .nilIface]) ∧ ∃ t, w' = Lib.bytesWorld w 5 t := Any.strconv_Atoi Tryz.lays172 s n hl h w
def Tryz.lays99_ren : Go.Shelf.Ren := ⟨fun | 99 => 77 | 206 => 86 | n => n, fun | 9 => 9 | 4 => 4 | 3 => 3 | n => n, fun | n => n⟩
theorem Tryz.lays99 : Go.Proofs.Lays.n99 Tryz.prog Tryz.lays99_ren := {
  mixed := by kernel_rfl
  f99 := Tryz.func77.trans (congrArg some (by kernel_rfl))
  f206 := Tryz.func86.trans (congrArg some (by kernel_rfl))
  t3 := Tryz.underlying3
  a3 := Tryz.isAgg3
  z3 := Tryz.sizeOf3
  v3 := Tryz.zeroValue3
  t4 := Tryz.underlying4
  a4 := Tryz.isAgg4
  z4 := Tryz.sizeOf4
  v4 := Tryz.zeroValue4
  t9 := Tryz.underlying9
  a9 := Tryz.isAgg9
  z9 := Tryz.sizeOf9
  v9 := Tryz.zeroValue9 }
open Go.RowKit Go.Lib in
/-- strings.HasPrefix: "HasPrefix reports whether the string s begins with prefix.": IT RETURNS 'Lib.hasPrefix s prefix'; the world is as it was. (LAID: no walk: one application.) -/
theorem Tryz.strings_HasPrefix (s p : ByteArray) (w : World) :
    Calls Tryz.prog 77 #[.string s, .string p] w fun e w' => e = .returned (.bool (Lib.hasPrefix s.data.toList p.data.toList)) ∧ w' = w := Any.strings_HasPrefix Tryz.lays99 s p w
def Tryz.lays100_ren : Go.Shelf.Ren := ⟨fun | 100 => 211 | 207 => 217 | n => n, fun | 9 => 9 | 4 => 4 | 3 => 3 | n => n, fun | n => n⟩
theorem Tryz.lays100 : Go.Proofs.Lays.n100 Tryz.prog Tryz.lays100_ren := {
  mixed := by kernel_rfl
  f100 := Tryz.func211.trans (congrArg some (by kernel_rfl))
  f207 := Tryz.func217.trans (congrArg some (by kernel_rfl))
  t3 := Tryz.underlying3
  a3 := Tryz.isAgg3
  z3 := Tryz.sizeOf3
  v3 := Tryz.zeroValue3
  t4 := Tryz.underlying4
  a4 := Tryz.isAgg4
  z4 := Tryz.sizeOf4
  v4 := Tryz.zeroValue4
  t9 := Tryz.underlying9
  a9 := Tryz.isAgg9
  z9 := Tryz.sizeOf9
  v9 := Tryz.zeroValue9 }
open Go.RowKit Go.Lib in
/-- strings.HasSuffix: "HasSuffix reports whether the string s ends with suffix.": IT RETURNS 'Lib.hasSuffix s suffix'; the world is as it was. ('hs': no Go string is longer: a caller has it of every string that it was handed.) (LAID: no walk: one application.) -/
theorem Tryz.strings_HasSuffix (s p : ByteArray) (w : World) (hs : s.size ≤ 9223372036854775807) :
    Calls Tryz.prog 211 #[.string s, .string p] w fun e w' => e = .returned (.bool (Lib.hasSuffix s.data.toList p.data.toList)) ∧ w' = w := Any.strings_HasSuffix Tryz.lays100 s p w hs
def Tryz.lays164_ren : Go.Shelf.Ren := ⟨fun | 164 => 193 | 197 => 107 | 239 => 194 | 260 => 117 | 274 => 128 | 275 => 129 | n => n, fun | 9 => 9 | 4 => 4 | 3 => 3 | 5 => 5 | 0 => 0 | 21 => 21 | 105 => 213 | 156 => 281 | 49 => 280 | 157 => 282 | 46 => 206 | 159 => 284 | 162 => 226 | 160 => 236 | 119 => 232 | 139 => 235 | 138 => 234 | 208 => 246 | 51 => 98 | 206 => 244 | n => n, fun | 11 => 12 | 12 => 13 | 13 => 4 | 3 => 5 | 4 => 6 | n => n⟩
theorem Tryz.lays164 : Go.Proofs.Lays.n164 Tryz.prog Tryz.lays164_ren := {
  mixed := by kernel_rfl
  f164 := Tryz.func193.trans (congrArg some (by kernel_rfl))
  f197 := Tryz.func107.trans (congrArg some (by kernel_rfl))
  f239 := Tryz.func194.trans (congrArg some (by kernel_rfl))
  f260 := Tryz.func117.trans (congrArg some (by kernel_rfl))
  f274 := Tryz.func128.trans (congrArg some (by kernel_rfl))
  f275 := Tryz.func129.trans (congrArg some (by kernel_rfl))
  t0 := Tryz.underlying0
  a0 := Tryz.isAgg0
  z0 := Tryz.sizeOf0
  v0 := Tryz.zeroValue0
  t3 := Tryz.underlying3
  a3 := Tryz.isAgg3
  z3 := Tryz.sizeOf3
  v3 := Tryz.zeroValue3
  t4 := Tryz.underlying4
  a4 := Tryz.isAgg4
  z4 := Tryz.sizeOf4
  v4 := Tryz.zeroValue4
  t5 := Tryz.underlying5
  a5 := Tryz.isAgg5
  z5 := Tryz.sizeOf5
  v5 := Tryz.zeroValue5
  t9 := Tryz.underlying9
  a9 := Tryz.isAgg9
  z9 := Tryz.sizeOf9
  v9 := Tryz.zeroValue9
  t21 := Tryz.underlying21
  a21 := Tryz.isAgg21
  z21 := Tryz.sizeOf21
  v21 := Tryz.zeroValue21
  t46 := Tryz.underlying206
  a46 := Tryz.isAgg206
  z46 := Tryz.sizeOf206
  v46 := Tryz.zeroValue206
  t49 := Tryz.underlying280
  a49 := Tryz.isAgg280
  z49 := Tryz.sizeOf280
  v49 := Tryz.zeroValue280
  t51 := Tryz.underlying98
  a51 := Tryz.isAgg98
  z51 := Tryz.sizeOf98
  v51 := Tryz.zeroValue98
  t105 := Tryz.underlying213
  a105 := Tryz.isAgg213
  z105 := Tryz.sizeOf213
  v105 := Tryz.zeroValue213
  t119 := Tryz.underlying232
  a119 := Tryz.isAgg232
  z119 := Tryz.sizeOf232
  t138 := Tryz.underlying234
  a138 := Tryz.isAgg234
  z138 := Tryz.sizeOf234
  v138 := Tryz.zeroValue234
  t139 := Tryz.underlying235
  a139 := Tryz.isAgg235
  z139 := Tryz.sizeOf235
  v139 := Tryz.zeroValue235
  t156 := Tryz.underlying281
  a156 := Tryz.isAgg281
  z156 := Tryz.sizeOf281
  t157 := Tryz.underlying282
  a157 := Tryz.isAgg282
  z157 := Tryz.sizeOf282
  v157 := Tryz.zeroValue282
  t159 := Tryz.underlying284
  a159 := Tryz.isAgg284
  z159 := Tryz.sizeOf284
  v159 := Tryz.zeroValue284
  t160 := Tryz.underlying236
  a160 := Tryz.isAgg236
  z160 := Tryz.sizeOf236
  v160 := Tryz.zeroValue236
  t162 := Tryz.underlying226
  a162 := Tryz.isAgg226
  z162 := Tryz.sizeOf226
  v162 := Tryz.zeroValue226
  t206 := Tryz.underlying244
  a206 := Tryz.isAgg244
  z206 := Tryz.sizeOf244
  v206 := Tryz.zeroValue244
  t208 := Tryz.underlying246
  a208 := Tryz.isAgg246
  z208 := Tryz.sizeOf246
  v208 := Tryz.zeroValue246
  g3 := by kernel_rfl
  g4 := by kernel_rfl
  g11 := by kernel_rfl
  g12 := by kernel_rfl
  g13 := by kernel_rfl }
open Go.RowKit Go.Lib in
theorem Tryz.strings_EqualFold (s t : ByteArray) (w : World) (hs : s.size < 4294967281) (has : ∀ (j : Nat) b, s.data.toList[j]? = some b → b.toNat < 128) (hat : ∀ (j : Nat) b, t.data.toList[j]? = some b → b.toNat < 128) :
    Calls Tryz.prog 193 #[.string s, .string t] w fun e w' => e = .returned (.bool (Lib.equalFold s.data.toList t.data.toList)) ∧ w' = w := Any.strings_EqualFold Tryz.lays164 s t w hs has hat
end Go.Proofs

namespace Go.Proofs.YteaapgijeehhfaaGreatDoor
open Go.RowKit

/-- The bytes of a string. -/
def L (s : ByteArray) : List UInt8 := s.data.toList
/-- The string of some bytes. -/
def bs (l : List UInt8) : ByteArray := ⟨l.toArray⟩

theorem L_bs (l : List UInt8) : L (bs l) = l := rfl
theorem bs_L (s : ByteArray) : bs (L s) = s := rfl
theorem L_inj {s t : ByteArray} (h : L s = L t) : s = t := by rw [← bs_L s, h, bs_L]
theorem L_len (s : ByteArray) : (L s).length = s.size := by show s.data.toList.length = s.data.size; simp
theorem bs_size (l : List UInt8) : (bs l).size = l.length := by show l.toArray.size = _; simp
theorem L_get (s : ByteArray) (k : Nat) (h : k < s.size) : s[k] = (L s)[k]'(by rw [L_len]; exact h) := rfl
theorem L_toList (s : ByteArray) : s.toList = L s := ByteArray.toList_eq s
theorem L_append (s t : ByteArray) : L (s ++ t) = L s ++ L t := by
  show (s ++ t).data.toList = _; simp [L]
theorem L_extract (s : ByteArray) (a b : Nat) : L (s.extract a b) = ((L s).take b).drop a := by
  show (s.extract a b).data.toList = _
  simp [L, List.drop_take]
theorem take_snoc (s : ByteArray) (k : Nat) (h : k < s.size) : (L s).take (k + 1) = (L s).take k ++ [s[k]] := by
  rw [List.take_succ_eq_append_getElem (by rw [L_len]; exact h)]; rfl
theorem take_end (s : ByteArray) (k : Nat) (h : ¬ k < s.size) : (L s).take k = L s := List.take_of_length_le (by rw [L_len]; omega)

theorem all_succ {p : UInt8 → Bool} {s : ByteArray} {k : Nat} (h : k < s.size) (H : ((L s).take k).all p = true) (hc : p s[k] = true) :
    ((L s).take (k + 1)).all p = true := by rw [take_snoc s k h, List.all_append, H]; simp [hc]
theorem all_stop {p : UInt8 → Bool} {s : ByteArray} {k : Nat} (h : k < s.size) (hc : p s[k] = false) : (L s).all p = false := by
  rw [List.all_eq_false]; exact ⟨s[k], List.getElem_mem _, by simp [hc]⟩
theorem all_end {p : UInt8 → Bool} {s : ByteArray} {k : Nat} (h : ¬ k < s.size) (H : ((L s).take k).all p = true) : (L s).all p = true := by
  rwa [take_end s k h] at H

theorem ret_bool {a b : Bool} (h : a = b) : Ending.returned (.bool a) = .returned (.bool b) := by rw [h]
theorem ret_int {a b : Int} (h : a = b) : Ending.returned (.int .i64 a) = .returned (.int .i64 b) := by rw [h]
theorem ret_str {a b : ByteArray} (h : a = b) : Ending.returned (.string a) = .returned (.string b) := by rw [h]

theorem ret_congr {a b : Value} (h : a = b) : Ending.returned a = .returned b := by rw [h]

theorem lt_of_cell {w : World} {b o : Nat} {v : Value} (h : w.cell? ⟨b, o, none⟩ = some v) : b < w.heap.size := by
  unfold World.cell? at h
  by_cases hb : b < w.heap.size
  · exact hb
  · simp [Array.getElem?_eq_none (Nat.le_of_not_lt hb)] at h

theorem cell_keep {w w' : World} {b o : Nat} {v : Value} (hb : Below w.heap.size w w') (h : w.cell? ⟨b, o, none⟩ = some v) : w'.cell? ⟨b, o, none⟩ = some v := by
  rw [hb.cell (lt_of_cell h)]; exact h

section lists
variable {α : Type} {p : α → Bool} {l : List α} {k : Nat}
theorem find_take_succ (h : k < l.length) (H : (l.take k).find? p = none) (hc : p l[k] = false) : (l.take (k + 1)).find? p = none := by
  rw [List.take_succ_eq_append_getElem h, List.find?_append, H]; simp [hc]
theorem find_hit (h : k < l.length) (H : (l.take k).find? p = none) (hc : p l[k] = true) : l.find? p = some l[k] := by
  have e : l.find? p = (l.take k ++ l.drop k).find? p := by rw [List.take_append_drop]
  rw [e, List.find?_append, H, Option.none_or, List.drop_eq_getElem_cons h, List.find?_cons_of_pos hc]
theorem find_end (h : ¬ k < l.length) (H : (l.take k).find? p = none) : l.find? p = none := by
  rwa [List.take_of_length_le (by omega)] at H
theorem any_take_succ (h : k < l.length) (H : (l.take k).any p = false) (hc : p l[k] = false) : (l.take (k + 1)).any p = false := by
  rw [List.take_succ_eq_append_getElem h, List.any_append, H]; simp [hc]
theorem any_hit (h : k < l.length) (hc : p l[k] = true) : l.any p = true := List.any_eq_true.2 ⟨l[k], List.getElem_mem _, hc⟩
theorem any_end (h : ¬ k < l.length) (H : (l.take k).any p = false) : l.any p = false := by
  rwa [List.take_of_length_le (by omega)] at H
theorem lall_take_succ (h : k < l.length) (H : (l.take k).all p = true) (hc : p l[k] = true) : (l.take (k + 1)).all p = true := by
  rw [List.take_succ_eq_append_getElem h, List.all_append, H]; simp [hc]
theorem lall_stop (h : k < l.length) (hc : p l[k] = false) : l.all p = false := by
  rw [List.all_eq_false]; exact ⟨l[k], List.getElem_mem _, by simp [hc]⟩
theorem lall_end (h : ¬ k < l.length) (H : (l.take k).all p = true) : l.all p = true := by
  rwa [List.take_of_length_le (by omega)] at H
end lists

end Go.Proofs.YteaapgijeehhfaaGreatDoor

namespace Go.Proofs.YteaapgijeehhfaaGreatDoor
open Go.RowKit

def smallC (c : UInt8) : Bool := decide (97 ≤ c.toNat ∧ c.toNat ≤ 122)
def digC (c : UInt8) : Bool := decide (48 ≤ c.toNat ∧ c.toNat ≤ 57)
def nch (c : UInt8) : Bool := decide ((97 ≤ c.toNat ∧ c.toNat ≤ 122) ∨ (48 ≤ c.toNat ∧ c.toNat ≤ 57) ∨ c.toNat = 45)
def headSmall (l : List UInt8) : Bool := match l with | [] => false | c :: _ => smallC c
def nameL (l : List UInt8) : Bool := l.all nch && headSmall l && decide (l.length ≤ 12)
def vch (c : UInt8) : Bool := decide (32 ≤ c.toNat ∧ c.toNat ≤ 126 ∧ c.toNat ≠ 34 ∧ c.toNat ≠ 92)
def isSp (c : UInt8) : Bool := decide (c.toNat = 32)
def noSp (c : UInt8) : Bool := decide (c.toNat ≠ 32)
def blankL (l : List UInt8) : Bool := l.all isSp
def wordL (l : List UInt8) : Bool := l.all noSp
def valueL (l : List UInt8) : Bool := l.all vch && !blankL l && decide (l.length ≤ 40)

theorem headSmall_get {s : ByteArray} (h : 0 < s.size) : headSmall (L s) = smallC s[0] := by
  have : (L s) = s[0] :: (L s).drop 1 := by
    rw [L_get s 0 h, List.getElem_cons_drop]; rfl
  rw [this]; rfl

set_option maxHeartbeats 1000000 in
theorem word_any (s : ByteArray) (w : World) (hs : s.size ≤ 140737488351232) :
    Calls Tryz.prog 51 #[.string s] w fun e w' => e = .returned (.bool (wordL (L s))) ∧ w = w' := by
  go_enter Tryz.func51, Tryz.ntmps51
  go_wp2
  go_loop [3, 6] (fun _ i => ∃ k : Nat, k ≤ s.size ∧ i = .int .i64 k ∧ ((L s).take k).all noSp = true) (fun _ i => s.size - (intOf i).toNat)
  case atStart => exact ⟨0, Nat.zero_le _, rfl, rfl⟩
  case round =>
    obtain ⟨k, hk, rfl, hr⟩ := hrel
    have HR := Lib.hid hr
    clear hr
    by_cases hlt : k < s.size
    · go_wp2
      · have h : ((s[k].toNat : Int) == 32) = true := by assumption
        go_ret
        exact ⟨ret_bool (all_stop hlt (by simp [noSp] at h ⊢; omega)).symm, rfl⟩
      · have h : ((s[k].toNat : Int) == 32) = false := by assumption
        go_round
        case rel => exact ⟨k+1, by omega, by go_num, all_succ hlt HR.out (by simp [noSp] at h ⊢; omega)⟩
        case measure => simp [intOf]; omega
    · go_wp2
      go_ret
      exact ⟨ret_bool (all_end hlt HR.out).symm, rfl⟩

set_option maxHeartbeats 1000000 in
theorem blank_any (s : ByteArray) (w : World) (hs : s.size ≤ 140737488351232) :
    Calls Tryz.prog 64 #[.string s] w fun e w' => e = .returned (.bool (blankL (L s))) ∧ w = w' := by
  go_enter Tryz.func64, Tryz.ntmps64
  go_wp2
  go_loop [3, 6] (fun _ i => ∃ k : Nat, k ≤ s.size ∧ i = .int .i64 k ∧ ((L s).take k).all isSp = true) (fun _ i => s.size - (intOf i).toNat)
  case atStart => exact ⟨0, Nat.zero_le _, rfl, rfl⟩
  case round =>
    obtain ⟨k, hk, rfl, hr⟩ := hrel
    have HR := Lib.hid hr
    clear hr
    by_cases hlt : k < s.size
    · go_wp2
      · have h : ((s[k].toNat : Int) != 32) = true := by assumption
        go_ret
        exact ⟨ret_bool (all_stop hlt (by simp [isSp] at h ⊢; omega)).symm, rfl⟩
      · have h : ((s[k].toNat : Int) != 32) = false := by assumption
        go_round
        case rel => exact ⟨k+1, by omega, by go_num, all_succ hlt HR.out (by simp [isSp] at h ⊢; omega)⟩
        case measure => simp [intOf]; omega
    · go_wp2
      go_ret
      exact ⟨ret_bool (all_end hlt HR.out).symm, rfl⟩

/-- The classes of a byte that Name asks of, in the walk's own words. -/
theorem name_class (c : UInt8) :
    (97 ≤ (c.toNat : Int) ∧ (c.toNat : Int) ≤ 122 ∧ decide ((c.toNat : Int) ≤ 122) = true ∧ smallC c = true ∧ nch c = true) ∨
    ((c.toNat : Int) < 97 ∧ 48 ≤ (c.toNat : Int) ∧ (c.toNat : Int) ≤ 57 ∧ decide (57 < (c.toNat : Int)) = false ∧ smallC c = false ∧ nch c = true) ∨
    ((c.toNat : Int) < 97 ∧ (c.toNat : Int) < 48 ∧ (c.toNat : Int) < 48 ∧ ((c.toNat : Int) != 45) = false ∧ smallC c = false ∧ nch c = true) ∨
    ((c.toNat : Int) < 97 ∧ (c.toNat : Int) < 48 ∧ (c.toNat : Int) < 48 ∧ ((c.toNat : Int) != 45) = true ∧ smallC c = false ∧ nch c = false) ∨
    ((c.toNat : Int) < 97 ∧ 48 ≤ (c.toNat : Int) ∧ decide (57 < (c.toNat : Int)) = true ∧ ((c.toNat : Int) != 45) = true ∧ smallC c = false ∧ nch c = false) ∨
    (97 ≤ (c.toNat : Int) ∧ decide ((c.toNat : Int) ≤ 122) = false ∧ decide (57 < (c.toNat : Int)) = true ∧ ((c.toNat : Int) != 45) = true ∧ smallC c = false ∧ nch c = false) := by
  simp only [nch, smallC, bne_iff_ne, bne_eq_false_iff_eq, decide_eq_true_eq, decide_eq_false_iff_not]
  omega

theorem nameL_false_of_all {l : List UInt8} (h : l.all nch = false) : nameL l = false := by simp [nameL, h]
theorem nameL_false_of_head {l : List UInt8} (h : headSmall l = false) : nameL l = false := by simp [nameL, h]

set_option maxHeartbeats 1000000 in
theorem name_any (s : ByteArray) (w : World) (hs : s.size ≤ 140737488351232) :
    Calls Tryz.prog 36 #[.string s] w fun e w' => e = .returned (.bool (nameL (L s))) ∧ w = w' := by
  go_enter Tryz.func36, Tryz.ntmps36
  go_wp2
  go_loop [3, 4, 7] (fun _ _ i => ∃ k : Nat, k ≤ s.size ∧ i = .int .i64 k ∧ ((L s).take k).all nch = true ∧ (0 < k → headSmall (L s) = true)) (fun _ _ i => s.size - (intOf i).toNat)
  case atStart => exact ⟨0, Nat.zero_le _, rfl, rfl, by omega⟩
  case round =>
    obtain ⟨k, hk, rfl, hr, hh⟩ := hrel
    have HR := Lib.hid hr
    have HH := Lib.hid hh
    clear hr hh
    by_cases hlt : k < s.size
    · by_cases hk0 : k = 0
      · subst hk0
        have hd := Lib.hid (headSmall_get hlt)
        rcases name_class s[0] with ⟨h1, h2, h3, h4, h5⟩ | ⟨h1, h2, h3, h4, h5, h6⟩ | ⟨h1, h2, h3, h4, h5, h6⟩ | ⟨h1, h2, h3, h4, h5, h6⟩ | ⟨h1, h2, h3, h4, h5, h6⟩ | ⟨h1, h2, h3, h4, h5, h6⟩
        · have HS := Lib.hid h4
          have HN := Lib.hid h5
          clear h4 h5
          go_wp2
          go_round
          case rel => exact ⟨1, by omega, by go_num, all_succ hlt HR.out HN.out, fun _ => by rw [hd.out]; exact HS.out⟩
          case measure => simp [intOf]; omega
        all_goals
          have HS := Lib.hid h5
          clear h5 h6
          go_wp2
          go_ret
          exact ⟨ret_bool (nameL_false_of_head (by rw [hd.out]; exact HS.out)).symm, rfl⟩
      · have h0 : ((k : Int) == 0) = false := by simp; omega
        have hp : 0 < k := by omega
        clear hk0
        rcases name_class s[k] with ⟨h1, h2, h3, h4, h5⟩ | ⟨h1, h2, h3, h4, h5, h6⟩ | ⟨h1, h2, h3, h4, h5, h6⟩ | ⟨h1, h2, h3, h4, h5, h6⟩ | ⟨h1, h2, h3, h4, h5, h6⟩ | ⟨h1, h2, h3, h4, h5, h6⟩
        · have HN := Lib.hid h5
          clear h4 h5
          go_wp2
          go_round
          case rel => exact ⟨k + 1, by omega, by go_num, all_succ hlt HR.out HN.out, fun _ => HH.out hp⟩
          case measure => simp [intOf]; omega
        · have HN := Lib.hid h6
          clear h5 h6
          go_wp2
          go_round
          case rel => exact ⟨k + 1, by omega, by go_num, all_succ hlt HR.out HN.out, fun _ => HH.out hp⟩
          case measure => simp [intOf]; omega
        · have HN := Lib.hid h6
          clear h5 h6
          go_wp2
          go_round
          case rel => exact ⟨k + 1, by omega, by go_num, all_succ hlt HR.out HN.out, fun _ => HH.out hp⟩
          case measure => simp [intOf]; omega
        all_goals
          have HS := Lib.hid h6
          clear h5 h6
          go_wp2
          go_ret
          exact ⟨ret_bool (nameL_false_of_all (all_stop hlt HS.out)).symm, rfl⟩
    · have hkn : k = s.size := by omega
      subst hkn
      by_cases he : s.size = 0
      · have h1 : s.toList = [] := by rw [L_toList]; exact List.eq_nil_of_length_eq_zero (by rw [L_len]; exact he)
        go_wp2
        go_ret
        exact ⟨ret_bool (by rw [L_toList] at h1; rw [h1]; rfl), rfl⟩
      · have h1 : s.toList.isEmpty = false := by
          rw [L_toList, List.isEmpty_eq_false_iff]; intro h
          have h2 := congrArg List.length h; rw [L_len, List.length_nil] at h2; exact he h2
        go_wp2
        go_ret
        refine ⟨ret_bool ?_, rfl⟩
        simp only [nameL, all_end (Nat.lt_irrefl _) HR.out, HH.out (by omega), L_len, Bool.true_and]
        rw [Bool.eq_iff_iff]; simp; omega

end Go.Proofs.YteaapgijeehhfaaGreatDoor
