/-
  DERIVED: THE SHELF's CONTRACTS AT THIS DUMP, IN PLAIN WORDS (tools/lay-plain.mjs out of 'TryzShelf.lean', which tools/lay-shelf.mjs wrote): THE SAME DECLARATIONS UNDER THE SAME NAMES: 'import', 'namespace', 'open', 'def', 'theorem' AND NOTHING ELSE: no command of the shelf's: FOR A HAND-IN. Each laying: the table of numbers ('.._ren') and one theorem, a field a fact of the dump's own or the kernel's comparison; each contract: ONE APPLICATION.
-/
import Derived.Shelf.Strings.Builder1
import Derived.Shelf.Strings.Builder2
import Derived.Shelf.Strings.OnBuilder
import Derived.Shelf.Strings.TrimSpace
import Derived.Shelf.Small.Utf8
import Derived.Shelf.Small.Bits
import Derived.Shelf.Strings.BuilderF
import Derived.Shelf.Strings.BuilderK
import Derived.Shelf.Strings.BuilderRune
import Derived.Shelf.Strconv.Atoi
import Derived.Shelf.Strconv.Itoa0
import Derived.Shelf.Strconv.Itoa1
import Derived.Shelf.LaysM
import Derived.Shelf.Strconv.Itoa2
import Derived.Shelf.Strconv.Itoa3
import Derived.Shelf.Strconv.AtoiErrFast
import Derived.Shelf.Strconv.ParseIntEmpty
import Derived.Shelf.Strconv.AtoiFail
import Derived.Shelf.Strconv.Clone
import Derived.Shelf.Strconv.SyntaxError
import Derived.Shelf.LaysC
import Derived.Shelf.Strconv.ToError
import Derived.Shelf.Strconv.Lower
import Derived.Shelf.Strconv.ParseUint10
import Derived.Shelf.Strconv.ParseUint10Empty
import Derived.Shelf.Strconv.ParseUint10Any
import Derived.Shelf.Strconv.ParseInt10
import Derived.Shelf.Strconv.AtoiLong
import Derived.Shelf.Strconv.AtoiInnerAll
import Derived.Shelf.Strconv.RangeError
import Derived.Shelf.Strconv.ToErrorRange
import Derived.Shelf.Strconv.AtoiAll
import Derived.Shelf.Strconv.ErrVarAll
import Derived.Shelf.Strings.Prefix
import Derived.Shelf.Unicode.Latin
import Derived.Shelf.Unicode.Decode
import Derived.Shelf.Unicode.DecodeSlow
import Derived.Shelf.Unicode.DecodeAny
import Derived.Shelf.Unicode.Is16White
import Derived.Shelf.Unicode.IsSpaceAny
import Derived.Shelf.Unicode.DecodeLast
import Derived.Shelf.Strings.TrimSpaceAny
import Derived.Shelf.Unicode.CaseLookup
import Derived.Shelf.Unicode.CaseConvert
import Derived.Shelf.Unicode.CaseTo
import Derived.Shelf.Unicode.CaseLaid
import Derived.Shelf.Strings.MapAny
import Derived.Shelf.Strings.CaseAny
import Derived.Shelf.Unicode.Is16Any
import Derived.Shelf.Unicode.Is32Any
import Derived.Shelf.Unicode.ExclAny
import Derived.Test.YtcfbkkcamiephaaGreatDoorProg
namespace Go.Proofs
open Go.Shelf
def Tryz.lays158_ren : Go.Shelf.Ren := ⟨fun | 158 => 150 | 165 => 138 | 166 => 139 | 167 => 172 | 169 => 140 | 230 => 173 | 203 => 174 | 240 => 164 | 241 => 165 | 197 => 171 | 118 => 203 | 168 => 204 | 270 => 205 | 262 => 206 | 276 => 196 | 277 => 197 | 260 => 202 | 242 => 219 | 313 => 220 | 278 => 226 | 274 => 227 | 275 => 228 | n => n, fun | 9 => 9 | 4 => 4 | 3 => 3 | 5 => 5 | 72 => 191 | 0 => 0 | 76 => 166 | 75 => 89 | 107 => 229 | 70 => 189 | 20 => 20 | 37 => 37 | 127 => 218 | 21 => 21 | 105 => 225 | 164 => 252 | 162 => 291 | 203 => 289 | 119 => 202 | 46 => 215 | 139 => 287 | 138 => 286 | 51 => 221 | 160 => 296 | 208 => 304 | 206 => 302 | 80 => 108 | n => n, fun | 13 => 17 | 3 => 15 | 4 => 16 | n => n⟩
theorem Tryz.lays158 : Go.Proofs.Lays.n158 Tryz.prog Tryz.lays158_ren := {
  mixed := by kernel_rfl
  f118 := Tryz.func203.trans (congrArg some (by kernel_rfl))
  f158 := Tryz.func150.trans (congrArg some (by kernel_rfl))
  f165 := Tryz.func138.trans (congrArg some (by kernel_rfl))
  f166 := Tryz.func139.trans (congrArg some (by kernel_rfl))
  f167 := Tryz.func172.trans (congrArg some (by kernel_rfl))
  f168 := Tryz.func204.trans (congrArg some (by kernel_rfl))
  f169 := Tryz.func140.trans (congrArg some (by kernel_rfl))
  f197 := Tryz.func171.trans (congrArg some (by kernel_rfl))
  f203 := Tryz.func174.trans (congrArg some (by kernel_rfl))
  f230 := Tryz.func173.trans (congrArg some (by kernel_rfl))
  f240 := Tryz.func164.trans (congrArg some (by kernel_rfl))
  f241 := Tryz.func165.trans (congrArg some (by kernel_rfl))
  f242 := Tryz.func219.trans (congrArg some (by kernel_rfl))
  f260 := Tryz.func202.trans (congrArg some (by kernel_rfl))
  f262 := Tryz.func206.trans (congrArg some (by kernel_rfl))
  f270 := Tryz.func205.trans (congrArg some (by kernel_rfl))
  f274 := Tryz.func227.trans (congrArg some (by kernel_rfl))
  f275 := Tryz.func228.trans (congrArg some (by kernel_rfl))
  f276 := Tryz.func196.trans (congrArg some (by kernel_rfl))
  f277 := Tryz.func197.trans (congrArg some (by kernel_rfl))
  f278 := Tryz.func226.trans (congrArg some (by kernel_rfl))
  f313 := Tryz.func220.trans (congrArg some (by kernel_rfl))
  t0 := Tryz.underlying0
  a0 := Tryz.isAgg0
  z0 := Tryz.sizeOf0
  v0 := Tryz.zeroValue0
  t3 := Tryz.underlying3
  a3 := Tryz.isAgg3
  z3 := Tryz.sizeOf3
  v3 := Tryz.zeroValue3
  t4 := Tryz.underlying4
  a4 := Tryz.isAgg4
  z4 := Tryz.sizeOf4
  v4 := Tryz.zeroValue4
  t5 := Tryz.underlying5
  a5 := Tryz.isAgg5
  z5 := Tryz.sizeOf5
  v5 := Tryz.zeroValue5
  t9 := Tryz.underlying9
  a9 := Tryz.isAgg9
  z9 := Tryz.sizeOf9
  v9 := Tryz.zeroValue9
  t20 := Tryz.underlying20
  a20 := Tryz.isAgg20
  z20 := Tryz.sizeOf20
  v20 := Tryz.zeroValue20
  t21 := Tryz.underlying21
  a21 := Tryz.isAgg21
  z21 := Tryz.sizeOf21
  v21 := Tryz.zeroValue21
  t37 := Tryz.underlying37
  a37 := Tryz.isAgg37
  z37 := Tryz.sizeOf37
  v37 := Tryz.zeroValue37
  t46 := Tryz.underlying215
  a46 := Tryz.isAgg215
  z46 := Tryz.sizeOf215
  v46 := Tryz.zeroValue215
  t51 := Tryz.underlying221
  a51 := Tryz.isAgg221
  z51 := Tryz.sizeOf221
  v51 := Tryz.zeroValue221
  t70 := Tryz.underlying189
  a70 := Tryz.isAgg189
  z70 := Tryz.sizeOf189
  v70 := Tryz.zeroValue189
  t72 := Tryz.underlying191
  a72 := Tryz.isAgg191
  z72 := Tryz.sizeOf191
  v72 := Tryz.zeroValue191
  t75 := Tryz.underlying89
  a75 := Tryz.isAgg89
  z75 := Tryz.sizeOf89
  v75 := Tryz.zeroValue89
  t76 := Tryz.underlying166
  a76 := Tryz.isAgg166
  z76 := Tryz.sizeOf166
  v76 := Tryz.zeroValue166
  t105 := Tryz.underlying225
  a105 := Tryz.isAgg225
  z105 := Tryz.sizeOf225
  v105 := Tryz.zeroValue225
  t107 := Tryz.underlying229
  a107 := Tryz.isAgg229
  z107 := Tryz.sizeOf229
  v107 := Tryz.zeroValue229
  t119 := Tryz.underlying202
  a119 := Tryz.isAgg202
  z119 := Tryz.sizeOf202
  t127 := Tryz.underlying218
  a127 := Tryz.isAgg218
  z127 := Tryz.sizeOf218
  v127 := Tryz.zeroValue218
  t138 := Tryz.underlying286
  a138 := Tryz.isAgg286
  z138 := Tryz.sizeOf286
  v138 := Tryz.zeroValue286
  t139 := Tryz.underlying287
  a139 := Tryz.isAgg287
  z139 := Tryz.sizeOf287
  v139 := Tryz.zeroValue287
  t160 := Tryz.underlying296
  a160 := Tryz.isAgg296
  z160 := Tryz.sizeOf296
  v160 := Tryz.zeroValue296
  t162 := Tryz.underlying291
  a162 := Tryz.isAgg291
  z162 := Tryz.sizeOf291
  v162 := Tryz.zeroValue291
  t164 := Tryz.underlying252
  a164 := Tryz.isAgg252
  z164 := Tryz.sizeOf252
  v164 := Tryz.zeroValue252
  t203 := Tryz.underlying289
  a203 := Tryz.isAgg289
  z203 := Tryz.sizeOf289
  v203 := Tryz.zeroValue289
  t206 := Tryz.underlying302
  a206 := Tryz.isAgg302
  z206 := Tryz.sizeOf302
  v206 := Tryz.zeroValue302
  t208 := Tryz.underlying304
  a208 := Tryz.isAgg304
  z208 := Tryz.sizeOf304
  v208 := Tryz.zeroValue304
  g3 := by kernel_rfl
  g4 := by kernel_rfl
  g13 := by kernel_rfl }
theorem Tryz.Builder_Extra_158 : Builder.Extra Tryz.prog Tryz.lays158_ren := {
  sizeBuilder := by kernel_rfl
  liesBuilder := by kernel_rfl
  t5 := Tryz.underlying5
  a5 := Tryz.isAgg5
  z5 := Tryz.sizeOf5
  v5 := Tryz.zeroValue5
  infoByte := by kernel_rfl
  cellsByte := by kernel_rfl
  sizeByte := by kernel_rfl
  neB5 := by decide }
def Tryz.lays156_ren : Go.Shelf.Ren := ⟨fun | 156 => 104 | 165 => 138 | 166 => 139 | 169 => 140 | 240 => 164 | 241 => 165 | 276 => 196 | 277 => 197 | n => n, fun | 31 => 56 | 9 => 9 | 3 => 3 | 4 => 4 | 0 => 0 | 20 => 20 | 72 => 191 | 76 => 166 | 70 => 189 | 37 => 37 | 75 => 89 | 127 => 218 | 164 => 252 | 5 => 5 | 80 => 108 | n => n, fun | n => n⟩
theorem Tryz.lays156 : Go.Proofs.Lays.n156 Tryz.prog Tryz.lays156_ren := {
  mixed := by kernel_rfl
  f156 := Tryz.func104.trans (congrArg some (by kernel_rfl))
  f165 := Tryz.func138.trans (congrArg some (by kernel_rfl))
  f166 := Tryz.func139.trans (congrArg some (by kernel_rfl))
  f169 := Tryz.func140.trans (congrArg some (by kernel_rfl))
  f240 := Tryz.func164.trans (congrArg some (by kernel_rfl))
  f241 := Tryz.func165.trans (congrArg some (by kernel_rfl))
  f276 := Tryz.func196.trans (congrArg some (by kernel_rfl))
  f277 := Tryz.func197.trans (congrArg some (by kernel_rfl))
  t0 := Tryz.underlying0
  a0 := Tryz.isAgg0
  z0 := Tryz.sizeOf0
  v0 := Tryz.zeroValue0
  t3 := Tryz.underlying3
  a3 := Tryz.isAgg3
  z3 := Tryz.sizeOf3
  v3 := Tryz.zeroValue3
  t4 := Tryz.underlying4
  a4 := Tryz.isAgg4
  z4 := Tryz.sizeOf4
  v4 := Tryz.zeroValue4
  t9 := Tryz.underlying9
  a9 := Tryz.isAgg9
  z9 := Tryz.sizeOf9
  v9 := Tryz.zeroValue9
  t20 := Tryz.underlying20
  a20 := Tryz.isAgg20
  z20 := Tryz.sizeOf20
  v20 := Tryz.zeroValue20
  t31 := Tryz.underlying56
  a31 := Tryz.isAgg56
  z31 := Tryz.sizeOf56
  v31 := Tryz.zeroValue56
  t37 := Tryz.underlying37
  a37 := Tryz.isAgg37
  z37 := Tryz.sizeOf37
  v37 := Tryz.zeroValue37
  t70 := Tryz.underlying189
  a70 := Tryz.isAgg189
  z70 := Tryz.sizeOf189
  v70 := Tryz.zeroValue189
  t72 := Tryz.underlying191
  a72 := Tryz.isAgg191
  z72 := Tryz.sizeOf191
  v72 := Tryz.zeroValue191
  t75 := Tryz.underlying89
  a75 := Tryz.isAgg89
  z75 := Tryz.sizeOf89
  v75 := Tryz.zeroValue89
  t76 := Tryz.underlying166
  a76 := Tryz.isAgg166
  z76 := Tryz.sizeOf166
  v76 := Tryz.zeroValue166
  t127 := Tryz.underlying218
  a127 := Tryz.isAgg218
  z127 := Tryz.sizeOf218
  v127 := Tryz.zeroValue218
  t164 := Tryz.underlying252
  a164 := Tryz.isAgg252
  z164 := Tryz.sizeOf252
  v164 := Tryz.zeroValue252 }
theorem Tryz.Builder_Extra_156 : Builder.Extra Tryz.prog Tryz.lays156_ren := {
  sizeBuilder := by kernel_rfl
  liesBuilder := by kernel_rfl
  t5 := Tryz.underlying5
  a5 := Tryz.isAgg5
  z5 := Tryz.sizeOf5
  v5 := Tryz.zeroValue5
  infoByte := by kernel_rfl
  cellsByte := by kernel_rfl
  sizeByte := by kernel_rfl
  neB5 := by decide }
open Go.RowKit in
/-- No element: the empty string; the world is as it was. (Whatever the slice's address and capacity: a nil slice too.) (LAID: no walk: one application.) -/
theorem Tryz.strings_Join_none (a : Option Addr) (c : Nat) (sep : ByteArray) (w : World) :
    Calls Tryz.prog 104 #[.slice a 0 c, .string sep] w fun e w' => e = .returned (.string ⟨#[]⟩) ∧ w' = w := Any.strings_Join_none Tryz.lays156 Tryz.Builder_Extra_156 a c sep w
open Go.RowKit in
/-- strings.Join: "Join concatenates the elements of its first argument to create a single string. The separator string sep is placed between elements in the resulting string.": HOWEVER MANY ELEMENTS. Below the heap's end the world is as it was. (LAID: no walk: one application.) -/
theorem Tryz.strings_Join (bk o c : Nat) (xs : List ByteArray) (sep : ByteArray) (w : World) (hcells : ∀ (j : Nat) x, xs[j]? = some x → w.cell? ⟨bk, o + j, none⟩ = some (.string x)) (hbk : bk < w.heap.size) (hN : xs.length ≤ 140737488355328) (hcap : xs.length ≤ c) (hlen : (Lib.join (xs.map (·.data.toList)) sep.data.toList).length ≤ 140737488355328) :
    Calls Tryz.prog 104 #[.slice (some ⟨bk, o, none⟩) xs.length c, .string sep] w fun e w' => e = .returned (.string ⟨(Lib.join (xs.map (·.data.toList)) sep.data.toList).toArray⟩) ∧ Below w.heap.size w w' := Any.strings_Join Tryz.lays156 Tryz.Builder_Extra_156 bk o c xs sep w hcells hbk hN hcap hlen
def Tryz.lays163_ren : Go.Shelf.Ren := ⟨fun | 163 => 113 | 237 => 147 | 199 => 148 | 238 => 149 | 272 => 168 | 261 => 169 | 273 => 170 | 197 => 171 | 315 => 198 | 311 => 199 | 312 => 200 | 271 => 201 | 260 => 202 | 120 => 218 | n => n, fun | 9 => 9 | 37 => 37 | 3 => 3 | 0 => 0 | 5 => 5 | 4 => 4 | 40 => 201 | 119 => 202 | 21 => 21 | 51 => 221 | 141 => 223 | 105 => 225 | 196 => 258 | 193 => 255 | 198 => 261 | 49 => 259 | 194 => 256 | 201 => 264 | 226 => 283 | 46 => 215 | 227 => 284 | 139 => 287 | 138 => 286 | n => n, fun | 0 => 3 | 6 => 10 | 3 => 15 | 4 => 16 | n => n⟩
theorem Tryz.lays163 : Go.Proofs.Lays.n163 Tryz.prog Tryz.lays163_ren := {
  mixed := by kernel_rfl
  f120 := Tryz.func218.trans (congrArg some (by kernel_rfl))
  f163 := Tryz.func113.trans (congrArg some (by kernel_rfl))
  f197 := Tryz.func171.trans (congrArg some (by kernel_rfl))
  f199 := Tryz.func148.trans (congrArg some (by kernel_rfl))
  f237 := Tryz.func147.trans (congrArg some (by kernel_rfl))
  f238 := Tryz.func149.trans (congrArg some (by kernel_rfl))
  f260 := Tryz.func202.trans (congrArg some (by kernel_rfl))
  f261 := Tryz.func169.trans (congrArg some (by kernel_rfl))
  f271 := Tryz.func201.trans (congrArg some (by kernel_rfl))
  f272 := Tryz.func168.trans (congrArg some (by kernel_rfl))
  f273 := Tryz.func170.trans (congrArg some (by kernel_rfl))
  f311 := Tryz.func199.trans (congrArg some (by kernel_rfl))
  f312 := Tryz.func200.trans (congrArg some (by kernel_rfl))
  f315 := Tryz.func198.trans (congrArg some (by kernel_rfl))
  t0 := Tryz.underlying0
  a0 := Tryz.isAgg0
  z0 := Tryz.sizeOf0
  v0 := Tryz.zeroValue0
  t3 := Tryz.underlying3
  a3 := Tryz.isAgg3
  z3 := Tryz.sizeOf3
  v3 := Tryz.zeroValue3
  t4 := Tryz.underlying4
  a4 := Tryz.isAgg4
  z4 := Tryz.sizeOf4
  v4 := Tryz.zeroValue4
  t5 := Tryz.underlying5
  a5 := Tryz.isAgg5
  z5 := Tryz.sizeOf5
  v5 := Tryz.zeroValue5
  t9 := Tryz.underlying9
  a9 := Tryz.isAgg9
  z9 := Tryz.sizeOf9
  v9 := Tryz.zeroValue9
  t21 := Tryz.underlying21
  a21 := Tryz.isAgg21
  z21 := Tryz.sizeOf21
  v21 := Tryz.zeroValue21
  t37 := Tryz.underlying37
  a37 := Tryz.isAgg37
  z37 := Tryz.sizeOf37
  v37 := Tryz.zeroValue37
  t40 := Tryz.underlying201
  a40 := Tryz.isAgg201
  z40 := Tryz.sizeOf201
  v40 := Tryz.zeroValue201
  t46 := Tryz.underlying215
  a46 := Tryz.isAgg215
  z46 := Tryz.sizeOf215
  v46 := Tryz.zeroValue215
  t49 := Tryz.underlying259
  a49 := Tryz.isAgg259
  z49 := Tryz.sizeOf259
  v49 := Tryz.zeroValue259
  t51 := Tryz.underlying221
  a51 := Tryz.isAgg221
  z51 := Tryz.sizeOf221
  v51 := Tryz.zeroValue221
  t105 := Tryz.underlying225
  a105 := Tryz.isAgg225
  z105 := Tryz.sizeOf225
  v105 := Tryz.zeroValue225
  t119 := Tryz.underlying202
  a119 := Tryz.isAgg202
  z119 := Tryz.sizeOf202
  t138 := Tryz.underlying286
  a138 := Tryz.isAgg286
  z138 := Tryz.sizeOf286
  v138 := Tryz.zeroValue286
  t139 := Tryz.underlying287
  a139 := Tryz.isAgg287
  z139 := Tryz.sizeOf287
  v139 := Tryz.zeroValue287
  t141 := Tryz.underlying223
  a141 := Tryz.isAgg223
  z141 := Tryz.sizeOf223
  v141 := Tryz.zeroValue223
  t193 := Tryz.underlying255
  a193 := Tryz.isAgg255
  z193 := Tryz.sizeOf255
  v193 := Tryz.zeroValue255
  t194 := Tryz.underlying256
  a194 := Tryz.isAgg256
  z194 := Tryz.sizeOf256
  v194 := Tryz.zeroValue256
  t196 := Tryz.underlying258
  a196 := Tryz.isAgg258
  z196 := Tryz.sizeOf258
  v196 := Tryz.zeroValue258
  t198 := Tryz.underlying261
  a198 := Tryz.isAgg261
  z198 := Tryz.sizeOf261
  v198 := Tryz.zeroValue261
  t201 := Tryz.underlying264
  a201 := Tryz.isAgg264
  z201 := Tryz.sizeOf264
  v201 := Tryz.zeroValue264
  t226 := Tryz.underlying283
  a226 := Tryz.isAgg283
  z226 := Tryz.sizeOf283
  v226 := Tryz.zeroValue283
  t227 := Tryz.underlying284
  a227 := Tryz.isAgg284
  z227 := Tryz.sizeOf284
  v227 := Tryz.zeroValue284
  g0 := by kernel_rfl
  g3 := by kernel_rfl
  g4 := by kernel_rfl
  g6 := by kernel_rfl }
theorem Tryz.Space_Extra_163 : Space.Extra Tryz.prog Tryz.lays163_ren := {
  gNamed := by kernel_rfl }
def Tryz.laysM171_ren : Go.Shelf.Ren := ⟨fun | 171 => 101 | 243 => 136 | 246 => 163 | 283 => 192 | 284 => 193 | 285 => 194 | 286 => 195 | 129 => 183 | 317 => 214 | 318 => 215 | 319 => 216 | 320 => 217 | 337 => 224 | 338 => 225 | n => n, fun | 3 => 3 | 9 => 9 | 2 => 2 | 4 => 4 | 171 => 248 | 0 => 0 | 53 => 145 | 37 => 37 | 5 => 5 | 173 => 250 | 212 => 281 | 51 => 221 | 20 => 20 | 213 => 282 | 46 => 215 | 232 => 299 | 233 => 300 | n => n, fun | 17 => 13 | 18 => 18 | 19 => 19 | n => n⟩
theorem Tryz.laysM171 : Go.Proofs.LaysM.n171 Tryz.prog Tryz.laysM171_ren := {
  mixed := by kernel_rfl
  f129 := Tryz.func183.trans (congrArg some (by kernel_rfl))
  f171 := Tryz.func101.trans (congrArg some (by kernel_rfl))
  f243 := Tryz.func136.trans (congrArg some (by kernel_rfl))
  f246 := Tryz.func163.trans (congrArg some (by kernel_rfl))
  f283 := Tryz.func192.trans (congrArg some (by kernel_rfl))
  f284 := Tryz.func193.trans (congrArg some (by kernel_rfl))
  f285 := Tryz.func194.trans (congrArg some (by kernel_rfl))
  f286 := Tryz.func195.trans (congrArg some (by kernel_rfl))
  f317 := Tryz.func214.trans (congrArg some (by kernel_rfl))
  f318 := Tryz.func215.trans (congrArg some (by kernel_rfl))
  f319 := Tryz.func216.trans (congrArg some (by kernel_rfl))
  f320 := Tryz.func217.trans (congrArg some (by kernel_rfl))
  f337 := Tryz.func224.trans (congrArg some (by kernel_rfl))
  f338 := Tryz.func225.trans (congrArg some (by kernel_rfl))
  t0 := Tryz.underlying0
  a0 := Tryz.isAgg0
  z0 := Tryz.sizeOf0
  v0 := Tryz.zeroValue0
  t2 := Tryz.underlying2
  a2 := Tryz.isAgg2
  z2 := Tryz.sizeOf2
  v2 := Tryz.zeroValue2
  t3 := Tryz.underlying3
  a3 := Tryz.isAgg3
  z3 := Tryz.sizeOf3
  v3 := Tryz.zeroValue3
  t4 := Tryz.underlying4
  a4 := Tryz.isAgg4
  z4 := Tryz.sizeOf4
  v4 := Tryz.zeroValue4
  t5 := Tryz.underlying5
  a5 := Tryz.isAgg5
  z5 := Tryz.sizeOf5
  v5 := Tryz.zeroValue5
  t9 := Tryz.underlying9
  a9 := Tryz.isAgg9
  z9 := Tryz.sizeOf9
  v9 := Tryz.zeroValue9
  t20 := Tryz.underlying20
  a20 := Tryz.isAgg20
  z20 := Tryz.sizeOf20
  v20 := Tryz.zeroValue20
  t37 := Tryz.underlying37
  a37 := Tryz.isAgg37
  z37 := Tryz.sizeOf37
  v37 := Tryz.zeroValue37
  t46 := Tryz.underlying215
  a46 := Tryz.isAgg215
  z46 := Tryz.sizeOf215
  v46 := Tryz.zeroValue215
  t51 := Tryz.underlying221
  a51 := Tryz.isAgg221
  z51 := Tryz.sizeOf221
  v51 := Tryz.zeroValue221
  t53 := Tryz.underlying145
  a53 := Tryz.isAgg145
  z53 := Tryz.sizeOf145
  v53 := Tryz.zeroValue145
  t171 := Tryz.underlying248
  a171 := Tryz.isAgg248
  z171 := Tryz.sizeOf248
  v171 := Tryz.zeroValue248
  t173 := Tryz.underlying250
  a173 := Tryz.isAgg250
  z173 := Tryz.sizeOf250
  v173 := Tryz.zeroValue250
  t212 := Tryz.underlying281
  a212 := Tryz.isAgg281
  z212 := Tryz.sizeOf281
  v212 := Tryz.zeroValue281
  t213 := Tryz.underlying282
  a213 := Tryz.isAgg282
  z213 := Tryz.sizeOf282
  t232 := Tryz.underlying299
  a232 := Tryz.isAgg299
  z232 := Tryz.sizeOf299
  v232 := Tryz.zeroValue299
  t233 := Tryz.underlying300
  a233 := Tryz.isAgg300
  z233 := Tryz.sizeOf300
  v233 := Tryz.zeroValue300
  g17 := by kernel_rfl
  g18 := by kernel_rfl
  g19 := by kernel_rfl
  i0 := by kernel_rfl
  i2 := by kernel_rfl
  i3 := by kernel_rfl
  i4 := by kernel_rfl
  i5 := by kernel_rfl
  i9 := by kernel_rfl
  i20 := by kernel_rfl
  i37 := by kernel_rfl
  i46 := by kernel_rfl
  i51 := by kernel_rfl
  i53 := by kernel_rfl
  i171 := by kernel_rfl
  i173 := by kernel_rfl
  i212 := by kernel_rfl
  i232 := by kernel_rfl
  i233 := by kernel_rfl
  m17 := by kernel_rfl
  m18 := by kernel_rfl
  m19 := by kernel_rfl }
open Go.RowKit Go.Sort Go.Lib in
/-- strconv.Itoa: "Itoa is equivalent to FormatInt(int64(i), 10).": i's DECIMAL NUMERAL ('Lib.itoa': a '-' where i is negative, then the digits), FOR EVERY int. The world behind the call: the world before it, new blocks behind the heap (the library's 'var a [24]byte'), draws. (LAID: no walk: one application.) -/
theorem Tryz.strconv_Itoa (n : Int) (h0 : -9223372036854775808 ≤ n) (h1 : n ≤ 9223372036854775807) (w : World) (htab : Lib.TabIs Tryz.prog w "internal/strconv.uint64pow10" .u64 Lib.pow10Tab) :
    Calls Tryz.prog 101 #[.int .i64 n] w fun e w' => e = .returned (.string ⟨(Lib.itoa n).toArray⟩) ∧ ∃ k os, w' = grow (w.drewN k) os := Any.strconv_Itoa Tryz.laysM171 n h0 h1 w htab
def Tryz.lays171_ren : Go.Shelf.Ren := ⟨fun | 171 => 101 | 243 => 136 | 246 => 163 | 283 => 192 | 284 => 193 | 285 => 194 | 286 => 195 | 129 => 183 | 317 => 214 | 318 => 215 | 319 => 216 | 320 => 217 | 337 => 224 | 338 => 225 | n => n, fun | 3 => 3 | 9 => 9 | 2 => 2 | 4 => 4 | 171 => 248 | 0 => 0 | 53 => 145 | 37 => 37 | 5 => 5 | 173 => 250 | 212 => 281 | 51 => 221 | 20 => 20 | 213 => 282 | 46 => 215 | 232 => 299 | 233 => 300 | n => n, fun | 17 => 13 | 18 => 18 | 19 => 19 | n => n⟩
theorem Tryz.lays171 : Go.Proofs.Lays.n171 Tryz.prog Tryz.lays171_ren := {
  mixed := by kernel_rfl
  f129 := Tryz.func183.trans (congrArg some (by kernel_rfl))
  f171 := Tryz.func101.trans (congrArg some (by kernel_rfl))
  f243 := Tryz.func136.trans (congrArg some (by kernel_rfl))
  f246 := Tryz.func163.trans (congrArg some (by kernel_rfl))
  f283 := Tryz.func192.trans (congrArg some (by kernel_rfl))
  f284 := Tryz.func193.trans (congrArg some (by kernel_rfl))
  f285 := Tryz.func194.trans (congrArg some (by kernel_rfl))
  f286 := Tryz.func195.trans (congrArg some (by kernel_rfl))
  f317 := Tryz.func214.trans (congrArg some (by kernel_rfl))
  f318 := Tryz.func215.trans (congrArg some (by kernel_rfl))
  f319 := Tryz.func216.trans (congrArg some (by kernel_rfl))
  f320 := Tryz.func217.trans (congrArg some (by kernel_rfl))
  f337 := Tryz.func224.trans (congrArg some (by kernel_rfl))
  f338 := Tryz.func225.trans (congrArg some (by kernel_rfl))
  t0 := Tryz.underlying0
  a0 := Tryz.isAgg0
  z0 := Tryz.sizeOf0
  v0 := Tryz.zeroValue0
  t2 := Tryz.underlying2
  a2 := Tryz.isAgg2
  z2 := Tryz.sizeOf2
  v2 := Tryz.zeroValue2
  t3 := Tryz.underlying3
  a3 := Tryz.isAgg3
  z3 := Tryz.sizeOf3
  v3 := Tryz.zeroValue3
  t4 := Tryz.underlying4
  a4 := Tryz.isAgg4
  z4 := Tryz.sizeOf4
  v4 := Tryz.zeroValue4
  t5 := Tryz.underlying5
  a5 := Tryz.isAgg5
  z5 := Tryz.sizeOf5
  v5 := Tryz.zeroValue5
  t9 := Tryz.underlying9
  a9 := Tryz.isAgg9
  z9 := Tryz.sizeOf9
  v9 := Tryz.zeroValue9
  t20 := Tryz.underlying20
  a20 := Tryz.isAgg20
  z20 := Tryz.sizeOf20
  v20 := Tryz.zeroValue20
  t37 := Tryz.underlying37
  a37 := Tryz.isAgg37
  z37 := Tryz.sizeOf37
  v37 := Tryz.zeroValue37
  t46 := Tryz.underlying215
  a46 := Tryz.isAgg215
  z46 := Tryz.sizeOf215
  v46 := Tryz.zeroValue215
  t51 := Tryz.underlying221
  a51 := Tryz.isAgg221
  z51 := Tryz.sizeOf221
  v51 := Tryz.zeroValue221
  t53 := Tryz.underlying145
  a53 := Tryz.isAgg145
  z53 := Tryz.sizeOf145
  v53 := Tryz.zeroValue145
  t171 := Tryz.underlying248
  a171 := Tryz.isAgg248
  z171 := Tryz.sizeOf248
  v171 := Tryz.zeroValue248
  t173 := Tryz.underlying250
  a173 := Tryz.isAgg250
  z173 := Tryz.sizeOf250
  v173 := Tryz.zeroValue250
  t212 := Tryz.underlying281
  a212 := Tryz.isAgg281
  z212 := Tryz.sizeOf281
  v212 := Tryz.zeroValue281
  t213 := Tryz.underlying282
  a213 := Tryz.isAgg282
  z213 := Tryz.sizeOf282
  t232 := Tryz.underlying299
  a232 := Tryz.isAgg299
  z232 := Tryz.sizeOf299
  v232 := Tryz.zeroValue299
  t233 := Tryz.underlying300
  a233 := Tryz.isAgg300
  z233 := Tryz.sizeOf300
  v233 := Tryz.zeroValue300
  g17 := by kernel_rfl
  g18 := by kernel_rfl
  g19 := by kernel_rfl }
open Go.RowKit Go.Sort Go.Lib in
/-- THE ROAD WITHOUT THE TABLE: 0 <= i < 100: NO PREMISE ON THE WORLD, AND THE WORLD IS AS IT WAS: a row that keeps its argument in that range need list no table ('laid = []'). (LAID: no walk: one application.) -/
theorem Tryz.strconv_Itoa_small (i : Nat) (hi : i < 100) (w : World) :
    Calls Tryz.prog 101 #[.int .i64 i] w fun e w' => e = .returned (.string ⟨(Lib.decDigits i).toArray⟩) ∧ w' = w := Any.strconv_Itoa_small Tryz.lays171 i hi w
def Tryz.laysC172_ren : Go.Shelf.Ren := ⟨fun | 172 => 116 | 244 => 153 | 245 => 154 | 247 => 175 | 279 => 176 | 280 => 177 | 281 => 178 | 282 => 179 | 287 => 207 | 316 => 208 | 171 => 101 | 205 => 108 | 321 => 221 | 322 => 222 | 243 => 136 | 246 => 163 | 283 => 192 | 284 => 193 | 285 => 194 | 286 => 195 | 129 => 183 | 317 => 214 | 318 => 215 | 319 => 216 | 320 => 217 | 337 => 224 | 338 => 225 | n => n, fun | 9 => 9 | 3 => 3 | 75 => 89 | 76 => 166 | 4 => 4 | 5 => 5 | 167 => 230 | 37 => 37 | 0 => 0 | 85 => 231 | 2 => 2 | 168 => 233 | 53 => 145 | 175 => 269 | 46 => 215 | 210 => 272 | 127 => 218 | 145 => 196 | 143 => 194 | 21 => 21 | 171 => 248 | 173 => 250 | 212 => 281 | 51 => 221 | 20 => 20 | 213 => 282 | 232 => 299 | 233 => 300 | 80 => 108 | n => n, fun | 15 => 11 | 16 => 12 | 17 => 13 | 18 => 18 | 19 => 19 | n => n⟩
theorem Tryz.laysC172 : Go.Proofs.LaysC.n172 Tryz.prog Tryz.laysC172_ren := {
  mixed := by kernel_rfl
  f129 := Tryz.func183.trans (congrArg some (by kernel_rfl))
  f171 := Tryz.func101.trans (congrArg some (by kernel_rfl))
  f172 := Tryz.func116.trans (congrArg some (by kernel_rfl))
  f205 := Tryz.func108.trans (congrArg some (by kernel_rfl))
  f243 := Tryz.func136.trans (congrArg some (by kernel_rfl))
  f244 := Tryz.func153.trans (congrArg some (by kernel_rfl))
  f245 := Tryz.func154.trans (congrArg some (by kernel_rfl))
  f246 := Tryz.func163.trans (congrArg some (by kernel_rfl))
  f247 := Tryz.func175.trans (congrArg some (by kernel_rfl))
  f279 := Tryz.func176.trans (congrArg some (by kernel_rfl))
  f280 := Tryz.func177.trans (congrArg some (by kernel_rfl))
  f281 := Tryz.func178.trans (congrArg some (by kernel_rfl))
  f282 := Tryz.func179.trans (congrArg some (by kernel_rfl))
  f283 := Tryz.func192.trans (congrArg some (by kernel_rfl))
  f284 := Tryz.func193.trans (congrArg some (by kernel_rfl))
  f285 := Tryz.func194.trans (congrArg some (by kernel_rfl))
  f286 := Tryz.func195.trans (congrArg some (by kernel_rfl))
  f287 := Tryz.func207.trans (congrArg some (by kernel_rfl))
  f316 := Tryz.func208.trans (congrArg some (by kernel_rfl))
  f317 := Tryz.func214.trans (congrArg some (by kernel_rfl))
  f318 := Tryz.func215.trans (congrArg some (by kernel_rfl))
  f319 := Tryz.func216.trans (congrArg some (by kernel_rfl))
  f320 := Tryz.func217.trans (congrArg some (by kernel_rfl))
  f321 := Tryz.func221.trans (congrArg some (by kernel_rfl))
  f322 := Tryz.func222.trans (congrArg some (by kernel_rfl))
  f337 := Tryz.func224.trans (congrArg some (by kernel_rfl))
  f338 := Tryz.func225.trans (congrArg some (by kernel_rfl))
  t0 := Tryz.underlying0
  a0 := Tryz.isAgg0
  z0 := Tryz.sizeOf0
  v0 := Tryz.zeroValue0
  t2 := Tryz.underlying2
  a2 := Tryz.isAgg2
  z2 := Tryz.sizeOf2
  v2 := Tryz.zeroValue2
  t3 := Tryz.underlying3
  a3 := Tryz.isAgg3
  z3 := Tryz.sizeOf3
  v3 := Tryz.zeroValue3
  t4 := Tryz.underlying4
  a4 := Tryz.isAgg4
  z4 := Tryz.sizeOf4
  v4 := Tryz.zeroValue4
  t5 := Tryz.underlying5
  a5 := Tryz.isAgg5
  z5 := Tryz.sizeOf5
  v5 := Tryz.zeroValue5
  t9 := Tryz.underlying9
  a9 := Tryz.isAgg9
  z9 := Tryz.sizeOf9
  v9 := Tryz.zeroValue9
  t20 := Tryz.underlying20
  a20 := Tryz.isAgg20
  z20 := Tryz.sizeOf20
  v20 := Tryz.zeroValue20
  t21 := Tryz.underlying21
  a21 := Tryz.isAgg21
  z21 := Tryz.sizeOf21
  v21 := Tryz.zeroValue21
  t37 := Tryz.underlying37
  a37 := Tryz.isAgg37
  z37 := Tryz.sizeOf37
  v37 := Tryz.zeroValue37
  t46 := Tryz.underlying215
  a46 := Tryz.isAgg215
  z46 := Tryz.sizeOf215
  v46 := Tryz.zeroValue215
  t51 := Tryz.underlying221
  a51 := Tryz.isAgg221
  z51 := Tryz.sizeOf221
  v51 := Tryz.zeroValue221
  t53 := Tryz.underlying145
  a53 := Tryz.isAgg145
  z53 := Tryz.sizeOf145
  v53 := Tryz.zeroValue145
  t75 := Tryz.underlying89
  a75 := Tryz.isAgg89
  z75 := Tryz.sizeOf89
  v75 := Tryz.zeroValue89
  t76 := Tryz.underlying166
  a76 := Tryz.isAgg166
  z76 := Tryz.sizeOf166
  v76 := Tryz.zeroValue166
  t85 := Tryz.underlying231
  a85 := Tryz.isAgg231
  z85 := Tryz.sizeOf231
  v85 := Tryz.zeroValue231
  t127 := Tryz.underlying218
  a127 := Tryz.isAgg218
  z127 := Tryz.sizeOf218
  v127 := Tryz.zeroValue218
  t143 := Tryz.underlying194
  a143 := Tryz.isAgg194
  z143 := Tryz.sizeOf194
  v143 := Tryz.zeroValue194
  t145 := Tryz.underlying196
  a145 := Tryz.isAgg196
  z145 := Tryz.sizeOf196
  v145 := Tryz.zeroValue196
  t167 := Tryz.underlying230
  a167 := Tryz.isAgg230
  z167 := Tryz.sizeOf230
  v167 := Tryz.zeroValue230
  t168 := Tryz.underlying233
  a168 := Tryz.isAgg233
  z168 := Tryz.sizeOf233
  v168 := Tryz.zeroValue233
  t171 := Tryz.underlying248
  a171 := Tryz.isAgg248
  z171 := Tryz.sizeOf248
  v171 := Tryz.zeroValue248
  t173 := Tryz.underlying250
  a173 := Tryz.isAgg250
  z173 := Tryz.sizeOf250
  v173 := Tryz.zeroValue250
  t175 := Tryz.underlying269
  a175 := Tryz.isAgg269
  z175 := Tryz.sizeOf269
  v175 := Tryz.zeroValue269
  t210 := Tryz.underlying272
  a210 := Tryz.isAgg272
  z210 := Tryz.sizeOf272
  v210 := Tryz.zeroValue272
  t212 := Tryz.underlying281
  a212 := Tryz.isAgg281
  z212 := Tryz.sizeOf281
  v212 := Tryz.zeroValue281
  t213 := Tryz.underlying282
  a213 := Tryz.isAgg282
  z213 := Tryz.sizeOf282
  t232 := Tryz.underlying299
  a232 := Tryz.isAgg299
  z232 := Tryz.sizeOf299
  v232 := Tryz.zeroValue299
  t233 := Tryz.underlying300
  a233 := Tryz.isAgg300
  z233 := Tryz.sizeOf300
  v233 := Tryz.zeroValue300
  g15 := by kernel_rfl
  g16 := by kernel_rfl
  g17 := by kernel_rfl
  g18 := by kernel_rfl
  g19 := by kernel_rfl
  t80 := Tryz.underlying108
  a80 := Tryz.isAgg108
  z80 := Tryz.sizeOf108
  v80 := Tryz.zeroValue108
  i0 := by kernel_rfl
  i2 := by kernel_rfl
  i3 := by kernel_rfl
  i4 := by kernel_rfl
  i5 := by kernel_rfl
  i9 := by kernel_rfl
  i20 := by kernel_rfl
  i21 := by kernel_rfl
  i37 := by kernel_rfl
  i46 := by kernel_rfl
  i51 := by kernel_rfl
  i53 := by kernel_rfl
  i75 := by kernel_rfl
  i76 := by kernel_rfl
  i80 := by kernel_rfl
  i85 := by kernel_rfl
  i127 := by kernel_rfl
  i143 := by kernel_rfl
  i145 := by kernel_rfl
  i167 := by kernel_rfl
  i168 := by kernel_rfl
  i171 := by kernel_rfl
  i173 := by kernel_rfl
  i175 := by kernel_rfl
  i210 := by kernel_rfl
  i212 := by kernel_rfl
  i232 := by kernel_rfl
  i233 := by kernel_rfl
  m15 := by kernel_rfl
  m16 := by kernel_rfl
  m17 := by kernel_rfl
  m18 := by kernel_rfl
  m19 := by kernel_rfl
  c0 := by kernel_rfl
  c2 := by kernel_rfl
  c3 := by kernel_rfl
  c4 := by kernel_rfl
  c5 := by kernel_rfl
  c9 := by kernel_rfl
  c20 := by kernel_rfl
  c21 := by kernel_rfl
  c37 := by kernel_rfl
  c46 := by kernel_rfl
  c51 := by kernel_rfl
  c53 := by kernel_rfl
  c75 := by kernel_rfl
  c76 := by kernel_rfl
  c80 := by kernel_rfl
  c85 := by kernel_rfl
  c127 := by kernel_rfl
  c143 := by kernel_rfl
  c145 := by kernel_rfl
  c167 := by kernel_rfl
  c168 := by kernel_rfl
  c171 := by kernel_rfl
  c173 := by kernel_rfl
  c175 := by kernel_rfl
  c210 := by kernel_rfl
  c212 := by kernel_rfl
  c213 := by kernel_rfl
  c232 := by kernel_rfl
  c233 := by kernel_rfl }
open Go.RowKit in
/-- strconv.Atoi, AT EVERY STRING THAT SPELLS AN int ('Lib.atoiAll .. = .ok v'; of whatever length: leading zeros count): v, AND NO ERROR. The world: as it was, or with the one new row that '[]byte(..)' lays. (LAID: no walk: one application.) -/
theorem Tryz.strconv_Atoi_ok (s : ByteArray) (hmax : s.size ≤ 9223372036854775806) (v : Int) (h : Lib.atoiAll s.data.toList = .ok v) (w : World) :
    Calls Tryz.prog 116 #[.string s] w fun e w' => e = .returned (.tuple #[.int .i64 v, .nilIface]) ∧ (w' = w ∨ ∃ t, w' = Lib.bytesWorld w 5 t) := Any.strconv_Atoi_ok Tryz.laysC172 s hmax v h w
open Go.RowKit in
theorem Tryz.strconv_Atoi_syntax_var (s : ByteArray) (hlim : s.size ≤ 281474976710656) (h : Lib.atoiAll s.data.toList = Lib.atoiAll []) (tp : TypeId) (p : Value) (w : World) (hvar : w.var? Tryz.prog "strconv.ErrSyntax" = some #[.iface tp p]) :
    Calls Tryz.prog 116 #[.string s] w fun e w' => ∃ N, e = .returned (.tuple #[.int .i64 0, .iface 233 (.pointer (some ⟨N, 0, none⟩))]) ∧ w.heap.size ≤ N ∧ w'.heap[N]? = some (.cells #[.string ⟨#[65, 116, 111, 105]⟩, .string s, .iface tp p] 272 (0, 0)) ∧ Below w.heap.size w w' := Any.strconv_Atoi_syntax_var Tryz.laysC172 s hlim h tp p w hvar
open Go.RowKit in
theorem Tryz.strconv_Atoi_range_var (s : ByteArray) (hlim : s.size ≤ 281474976710656) (h : Lib.atoiAll s.data.toList = .range) (tp : TypeId) (p : Value) (w : World) (hvar : w.var? Tryz.prog "strconv.ErrRange" = some #[.iface tp p]) :
    Calls Tryz.prog 116 #[.string s] w fun e w' => ∃ N, e = .returned (.tuple #[.int .i64 (Lib.atoiSat s.data.toList), .iface 233 (.pointer (some ⟨N, 0, none⟩))]) ∧ w.heap.size ≤ N ∧ w'.heap[N]? = some (.cells #[.string ⟨#[65, 116, 111, 105]⟩, .string s, .iface tp p] 272 (0, 0)) ∧ Below w.heap.size w w' := Any.strconv_Atoi_range_var Tryz.laysC172 s hlim h tp p w hvar
def Tryz.lays99_ren : Go.Shelf.Ren := ⟨fun | 99 => 142 | 206 => 166 | n => n, fun | 9 => 9 | 4 => 4 | 3 => 3 | n => n, fun | n => n⟩
theorem Tryz.lays99 : Go.Proofs.Lays.n99 Tryz.prog Tryz.lays99_ren := {
  mixed := by kernel_rfl
  f99 := Tryz.func142.trans (congrArg some (by kernel_rfl))
  f206 := Tryz.func166.trans (congrArg some (by kernel_rfl))
  t3 := Tryz.underlying3
  a3 := Tryz.isAgg3
  z3 := Tryz.sizeOf3
  v3 := Tryz.zeroValue3
  t4 := Tryz.underlying4
  a4 := Tryz.isAgg4
  z4 := Tryz.sizeOf4
  v4 := Tryz.zeroValue4
  t9 := Tryz.underlying9
  a9 := Tryz.isAgg9
  z9 := Tryz.sizeOf9
  v9 := Tryz.zeroValue9 }
open Go.RowKit Go.Lib in
/-- strings.HasPrefix: "HasPrefix reports whether the string s begins with prefix.": IT RETURNS 'Lib.hasPrefix s prefix'; the world is as it was. (LAID: no walk: one application.) -/
theorem Tryz.strings_HasPrefix (s p : ByteArray) (w : World) :
    Calls Tryz.prog 142 #[.string s, .string p] w fun e w' => e = .returned (.bool (Lib.hasPrefix s.data.toList p.data.toList)) ∧ w' = w := Any.strings_HasPrefix Tryz.lays99 s p w
def Tryz.lays101_ren : Go.Shelf.Ren := ⟨fun | 101 => 115 | 208 => 152 | 206 => 166 | n => n, fun | 9 => 9 | 4 => 4 | 3 => 3 | n => n, fun | n => n⟩
theorem Tryz.lays101 : Go.Proofs.Lays.n101 Tryz.prog Tryz.lays101_ren := {
  mixed := by kernel_rfl
  f101 := Tryz.func115.trans (congrArg some (by kernel_rfl))
  f206 := Tryz.func166.trans (congrArg some (by kernel_rfl))
  f208 := Tryz.func152.trans (congrArg some (by kernel_rfl))
  t3 := Tryz.underlying3
  a3 := Tryz.isAgg3
  z3 := Tryz.sizeOf3
  v3 := Tryz.zeroValue3
  t4 := Tryz.underlying4
  a4 := Tryz.isAgg4
  z4 := Tryz.sizeOf4
  v4 := Tryz.zeroValue4
  t9 := Tryz.underlying9
  a9 := Tryz.isAgg9
  z9 := Tryz.sizeOf9
  v9 := Tryz.zeroValue9 }
open Go.RowKit Go.Lib in
/-- strings.TrimPrefix: "TrimPrefix returns s without the provided leading prefix string. If s doesn't start with prefix, s is returned unchanged.": IT RETURNS 'Lib.trimPrefix s prefix'; the world is as it was. (LAID: no walk: one application.) -/
theorem Tryz.strings_TrimPrefix (s p : ByteArray) (w : World) :
    Calls Tryz.prog 115 #[.string s, .string p] w fun e w' => e = .returned (.string ⟨(Lib.trimPrefix s.data.toList p.data.toList).toArray⟩) ∧ w' = w := Any.strings_TrimPrefix Tryz.lays101 s p w
open Go.RowKit in
theorem Tryz.strings_TrimSpace_any (s : ByteArray) (w : World) (hs : s.size ≤ 9223372036854775807) (htab : Lib.TabIs Tryz.prog w "strings.asciiSpace" .u8 Lib.asciiSpaceTab) (hU8 : Lib.Utf8Tabs 15 16 w) (hWS : Lib.WhiteTab 10 w) :
    Calls Tryz.prog 113 #[.string s] w fun e w' => e = .returned (.string ⟨(Lib.trimSpaceD s.data.toList).toArray⟩) ∧ Below w.heap.size w w' := Any.strings_TrimSpace_any Tryz.lays163 Tryz.Space_Extra_163 s w hs htab hU8 hWS
open Go.RowKit Go.Lib in
/-- **strings.ToUpper AT EVERY STRING, VALID UTF-8 OR NOT.** (LAID: no walk: one application.) -/
theorem Tryz.strings_ToUpper_any (s : ByteArray) (w : World) (hs : s.size < 35184372088832) (hV : CaseVar 17 caseA w) (hT : Lib.Utf8Tabs 15 16 w) :
    Calls Tryz.prog 150 #[.string s] w fun e w' => e = .returned (.string ⟨(Lib.toUpperD s.data.toList).toArray⟩) ∧ Below w.heap.size w w' := Any.strings_ToUpper_any Tryz.lays158 Tryz.Builder_Extra_158 s w hs hV hT
end Go.Proofs
