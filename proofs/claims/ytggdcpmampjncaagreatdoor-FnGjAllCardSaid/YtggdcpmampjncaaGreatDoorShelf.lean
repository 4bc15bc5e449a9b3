/- DERIVED: THE SHELF's CONTRACTS AT THIS DUMP, IN PLAIN WORDS (tools/lay-plain.mjs out of 'TryzShelf.lean', which tools/lay-shelf.mjs wrote): THE SAME DECLARATIONS UNDER THE SAME NAMES: 'import', 'namespace', 'open', 'def', 'theorem' AND NOTHING ELSE: no command of the shelf's: FOR A HAND-IN. Each laying: the table of numbers ('.._ren') and one theorem, a field a fact of the dump's own or the kernel's comparison; each contract: ONE APPLICATION. DERIVED: THE SHELF's CONTRACTS AT THIS DUMP, IN PLAIN WORDS (tools/lay-plain.mjs out of 'TryzShelfE.lean', which tools/lay-shelf.mjs wrote): THE SAME DECLARATIONS UNDER THE SAME NAMES: 'import', 'namespace', 'open', 'def', 'theorem' AND NOTHING ELSE: no command of the shelf's: FOR A HAND-IN. Each laying: the table of numbers ('.._ren') and one theorem, a field a fact of the dump's own or the kernel's comparison; each contract: ONE APPLICATION. -/
import Derived.Shelf.Strconv.Itoa0
import Derived.Shelf.Strconv.Itoa1
import Derived.Shelf.LaysM
import Derived.Shelf.Strconv.Itoa2
import Derived.Shelf.Strconv.Itoa3
import Derived.Shelf.Strconv.Clone
import Derived.Shelf.Strconv.SyntaxError
import Derived.Shelf.LaysC
import Derived.Shelf.Strconv.ToError
import Derived.Shelf.Strconv.Lower
import Derived.Shelf.Strconv.RangeError
import Derived.Shelf.Strconv.ToErrorRange
import Derived.Shelf.Bits.Mul64
import Derived.Test.YtggdcpmampjncaaGreatDoorProg
import Derived.Shelf.Spec.EncodeRune
namespace Go.Proofs
open Go.Shelf
def Tryz.lays129_ren : Go.Shelf.Ren := ⟨fun | 129 => 120 | n => n, fun | 53 => 127 | 3 => 3 | 4 => 4 | 46 => 130 | 5 => 5 | 9 => 9 | n => n, fun | n => n⟩
theorem Tryz.lays129 : Go.Proofs.Lays.n129 Tryz.prog Tryz.lays129_ren := {
  mixed := by kernel_rfl
  f129 := Tryz.func120.trans (congrArg some (by kernel_rfl))
  t3 := Tryz.underlying3
  a3 := Tryz.isAgg3
  z3 := Tryz.sizeOf3
  v3 := Tryz.zeroValue3
  t4 := Tryz.underlying4
  a4 := Tryz.isAgg4
  z4 := Tryz.sizeOf4
  v4 := Tryz.zeroValue4
  t5 := Tryz.underlying5
  a5 := Tryz.isAgg5
  z5 := Tryz.sizeOf5
  v5 := Tryz.zeroValue5
  t9 := Tryz.underlying9
  a9 := Tryz.isAgg9
  z9 := Tryz.sizeOf9
  v9 := Tryz.zeroValue9
  t46 := Tryz.underlying130
  a46 := Tryz.isAgg130
  z46 := Tryz.sizeOf130
  v46 := Tryz.zeroValue130
  t53 := Tryz.underlying127
  a53 := Tryz.isAgg127
  z53 := Tryz.sizeOf127
  v53 := Tryz.zeroValue127 }
/-- bits.Len64: "Len64 returns the minimum number of bits required to represent x; the result is 0 for x == 0.": IT RETURNS 'Lib.bitLen x'; the world is as it was. ('h0', 'h1': x is a uint64.) (LAID: no walk: one application.) -/
theorem Tryz.bits_Len64 (x : Int) (w : World) (h0 : 0 ≤ x) (h1 : x ≤ 18446744073709551615) :
    Calls Tryz.prog 120 #[.int .u64 x] w fun e w' => e = .returned (.int .i64 (Lib.bitLen x.toNat)) ∧ w' = w := Any.bits_Len64 Tryz.lays129 x w h0 h1
def Tryz.lays318_ren : Go.Shelf.Ren := ⟨fun | 318 => 124 | n => n, fun | 3 => 3 | 4 => 4 | n => n, fun | n => n⟩
theorem Tryz.lays318 : Go.Proofs.Lays.n318 Tryz.prog Tryz.lays318_ren := {
  mixed := by kernel_rfl
  f318 := Tryz.func124.trans (congrArg some (by kernel_rfl))
  t3 := Tryz.underlying3
  a3 := Tryz.isAgg3
  z3 := Tryz.sizeOf3
  v3 := Tryz.zeroValue3
  t4 := Tryz.underlying4
  a4 := Tryz.isAgg4
  z4 := Tryz.sizeOf4
  v4 := Tryz.zeroValue4 }
open Go.Lib in
/-- internal/strconv.bool2: "bool2 converts b to an integer: 1 for true, 0 for false." The world is as it was. (LAID: no walk: one application.) -/
theorem Tryz.internal_strconv_bool2_int (b : Bool) (w : World) :
    Calls Tryz.prog 124 #[.bool b] w fun e w' => e = .returned (.int .i64 (if b then 1 else 0)) ∧ w' = w := Any.internal_strconv_bool2_int Tryz.lays318 b w
def Tryz.laysM316_ren : Go.Shelf.Ren := ⟨fun | 316 => 97 | n => n, fun | 9 => 9 | 3 => 3 | 4 => 4 | 37 => 91 | 0 => 0 | 127 => 166 | 5 => 5 | n => n, fun | n => n⟩
theorem Tryz.laysM316 : Go.Proofs.LaysM.n316 Tryz.prog Tryz.laysM316_ren := {
  mixed := by kernel_rfl
  f316 := Tryz.func97.trans (congrArg some (by kernel_rfl))
  t0 := Tryz.underlying0
  a0 := Tryz.isAgg0
  z0 := Tryz.sizeOf0
  v0 := Tryz.zeroValue0
  t3 := Tryz.underlying3
  a3 := Tryz.isAgg3
  z3 := Tryz.sizeOf3
  v3 := Tryz.zeroValue3
  t4 := Tryz.underlying4
  a4 := Tryz.isAgg4
  z4 := Tryz.sizeOf4
  v4 := Tryz.zeroValue4
  t9 := Tryz.underlying9
  a9 := Tryz.isAgg9
  z9 := Tryz.sizeOf9
  v9 := Tryz.zeroValue9
  t37 := Tryz.underlying91
  a37 := Tryz.isAgg91
  z37 := Tryz.sizeOf91
  v37 := Tryz.zeroValue91
  t127 := Tryz.underlying166
  a127 := Tryz.isAgg166
  z127 := Tryz.sizeOf166
  v127 := Tryz.zeroValue166
  t5 := Tryz.underlying5
  a5 := Tryz.isAgg5
  z5 := Tryz.sizeOf5
  v5 := Tryz.zeroValue5
  i0 := by kernel_rfl
  i3 := by kernel_rfl
  i4 := by kernel_rfl
  i5 := by kernel_rfl
  i9 := by kernel_rfl
  i37 := by kernel_rfl
  i127 := by kernel_rfl }
open Go.RowKit in
/-- internal/stringslite.Clone (what strings.Clone calls): "Clone returns a fresh copy of s.": THE SAME BYTES. Of what was there nothing has turned (a new row is laid, and frozen, where s is not empty). (LAID: no walk: one application.) -/
theorem Tryz.stringslite_Clone (s : ByteArray) (w : World) (hlim : s.size ≤ 281474976710656) :
    Calls Tryz.prog 97 #[.string s] w fun e w' => e = .returned (.string s) ∧ Below w.heap.size w w' := Any.stringslite_Clone Tryz.laysM316 s w hlim
def Tryz.laysM279_ren : Go.Shelf.Ren := ⟨fun | 279 => 86 | 316 => 97 | n => n, fun | 9 => 9 | 168 => 124 | 75 => 107 | 210 => 139 | 3 => 3 | 4 => 4 | 37 => 91 | 0 => 0 | 127 => 166 | 80 => 212 | 5 => 5 | n => n, fun | 15 => 1 | n => n⟩
theorem Tryz.laysM279 : Go.Proofs.LaysM.n279 Tryz.prog Tryz.laysM279_ren := {
  mixed := by kernel_rfl
  f279 := Tryz.func86.trans (congrArg some (by kernel_rfl))
  f316 := Tryz.func97.trans (congrArg some (by kernel_rfl))
  t0 := Tryz.underlying0
  a0 := Tryz.isAgg0
  z0 := Tryz.sizeOf0
  v0 := Tryz.zeroValue0
  t3 := Tryz.underlying3
  a3 := Tryz.isAgg3
  z3 := Tryz.sizeOf3
  v3 := Tryz.zeroValue3
  t4 := Tryz.underlying4
  a4 := Tryz.isAgg4
  z4 := Tryz.sizeOf4
  v4 := Tryz.zeroValue4
  t9 := Tryz.underlying9
  a9 := Tryz.isAgg9
  z9 := Tryz.sizeOf9
  v9 := Tryz.zeroValue9
  t37 := Tryz.underlying91
  a37 := Tryz.isAgg91
  z37 := Tryz.sizeOf91
  v37 := Tryz.zeroValue91
  t75 := Tryz.underlying107
  a75 := Tryz.isAgg107
  z75 := Tryz.sizeOf107
  v75 := Tryz.zeroValue107
  t127 := Tryz.underlying166
  a127 := Tryz.isAgg166
  z127 := Tryz.sizeOf166
  v127 := Tryz.zeroValue166
  t168 := Tryz.underlying124
  a168 := Tryz.isAgg124
  z168 := Tryz.sizeOf124
  v168 := Tryz.zeroValue124
  t210 := Tryz.underlying139
  a210 := Tryz.isAgg139
  z210 := Tryz.sizeOf139
  v210 := Tryz.zeroValue139
  g15 := by kernel_rfl
  t5 := Tryz.underlying5
  a5 := Tryz.isAgg5
  z5 := Tryz.sizeOf5
  v5 := Tryz.zeroValue5
  t80 := Tryz.underlying212
  a80 := Tryz.isAgg212
  z80 := Tryz.sizeOf212
  v80 := Tryz.zeroValue212
  i0 := by kernel_rfl
  i3 := by kernel_rfl
  i4 := by kernel_rfl
  i5 := by kernel_rfl
  i9 := by kernel_rfl
  i37 := by kernel_rfl
  i75 := by kernel_rfl
  i80 := by kernel_rfl
  i127 := by kernel_rfl
  i168 := by kernel_rfl
  i210 := by kernel_rfl
  m15 := by kernel_rfl }
open Go.RowKit in
/-- strconv.syntaxError: '&NumError{fn, stringslite.Clone(str), ErrSyntax}': A POINTER TO A NEW BLOCK that holds fn, str's bytes, and what the variable ErrSyntax holds. Of what was there nothing has turned. (LAID: no walk: one application.) -/
theorem Tryz.strconv_syntaxError (fn s : ByteArray) (ev : Value) (w : World) (hlim : s.size ≤ 281474976710656) (hv : w.cell? ⟨1, 0, none⟩ = some ev) (hev : ev = .nilIface ∨ ∃ te pe, ev = .iface te pe) :
    Calls Tryz.prog 86 #[.string fn, .string s] w fun e w' => ∃ N, e = .returned (.pointer (some ⟨N, 0, none⟩)) ∧ w.heap.size ≤ N ∧ w'.heap[N]? = some (.cells #[.string fn, .string s, ev] 139 (0, 0)) ∧ Below w.heap.size w w' := Any.strconv_syntaxError Tryz.laysM279 fn s ev w hlim hv hev
def Tryz.laysC245_ren : Go.Shelf.Ren := ⟨fun | 245 => 70 | 279 => 86 | 280 => 87 | 281 => 88 | 282 => 89 | 316 => 97 | 171 => 99 | 205 => 98 | 243 => 114 | 246 => 131 | 283 => 136 | 284 => 137 | 285 => 138 | 286 => 139 | 129 => 120 | 317 => 142 | 318 => 124 | 319 => 143 | 320 => 144 | 337 => 145 | 338 => 146 | n => n, fun | 9 => 9 | 3 => 3 | 75 => 107 | 167 => 123 | 4 => 4 | 168 => 124 | 210 => 139 | 37 => 91 | 0 => 0 | 127 => 166 | 145 => 169 | 143 => 167 | 2 => 2 | 171 => 197 | 53 => 127 | 5 => 5 | 173 => 199 | 212 => 206 | 51 => 131 | 20 => 20 | 213 => 207 | 46 => 130 | 232 => 210 | 233 => 211 | 80 => 212 | n => n, fun | 15 => 1 | 16 => 2 | 17 => 11 | 18 => 12 | 19 => 13 | n => n⟩
theorem Tryz.laysC245 : Go.Proofs.LaysC.n245 Tryz.prog Tryz.laysC245_ren := {
  mixed := by kernel_rfl
  f129 := Tryz.func120.trans (congrArg some (by kernel_rfl))
  f171 := Tryz.func99.trans (congrArg some (by kernel_rfl))
  f205 := Tryz.func98.trans (congrArg some (by kernel_rfl))
  f243 := Tryz.func114.trans (congrArg some (by kernel_rfl))
  f245 := Tryz.func70.trans (congrArg some (by kernel_rfl))
  f246 := Tryz.func131.trans (congrArg some (by kernel_rfl))
  f279 := Tryz.func86.trans (congrArg some (by kernel_rfl))
  f280 := Tryz.func87.trans (congrArg some (by kernel_rfl))
  f281 := Tryz.func88.trans (congrArg some (by kernel_rfl))
  f282 := Tryz.func89.trans (congrArg some (by kernel_rfl))
  f283 := Tryz.func136.trans (congrArg some (by kernel_rfl))
  f284 := Tryz.func137.trans (congrArg some (by kernel_rfl))
  f285 := Tryz.func138.trans (congrArg some (by kernel_rfl))
  f286 := Tryz.func139.trans (congrArg some (by kernel_rfl))
  f316 := Tryz.func97.trans (congrArg some (by kernel_rfl))
  f317 := Tryz.func142.trans (congrArg some (by kernel_rfl))
  f318 := Tryz.func124.trans (congrArg some (by kernel_rfl))
  f319 := Tryz.func143.trans (congrArg some (by kernel_rfl))
  f320 := Tryz.func144.trans (congrArg some (by kernel_rfl))
  f337 := Tryz.func145.trans (congrArg some (by kernel_rfl))
  f338 := Tryz.func146.trans (congrArg some (by kernel_rfl))
  t0 := Tryz.underlying0
  a0 := Tryz.isAgg0
  z0 := Tryz.sizeOf0
  v0 := Tryz.zeroValue0
  t2 := Tryz.underlying2
  a2 := Tryz.isAgg2
  z2 := Tryz.sizeOf2
  v2 := Tryz.zeroValue2
  t3 := Tryz.underlying3
  a3 := Tryz.isAgg3
  z3 := Tryz.sizeOf3
  v3 := Tryz.zeroValue3
  t4 := Tryz.underlying4
  a4 := Tryz.isAgg4
  z4 := Tryz.sizeOf4
  v4 := Tryz.zeroValue4
  t5 := Tryz.underlying5
  a5 := Tryz.isAgg5
  z5 := Tryz.sizeOf5
  v5 := Tryz.zeroValue5
  t9 := Tryz.underlying9
  a9 := Tryz.isAgg9
  z9 := Tryz.sizeOf9
  v9 := Tryz.zeroValue9
  t20 := Tryz.underlying20
  a20 := Tryz.isAgg20
  z20 := Tryz.sizeOf20
  v20 := Tryz.zeroValue20
  t37 := Tryz.underlying91
  a37 := Tryz.isAgg91
  z37 := Tryz.sizeOf91
  v37 := Tryz.zeroValue91
  t46 := Tryz.underlying130
  a46 := Tryz.isAgg130
  z46 := Tryz.sizeOf130
  v46 := Tryz.zeroValue130
  t51 := Tryz.underlying131
  a51 := Tryz.isAgg131
  z51 := Tryz.sizeOf131
  v51 := Tryz.zeroValue131
  t53 := Tryz.underlying127
  a53 := Tryz.isAgg127
  z53 := Tryz.sizeOf127
  v53 := Tryz.zeroValue127
  t75 := Tryz.underlying107
  a75 := Tryz.isAgg107
  z75 := Tryz.sizeOf107
  v75 := Tryz.zeroValue107
  t127 := Tryz.underlying166
  a127 := Tryz.isAgg166
  z127 := Tryz.sizeOf166
  v127 := Tryz.zeroValue166
  t143 := Tryz.underlying167
  a143 := Tryz.isAgg167
  z143 := Tryz.sizeOf167
  v143 := Tryz.zeroValue167
  t145 := Tryz.underlying169
  a145 := Tryz.isAgg169
  z145 := Tryz.sizeOf169
  v145 := Tryz.zeroValue169
  t167 := Tryz.underlying123
  a167 := Tryz.isAgg123
  z167 := Tryz.sizeOf123
  v167 := Tryz.zeroValue123
  t168 := Tryz.underlying124
  a168 := Tryz.isAgg124
  z168 := Tryz.sizeOf124
  v168 := Tryz.zeroValue124
  t171 := Tryz.underlying197
  a171 := Tryz.isAgg197
  z171 := Tryz.sizeOf197
  v171 := Tryz.zeroValue197
  t173 := Tryz.underlying199
  a173 := Tryz.isAgg199
  z173 := Tryz.sizeOf199
  v173 := Tryz.zeroValue199
  t210 := Tryz.underlying139
  a210 := Tryz.isAgg139
  z210 := Tryz.sizeOf139
  v210 := Tryz.zeroValue139
  t212 := Tryz.underlying206
  a212 := Tryz.isAgg206
  z212 := Tryz.sizeOf206
  v212 := Tryz.zeroValue206
  t213 := Tryz.underlying207
  a213 := Tryz.isAgg207
  z213 := Tryz.sizeOf207
  t232 := Tryz.underlying210
  a232 := Tryz.isAgg210
  z232 := Tryz.sizeOf210
  v232 := Tryz.zeroValue210
  t233 := Tryz.underlying211
  a233 := Tryz.isAgg211
  z233 := Tryz.sizeOf211
  v233 := Tryz.zeroValue211
  g15 := by kernel_rfl
  g16 := by kernel_rfl
  g17 := by kernel_rfl
  g18 := by kernel_rfl
  g19 := by kernel_rfl
  t80 := Tryz.underlying212
  a80 := Tryz.isAgg212
  z80 := Tryz.sizeOf212
  v80 := Tryz.zeroValue212
  i0 := by kernel_rfl
  i2 := by kernel_rfl
  i3 := by kernel_rfl
  i4 := by kernel_rfl
  i5 := by kernel_rfl
  i9 := by kernel_rfl
  i20 := by kernel_rfl
  i37 := by kernel_rfl
  i46 := by kernel_rfl
  i51 := by kernel_rfl
  i53 := by kernel_rfl
  i75 := by kernel_rfl
  i80 := by kernel_rfl
  i127 := by kernel_rfl
  i143 := by kernel_rfl
  i145 := by kernel_rfl
  i167 := by kernel_rfl
  i168 := by kernel_rfl
  i171 := by kernel_rfl
  i173 := by kernel_rfl
  i210 := by kernel_rfl
  i212 := by kernel_rfl
  i232 := by kernel_rfl
  i233 := by kernel_rfl
  m15 := by kernel_rfl
  m16 := by kernel_rfl
  m17 := by kernel_rfl
  m18 := by kernel_rfl
  m19 := by kernel_rfl
  c0 := by kernel_rfl
  c2 := by kernel_rfl
  c3 := by kernel_rfl
  c4 := by kernel_rfl
  c5 := by kernel_rfl
  c9 := by kernel_rfl
  c20 := by kernel_rfl
  c37 := by kernel_rfl
  c46 := by kernel_rfl
  c51 := by kernel_rfl
  c53 := by kernel_rfl
  c75 := by kernel_rfl
  c80 := by kernel_rfl
  c127 := by kernel_rfl
  c143 := by kernel_rfl
  c145 := by kernel_rfl
  c167 := by kernel_rfl
  c168 := by kernel_rfl
  c171 := by kernel_rfl
  c173 := by kernel_rfl
  c210 := by kernel_rfl
  c212 := by kernel_rfl
  c213 := by kernel_rfl
  c232 := by kernel_rfl
  c233 := by kernel_rfl }
open Go.RowKit in
/-- strconv.toError, at the inner package's ErrSyntax: 'syntaxError(fn, s)' as an error: A *NumError IN A NEW BLOCK. (LAID: no walk: one application.) -/
theorem Tryz.strconv_toError_syntax (fn s : ByteArray) (base bits : Int) (ev : Value) (w : World) (hlim : s.size ≤ 281474976710656) (hv : w.cell? ⟨1, 0, none⟩ = some ev) (hev : ev = .nilIface ∨ ∃ te pe, ev = .iface te pe) :
    Calls Tryz.prog 70 #[.string fn, .string s, .int .i64 base, .int .i64 bits, .iface 123 (.int .i64 2)] w fun e w' => ∃ N, e = .returned (.iface 124 (.pointer (some ⟨N, 0, none⟩))) ∧ w.heap.size ≤ N ∧ w'.heap[N]? = some (.cells #[.string fn, .string s, ev] 139 (0, 0)) ∧ Below w.heap.size w w' := Any.strconv_toError_syntax Tryz.laysC245 fn s base bits ev w hlim hv hev
def Tryz.laysM280_ren : Go.Shelf.Ren := ⟨fun | 280 => 87 | 316 => 97 | n => n, fun | 9 => 9 | 168 => 124 | 75 => 107 | 210 => 139 | 3 => 3 | 4 => 4 | 37 => 91 | 0 => 0 | 127 => 166 | 80 => 212 | 5 => 5 | n => n, fun | 16 => 2 | n => n⟩
theorem Tryz.laysM280 : Go.Proofs.LaysM.n280 Tryz.prog Tryz.laysM280_ren := {
  mixed := by kernel_rfl
  f280 := Tryz.func87.trans (congrArg some (by kernel_rfl))
  f316 := Tryz.func97.trans (congrArg some (by kernel_rfl))
  t0 := Tryz.underlying0
  a0 := Tryz.isAgg0
  z0 := Tryz.sizeOf0
  v0 := Tryz.zeroValue0
  t3 := Tryz.underlying3
  a3 := Tryz.isAgg3
  z3 := Tryz.sizeOf3
  v3 := Tryz.zeroValue3
  t4 := Tryz.underlying4
  a4 := Tryz.isAgg4
  z4 := Tryz.sizeOf4
  v4 := Tryz.zeroValue4
  t9 := Tryz.underlying9
  a9 := Tryz.isAgg9
  z9 := Tryz.sizeOf9
  v9 := Tryz.zeroValue9
  t37 := Tryz.underlying91
  a37 := Tryz.isAgg91
  z37 := Tryz.sizeOf91
  v37 := Tryz.zeroValue91
  t75 := Tryz.underlying107
  a75 := Tryz.isAgg107
  z75 := Tryz.sizeOf107
  v75 := Tryz.zeroValue107
  t127 := Tryz.underlying166
  a127 := Tryz.isAgg166
  z127 := Tryz.sizeOf166
  v127 := Tryz.zeroValue166
  t168 := Tryz.underlying124
  a168 := Tryz.isAgg124
  z168 := Tryz.sizeOf124
  v168 := Tryz.zeroValue124
  t210 := Tryz.underlying139
  a210 := Tryz.isAgg139
  z210 := Tryz.sizeOf139
  v210 := Tryz.zeroValue139
  g16 := by kernel_rfl
  t5 := Tryz.underlying5
  a5 := Tryz.isAgg5
  z5 := Tryz.sizeOf5
  v5 := Tryz.zeroValue5
  t80 := Tryz.underlying212
  a80 := Tryz.isAgg212
  z80 := Tryz.sizeOf212
  v80 := Tryz.zeroValue212
  i0 := by kernel_rfl
  i3 := by kernel_rfl
  i4 := by kernel_rfl
  i5 := by kernel_rfl
  i9 := by kernel_rfl
  i37 := by kernel_rfl
  i75 := by kernel_rfl
  i80 := by kernel_rfl
  i127 := by kernel_rfl
  i168 := by kernel_rfl
  i210 := by kernel_rfl
  m16 := by kernel_rfl }
open Go.RowKit in
/-- strconv.rangeError: '&NumError{fn, stringslite.Clone(str), ErrRange}': A POINTER TO A NEW BLOCK that holds fn, str's bytes, and what the variable ErrRange holds. Of what was there nothing has turned. (LAID: no walk: one application.) -/
theorem Tryz.strconv_rangeError (fn s : ByteArray) (ev : Value) (w : World) (hlim : s.size ≤ 281474976710656) (hv : w.cell? ⟨2, 0, none⟩ = some ev) (hev : ev = .nilIface ∨ ∃ te pe, ev = .iface te pe) :
    Calls Tryz.prog 87 #[.string fn, .string s] w fun e w' => ∃ N, e = .returned (.pointer (some ⟨N, 0, none⟩)) ∧ w.heap.size ≤ N ∧ w'.heap[N]? = some (.cells #[.string fn, .string s, ev] 139 (0, 0)) ∧ Below w.heap.size w w' := Any.strconv_rangeError Tryz.laysM280 fn s ev w hlim hv hev
open Go.RowKit in
/-- strconv.toError, at the inner package's ErrRange: 'rangeError(fn, s)' as an error: A *NumError IN A NEW BLOCK. (LAID: no walk: one application.) -/
theorem Tryz.strconv_toError_range (fn s : ByteArray) (base bits : Int) (ev : Value) (w : World) (hlim : s.size ≤ 281474976710656) (hv : w.cell? ⟨2, 0, none⟩ = some ev) (hev : ev = .nilIface ∨ ∃ te pe, ev = .iface te pe) :
    Calls Tryz.prog 70 #[.string fn, .string s, .int .i64 base, .int .i64 bits, .iface 123 (.int .i64 1)] w fun e w' => ∃ N, e = .returned (.iface 124 (.pointer (some ⟨N, 0, none⟩))) ∧ w.heap.size ≤ N ∧ w'.heap[N]? = some (.cells #[.string fn, .string s, ev] 139 (0, 0)) ∧ Below w.heap.size w w' := Any.strconv_toError_range Tryz.laysC245 fn s base bits ev w hlim hv hev
def Tryz.lays264_ren : Go.Shelf.Ren := ⟨fun | 264 => 132 | n => n, fun | 53 => 127 | 46 => 130 | n => n, fun | n => n⟩
theorem Tryz.lays264 : Go.Proofs.Lays.n264 Tryz.prog Tryz.lays264_ren := {
  mixed := by kernel_rfl
  f264 := Tryz.func132.trans (congrArg some (by kernel_rfl))
  t46 := Tryz.underlying130
  a46 := Tryz.isAgg130
  z46 := Tryz.sizeOf130
  v46 := Tryz.zeroValue130
  t53 := Tryz.underlying127
  a53 := Tryz.isAgg127
  z53 := Tryz.sizeOf127
  v53 := Tryz.zeroValue127 }
open Go.RowKit Go.Lib in
theorem Tryz.bits_Mul64 (x y : Nat) (hx : x < 18446744073709551616) (hy : y < 18446744073709551616) (w : World) :
    Calls Tryz.prog 132 #[.int .u64 x, .int .u64 y] w fun e w' => e = .returned (.tuple #[.int .u64 ((x * y / 18446744073709551616 : Nat) : Int), .int .u64 ((x * y % 18446744073709551616 : Nat) : Int)]) ∧ w' = w := Any.bits_Mul64 Tryz.lays264 x y hx hy w
end Go.Proofs
namespace Go.Proofs
open Go.Shelf
def Tryz.lays7n30_ren : Go.Shelf.Ren := ⟨fun | 30 => 74 | 47 => 91 | n => n, fun | 30 => 91 | 21 => 21 | 3 => 3 | 27 => 131 | 4 => 4 | 5 => 5 | 0 => 0 | 25 => 130 | n => n, fun | n => n⟩
theorem Tryz.lays7n30 : Go.Proofs.Lays7.n30 Tryz.prog Tryz.lays7n30_ren := {
  mixed := by kernel_rfl
  f30 := Tryz.func74.trans (congrArg some (by kernel_rfl))
  f47 := Tryz.func91.trans (congrArg some (by kernel_rfl))
  t0 := Tryz.underlying0
  a0 := Tryz.isAgg0
  z0 := Tryz.sizeOf0
  v0 := Tryz.zeroValue0
  i0 := by kernel_rfl
  t3 := Tryz.underlying3
  a3 := Tryz.isAgg3
  z3 := Tryz.sizeOf3
  v3 := Tryz.zeroValue3
  i3 := by kernel_rfl
  t4 := Tryz.underlying4
  a4 := Tryz.isAgg4
  z4 := Tryz.sizeOf4
  v4 := Tryz.zeroValue4
  i4 := by kernel_rfl
  t5 := Tryz.underlying5
  a5 := Tryz.isAgg5
  z5 := Tryz.sizeOf5
  v5 := Tryz.zeroValue5
  i5 := by kernel_rfl
  t21 := Tryz.underlying21
  a21 := Tryz.isAgg21
  z21 := Tryz.sizeOf21
  v21 := Tryz.zeroValue21
  i21 := by kernel_rfl
  t25 := Tryz.underlying130
  a25 := Tryz.isAgg130
  z25 := Tryz.sizeOf130
  v25 := Tryz.zeroValue130
  i25 := by kernel_rfl
  t27 := Tryz.underlying131
  a27 := Tryz.isAgg131
  z27 := Tryz.sizeOf131
  v27 := Tryz.zeroValue131
  i27 := by kernel_rfl
  t30 := Tryz.underlying91
  a30 := Tryz.isAgg91
  z30 := Tryz.sizeOf91
  v30 := Tryz.zeroValue91
  i30 := by kernel_rfl }
open Go.Lib in
theorem Tryz.utf8_EncodeRune (b off len cap : Nat) (r : Int) (hlo : -2147483648 ≤ r) (hhi : r ≤ 2147483647) (w : World) (hl : (Lib.runeCells r).length ≤ len)
    (hc : ∀ j, j < (Lib.runeCells r).length → (w.cell? ⟨b, off + j, none⟩).isSome = true) (hf : ∀ j, j < (Lib.runeCells r).length → w.frozen? ⟨b, off + j, none⟩ = false) :
    Calls Tryz.prog 74 #[.slice (some ⟨b, off, none⟩) len cap, .int .i32 r] w fun e w' => e = .returned (.int .i64 (Lib.runeCells r).length) ∧ w' = w.setCells b off (Lib.runeCells r) := Any7.utf8_EncodeRune Tryz.lays7n30 b off len cap r hlo hhi w hl hc hf
end Go.Proofs
