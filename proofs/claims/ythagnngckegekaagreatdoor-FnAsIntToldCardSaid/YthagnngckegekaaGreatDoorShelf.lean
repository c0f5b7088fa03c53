/-
  DERIVED: THE SHELF's CONTRACTS AT THIS DUMP, IN PLAIN WORDS (tools/lay-plain.mjs out of 'TryzShelf.lean', which tools/lay-shelf.mjs wrote): THE SAME DECLARATIONS UNDER THE SAME NAMES: 'import', 'namespace', 'open', 'def', 'theorem' AND NOTHING ELSE: no command of the shelf's: FOR A HAND-IN. Each laying: the table of numbers ('.._ren') and one theorem, a field a fact of the dump's own or the kernel's comparison; each contract: ONE APPLICATION.
-/
import Derived.Shelf.Strconv.ParseIntEmpty
import Derived.Shelf.LaysM
import Derived.Shelf.Strconv.Clone
import Derived.Shelf.Strconv.SyntaxError
import Derived.Shelf.LaysC
import Derived.Shelf.Strconv.ToError
import Derived.Shelf.Strconv.Lower
import Derived.Shelf.Strconv.ParseUint10
import Derived.Shelf.Strconv.ParseUint10Empty
import Derived.Shelf.Strconv.ParseUint10Any
import Derived.Shelf.Strconv.ParseInt10
import Derived.Shelf.Strconv.RangeError
import Derived.Shelf.Strconv.ToErrorRange
import Derived.Shelf.Strconv.ParseUintEmpty
import Derived.Shelf.Strconv.ParseUint10b64
import Derived.Shelf.Strconv.ParseUint10b32
import Derived.Shelf.Strconv.ParseUint10b16
import Derived.Shelf.Strconv.ParseUint10b8
import Derived.Shelf.Strconv.ParseUint10At
import Derived.Shelf.Strconv.ParseInt10At64
import Derived.Shelf.Strconv.ParseInt10At32
import Derived.Shelf.Strconv.ParseInt10At16
import Derived.Shelf.Strconv.ParseInt10At8
import Derived.Shelf.Strconv.ParseInt10All
import Derived.Shelf.Strconv.ParseIntPublic10
import Derived.Shelf.Sort.Plain
import Derived.Shelf.Bits.Mul64
import Derived.Ground.Names2Prog
import Derived.Shelf.Slices.Clone
import Derived.Shelf.Slices.CompactS
import Derived.Shelf.Slices.In.SortNone
import Derived.Test.YthagnngckegekaaGreatDoorProg
namespace Go.Proofs
open Go.Shelf
def Tryz.laysC245_ren : Go.Shelf.Ren := ⟨fun | 245 => 41 | 279 => 48 | 280 => 49 | 281 => 50 | 282 => 51 | 316 => 67 | 171 => 69 | 205 => 68 | 243 => 78 | 246 => 93 | 283 => 107 | 284 => 108 | 285 => 109 | 286 => 110 | 129 => 64 | 317 => 115 | 318 => 100 | 319 => 116 | 320 => 117 | 337 => 120 | 338 => 121 | n => n, fun | 9 => 9 | 3 => 3 | 75 => 54 | 167 => 75 | 4 => 4 | 168 => 78 | 210 => 98 | 37 => 95 | 0 => 0 | 127 => 110 | 145 => 113 | 143 => 111 | 2 => 2 | 171 => 159 | 53 => 51 | 5 => 5 | 173 => 161 | 212 => 170 | 51 => 50 | 20 => 20 | 213 => 171 | 46 => 48 | 232 => 178 | 233 => 179 | 80 => 180 | n => n, fun | 15 => 1 | 16 => 2 | 17 => 10 | 18 => 12 | 19 => 13 | n => n⟩
theorem Tryz.laysC245 : Go.Proofs.LaysC.n245 Tryz.prog Tryz.laysC245_ren := {
  mixed := by kernel_rfl
  f129 := Tryz.func64.trans (congrArg some (by kernel_rfl))
  f171 := Tryz.func69.trans (congrArg some (by kernel_rfl))
  f205 := Tryz.func68.trans (congrArg some (by kernel_rfl))
  f243 := Tryz.func78.trans (congrArg some (by kernel_rfl))
  f245 := Tryz.func41.trans (congrArg some (by kernel_rfl))
  f246 := Tryz.func93.trans (congrArg some (by kernel_rfl))
  f279 := Tryz.func48.trans (congrArg some (by kernel_rfl))
  f280 := Tryz.func49.trans (congrArg some (by kernel_rfl))
  f281 := Tryz.func50.trans (congrArg some (by kernel_rfl))
  f282 := Tryz.func51.trans (congrArg some (by kernel_rfl))
  f283 := Tryz.func107.trans (congrArg some (by kernel_rfl))
  f284 := Tryz.func108.trans (congrArg some (by kernel_rfl))
  f285 := Tryz.func109.trans (congrArg some (by kernel_rfl))
  f286 := Tryz.func110.trans (congrArg some (by kernel_rfl))
  f316 := Tryz.func67.trans (congrArg some (by kernel_rfl))
  f317 := Tryz.func115.trans (congrArg some (by kernel_rfl))
  f318 := Tryz.func100.trans (congrArg some (by kernel_rfl))
  f319 := Tryz.func116.trans (congrArg some (by kernel_rfl))
  f320 := Tryz.func117.trans (congrArg some (by kernel_rfl))
  f337 := Tryz.func120.trans (congrArg some (by kernel_rfl))
  f338 := Tryz.func121.trans (congrArg some (by kernel_rfl))
  t0 := Tryz.underlying0
  a0 := Tryz.isAgg0
  z0 := Tryz.sizeOf0
  v0 := Tryz.zeroValue0
  t2 := Tryz.underlying2
  a2 := Tryz.isAgg2
  z2 := Tryz.sizeOf2
  v2 := Tryz.zeroValue2
  t3 := Tryz.underlying3
  a3 := Tryz.isAgg3
  z3 := Tryz.sizeOf3
  v3 := Tryz.zeroValue3
  t4 := Tryz.underlying4
  a4 := Tryz.isAgg4
  z4 := Tryz.sizeOf4
  v4 := Tryz.zeroValue4
  t5 := Tryz.underlying5
  a5 := Tryz.isAgg5
  z5 := Tryz.sizeOf5
  v5 := Tryz.zeroValue5
  t9 := Tryz.underlying9
  a9 := Tryz.isAgg9
  z9 := Tryz.sizeOf9
  v9 := Tryz.zeroValue9
  t20 := Tryz.underlying20
  a20 := Tryz.isAgg20
  z20 := Tryz.sizeOf20
  v20 := Tryz.zeroValue20
  t37 := Tryz.underlying95
  a37 := Tryz.isAgg95
  z37 := Tryz.sizeOf95
  v37 := Tryz.zeroValue95
  t46 := Tryz.underlying48
  a46 := Tryz.isAgg48
  z46 := Tryz.sizeOf48
  v46 := Tryz.zeroValue48
  t51 := Tryz.underlying50
  a51 := Tryz.isAgg50
  z51 := Tryz.sizeOf50
  v51 := Tryz.zeroValue50
  t53 := Tryz.underlying51
  a53 := Tryz.isAgg51
  z53 := Tryz.sizeOf51
  v53 := Tryz.zeroValue51
  t75 := Tryz.underlying54
  a75 := Tryz.isAgg54
  z75 := Tryz.sizeOf54
  v75 := Tryz.zeroValue54
  t127 := Tryz.underlying110
  a127 := Tryz.isAgg110
  z127 := Tryz.sizeOf110
  v127 := Tryz.zeroValue110
  t143 := Tryz.underlying111
  a143 := Tryz.isAgg111
  z143 := Tryz.sizeOf111
  v143 := Tryz.zeroValue111
  t145 := Tryz.underlying113
  a145 := Tryz.isAgg113
  z145 := Tryz.sizeOf113
  v145 := Tryz.zeroValue113
  t167 := Tryz.underlying75
  a167 := Tryz.isAgg75
  z167 := Tryz.sizeOf75
  v167 := Tryz.zeroValue75
  t168 := Tryz.underlying78
  a168 := Tryz.isAgg78
  z168 := Tryz.sizeOf78
  v168 := Tryz.zeroValue78
  t171 := Tryz.underlying159
  a171 := Tryz.isAgg159
  z171 := Tryz.sizeOf159
  v171 := Tryz.zeroValue159
  t173 := Tryz.underlying161
  a173 := Tryz.isAgg161
  z173 := Tryz.sizeOf161
  v173 := Tryz.zeroValue161
  t210 := Tryz.underlying98
  a210 := Tryz.isAgg98
  z210 := Tryz.sizeOf98
  v210 := Tryz.zeroValue98
  t212 := Tryz.underlying170
  a212 := Tryz.isAgg170
  z212 := Tryz.sizeOf170
  v212 := Tryz.zeroValue170
  t213 := Tryz.underlying171
  a213 := Tryz.isAgg171
  z213 := Tryz.sizeOf171
  t232 := Tryz.underlying178
  a232 := Tryz.isAgg178
  z232 := Tryz.sizeOf178
  v232 := Tryz.zeroValue178
  t233 := Tryz.underlying179
  a233 := Tryz.isAgg179
  z233 := Tryz.sizeOf179
  v233 := Tryz.zeroValue179
  g15 := by kernel_rfl
  g16 := by kernel_rfl
  g17 := by kernel_rfl
  g18 := by kernel_rfl
  g19 := by kernel_rfl
  t80 := Tryz.underlying180
  a80 := Tryz.isAgg180
  z80 := Tryz.sizeOf180
  v80 := Tryz.zeroValue180
  i0 := by kernel_rfl
  i2 := by kernel_rfl
  i3 := by kernel_rfl
  i4 := by kernel_rfl
  i5 := by kernel_rfl
  i9 := by kernel_rfl
  i20 := by kernel_rfl
  i37 := by kernel_rfl
  i46 := by kernel_rfl
  i51 := by kernel_rfl
  i53 := by kernel_rfl
  i75 := by kernel_rfl
  i80 := by kernel_rfl
  i127 := by kernel_rfl
  i143 := by kernel_rfl
  i145 := by kernel_rfl
  i167 := by kernel_rfl
  i168 := by kernel_rfl
  i171 := by kernel_rfl
  i173 := by kernel_rfl
  i210 := by kernel_rfl
  i212 := by kernel_rfl
  i232 := by kernel_rfl
  i233 := by kernel_rfl
  m15 := by kernel_rfl
  m16 := by kernel_rfl
  m17 := by kernel_rfl
  m18 := by kernel_rfl
  m19 := by kernel_rfl
  c0 := by kernel_rfl
  c2 := by kernel_rfl
  c3 := by kernel_rfl
  c4 := by kernel_rfl
  c5 := by kernel_rfl
  c9 := by kernel_rfl
  c20 := by kernel_rfl
  c37 := by kernel_rfl
  c46 := by kernel_rfl
  c51 := by kernel_rfl
  c53 := by kernel_rfl
  c75 := by kernel_rfl
  c80 := by kernel_rfl
  c127 := by kernel_rfl
  c143 := by kernel_rfl
  c145 := by kernel_rfl
  c167 := by kernel_rfl
  c168 := by kernel_rfl
  c171 := by kernel_rfl
  c173 := by kernel_rfl
  c210 := by kernel_rfl
  c212 := by kernel_rfl
  c213 := by kernel_rfl
  c232 := by kernel_rfl
  c233 := by kernel_rfl }
open Go.RowKit in
/-- strconv.toError, at the inner package's ErrSyntax: 'syntaxError(fn, s)' as an error: A *NumError IN A NEW BLOCK. (LAID: no walk: one application.) -/
theorem Tryz.strconv_toError_syntax (fn s : ByteArray) (base bits : Int) (ev : Value) (w : World) (hlim : s.size ≤ 281474976710656) (hv : w.cell? ⟨1, 0, none⟩ = some ev) (hev : ev = .nilIface ∨ ∃ te pe, ev = .iface te pe) :
    Calls Tryz.prog 41 #[.string fn, .string s, .int .i64 base, .int .i64 bits, .iface 75 (.int .i64 2)] w fun e w' => ∃ N, e = .returned (.iface 78 (.pointer (some ⟨N, 0, none⟩))) ∧ w.heap.size ≤ N ∧ w'.heap[N]? = some (.cells #[.string fn, .string s, ev] 98 (0, 0)) ∧ Below w.heap.size w w' := Any.strconv_toError_syntax Tryz.laysC245 fn s base bits ev w hlim hv hev
open Go.RowKit in
/-- strconv.toError, at the inner package's ErrRange: 'rangeError(fn, s)' as an error: A *NumError IN A NEW BLOCK. (LAID: no walk: one application.) -/
theorem Tryz.strconv_toError_range (fn s : ByteArray) (base bits : Int) (ev : Value) (w : World) (hlim : s.size ≤ 281474976710656) (hv : w.cell? ⟨2, 0, none⟩ = some ev) (hev : ev = .nilIface ∨ ∃ te pe, ev = .iface te pe) :
    Calls Tryz.prog 41 #[.string fn, .string s, .int .i64 base, .int .i64 bits, .iface 75 (.int .i64 1)] w fun e w' => ∃ N, e = .returned (.iface 78 (.pointer (some ⟨N, 0, none⟩))) ∧ w.heap.size ≤ N ∧ w'.heap[N]? = some (.cells #[.string fn, .string s, ev] 98 (0, 0)) ∧ Below w.heap.size w w' := Any.strconv_toError_range Tryz.laysC245 fn s base bits ev w hlim hv hev
def Tryz.laysC174_ren : Go.Shelf.Ren := ⟨fun | 174 => 28 | 247 => 40 | 245 => 41 | 287 => 47 | 279 => 48 | 280 => 49 | 281 => 50 | 282 => 51 | 321 => 65 | 322 => 66 | 316 => 67 | 171 => 69 | 205 => 68 | 243 => 78 | 246 => 93 | 283 => 107 | 284 => 108 | 285 => 109 | 286 => 110 | 129 => 64 | 317 => 115 | 318 => 100 | 319 => 116 | 320 => 117 | 337 => 120 | 338 => 121 | n => n, fun | 9 => 9 | 3 => 3 | 2 => 2 | 75 => 54 | 85 => 55 | 4 => 4 | 167 => 75 | 5 => 5 | 53 => 51 | 175 => 76 | 46 => 48 | 168 => 78 | 37 => 95 | 0 => 0 | 210 => 98 | 21 => 21 | 127 => 110 | 145 => 113 | 143 => 111 | 171 => 159 | 173 => 161 | 212 => 170 | 51 => 50 | 20 => 20 | 213 => 171 | 232 => 178 | 233 => 179 | 80 => 180 | n => n, fun | 15 => 1 | 16 => 2 | 17 => 10 | 18 => 12 | 19 => 13 | n => n⟩
theorem Tryz.laysC174 : Go.Proofs.LaysC.n174 Tryz.prog Tryz.laysC174_ren := {
  mixed := by kernel_rfl
  f129 := Tryz.func64.trans (congrArg some (by kernel_rfl))
  f171 := Tryz.func69.trans (congrArg some (by kernel_rfl))
  f174 := Tryz.func28.trans (congrArg some (by kernel_rfl))
  f205 := Tryz.func68.trans (congrArg some (by kernel_rfl))
  f243 := Tryz.func78.trans (congrArg some (by kernel_rfl))
  f245 := Tryz.func41.trans (congrArg some (by kernel_rfl))
  f246 := Tryz.func93.trans (congrArg some (by kernel_rfl))
  f247 := Tryz.func40.trans (congrArg some (by kernel_rfl))
  f279 := Tryz.func48.trans (congrArg some (by kernel_rfl))
  f280 := Tryz.func49.trans (congrArg some (by kernel_rfl))
  f281 := Tryz.func50.trans (congrArg some (by kernel_rfl))
  f282 := Tryz.func51.trans (congrArg some (by kernel_rfl))
  f283 := Tryz.func107.trans (congrArg some (by kernel_rfl))
  f284 := Tryz.func108.trans (congrArg some (by kernel_rfl))
  f285 := Tryz.func109.trans (congrArg some (by kernel_rfl))
  f286 := Tryz.func110.trans (congrArg some (by kernel_rfl))
  f287 := Tryz.func47.trans (congrArg some (by kernel_rfl))
  f316 := Tryz.func67.trans (congrArg some (by kernel_rfl))
  f317 := Tryz.func115.trans (congrArg some (by kernel_rfl))
  f318 := Tryz.func100.trans (congrArg some (by kernel_rfl))
  f319 := Tryz.func116.trans (congrArg some (by kernel_rfl))
  f320 := Tryz.func117.trans (congrArg some (by kernel_rfl))
  f321 := Tryz.func65.trans (congrArg some (by kernel_rfl))
  f322 := Tryz.func66.trans (congrArg some (by kernel_rfl))
  f337 := Tryz.func120.trans (congrArg some (by kernel_rfl))
  f338 := Tryz.func121.trans (congrArg some (by kernel_rfl))
  t0 := Tryz.underlying0
  a0 := Tryz.isAgg0
  z0 := Tryz.sizeOf0
  v0 := Tryz.zeroValue0
  t2 := Tryz.underlying2
  a2 := Tryz.isAgg2
  z2 := Tryz.sizeOf2
  v2 := Tryz.zeroValue2
  t3 := Tryz.underlying3
  a3 := Tryz.isAgg3
  z3 := Tryz.sizeOf3
  v3 := Tryz.zeroValue3
  t4 := Tryz.underlying4
  a4 := Tryz.isAgg4
  z4 := Tryz.sizeOf4
  v4 := Tryz.zeroValue4
  t5 := Tryz.underlying5
  a5 := Tryz.isAgg5
  z5 := Tryz.sizeOf5
  v5 := Tryz.zeroValue5
  t9 := Tryz.underlying9
  a9 := Tryz.isAgg9
  z9 := Tryz.sizeOf9
  v9 := Tryz.zeroValue9
  t20 := Tryz.underlying20
  a20 := Tryz.isAgg20
  z20 := Tryz.sizeOf20
  v20 := Tryz.zeroValue20
  t21 := Tryz.underlying21
  a21 := Tryz.isAgg21
  z21 := Tryz.sizeOf21
  v21 := Tryz.zeroValue21
  t37 := Tryz.underlying95
  a37 := Tryz.isAgg95
  z37 := Tryz.sizeOf95
  v37 := Tryz.zeroValue95
  t46 := Tryz.underlying48
  a46 := Tryz.isAgg48
  z46 := Tryz.sizeOf48
  v46 := Tryz.zeroValue48
  t51 := Tryz.underlying50
  a51 := Tryz.isAgg50
  z51 := Tryz.sizeOf50
  v51 := Tryz.zeroValue50
  t53 := Tryz.underlying51
  a53 := Tryz.isAgg51
  z53 := Tryz.sizeOf51
  v53 := Tryz.zeroValue51
  t75 := Tryz.underlying54
  a75 := Tryz.isAgg54
  z75 := Tryz.sizeOf54
  v75 := Tryz.zeroValue54
  t85 := Tryz.underlying55
  a85 := Tryz.isAgg55
  z85 := Tryz.sizeOf55
  v85 := Tryz.zeroValue55
  t127 := Tryz.underlying110
  a127 := Tryz.isAgg110
  z127 := Tryz.sizeOf110
  v127 := Tryz.zeroValue110
  t143 := Tryz.underlying111
  a143 := Tryz.isAgg111
  z143 := Tryz.sizeOf111
  v143 := Tryz.zeroValue111
  t145 := Tryz.underlying113
  a145 := Tryz.isAgg113
  z145 := Tryz.sizeOf113
  v145 := Tryz.zeroValue113
  t167 := Tryz.underlying75
  a167 := Tryz.isAgg75
  z167 := Tryz.sizeOf75
  v167 := Tryz.zeroValue75
  t168 := Tryz.underlying78
  a168 := Tryz.isAgg78
  z168 := Tryz.sizeOf78
  v168 := Tryz.zeroValue78
  t171 := Tryz.underlying159
  a171 := Tryz.isAgg159
  z171 := Tryz.sizeOf159
  v171 := Tryz.zeroValue159
  t173 := Tryz.underlying161
  a173 := Tryz.isAgg161
  z173 := Tryz.sizeOf161
  v173 := Tryz.zeroValue161
  t175 := Tryz.underlying76
  a175 := Tryz.isAgg76
  z175 := Tryz.sizeOf76
  v175 := Tryz.zeroValue76
  t210 := Tryz.underlying98
  a210 := Tryz.isAgg98
  z210 := Tryz.sizeOf98
  v210 := Tryz.zeroValue98
  t212 := Tryz.underlying170
  a212 := Tryz.isAgg170
  z212 := Tryz.sizeOf170
  v212 := Tryz.zeroValue170
  t213 := Tryz.underlying171
  a213 := Tryz.isAgg171
  z213 := Tryz.sizeOf171
  t232 := Tryz.underlying178
  a232 := Tryz.isAgg178
  z232 := Tryz.sizeOf178
  v232 := Tryz.zeroValue178
  t233 := Tryz.underlying179
  a233 := Tryz.isAgg179
  z233 := Tryz.sizeOf179
  v233 := Tryz.zeroValue179
  g15 := by kernel_rfl
  g16 := by kernel_rfl
  g17 := by kernel_rfl
  g18 := by kernel_rfl
  g19 := by kernel_rfl
  t80 := Tryz.underlying180
  a80 := Tryz.isAgg180
  z80 := Tryz.sizeOf180
  v80 := Tryz.zeroValue180
  i0 := by kernel_rfl
  i2 := by kernel_rfl
  i3 := by kernel_rfl
  i4 := by kernel_rfl
  i5 := by kernel_rfl
  i9 := by kernel_rfl
  i20 := by kernel_rfl
  i21 := by kernel_rfl
  i37 := by kernel_rfl
  i46 := by kernel_rfl
  i51 := by kernel_rfl
  i53 := by kernel_rfl
  i75 := by kernel_rfl
  i80 := by kernel_rfl
  i85 := by kernel_rfl
  i127 := by kernel_rfl
  i143 := by kernel_rfl
  i145 := by kernel_rfl
  i167 := by kernel_rfl
  i168 := by kernel_rfl
  i171 := by kernel_rfl
  i173 := by kernel_rfl
  i175 := by kernel_rfl
  i210 := by kernel_rfl
  i212 := by kernel_rfl
  i232 := by kernel_rfl
  i233 := by kernel_rfl
  m15 := by kernel_rfl
  m16 := by kernel_rfl
  m17 := by kernel_rfl
  m18 := by kernel_rfl
  m19 := by kernel_rfl
  c0 := by kernel_rfl
  c2 := by kernel_rfl
  c3 := by kernel_rfl
  c4 := by kernel_rfl
  c5 := by kernel_rfl
  c9 := by kernel_rfl
  c20 := by kernel_rfl
  c21 := by kernel_rfl
  c37 := by kernel_rfl
  c46 := by kernel_rfl
  c51 := by kernel_rfl
  c53 := by kernel_rfl
  c75 := by kernel_rfl
  c80 := by kernel_rfl
  c85 := by kernel_rfl
  c127 := by kernel_rfl
  c143 := by kernel_rfl
  c145 := by kernel_rfl
  c167 := by kernel_rfl
  c168 := by kernel_rfl
  c171 := by kernel_rfl
  c173 := by kernel_rfl
  c175 := by kernel_rfl
  c210 := by kernel_rfl
  c212 := by kernel_rfl
  c213 := by kernel_rfl
  c232 := by kernel_rfl
  c233 := by kernel_rfl }
open Go.RowKit in
/-- strconv.ParseInt(s, 10, 64), AT EVERY STRING THAT SPELLS AN int64 ('Lib.parseIntB 64 s.data.toList = .ok v'): v, AND NO ERROR. (LAID: no walk: one application.) -/
theorem Tryz.strconv_ParseInt_10_at64_ok (s : ByteArray) (hmax : s.size ≤ 9223372036854775806) (v : Int) (h : Lib.parseIntB 64 s.data.toList = .ok v) (w : World) :
    Calls Tryz.prog 28 #[.string s, .int .i64 10, .int .i64 64] w fun e w' => e = .returned (.tuple #[.int .i64 v, .nilIface]) ∧ (w' = w ∨ ∃ t, w' = Lib.bytesWorld w 5 t) := Any.strconv_ParseInt_10_at64_ok Tryz.laysC174 s hmax v h w
open Go.RowKit in
/-- strconv.ParseInt(s, 10, 64), AT EVERY STRING THAT IS NO DECIMAL NUMERAL: 0, AND AN ERROR THAT IS NOT nil: a *NumError in a new block N: {Func: "ParseInt", Num: s's bytes, Err: what the variable ErrSyntax holds}. Of what was there nothing has turned. (LAID: no walk: one application.) -/
theorem Tryz.strconv_ParseInt_10_at64_syntax (s : ByteArray) (hlim : s.size ≤ 281474976710656) (h : Lib.parseIntB 64 s.data.toList = Lib.parseIntB 64 []) (ev : Value) (w : World) (hv : w.cell? ⟨1, 0, none⟩ = some ev) (hev : ev = .nilIface ∨ ∃ te pe, ev = .iface te pe) :
    Calls Tryz.prog 28 #[.string s, .int .i64 10, .int .i64 64] w fun e w' => ∃ N, e = .returned (.tuple #[.int .i64 (0), .iface 78 (.pointer (some ⟨N, 0, none⟩))]) ∧ w.heap.size ≤ N ∧ w'.heap[N]? = some (.cells #[.string ⟨#[80, 97, 114, 115, 101, 73, 110, 116]⟩, .string s, ev] 98 (0, 0)) ∧ Below w.heap.size w w' := Any.strconv_ParseInt_10_at64_syntax Tryz.laysC174 s hlim h ev w hv hev
open Go.RowKit in
/-- strconv.ParseInt(s, 10, 64), AT EVERY NUMERAL THAT NO int64 HOLDS: THE GREATEST OR THE LEAST int64, BY THE SIGN ('Lib.intSat 64'), AND AN ERROR THAT IS NOT nil: a *NumError in a new block N: {Func: "ParseInt", Num: s's bytes, Err: what the variable ErrRange holds}. Of what was there nothing has turned. (LAID: no walk: one application.) -/
theorem Tryz.strconv_ParseInt_10_at64_range (s : ByteArray) (hlim : s.size ≤ 281474976710656) (h : Lib.parseIntB 64 s.data.toList = .range) (ev : Value) (w : World) (hv : w.cell? ⟨2, 0, none⟩ = some ev) (hev : ev = .nilIface ∨ ∃ te pe, ev = .iface te pe) :
    Calls Tryz.prog 28 #[.string s, .int .i64 10, .int .i64 64] w fun e w' => ∃ N, e = .returned (.tuple #[.int .i64 (Lib.intSat 64 s.data.toList), .iface 78 (.pointer (some ⟨N, 0, none⟩))]) ∧ w.heap.size ≤ N ∧ w'.heap[N]? = some (.cells #[.string ⟨#[80, 97, 114, 115, 101, 73, 110, 116]⟩, .string s, ev] 98 (0, 0)) ∧ Below w.heap.size w w' := Any.strconv_ParseInt_10_at64_range Tryz.laysC174 s hlim h ev w hv hev
def Tryz.lays190_ren : Go.Shelf.Ren := ⟨fun | 190 => 37 | 125 => 46 | 258 => 45 | 128 => 63 | 129 => 64 | 302 => 54 | 303 => 55 | 304 => 56 | 305 => 57 | 306 => 58 | 307 => 59 | 308 => 60 | 309 => 61 | 310 => 62 | 333 => 72 | 329 => 73 | 330 => 74 | 334 => 75 | 335 => 76 | 336 => 77 | 344 => 92 | n => n, fun | 31 => 24 | 9 => 9 | 3 => 3 | 46 => 48 | 0 => 0 | 51 => 50 | 53 => 51 | 4 => 4 | 183 => 86 | 182 => 85 | 131 => 30 | 5 => 5 | 218 => 104 | 222 => 108 | 228 => 137 | 229 => 138 | n => n, fun | n => n⟩
theorem Tryz.lays190 : Go.Proofs.Lays.n190 Tryz.prog Tryz.lays190_ren := {
  mixed := by kernel_rfl
  f125 := Tryz.func46.trans (congrArg some (by kernel_rfl))
  f128 := Tryz.func63.trans (congrArg some (by kernel_rfl))
  f129 := Tryz.func64.trans (congrArg some (by kernel_rfl))
  f190 := Tryz.func37.trans (congrArg some (by kernel_rfl))
  f258 := Tryz.func45.trans (congrArg some (by kernel_rfl))
  f302 := Tryz.func54.trans (congrArg some (by kernel_rfl))
  f303 := Tryz.func55.trans (congrArg some (by kernel_rfl))
  f304 := Tryz.func56.trans (congrArg some (by kernel_rfl))
  f305 := Tryz.func57.trans (congrArg some (by kernel_rfl))
  f306 := Tryz.func58.trans (congrArg some (by kernel_rfl))
  f307 := Tryz.func59.trans (congrArg some (by kernel_rfl))
  f308 := Tryz.func60.trans (congrArg some (by kernel_rfl))
  f309 := Tryz.func61.trans (congrArg some (by kernel_rfl))
  f310 := Tryz.func62.trans (congrArg some (by kernel_rfl))
  f329 := Tryz.func73.trans (congrArg some (by kernel_rfl))
  f330 := Tryz.func74.trans (congrArg some (by kernel_rfl))
  f333 := Tryz.func72.trans (congrArg some (by kernel_rfl))
  f334 := Tryz.func75.trans (congrArg some (by kernel_rfl))
  f335 := Tryz.func76.trans (congrArg some (by kernel_rfl))
  f336 := Tryz.func77.trans (congrArg some (by kernel_rfl))
  f344 := Tryz.func92.trans (congrArg some (by kernel_rfl))
  t0 := Tryz.underlying0
  a0 := Tryz.isAgg0
  z0 := Tryz.sizeOf0
  v0 := Tryz.zeroValue0
  t3 := Tryz.underlying3
  a3 := Tryz.isAgg3
  z3 := Tryz.sizeOf3
  v3 := Tryz.zeroValue3
  t4 := Tryz.underlying4
  a4 := Tryz.isAgg4
  z4 := Tryz.sizeOf4
  v4 := Tryz.zeroValue4
  t5 := Tryz.underlying5
  a5 := Tryz.isAgg5
  z5 := Tryz.sizeOf5
  v5 := Tryz.zeroValue5
  t9 := Tryz.underlying9
  a9 := Tryz.isAgg9
  z9 := Tryz.sizeOf9
  v9 := Tryz.zeroValue9
  t31 := Tryz.underlying24
  a31 := Tryz.isAgg24
  z31 := Tryz.sizeOf24
  v31 := Tryz.zeroValue24
  t46 := Tryz.underlying48
  a46 := Tryz.isAgg48
  z46 := Tryz.sizeOf48
  v46 := Tryz.zeroValue48
  t51 := Tryz.underlying50
  a51 := Tryz.isAgg50
  z51 := Tryz.sizeOf50
  v51 := Tryz.zeroValue50
  t53 := Tryz.underlying51
  a53 := Tryz.isAgg51
  z53 := Tryz.sizeOf51
  v53 := Tryz.zeroValue51
  t131 := Tryz.underlying30
  a131 := Tryz.isAgg30
  z131 := Tryz.sizeOf30
  v131 := Tryz.zeroValue30
  t182 := Tryz.underlying85
  a182 := Tryz.isAgg85
  z182 := Tryz.sizeOf85
  v182 := Tryz.zeroValue85
  t183 := Tryz.underlying86
  a183 := Tryz.isAgg86
  z183 := Tryz.sizeOf86
  v183 := Tryz.zeroValue86
  t218 := Tryz.underlying104
  a218 := Tryz.isAgg104
  z218 := Tryz.sizeOf104
  v218 := Tryz.zeroValue104
  t222 := Tryz.underlying108
  a222 := Tryz.isAgg108
  z222 := Tryz.sizeOf108
  v222 := Tryz.zeroValue108
  t228 := Tryz.underlying137
  a228 := Tryz.isAgg137
  z228 := Tryz.sizeOf137
  v228 := Tryz.zeroValue137
  t229 := Tryz.underlying138
  a229 := Tryz.isAgg138
  z229 := Tryz.sizeOf138
  v229 := Tryz.zeroValue138 }
open Go.Sort Go.RowKit in
theorem Tryz.slices_Sort_string (blk off cap : Nat) (ss : List (List UInt8)) (w : World) (hH : Holds encStr w blk off ss.toArray) (hblk : blk < w.heap.size) (hsz : ss.length < 4611686018427387904) :
    Calls Tryz.prog 37 #[.slice (some ⟨blk, off, none⟩) ss.length cap] w fun e w' =>
      e = .returned (.tuple #[]) ∧ ∃ n os, w' = grow (putRow encStr (Sort.ahead w n) blk off (ss.mergeSort fun x y => decide (x ≤ y)).toArray) os := Any.slices_Sort_string Tryz.lays190 blk off cap ss w hH hblk hsz
def Tryz.lays264_ren : Go.Shelf.Ren := ⟨fun | 264 => 111 | n => n, fun | 53 => 51 | 46 => 48 | n => n, fun | n => n⟩
theorem Tryz.lays264 : Go.Proofs.Lays.n264 Tryz.prog Tryz.lays264_ren := {
  mixed := by kernel_rfl
  f264 := Tryz.func111.trans (congrArg some (by kernel_rfl))
  t46 := Tryz.underlying48
  a46 := Tryz.isAgg48
  z46 := Tryz.sizeOf48
  v46 := Tryz.zeroValue48
  t53 := Tryz.underlying51
  a53 := Tryz.isAgg51
  z53 := Tryz.sizeOf51
  v53 := Tryz.zeroValue51 }
open Go.RowKit Go.Lib in
theorem Tryz.bits_Mul64 (x y : Nat) (hx : x < 18446744073709551616) (hy : y < 18446744073709551616) (w : World) :
    Calls Tryz.prog 111 #[.int .u64 x, .int .u64 y] w fun e w' => e = .returned (.tuple #[.int .u64 ((x * y / 18446744073709551616 : Nat) : Int), .int .u64 ((x * y % 18446744073709551616 : Nat) : Int)]) ∧ w' = w := Any.bits_Mul64 Tryz.lays264 x y hx hy w
def Tryz.laysNm216_ren : Go.Shelf.Ren := ⟨fun | 16 => 36 | n => n, fun | 24 => 24 | 9 => 9 | 4 => 4 | n => n, fun | n => n⟩
theorem Tryz.laysNm216 : Go.Proofs.Lays2.n16 Tryz.prog Tryz.laysNm216_ren := {
  mixed := by kernel_rfl
  f16 := Tryz.func36.trans (congrArg some (by kernel_rfl))
  t4 := Tryz.underlying4
  a4 := Tryz.isAgg4
  z4 := Tryz.sizeOf4
  v4 := Tryz.zeroValue4
  t9 := Tryz.underlying9
  a9 := Tryz.isAgg9
  z9 := Tryz.sizeOf9
  v9 := Tryz.zeroValue9
  t24 := Tryz.underlying24
  a24 := Tryz.isAgg24
  z24 := Tryz.sizeOf24
  v24 := Tryz.zeroValue24
  i9 := by kernel_rfl }
open Go.RowKit Go.Lib in
/-- slices.Clone at []string: "Clone returns a copy of the slice. The elements are copied using assignment, so this is a shallow clone. The result may have additional unused capacity. The result preserves the nilness of s.": OF A SLICE THAT IS NOT nil IT RETURNS A SLICE THAT IS NOT nil, OF THE SAME ELEMENTS, IN MEMORY OF THE CALL's OWN: in the how-to's words (6f): 'w'.ownsRow B e 1 v' n cells': v' begins at the head of a row among the blocks from B on (B: the heap's size at the call), not frozen, whose first cells are the elements · 'Below B w w'': below B all is as it was. The capacity is whatever the run-time gives. 'zs': what the cells behind the slice's address hold; 'zs.take n': its elements. (LAID: no walk: one application.) -/
theorem Tryz.slices_Clone_string (b off n c : Nat) (zs : List ByteArray) (w : World) (hz : n ≤ zs.length) (hbig : n * 16 ≤ 140737488355328) (hc : ∀ j, j < zs.length → w.cell? ⟨b, off + j, none⟩ = some (.string (zs.getD j ByteArray.empty))) :
    Calls Tryz.prog 36 #[.slice (some ⟨b, off, none⟩) n c] w fun e w' => ∃ v', e = .returned v' ∧ w'.ownsRow w.heap.size 9 1 v' n ((zs.take n).map (Value.string)) ∧ v' ≠ .slice none 0 0 ∧ Below w.heap.size w w' := Any.slices_Clone_string Tryz.laysNm216 b off n c zs w hz hbig hc
open Go.RowKit Go.Lib in
/-- The same at nil: nil comes back; the world is as it was. (LAID: no walk: one application.) -/
theorem Tryz.slices_Clone_string_nil (n c : Nat) (w : World) :
    Calls Tryz.prog 36 #[.slice none n c] w fun e w' => e = .returned (.slice none 0 0) ∧ w' = w := Any.slices_Clone_string_nil Tryz.laysNm216 n c w
open Go.RowKit Go.Lib in
/-- The same at a slice of length 0 that is not nil, WHATEVER ITS ADDRESS (no cell is asked for): a slice that is not nil and owns nothing comes back. (LAID: no walk: one application.) -/
theorem Tryz.slices_Clone_string_zero (a : Addr) (c : Nat) (w : World) :
    Calls Tryz.prog 36 #[.slice (some a) 0 c] w fun e w' => ∃ v', e = .returned v' ∧ w'.ownsRow w.heap.size 9 1 v' 0 [] ∧ v' ≠ .slice none 0 0 ∧ Below w.heap.size w w' := Any.slices_Clone_string_zero Tryz.laysNm216 a c w
def Tryz.lays194_ren : Go.Shelf.Ren := ⟨fun | 194 => 38 | n => n, fun | 31 => 24 | 9 => 9 | 3 => 3 | 4 => 4 | 0 => 0 | n => n, fun | n => n⟩
theorem Tryz.lays194 : Go.Proofs.Lays.n194 Tryz.prog Tryz.lays194_ren := {
  mixed := by kernel_rfl
  f194 := Tryz.func38.trans (congrArg some (by kernel_rfl))
  t0 := Tryz.underlying0
  a0 := Tryz.isAgg0
  z0 := Tryz.sizeOf0
  v0 := Tryz.zeroValue0
  t3 := Tryz.underlying3
  a3 := Tryz.isAgg3
  z3 := Tryz.sizeOf3
  v3 := Tryz.zeroValue3
  t4 := Tryz.underlying4
  a4 := Tryz.isAgg4
  z4 := Tryz.sizeOf4
  v4 := Tryz.zeroValue4
  t9 := Tryz.underlying9
  a9 := Tryz.isAgg9
  z9 := Tryz.sizeOf9
  v9 := Tryz.zeroValue9
  t31 := Tryz.underlying24
  a31 := Tryz.isAgg24
  z31 := Tryz.sizeOf24
  v31 := Tryz.zeroValue24 }
open Go.RowKit Go.Lib Go.Sort in
/-- slices.Compact at []string: "Compact replaces consecutive runs of equal elements with a single copy. This is like the uniq command found on Unix. Compact modifies the contents of the slice s and returns the modified slice, which may have a smaller length. Compact zeroes the elements between the new length and the original length. The result preserves the nilness of s.": IT RETURNS THE SLICE CUT TO 'Lib.compact zs'; ITS CELLS HOLD 'Lib.compact zs', THEN ZERO VALUES up to the old length; all else is as it was, but for the count of draws. IN THE WORDS OF slices.Sort's CONTRACT ('Holds', 'putRow'): so the everyday 'slices.Sort(xs); xs = slices.Compact(xs)' goes from the one contract to the other. It asks 'zs.length ≤ cap' (every slice's: the reslicing 's[:k]' looks at it). Length 0, nil: '.._empty'. (LAID: no walk: one application.) -/
theorem Tryz.slices_Compact_string (blk off cap : Nat) (zs : List (List UInt8)) (w : World) (hH : Holds encStr w blk off zs.toArray) (hsz : zs.length ≤ 9223372036854775807) (hcap : zs.length ≤ cap) :
    Calls Tryz.prog 38 #[.slice (some ⟨blk, off, none⟩) zs.length cap] w fun e w' => e = .returned (.slice (some ⟨blk, off, none⟩) (Lib.compact zs).length cap) ∧ ∃ q, w' = putRow encStr (Sort.ahead w q) blk off (Lib.compact zs ++ List.replicate (zs.length - (Lib.compact zs).length) []).toArray := Any.slices_Compact_string Tryz.lays194 blk off cap zs w hH hsz hcap
open Go.RowKit Go.Lib Go.Sort in
/-- The same at a slice of length 0, a nil one too: it comes back as it is. (LAID: no walk: one application.) -/
theorem Tryz.slices_Compact_string_empty (a : Option Addr) (cap : Nat) (w : World) :
    Calls Tryz.prog 38 #[.slice a 0 cap] w fun e w' => e = .returned (.slice a 0 cap) ∧ w' = w := Any.slices_Compact_string_empty Tryz.lays194 a cap w
open Go.RowKit Go.Sort in
/-- .. and plain. (LAID: no walk: one application.) -/
theorem Tryz.slices_Sort_string_none (p : Option Addr) (cap : Nat) (w : World) :
    Calls Tryz.prog 37 #[.slice p 0 cap] w fun e w' => e = .returned (.tuple #[]) ∧ w' = w := Any.slices_Sort_string_none Tryz.lays190 p cap w

end Go.Proofs
