/- The library's contracts at this program (the kit's shelf, laid by its own tools). -/
import Derived.Shelf.Small.Utf8
import Derived.Shelf.Small.Strs
import Derived.Shelf.LaysM
import Derived.Shelf.Strconv.Clone
import Derived.Shelf.Strconv.SyntaxError
import Derived.Shelf.LaysC
import Derived.Shelf.Strconv.ToError
import Derived.Shelf.Strings.Search1
import Derived.Shelf.Unicode.DecodeSlow
import Derived.Test.YtfoloneeibgoiaaDoorProg
namespace Go.Proofs
open Go.Shelf
def Tryd.lays137_ren : Go.Shelf.Ren := ⟨fun | 137 => 69 | 217 => 80 | 266 => 86 | n => n, fun | 9 => 9 | 5 => 5 | 3 => 3 | n => n, fun | n => n⟩
theorem Tryd.lays137 : Go.Proofs.Lays.n137 Tryd.prog Tryd.lays137_ren := {
  mixed := by kernel_rfl
  f137 := Tryd.func69.trans (congrArg some (by kernel_rfl))
  f217 := Tryd.func80.trans (congrArg some (by kernel_rfl))
  f266 := Tryd.func86.trans (congrArg some (by kernel_rfl))
  t3 := Tryd.underlying3
  a3 := Tryd.isAgg3
  z3 := Tryd.sizeOf3
  v3 := Tryd.zeroValue3
  t5 := Tryd.underlying5
  a5 := Tryd.isAgg5
  z5 := Tryd.sizeOf5
  v5 := Tryd.zeroValue5
  t9 := Tryd.underlying9
  a9 := Tryd.isAgg9
  z9 := Tryd.sizeOf9
  v9 := Tryd.zeroValue9 }
open Go.RowKit in
theorem Tryd.strings_IndexByte (s : ByteArray) (c : Int) (w : World) :
    Calls Tryd.prog 69 #[.string s, .int .u8 c] w fun e w' => e = .returned (.int .i64 (Lib.indexByte s.data.toList c.toNat.toUInt8)) ∧ w' = w := Any.strings_IndexByte Tryd.lays137 s c w
def Tryd.laysC245_ren : Go.Shelf.Ren := ⟨fun | 245 => 84 | 279 => 94 | 280 => 95 | 281 => 96 | 282 => 97 | 316 => 102 | 171 => 103 | 205 => 29 | 243 => 104 | 246 => 105 | 283 => 106 | 284 => 107 | 285 => 108 | 286 => 109 | 129 => 111 | 317 => 110 | 318 => 112 | 319 => 113 | 320 => 114 | 337 => 115 | 338 => 116 | n => n, fun | 9 => 9 | 3 => 3 | 75 => 42 | 167 => 129 | 4 => 4 | 168 => 130 | 210 => 146 | 37 => 34 | 0 => 0 | 127 => 148 | 145 => 94 | 143 => 92 | 2 => 2 | 171 => 150 | 53 => 116 | 5 => 5 | 173 => 153 | 212 => 157 | 51 => 142 | 20 => 20 | 213 => 158 | 46 => 114 | 232 => 161 | 233 => 162 | 80 => 163 | n => n, fun | 15 => 8 | 16 => 9 | 17 => 10 | 18 => 11 | 19 => 12 | n => n⟩
theorem Tryd.laysC245 : Go.Proofs.LaysC.n245 Tryd.prog Tryd.laysC245_ren := {
  mixed := by kernel_rfl
  f129 := Tryd.func111.trans (congrArg some (by kernel_rfl))
  f171 := Tryd.func103.trans (congrArg some (by kernel_rfl))
  f205 := Tryd.func29.trans (congrArg some (by kernel_rfl))
  f243 := Tryd.func104.trans (congrArg some (by kernel_rfl))
  f245 := Tryd.func84.trans (congrArg some (by kernel_rfl))
  f246 := Tryd.func105.trans (congrArg some (by kernel_rfl))
  f279 := Tryd.func94.trans (congrArg some (by kernel_rfl))
  f280 := Tryd.func95.trans (congrArg some (by kernel_rfl))
  f281 := Tryd.func96.trans (congrArg some (by kernel_rfl))
  f282 := Tryd.func97.trans (congrArg some (by kernel_rfl))
  f283 := Tryd.func106.trans (congrArg some (by kernel_rfl))
  f284 := Tryd.func107.trans (congrArg some (by kernel_rfl))
  f285 := Tryd.func108.trans (congrArg some (by kernel_rfl))
  f286 := Tryd.func109.trans (congrArg some (by kernel_rfl))
  f316 := Tryd.func102.trans (congrArg some (by kernel_rfl))
  f317 := Tryd.func110.trans (congrArg some (by kernel_rfl))
  f318 := Tryd.func112.trans (congrArg some (by kernel_rfl))
  f319 := Tryd.func113.trans (congrArg some (by kernel_rfl))
  f320 := Tryd.func114.trans (congrArg some (by kernel_rfl))
  f337 := Tryd.func115.trans (congrArg some (by kernel_rfl))
  f338 := Tryd.func116.trans (congrArg some (by kernel_rfl))
  t0 := Tryd.underlying0
  a0 := Tryd.isAgg0
  z0 := Tryd.sizeOf0
  v0 := Tryd.zeroValue0
  t2 := Tryd.underlying2
  a2 := Tryd.isAgg2
  z2 := Tryd.sizeOf2
  v2 := Tryd.zeroValue2
  t3 := Tryd.underlying3
  a3 := Tryd.isAgg3
  z3 := Tryd.sizeOf3
  v3 := Tryd.zeroValue3
  t4 := Tryd.underlying4
  a4 := Tryd.isAgg4
  z4 := Tryd.sizeOf4
  v4 := Tryd.zeroValue4
  t5 := Tryd.underlying5
  a5 := Tryd.isAgg5
  z5 := Tryd.sizeOf5
  v5 := Tryd.zeroValue5
  t9 := Tryd.underlying9
  a9 := Tryd.isAgg9
  z9 := Tryd.sizeOf9
  v9 := Tryd.zeroValue9
  t20 := Tryd.underlying20
  a20 := Tryd.isAgg20
  z20 := Tryd.sizeOf20
  v20 := Tryd.zeroValue20
  t37 := Tryd.underlying34
  a37 := Tryd.isAgg34
  z37 := Tryd.sizeOf34
  v37 := Tryd.zeroValue34
  t46 := Tryd.underlying114
  a46 := Tryd.isAgg114
  z46 := Tryd.sizeOf114
  v46 := Tryd.zeroValue114
  t51 := Tryd.underlying142
  a51 := Tryd.isAgg142
  z51 := Tryd.sizeOf142
  v51 := Tryd.zeroValue142
  t53 := Tryd.underlying116
  a53 := Tryd.isAgg116
  z53 := Tryd.sizeOf116
  v53 := Tryd.zeroValue116
  t75 := Tryd.underlying42
  a75 := Tryd.isAgg42
  z75 := Tryd.sizeOf42
  v75 := Tryd.zeroValue42
  t127 := Tryd.underlying148
  a127 := Tryd.isAgg148
  z127 := Tryd.sizeOf148
  v127 := Tryd.zeroValue148
  t143 := Tryd.underlying92
  a143 := Tryd.isAgg92
  z143 := Tryd.sizeOf92
  v143 := Tryd.zeroValue92
  t145 := Tryd.underlying94
  a145 := Tryd.isAgg94
  z145 := Tryd.sizeOf94
  v145 := Tryd.zeroValue94
  t167 := Tryd.underlying129
  a167 := Tryd.isAgg129
  z167 := Tryd.sizeOf129
  v167 := Tryd.zeroValue129
  t168 := Tryd.underlying130
  a168 := Tryd.isAgg130
  z168 := Tryd.sizeOf130
  v168 := Tryd.zeroValue130
  t171 := Tryd.underlying150
  a171 := Tryd.isAgg150
  z171 := Tryd.sizeOf150
  v171 := Tryd.zeroValue150
  t173 := Tryd.underlying153
  a173 := Tryd.isAgg153
  z173 := Tryd.sizeOf153
  v173 := Tryd.zeroValue153
  t210 := Tryd.underlying146
  a210 := Tryd.isAgg146
  z210 := Tryd.sizeOf146
  v210 := Tryd.zeroValue146
  t212 := Tryd.underlying157
  a212 := Tryd.isAgg157
  z212 := Tryd.sizeOf157
  v212 := Tryd.zeroValue157
  t213 := Tryd.underlying158
  a213 := Tryd.isAgg158
  z213 := Tryd.sizeOf158
  t232 := Tryd.underlying161
  a232 := Tryd.isAgg161
  z232 := Tryd.sizeOf161
  v232 := Tryd.zeroValue161
  t233 := Tryd.underlying162
  a233 := Tryd.isAgg162
  z233 := Tryd.sizeOf162
  v233 := Tryd.zeroValue162
  g15 := by kernel_rfl
  g16 := by kernel_rfl
  g17 := by kernel_rfl
  g18 := by kernel_rfl
  g19 := by kernel_rfl
  t80 := Tryd.underlying163
  a80 := Tryd.isAgg163
  z80 := Tryd.sizeOf163
  v80 := Tryd.zeroValue163
  i0 := by kernel_rfl
  i2 := by kernel_rfl
  i3 := by kernel_rfl
  i4 := by kernel_rfl
  i5 := by kernel_rfl
  i9 := by kernel_rfl
  i20 := by kernel_rfl
  i37 := by kernel_rfl
  i46 := by kernel_rfl
  i51 := by kernel_rfl
  i53 := by kernel_rfl
  i75 := by kernel_rfl
  i80 := by kernel_rfl
  i127 := by kernel_rfl
  i143 := by kernel_rfl
  i145 := by kernel_rfl
  i167 := by kernel_rfl
  i168 := by kernel_rfl
  i171 := by kernel_rfl
  i173 := by kernel_rfl
  i210 := by kernel_rfl
  i212 := by kernel_rfl
  i232 := by kernel_rfl
  i233 := by kernel_rfl
  m15 := by kernel_rfl
  m16 := by kernel_rfl
  m17 := by kernel_rfl
  m18 := by kernel_rfl
  m19 := by kernel_rfl
  c0 := by kernel_rfl
  c2 := by kernel_rfl
  c3 := by kernel_rfl
  c4 := by kernel_rfl
  c5 := by kernel_rfl
  c9 := by kernel_rfl
  c20 := by kernel_rfl
  c37 := by kernel_rfl
  c46 := by kernel_rfl
  c51 := by kernel_rfl
  c53 := by kernel_rfl
  c75 := by kernel_rfl
  c80 := by kernel_rfl
  c127 := by kernel_rfl
  c143 := by kernel_rfl
  c145 := by kernel_rfl
  c167 := by kernel_rfl
  c168 := by kernel_rfl
  c171 := by kernel_rfl
  c173 := by kernel_rfl
  c210 := by kernel_rfl
  c212 := by kernel_rfl
  c213 := by kernel_rfl
  c232 := by kernel_rfl
  c233 := by kernel_rfl }
open Go.RowKit in
theorem Tryd.strconv_toError_syntax (fn s : ByteArray) (base bits : Int) (ev : Value) (w : World) (hlim : s.size ≤ 281474976710656) (hv : w.cell? ⟨8, 0, none⟩ = some ev) (hev : ev = .nilIface ∨ ∃ te pe, ev = .iface te pe) :
    Calls Tryd.prog 84 #[.string fn, .string s, .int .i64 base, .int .i64 bits, .iface 129 (.int .i64 2)] w fun e w' => ∃ N, e = .returned (.iface 130 (.pointer (some ⟨N, 0, none⟩))) ∧ w.heap.size ≤ N ∧ w'.heap[N]? = some (.cells #[.string fn, .string s, ev] 146 (0, 0)) ∧ Below w.heap.size w w' := Any.strconv_toError_syntax Tryd.laysC245 fn s base bits ev w hlim hv hev
end Go.Proofs
