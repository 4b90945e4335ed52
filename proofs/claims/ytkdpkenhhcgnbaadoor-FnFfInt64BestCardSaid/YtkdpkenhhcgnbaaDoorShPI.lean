/- The library's contracts at this program (the kit's shelf, laid by its own tools). -/
import Derived.Shelf.Small.Utf8
import Derived.Shelf.Strconv.Itoa0
import Derived.Shelf.Strconv.Itoa1
import Derived.Shelf.LaysM
import Derived.Shelf.Strconv.Itoa2
import Derived.Shelf.Strconv.Itoa3
import Derived.Shelf.Strconv.ParseIntEmpty
import Derived.Shelf.Strconv.Clone
import Derived.Shelf.Strconv.SyntaxError
import Derived.Shelf.LaysC
import Derived.Shelf.Strconv.ToError
import Derived.Ground.MnProg
import Derived.Shelf.Bin.LEUint64
import Derived.Shelf.Strconv.Lower
import Derived.Shelf.Strconv.ParseUint10
import Derived.Shelf.Strconv.ParseUint10Empty
import Derived.Shelf.Strconv.ParseUint10Any
import Derived.Shelf.Strconv.ParseInt10
import Derived.Shelf.Strconv.RangeError
import Derived.Shelf.Strconv.ToErrorRange
import Derived.Shelf.Strconv.ParseUintEmpty
import Derived.Shelf.Strconv.ParseUint10b64
import Derived.Shelf.Strconv.ParseUint10b32
import Derived.Shelf.Strconv.ParseUint10b16
import Derived.Shelf.Strconv.ParseUint10b8
import Derived.Shelf.Strconv.ParseUint10At
import Derived.Shelf.Strconv.ParseInt10At64
import Derived.Shelf.Strconv.ParseInt10At32
import Derived.Shelf.Strconv.ParseInt10At16
import Derived.Shelf.Strconv.ParseInt10At8
import Derived.Shelf.Strconv.ParseInt10All
import Derived.Shelf.Strconv.ParseIntPublic10
import Derived.Shelf.Bin.ReadersZ
import Derived.Shelf.Unicode.Decode
import Derived.Shelf.Unicode.DecodeSlow
import Derived.Shelf.Unicode.DecodeAny
import Derived.Shelf.Unicode.DecodeLast
import Derived.Test.YtkdpkenhhcgnbaaDoorProg
namespace Go.Proofs
open Go.Shelf
def Tryd.laysC174_ren : Go.Shelf.Ren := ⟨fun | 174 => 61 | 247 => 77 | 245 => 78 | 287 => 90 | 279 => 91 | 280 => 92 | 281 => 93 | 282 => 94 | 321 => 98 | 322 => 99 | 316 => 100 | 171 => 101 | 205 => 60 | 243 => 102 | 246 => 103 | 283 => 104 | 284 => 105 | 285 => 106 | 286 => 107 | 129 => 109 | 317 => 108 | 318 => 110 | 319 => 111 | 320 => 112 | 337 => 113 | 338 => 114 | n => n, fun | 9 => 9 | 3 => 3 | 2 => 2 | 75 => 74 | 85 => 75 | 4 => 4 | 167 => 131 | 5 => 5 | 53 => 45 | 175 => 132 | 46 => 55 | 168 => 134 | 37 => 91 | 0 => 0 | 210 => 142 | 21 => 21 | 127 => 144 | 145 => 120 | 143 => 118 | 171 => 146 | 173 => 149 | 212 => 153 | 51 => 115 | 20 => 20 | 213 => 154 | 232 => 157 | 233 => 158 | 80 => 159 | n => n, fun | 15 => 5 | 16 => 6 | 17 => 7 | 18 => 8 | 19 => 9 | n => n⟩
theorem Tryd.laysC174 : Go.Proofs.LaysC.n174 Tryd.prog Tryd.laysC174_ren := {
  mixed := by kernel_rfl
  f129 := Tryd.func109.trans (congrArg some (by kernel_rfl))
  f171 := Tryd.func101.trans (congrArg some (by kernel_rfl))
  f174 := Tryd.func61.trans (congrArg some (by kernel_rfl))
  f205 := Tryd.func60.trans (congrArg some (by kernel_rfl))
  f243 := Tryd.func102.trans (congrArg some (by kernel_rfl))
  f245 := Tryd.func78.trans (congrArg some (by kernel_rfl))
  f246 := Tryd.func103.trans (congrArg some (by kernel_rfl))
  f247 := Tryd.func77.trans (congrArg some (by kernel_rfl))
  f279 := Tryd.func91.trans (congrArg some (by kernel_rfl))
  f280 := Tryd.func92.trans (congrArg some (by kernel_rfl))
  f281 := Tryd.func93.trans (congrArg some (by kernel_rfl))
  f282 := Tryd.func94.trans (congrArg some (by kernel_rfl))
  f283 := Tryd.func104.trans (congrArg some (by kernel_rfl))
  f284 := Tryd.func105.trans (congrArg some (by kernel_rfl))
  f285 := Tryd.func106.trans (congrArg some (by kernel_rfl))
  f286 := Tryd.func107.trans (congrArg some (by kernel_rfl))
  f287 := Tryd.func90.trans (congrArg some (by kernel_rfl))
  f316 := Tryd.func100.trans (congrArg some (by kernel_rfl))
  f317 := Tryd.func108.trans (congrArg some (by kernel_rfl))
  f318 := Tryd.func110.trans (congrArg some (by kernel_rfl))
  f319 := Tryd.func111.trans (congrArg some (by kernel_rfl))
  f320 := Tryd.func112.trans (congrArg some (by kernel_rfl))
  f321 := Tryd.func98.trans (congrArg some (by kernel_rfl))
  f322 := Tryd.func99.trans (congrArg some (by kernel_rfl))
  f337 := Tryd.func113.trans (congrArg some (by kernel_rfl))
  f338 := Tryd.func114.trans (congrArg some (by kernel_rfl))
  t0 := Tryd.underlying0
  a0 := Tryd.isAgg0
  z0 := Tryd.sizeOf0
  v0 := Tryd.zeroValue0
  t2 := Tryd.underlying2
  a2 := Tryd.isAgg2
  z2 := Tryd.sizeOf2
  v2 := Tryd.zeroValue2
  t3 := Tryd.underlying3
  a3 := Tryd.isAgg3
  z3 := Tryd.sizeOf3
  v3 := Tryd.zeroValue3
  t4 := Tryd.underlying4
  a4 := Tryd.isAgg4
  z4 := Tryd.sizeOf4
  v4 := Tryd.zeroValue4
  t5 := Tryd.underlying5
  a5 := Tryd.isAgg5
  z5 := Tryd.sizeOf5
  v5 := Tryd.zeroValue5
  t9 := Tryd.underlying9
  a9 := Tryd.isAgg9
  z9 := Tryd.sizeOf9
  v9 := Tryd.zeroValue9
  t20 := Tryd.underlying20
  a20 := Tryd.isAgg20
  z20 := Tryd.sizeOf20
  v20 := Tryd.zeroValue20
  t21 := Tryd.underlying21
  a21 := Tryd.isAgg21
  z21 := Tryd.sizeOf21
  v21 := Tryd.zeroValue21
  t37 := Tryd.underlying91
  a37 := Tryd.isAgg91
  z37 := Tryd.sizeOf91
  v37 := Tryd.zeroValue91
  t46 := Tryd.underlying55
  a46 := Tryd.isAgg55
  z46 := Tryd.sizeOf55
  v46 := Tryd.zeroValue55
  t51 := Tryd.underlying115
  a51 := Tryd.isAgg115
  z51 := Tryd.sizeOf115
  v51 := Tryd.zeroValue115
  t53 := Tryd.underlying45
  a53 := Tryd.isAgg45
  z53 := Tryd.sizeOf45
  v53 := Tryd.zeroValue45
  t75 := Tryd.underlying74
  a75 := Tryd.isAgg74
  z75 := Tryd.sizeOf74
  v75 := Tryd.zeroValue74
  t85 := Tryd.underlying75
  a85 := Tryd.isAgg75
  z85 := Tryd.sizeOf75
  v85 := Tryd.zeroValue75
  t127 := Tryd.underlying144
  a127 := Tryd.isAgg144
  z127 := Tryd.sizeOf144
  v127 := Tryd.zeroValue144
  t143 := Tryd.underlying118
  a143 := Tryd.isAgg118
  z143 := Tryd.sizeOf118
  v143 := Tryd.zeroValue118
  t145 := Tryd.underlying120
  a145 := Tryd.isAgg120
  z145 := Tryd.sizeOf120
  v145 := Tryd.zeroValue120
  t167 := Tryd.underlying131
  a167 := Tryd.isAgg131
  z167 := Tryd.sizeOf131
  v167 := Tryd.zeroValue131
  t168 := Tryd.underlying134
  a168 := Tryd.isAgg134
  z168 := Tryd.sizeOf134
  v168 := Tryd.zeroValue134
  t171 := Tryd.underlying146
  a171 := Tryd.isAgg146
  z171 := Tryd.sizeOf146
  v171 := Tryd.zeroValue146
  t173 := Tryd.underlying149
  a173 := Tryd.isAgg149
  z173 := Tryd.sizeOf149
  v173 := Tryd.zeroValue149
  t175 := Tryd.underlying132
  a175 := Tryd.isAgg132
  z175 := Tryd.sizeOf132
  v175 := Tryd.zeroValue132
  t210 := Tryd.underlying142
  a210 := Tryd.isAgg142
  z210 := Tryd.sizeOf142
  v210 := Tryd.zeroValue142
  t212 := Tryd.underlying153
  a212 := Tryd.isAgg153
  z212 := Tryd.sizeOf153
  v212 := Tryd.zeroValue153
  t213 := Tryd.underlying154
  a213 := Tryd.isAgg154
  z213 := Tryd.sizeOf154
  t232 := Tryd.underlying157
  a232 := Tryd.isAgg157
  z232 := Tryd.sizeOf157
  v232 := Tryd.zeroValue157
  t233 := Tryd.underlying158
  a233 := Tryd.isAgg158
  z233 := Tryd.sizeOf158
  v233 := Tryd.zeroValue158
  g15 := by kernel_rfl
  g16 := by kernel_rfl
  g17 := by kernel_rfl
  g18 := by kernel_rfl
  g19 := by kernel_rfl
  t80 := Tryd.underlying159
  a80 := Tryd.isAgg159
  z80 := Tryd.sizeOf159
  v80 := Tryd.zeroValue159
  i0 := by kernel_rfl
  i2 := by kernel_rfl
  i3 := by kernel_rfl
  i4 := by kernel_rfl
  i5 := by kernel_rfl
  i9 := by kernel_rfl
  i20 := by kernel_rfl
  i21 := by kernel_rfl
  i37 := by kernel_rfl
  i46 := by kernel_rfl
  i51 := by kernel_rfl
  i53 := by kernel_rfl
  i75 := by kernel_rfl
  i80 := by kernel_rfl
  i85 := by kernel_rfl
  i127 := by kernel_rfl
  i143 := by kernel_rfl
  i145 := by kernel_rfl
  i167 := by kernel_rfl
  i168 := by kernel_rfl
  i171 := by kernel_rfl
  i173 := by kernel_rfl
  i175 := by kernel_rfl
  i210 := by kernel_rfl
  i212 := by kernel_rfl
  i232 := by kernel_rfl
  i233 := by kernel_rfl
  m15 := by kernel_rfl
  m16 := by kernel_rfl
  m17 := by kernel_rfl
  m18 := by kernel_rfl
  m19 := by kernel_rfl
  c0 := by kernel_rfl
  c2 := by kernel_rfl
  c3 := by kernel_rfl
  c4 := by kernel_rfl
  c5 := by kernel_rfl
  c9 := by kernel_rfl
  c20 := by kernel_rfl
  c21 := by kernel_rfl
  c37 := by kernel_rfl
  c46 := by kernel_rfl
  c51 := by kernel_rfl
  c53 := by kernel_rfl
  c75 := by kernel_rfl
  c80 := by kernel_rfl
  c85 := by kernel_rfl
  c127 := by kernel_rfl
  c143 := by kernel_rfl
  c145 := by kernel_rfl
  c167 := by kernel_rfl
  c168 := by kernel_rfl
  c171 := by kernel_rfl
  c173 := by kernel_rfl
  c175 := by kernel_rfl
  c210 := by kernel_rfl
  c212 := by kernel_rfl
  c213 := by kernel_rfl
  c232 := by kernel_rfl
  c233 := by kernel_rfl }
open Go.RowKit in
theorem Tryd.strconv_ParseInt_10_at64_ok (s : ByteArray) (hmax : s.size ≤ 9223372036854775806) (v : Int) (h : Lib.parseIntB 64 s.data.toList = .ok v) (w : World) :
    Calls Tryd.prog 61 #[.string s, .int .i64 10, .int .i64 64] w fun e w' => e = .returned (.tuple #[.int .i64 v, .nilIface]) ∧ (w' = w ∨ ∃ t, w' = Lib.bytesWorld w 5 t) := Any.strconv_ParseInt_10_at64_ok Tryd.laysC174 s hmax v h w
open Go.RowKit in
theorem Tryd.strconv_ParseInt_10_at64_syntax (s : ByteArray) (hlim : s.size ≤ 281474976710656) (h : Lib.parseIntB 64 s.data.toList = .«syntax») (ev : Value) (w : World) (hv : w.cell? ⟨5, 0, none⟩ = some ev) (hev : ev = .nilIface ∨ ∃ te pe, ev = .iface te pe) :
    Calls Tryd.prog 61 #[.string s, .int .i64 10, .int .i64 64] w fun e w' => ∃ N, e = .returned (.tuple #[.int .i64 (0), .iface 134 (.pointer (some ⟨N, 0, none⟩))]) ∧ w.heap.size ≤ N ∧ w'.heap[N]? = some (.cells #[.string ⟨#[80, 97, 114, 115, 101, 73, 110, 116]⟩, .string s, ev] 142 (0, 0)) ∧ Below w.heap.size w w' := Any.strconv_ParseInt_10_at64_syntax Tryd.laysC174 s hlim h ev w hv hev
open Go.RowKit in
theorem Tryd.strconv_ParseInt_10_at64_range (s : ByteArray) (hlim : s.size ≤ 281474976710656) (h : Lib.parseIntB 64 s.data.toList = .range) (ev : Value) (w : World) (hv : w.cell? ⟨6, 0, none⟩ = some ev) (hev : ev = .nilIface ∨ ∃ te pe, ev = .iface te pe) :
    Calls Tryd.prog 61 #[.string s, .int .i64 10, .int .i64 64] w fun e w' => ∃ N, e = .returned (.tuple #[.int .i64 (Lib.intSat 64 s.data.toList), .iface 134 (.pointer (some ⟨N, 0, none⟩))]) ∧ w.heap.size ≤ N ∧ w'.heap[N]? = some (.cells #[.string ⟨#[80, 97, 114, 115, 101, 73, 110, 116]⟩, .string s, ev] 142 (0, 0)) ∧ Below w.heap.size w w' := Any.strconv_ParseInt_10_at64_range Tryd.laysC174 s hlim h ev w hv hev
end Go.Proofs
