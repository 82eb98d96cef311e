/- What the tries call of the library: strings.TrimSpace, strconv.Atoi, sort.Slice. The numbers that a key finds, in order: the walks of IDs and of its closure; the sort by the shelf. The numbers that a key finds, in order: the walk of IDs. A text split at a byte: the walk of zzSplit. What a text of places says: the plain function, and what it calls. What a text of places says: the walk of parseIgnoreBytes. What a text of places says: the walk of parseIgnoreBytes. -/
import Derived.Shelf.Strings.TrimSpace
import Derived.Shelf.LaysC
import Derived.Shelf.Strconv.AtoiAll
import Derived.Ground.GgsProg
import Derived.Shelf.GgSortFunc.Whole
import Derived.Test.YtnoolgbbpekomaaGreatDoorProg
import Derived.Test.YtnoolgbbpekomaaGreatDoorMa
import Derived.Shelf.GgSortFunc.Tiny
import Derived.Test.YtnoolgbbpekomaaGreatDoorZi
import Derived.Lib.AppendIntMem
import Derived.Lib.AtoiErrMem
namespace Go.Proofs
open Go.Shelf
def Tryz.lays163_ren : Go.Shelf.Ren := ⟨fun | 163 => 62 | 237 => 73 | 199 => 74 | 238 => 75 | 272 => 97 | 261 => 98 | 273 => 99 | 197 => 100 | 315 => 111 | 311 => 112 | 312 => 113 | 271 => 114 | 260 => 115 | 120 => 120 | n => n, fun | 9 => 9 | 37 => 58 | 3 => 3 | 0 => 0 | 5 => 5 | 4 => 4 | 40 => 122 | 119 => 123 | 21 => 21 | 51 => 133 | 141 => 144 | 105 => 146 | 196 => 163 | 193 => 160 | 198 => 166 | 49 => 164 | 194 => 161 | 201 => 169 | 226 => 178 | 46 => 116 | 227 => 179 | 139 => 183 | 138 => 182 | n => n, fun | 0 => 0 | 6 => 1 | 3 => 4 | 4 => 5 | n => n⟩
theorem Tryz.lays163 : Go.Proofs.Lays.n163 Tryz.prog Tryz.lays163_ren := {
  mixed := by kernel_rfl
  f120 := Tryz.func120.trans (congrArg some (by kernel_rfl))
  f163 := Tryz.func62.trans (congrArg some (by kernel_rfl))
  f197 := Tryz.func100.trans (congrArg some (by kernel_rfl))
  f199 := Tryz.func74.trans (congrArg some (by kernel_rfl))
  f237 := Tryz.func73.trans (congrArg some (by kernel_rfl))
  f238 := Tryz.func75.trans (congrArg some (by kernel_rfl))
  f260 := Tryz.func115.trans (congrArg some (by kernel_rfl))
  f261 := Tryz.func98.trans (congrArg some (by kernel_rfl))
  f271 := Tryz.func114.trans (congrArg some (by kernel_rfl))
  f272 := Tryz.func97.trans (congrArg some (by kernel_rfl))
  f273 := Tryz.func99.trans (congrArg some (by kernel_rfl))
  f311 := Tryz.func112.trans (congrArg some (by kernel_rfl))
  f312 := Tryz.func113.trans (congrArg some (by kernel_rfl))
  f315 := Tryz.func111.trans (congrArg some (by kernel_rfl))
  t0 := Tryz.underlying0
  a0 := Tryz.isAgg0
  z0 := Tryz.sizeOf0
  v0 := Tryz.zeroValue0
  t3 := Tryz.underlying3
  a3 := Tryz.isAgg3
  z3 := Tryz.sizeOf3
  v3 := Tryz.zeroValue3
  t4 := Tryz.underlying4
  a4 := Tryz.isAgg4
  z4 := Tryz.sizeOf4
  v4 := Tryz.zeroValue4
  t5 := Tryz.underlying5
  a5 := Tryz.isAgg5
  z5 := Tryz.sizeOf5
  v5 := Tryz.zeroValue5
  t9 := Tryz.underlying9
  a9 := Tryz.isAgg9
  z9 := Tryz.sizeOf9
  v9 := Tryz.zeroValue9
  t21 := Tryz.underlying21
  a21 := Tryz.isAgg21
  z21 := Tryz.sizeOf21
  v21 := Tryz.zeroValue21
  t37 := Tryz.underlying58
  a37 := Tryz.isAgg58
  z37 := Tryz.sizeOf58
  v37 := Tryz.zeroValue58
  t40 := Tryz.underlying122
  a40 := Tryz.isAgg122
  z40 := Tryz.sizeOf122
  v40 := Tryz.zeroValue122
  t46 := Tryz.underlying116
  a46 := Tryz.isAgg116
  z46 := Tryz.sizeOf116
  v46 := Tryz.zeroValue116
  t49 := Tryz.underlying164
  a49 := Tryz.isAgg164
  z49 := Tryz.sizeOf164
  v49 := Tryz.zeroValue164
  t51 := Tryz.underlying133
  a51 := Tryz.isAgg133
  z51 := Tryz.sizeOf133
  v51 := Tryz.zeroValue133
  t105 := Tryz.underlying146
  a105 := Tryz.isAgg146
  z105 := Tryz.sizeOf146
  v105 := Tryz.zeroValue146
  t119 := Tryz.underlying123
  a119 := Tryz.isAgg123
  z119 := Tryz.sizeOf123
  t138 := Tryz.underlying182
  a138 := Tryz.isAgg182
  z138 := Tryz.sizeOf182
  v138 := Tryz.zeroValue182
  t139 := Tryz.underlying183
  a139 := Tryz.isAgg183
  z139 := Tryz.sizeOf183
  v139 := Tryz.zeroValue183
  t141 := Tryz.underlying144
  a141 := Tryz.isAgg144
  z141 := Tryz.sizeOf144
  v141 := Tryz.zeroValue144
  t193 := Tryz.underlying160
  a193 := Tryz.isAgg160
  z193 := Tryz.sizeOf160
  v193 := Tryz.zeroValue160
  t194 := Tryz.underlying161
  a194 := Tryz.isAgg161
  z194 := Tryz.sizeOf161
  v194 := Tryz.zeroValue161
  t196 := Tryz.underlying163
  a196 := Tryz.isAgg163
  z196 := Tryz.sizeOf163
  v196 := Tryz.zeroValue163
  t198 := Tryz.underlying166
  a198 := Tryz.isAgg166
  z198 := Tryz.sizeOf166
  v198 := Tryz.zeroValue166
  t201 := Tryz.underlying169
  a201 := Tryz.isAgg169
  z201 := Tryz.sizeOf169
  v201 := Tryz.zeroValue169
  t226 := Tryz.underlying178
  a226 := Tryz.isAgg178
  z226 := Tryz.sizeOf178
  v226 := Tryz.zeroValue178
  t227 := Tryz.underlying179
  a227 := Tryz.isAgg179
  z227 := Tryz.sizeOf179
  v227 := Tryz.zeroValue179
  g0 := by kernel_rfl
  g3 := by kernel_rfl
  g4 := by kernel_rfl
  g6 := by kernel_rfl }
theorem Tryz.Space_Extra_163 : Space.Extra Tryz.prog Tryz.lays163_ren := {
  gNamed := by kernel_rfl }
open Go.RowKit in
theorem Tryz.strings_TrimSpace (s : ByteArray) (w : World) (hs : s.size ≤ 9223372036854775807) (hascii : ∀ (j : Nat) b, s.data.toList[j]? = some b → b.toNat < 128) (htab : Lib.TabIs Tryz.prog w "strings.asciiSpace" .u8 Lib.asciiSpaceTab) :
    Calls Tryz.prog 62 #[.string s] w fun e w' => e = .returned (.string ⟨(Lib.trimSpace s.data.toList).toArray⟩) ∧ w' = Lib.bytesWorld w 5 s := Any.strings_TrimSpace Tryz.lays163 Tryz.Space_Extra_163 s w hs hascii htab
def Tryz.laysC172_ren : Go.Shelf.Ren := ⟨fun | 172 => 64 | 244 => 76 | 245 => 77 | 247 => 101 | 279 => 102 | 280 => 103 | 281 => 104 | 282 => 105 | 287 => 116 | 316 => 117 | 171 => 118 | 205 => 63 | 321 => 121 | 322 => 122 | 243 => 123 | 246 => 124 | 283 => 125 | 284 => 126 | 285 => 127 | 286 => 128 | 129 => 88 | 317 => 129 | 318 => 130 | 319 => 131 | 320 => 132 | 337 => 133 | 338 => 134 | n => n, fun | 9 => 9 | 3 => 3 | 75 => 73 | 76 => 102 | 4 => 4 | 5 => 5 | 167 => 148 | 37 => 58 | 0 => 0 | 85 => 149 | 2 => 2 | 168 => 151 | 53 => 77 | 175 => 171 | 46 => 116 | 210 => 174 | 127 => 185 | 145 => 126 | 143 => 124 | 21 => 21 | 171 => 187 | 173 => 188 | 212 => 192 | 51 => 133 | 20 => 20 | 213 => 193 | 232 => 195 | 233 => 196 | 80 => 197 | n => n, fun | 15 => 2 | 16 => 3 | 17 => 6 | 18 => 7 | 19 => 8 | n => n⟩
theorem Tryz.laysC172 : Go.Proofs.LaysC.n172 Tryz.prog Tryz.laysC172_ren := {
  mixed := by kernel_rfl
  f129 := Tryz.func88.trans (congrArg some (by kernel_rfl))
  f171 := Tryz.func118.trans (congrArg some (by kernel_rfl))
  f172 := Tryz.func64.trans (congrArg some (by kernel_rfl))
  f205 := Tryz.func63.trans (congrArg some (by kernel_rfl))
  f243 := Tryz.func123.trans (congrArg some (by kernel_rfl))
  f244 := Tryz.func76.trans (congrArg some (by kernel_rfl))
  f245 := Tryz.func77.trans (congrArg some (by kernel_rfl))
  f246 := Tryz.func124.trans (congrArg some (by kernel_rfl))
  f247 := Tryz.func101.trans (congrArg some (by kernel_rfl))
  f279 := Tryz.func102.trans (congrArg some (by kernel_rfl))
  f280 := Tryz.func103.trans (congrArg some (by kernel_rfl))
  f281 := Tryz.func104.trans (congrArg some (by kernel_rfl))
  f282 := Tryz.func105.trans (congrArg some (by kernel_rfl))
  f283 := Tryz.func125.trans (congrArg some (by kernel_rfl))
  f284 := Tryz.func126.trans (congrArg some (by kernel_rfl))
  f285 := Tryz.func127.trans (congrArg some (by kernel_rfl))
  f286 := Tryz.func128.trans (congrArg some (by kernel_rfl))
  f287 := Tryz.func116.trans (congrArg some (by kernel_rfl))
  f316 := Tryz.func117.trans (congrArg some (by kernel_rfl))
  f317 := Tryz.func129.trans (congrArg some (by kernel_rfl))
  f318 := Tryz.func130.trans (congrArg some (by kernel_rfl))
  f319 := Tryz.func131.trans (congrArg some (by kernel_rfl))
  f320 := Tryz.func132.trans (congrArg some (by kernel_rfl))
  f321 := Tryz.func121.trans (congrArg some (by kernel_rfl))
  f322 := Tryz.func122.trans (congrArg some (by kernel_rfl))
  f337 := Tryz.func133.trans (congrArg some (by kernel_rfl))
  f338 := Tryz.func134.trans (congrArg some (by kernel_rfl))
  t0 := Tryz.underlying0
  a0 := Tryz.isAgg0
  z0 := Tryz.sizeOf0
  v0 := Tryz.zeroValue0
  t2 := Tryz.underlying2
  a2 := Tryz.isAgg2
  z2 := Tryz.sizeOf2
  v2 := Tryz.zeroValue2
  t3 := Tryz.underlying3
  a3 := Tryz.isAgg3
  z3 := Tryz.sizeOf3
  v3 := Tryz.zeroValue3
  t4 := Tryz.underlying4
  a4 := Tryz.isAgg4
  z4 := Tryz.sizeOf4
  v4 := Tryz.zeroValue4
  t5 := Tryz.underlying5
  a5 := Tryz.isAgg5
  z5 := Tryz.sizeOf5
  v5 := Tryz.zeroValue5
  t9 := Tryz.underlying9
  a9 := Tryz.isAgg9
  z9 := Tryz.sizeOf9
  v9 := Tryz.zeroValue9
  t20 := Tryz.underlying20
  a20 := Tryz.isAgg20
  z20 := Tryz.sizeOf20
  v20 := Tryz.zeroValue20
  t21 := Tryz.underlying21
  a21 := Tryz.isAgg21
  z21 := Tryz.sizeOf21
  v21 := Tryz.zeroValue21
  t37 := Tryz.underlying58
  a37 := Tryz.isAgg58
  z37 := Tryz.sizeOf58
  v37 := Tryz.zeroValue58
  t46 := Tryz.underlying116
  a46 := Tryz.isAgg116
  z46 := Tryz.sizeOf116
  v46 := Tryz.zeroValue116
  t51 := Tryz.underlying133
  a51 := Tryz.isAgg133
  z51 := Tryz.sizeOf133
  v51 := Tryz.zeroValue133
  t53 := Tryz.underlying77
  a53 := Tryz.isAgg77
  z53 := Tryz.sizeOf77
  v53 := Tryz.zeroValue77
  t75 := Tryz.underlying73
  a75 := Tryz.isAgg73
  z75 := Tryz.sizeOf73
  v75 := Tryz.zeroValue73
  t76 := Tryz.underlying102
  a76 := Tryz.isAgg102
  z76 := Tryz.sizeOf102
  v76 := Tryz.zeroValue102
  t85 := Tryz.underlying149
  a85 := Tryz.isAgg149
  z85 := Tryz.sizeOf149
  v85 := Tryz.zeroValue149
  t127 := Tryz.underlying185
  a127 := Tryz.isAgg185
  z127 := Tryz.sizeOf185
  v127 := Tryz.zeroValue185
  t143 := Tryz.underlying124
  a143 := Tryz.isAgg124
  z143 := Tryz.sizeOf124
  v143 := Tryz.zeroValue124
  t145 := Tryz.underlying126
  a145 := Tryz.isAgg126
  z145 := Tryz.sizeOf126
  v145 := Tryz.zeroValue126
  t167 := Tryz.underlying148
  a167 := Tryz.isAgg148
  z167 := Tryz.sizeOf148
  v167 := Tryz.zeroValue148
  t168 := Tryz.underlying151
  a168 := Tryz.isAgg151
  z168 := Tryz.sizeOf151
  v168 := Tryz.zeroValue151
  t171 := Tryz.underlying187
  a171 := Tryz.isAgg187
  z171 := Tryz.sizeOf187
  v171 := Tryz.zeroValue187
  t173 := Tryz.underlying188
  a173 := Tryz.isAgg188
  z173 := Tryz.sizeOf188
  v173 := Tryz.zeroValue188
  t175 := Tryz.underlying171
  a175 := Tryz.isAgg171
  z175 := Tryz.sizeOf171
  v175 := Tryz.zeroValue171
  t210 := Tryz.underlying174
  a210 := Tryz.isAgg174
  z210 := Tryz.sizeOf174
  v210 := Tryz.zeroValue174
  t212 := Tryz.underlying192
  a212 := Tryz.isAgg192
  z212 := Tryz.sizeOf192
  v212 := Tryz.zeroValue192
  t213 := Tryz.underlying193
  a213 := Tryz.isAgg193
  z213 := Tryz.sizeOf193
  t232 := Tryz.underlying195
  a232 := Tryz.isAgg195
  z232 := Tryz.sizeOf195
  v232 := Tryz.zeroValue195
  t233 := Tryz.underlying196
  a233 := Tryz.isAgg196
  z233 := Tryz.sizeOf196
  v233 := Tryz.zeroValue196
  g15 := by kernel_rfl
  g16 := by kernel_rfl
  g17 := by kernel_rfl
  g18 := by kernel_rfl
  g19 := by kernel_rfl
  t80 := Tryz.underlying197
  a80 := Tryz.isAgg197
  z80 := Tryz.sizeOf197
  v80 := Tryz.zeroValue197
  i0 := by kernel_rfl
  i2 := by kernel_rfl
  i3 := by kernel_rfl
  i4 := by kernel_rfl
  i5 := by kernel_rfl
  i9 := by kernel_rfl
  i20 := by kernel_rfl
  i21 := by kernel_rfl
  i37 := by kernel_rfl
  i46 := by kernel_rfl
  i51 := by kernel_rfl
  i53 := by kernel_rfl
  i75 := by kernel_rfl
  i76 := by kernel_rfl
  i80 := by kernel_rfl
  i85 := by kernel_rfl
  i127 := by kernel_rfl
  i143 := by kernel_rfl
  i145 := by kernel_rfl
  i167 := by kernel_rfl
  i168 := by kernel_rfl
  i171 := by kernel_rfl
  i173 := by kernel_rfl
  i175 := by kernel_rfl
  i210 := by kernel_rfl
  i212 := by kernel_rfl
  i232 := by kernel_rfl
  i233 := by kernel_rfl
  m15 := by kernel_rfl
  m16 := by kernel_rfl
  m17 := by kernel_rfl
  m18 := by kernel_rfl
  m19 := by kernel_rfl
  c0 := by kernel_rfl
  c2 := by kernel_rfl
  c3 := by kernel_rfl
  c4 := by kernel_rfl
  c5 := by kernel_rfl
  c9 := by kernel_rfl
  c20 := by kernel_rfl
  c21 := by kernel_rfl
  c37 := by kernel_rfl
  c46 := by kernel_rfl
  c51 := by kernel_rfl
  c53 := by kernel_rfl
  c75 := by kernel_rfl
  c76 := by kernel_rfl
  c80 := by kernel_rfl
  c85 := by kernel_rfl
  c127 := by kernel_rfl
  c143 := by kernel_rfl
  c145 := by kernel_rfl
  c167 := by kernel_rfl
  c168 := by kernel_rfl
  c171 := by kernel_rfl
  c173 := by kernel_rfl
  c175 := by kernel_rfl
  c210 := by kernel_rfl
  c212 := by kernel_rfl
  c213 := by kernel_rfl
  c232 := by kernel_rfl
  c233 := by kernel_rfl }
open Go.RowKit in
theorem Tryz.strconv_Atoi_ok (s : ByteArray) (hmax : s.size ≤ 9223372036854775806) (v : Int) (h : Lib.atoiAll s.data.toList = .ok v) (w : World) :
    Calls Tryz.prog 64 #[.string s] w fun e w' => e = .returned (.tuple #[.int .i64 v, .nilIface]) ∧ (w' = w ∨ ∃ t, w' = Lib.bytesWorld w 5 t) := Any.strconv_Atoi_ok Tryz.laysC172 s hmax v h w
open Go.RowKit in
theorem Tryz.strconv_Atoi_syntax (s : ByteArray) (hlim : s.size ≤ 281474976710656) (h : Lib.atoiAll s.data.toList = .«syntax») (ev : Value) (w : World) (hv : w.cell? ⟨2, 0, none⟩ = some ev) (hev : ev = .nilIface ∨ ∃ te pe, ev = .iface te pe) :
    Calls Tryz.prog 64 #[.string s] w fun e w' => ∃ N, e = .returned (.tuple #[.int .i64 (0), .iface 151 (.pointer (some ⟨N, 0, none⟩))]) ∧ w.heap.size ≤ N ∧ w'.heap[N]? = some (.cells #[.string ⟨#[65, 116, 111, 105]⟩, .string s, ev] 174 (0, 0)) ∧ Below w.heap.size w w' := Any.strconv_Atoi_syntax Tryz.laysC172 s hlim h ev w hv hev
open Go.RowKit in
theorem Tryz.strconv_Atoi_range (s : ByteArray) (hlim : s.size ≤ 281474976710656) (h : Lib.atoiAll s.data.toList = .range) (ev : Value) (w : World) (hv : w.cell? ⟨3, 0, none⟩ = some ev) (hev : ev = .nilIface ∨ ∃ te pe, ev = .iface te pe) :
    Calls Tryz.prog 64 #[.string s] w fun e w' => ∃ N, e = .returned (.tuple #[.int .i64 (Lib.atoiSat s.data.toList), .iface 151 (.pointer (some ⟨N, 0, none⟩))]) ∧ w.heap.size ≤ N ∧ w'.heap[N]? = some (.cells #[.string ⟨#[65, 116, 111, 105]⟩, .string s, ev] 174 (0, 0)) ∧ Below w.heap.size w w' := Any.strconv_Atoi_range Tryz.laysC172 s hlim h ev w hv hev
def Tryz.laysGg6_ren : Go.Shelf.Ren := ⟨fun | 6 => 58 | 10 => 67 | 11 => 68 | 12 => 69 | 13 => 70 | 14 => 71 | 24 => 87 | 25 => 88 | 26 => 89 | 27 => 90 | 28 => 91 | 29 => 92 | 30 => 93 | 31 => 94 | 32 => 95 | 33 => 96 | 34 => 106 | 35 => 107 | 36 => 108 | 37 => 109 | 38 => 110 | 39 => 119 | n => n, fun | 20 => 20 | 26 => 97 | 35 => 111 | 0 => 0 | 37 => 113 | 3 => 3 | 41 => 116 | 44 => 119 | 49 => 133 | 51 => 77 | 4 => 4 | 54 => 137 | 53 => 136 | 58 => 141 | 5 => 5 | 9 => 9 | 60 => 154 | 64 => 158 | 66 => 175 | 67 => 176 | 17 => 17 | 32 => 108 | 33 => 109 | 82 => 209 | 12 => 12 | 75 => 203 | 76 => 204 | 77 => 205 | 78 => 185 | 79 => 206 | 80 => 207 | n => n, fun | n => n⟩
theorem Tryz.laysGg6 : Go.Proofs.LaysGg.n6 Tryz.prog Tryz.laysGg6_ren := {
  mixed := by kernel_rfl
  f6 := Tryz.func58.trans (congrArg some (by kernel_rfl))
  f10 := Tryz.func67.trans (congrArg some (by kernel_rfl))
  f11 := Tryz.func68.trans (congrArg some (by kernel_rfl))
  f12 := Tryz.func69.trans (congrArg some (by kernel_rfl))
  f13 := Tryz.func70.trans (congrArg some (by kernel_rfl))
  f14 := Tryz.func71.trans (congrArg some (by kernel_rfl))
  f24 := Tryz.func87.trans (congrArg some (by kernel_rfl))
  f25 := Tryz.func88.trans (congrArg some (by kernel_rfl))
  f26 := Tryz.func89.trans (congrArg some (by kernel_rfl))
  f27 := Tryz.func90.trans (congrArg some (by kernel_rfl))
  f28 := Tryz.func91.trans (congrArg some (by kernel_rfl))
  f29 := Tryz.func92.trans (congrArg some (by kernel_rfl))
  f30 := Tryz.func93.trans (congrArg some (by kernel_rfl))
  f31 := Tryz.func94.trans (congrArg some (by kernel_rfl))
  f32 := Tryz.func95.trans (congrArg some (by kernel_rfl))
  f33 := Tryz.func96.trans (congrArg some (by kernel_rfl))
  f34 := Tryz.func106.trans (congrArg some (by kernel_rfl))
  f35 := Tryz.func107.trans (congrArg some (by kernel_rfl))
  f36 := Tryz.func108.trans (congrArg some (by kernel_rfl))
  f37 := Tryz.func109.trans (congrArg some (by kernel_rfl))
  f38 := Tryz.func110.trans (congrArg some (by kernel_rfl))
  f39 := Tryz.func119.trans (congrArg some (by kernel_rfl))
  t0 := Tryz.underlying0
  a0 := Tryz.isAgg0
  z0 := Tryz.sizeOf0
  v0 := Tryz.zeroValue0
  i0 := by kernel_rfl
  t3 := Tryz.underlying3
  a3 := Tryz.isAgg3
  z3 := Tryz.sizeOf3
  v3 := Tryz.zeroValue3
  i3 := by kernel_rfl
  t4 := Tryz.underlying4
  a4 := Tryz.isAgg4
  z4 := Tryz.sizeOf4
  v4 := Tryz.zeroValue4
  i4 := by kernel_rfl
  t5 := Tryz.underlying5
  a5 := Tryz.isAgg5
  z5 := Tryz.sizeOf5
  v5 := Tryz.zeroValue5
  i5 := by kernel_rfl
  t9 := Tryz.underlying9
  a9 := Tryz.isAgg9
  z9 := Tryz.sizeOf9
  v9 := Tryz.zeroValue9
  i9 := by kernel_rfl
  t12 := Tryz.underlying12
  a12 := Tryz.isAgg12
  z12 := Tryz.sizeOf12
  v12 := Tryz.zeroValue12
  i12 := by kernel_rfl
  t17 := Tryz.underlying17
  a17 := Tryz.isAgg17
  z17 := Tryz.sizeOf17
  v17 := Tryz.zeroValue17
  i17 := by kernel_rfl
  t20 := Tryz.underlying20
  a20 := Tryz.isAgg20
  z20 := Tryz.sizeOf20
  v20 := Tryz.zeroValue20
  i20 := by kernel_rfl
  t26 := Tryz.underlying97
  a26 := Tryz.isAgg97
  z26 := Tryz.sizeOf97
  v26 := Tryz.zeroValue97
  i26 := by kernel_rfl
  t32 := Tryz.underlying108
  a32 := Tryz.isAgg108
  z32 := Tryz.sizeOf108
  v32 := Tryz.zeroValue108
  i32 := by kernel_rfl
  t33 := Tryz.underlying109
  a33 := Tryz.isAgg109
  z33 := Tryz.sizeOf109
  v33 := Tryz.zeroValue109
  i33 := by kernel_rfl
  t35 := Tryz.underlying111
  a35 := Tryz.isAgg111
  z35 := Tryz.sizeOf111
  v35 := Tryz.zeroValue111
  i35 := by kernel_rfl
  t37 := Tryz.underlying113
  a37 := Tryz.isAgg113
  z37 := Tryz.sizeOf113
  v37 := Tryz.zeroValue113
  i37 := by kernel_rfl
  t41 := Tryz.underlying116
  a41 := Tryz.isAgg116
  z41 := Tryz.sizeOf116
  v41 := Tryz.zeroValue116
  i41 := by kernel_rfl
  t44 := Tryz.underlying119
  a44 := Tryz.isAgg119
  z44 := Tryz.sizeOf119
  v44 := Tryz.zeroValue119
  i44 := by kernel_rfl
  t49 := Tryz.underlying133
  a49 := Tryz.isAgg133
  z49 := Tryz.sizeOf133
  v49 := Tryz.zeroValue133
  i49 := by kernel_rfl
  t51 := Tryz.underlying77
  a51 := Tryz.isAgg77
  z51 := Tryz.sizeOf77
  v51 := Tryz.zeroValue77
  i51 := by kernel_rfl
  t53 := Tryz.underlying136
  a53 := Tryz.isAgg136
  z53 := Tryz.sizeOf136
  v53 := Tryz.zeroValue136
  i53 := by kernel_rfl
  t54 := Tryz.underlying137
  a54 := Tryz.isAgg137
  z54 := Tryz.sizeOf137
  v54 := Tryz.zeroValue137
  i54 := by kernel_rfl
  t58 := Tryz.underlying141
  a58 := Tryz.isAgg141
  z58 := Tryz.sizeOf141
  v58 := Tryz.zeroValue141
  i58 := by kernel_rfl
  t60 := Tryz.underlying154
  a60 := Tryz.isAgg154
  z60 := Tryz.sizeOf154
  v60 := Tryz.zeroValue154
  i60 := by kernel_rfl
  t64 := Tryz.underlying158
  a64 := Tryz.isAgg158
  z64 := Tryz.sizeOf158
  v64 := Tryz.zeroValue158
  i64 := by kernel_rfl
  t66 := Tryz.underlying175
  a66 := Tryz.isAgg175
  z66 := Tryz.sizeOf175
  v66 := Tryz.zeroValue175
  i66 := by kernel_rfl
  t67 := Tryz.underlying176
  a67 := Tryz.isAgg176
  z67 := Tryz.sizeOf176
  v67 := Tryz.zeroValue176
  i67 := by kernel_rfl
  t75 := Tryz.underlying203
  a75 := Tryz.isAgg203
  z75 := Tryz.sizeOf203
  v75 := Tryz.zeroValue203
  i75 := by kernel_rfl
  t76 := Tryz.underlying204
  a76 := Tryz.isAgg204
  z76 := Tryz.sizeOf204
  v76 := Tryz.zeroValue204
  i76 := by kernel_rfl
  t77 := Tryz.underlying205
  a77 := Tryz.isAgg205
  z77 := Tryz.sizeOf205
  v77 := Tryz.zeroValue205
  i77 := by kernel_rfl
  t78 := Tryz.underlying185
  a78 := Tryz.isAgg185
  z78 := Tryz.sizeOf185
  v78 := Tryz.zeroValue185
  i78 := by kernel_rfl
  t79 := Tryz.underlying206
  a79 := Tryz.isAgg206
  z79 := Tryz.sizeOf206
  v79 := Tryz.zeroValue206
  i79 := by kernel_rfl
  t80 := Tryz.underlying207
  a80 := Tryz.isAgg207
  z80 := Tryz.sizeOf207
  v80 := Tryz.zeroValue207
  i80 := by kernel_rfl
  t82 := Tryz.underlying209
  a82 := Tryz.isAgg209
  z82 := Tryz.sizeOf209
  v82 := Tryz.zeroValue209
  i82 := by kernel_rfl }
end Go.Proofs
namespace Go.Proofs.YtnoolgbbpekomaaGreatDoor.So
open Go.Shelf Go.RowKit Go.Lib Go.Sort YtnoolgbbpekomaaGreatDoorW.PrintWords YtnoolgbbpekomaaGreatDoorW.PrintLast YtnoolgbbpekomaaGreatDoorW.PrintMore Fr Tr Sd Nn Rp No Gp Gw
set_option linter.unusedVariables false
set_option linter.unusedSimpArgs false
noncomputable def siT : TypeInfo := (Tryz.prog.info? 80).get (by kernel_rfl)
noncomputable def siE : TypeInfo := (Tryz.prog.info? 77).get (by kernel_rfl)
theorem siK (n : Nat) (h2 : 2 ≤ n) : Lib.swapperK n siE 11 = 5 := by
  have a : siE.hasPointers = false := by kernel_rfl
  have b : siE.bytes = 8 := by kernel_rfl
  have c : (n == 0) = false := by simp; omega
  have d : (n == 1) = false := by simp; omega
  simp [Lib.swapperK, a, b, c, d]
set_option maxHeartbeats 2000000 in
theorem less_calls (blk off c Bs size : Nat) (W : World) (G : Nat → Int) (hs : W.cell? ⟨Bs, 0, none⟩ = some (.slice (some ⟨blk, off, none⟩) size c))
    (hc : ∀ t, t < size → W.cell? ⟨blk, off + t, none⟩ = some (.int .u64 (G t))) (i j : Nat) (hi : i < size) (hj : j < size) (_hsz : size < 4611686018427387904) :
    Calls Tryz.prog 59 #[.int .i64 i, .int .i64 j, .pointer (some ⟨Bs, 0, none⟩)] W fun e w' => e = .returned (.bool (decide (G i < G j))) ∧ ∃ q, w' = W.drewN q := by
  have ci := hc i hi
  have cj := hc j hj
  go_enter Tryz.func59, Tryz.ntmps59
  go_wp2
  go_quiet (fail)
  go_wp2
  go_ret
  exact ⟨rfl, nq, rfl⟩
set_option maxHeartbeats 2000000 in
theorem sort_calls (blk c Bs : Nat) (d : Array Int) (h2 : 2 ≤ d.size) (hsz : d.size < 4611686018427387904) (w : World) (hB : w.cell? ⟨Bs, 0, none⟩ = some (.slice (some ⟨blk, 0, none⟩) d.size c)) (hne : Bs ≠ blk) (hBs : Bs < w.heap.size) (hH : Holds (Value.int .u64) w blk 0 d) (hblk : blk < w.heap.size) :
    Calls Tryz.prog 58 #[.iface 80 (.slice (some ⟨blk, 0, none⟩) d.size c), .func (.func 59) #[] #[.pointer (some ⟨Bs, 0, none⟩)]] w fun e w' =>
      e = .returned (.tuple #[]) ∧ ∃ d' n os, PermIn 0 d.size d d' ∧ SortedIn ltInt 0 d.size d' ∧ w' = grow (putRow (Value.int .u64) (Sort.ahead w n) blk 0 d') os := by
  have hless : LessReads Tryz.prog 59 #[.pointer (some ⟨Bs, 0, none⟩)] (Value.int .u64) ltInt blk 0 d.size w := by
    intro m os dk hs i j hi hj
    have e : sortWorld (Value.int .u64) w blk 0 m dk os = putRow (Value.int .u64) (grow (Sort.ahead w m) os) blk 0 dk := by
      unfold sortWorld; rw [putRow_grow _ (Sort.ahead w m) _ blk 0 _ hblk]
    have hHg : Holds (Value.int .u64) (grow (Sort.ahead w m) os) blk 0 d := holds_grow _ _ _ blk 0 d hblk (holds_ahead _ _ _ _ _ _ hH)
    refine less_calls blk 0 c Bs d.size _ (fun t => dk[t]!) ?_ (fun t ht => ?_) i j hi hj (by omega)
    · rw [e, cell?_putRow_other _ _ blk 0 dk _ (Or.inl hne), cell?_grow _ _ _ (by exact hBs)]
      exact hB
    · rw [e]; exact cell?_putRow _ _ blk 0 d dk hHg hs t (by omega)
  have hS := Any.sort_Slice_sorted Tryz.laysGg6 80 77 siT siE (by kernel_rfl) (by kernel_rfl) (by kernel_rfl) (by kernel_rfl) 11 (fun _ => by kernel_rfl) (by kernel_rfl) (fun _ => by kernel_rfl) (Value.int .u64) (fun _ => rfl) ltInt swo_ltInt 59 _
    (enters_of Tryz.func59 (by kernel_rfl) rfl) blk 0 c d h2 hsz 82 (by rw [siK _ h2]; kernel_rfl) true
    (fun args W => run_callFunc_extern Tryz.func82 (by kernel_rfl) (by kernel_rfl) (by kernel_rfl) (e := Extern.ReflectliteSwapper.swap true) (by kernel_rfl) args W) _ hless hH hblk
  exact hS
theorem tiny_calls (p : Option Addr) (n c : Nat) (h1 : n ≤ 1) (lf : Fn) (la lb : Array Value) (w : World) :
    Calls Tryz.prog 58 #[.iface 80 (.slice p n c), .func lf la lb] w fun e w' => e = .returned (.tuple #[]) ∧ ∃ os, w' = grow w os := by
  have k0 : Lib.swapperK n siE 11 = if n = 0 then 1 else 2 := by
    rcases (show n = 0 ∨ n = 1 by omega) with rfl | rfl <;> rfl
  rcases (show n = 0 ∨ n = 1 by omega) with rfl | rfl
  · exact Any.sort_Slice_tiny Tryz.laysGg6 80 77 siT siE (by kernel_rfl) (by kernel_rfl) (by kernel_rfl) (by kernel_rfl) 11 (fun _ => by kernel_rfl) p 0 c h1 78 (by rw [k0]; kernel_rfl) lf la lb w
  · exact Any.sort_Slice_tiny Tryz.laysGg6 80 77 siT siE (by kernel_rfl) (by kernel_rfl) (by kernel_rfl) (by kernel_rfl) 11 (fun _ => by kernel_rfl) p 1 c h1 79 (by rw [k0]; kernel_rfl) lf la lb w
theorem grow_blk (w : World) (os : Array Obj) (i : Nat) (h : i < w.heap.size) : (grow w os).heap[i]? = w.heap[i]? := by
  simp only [grow]
  rw [Array.getElem?_append_left h]
theorem kp_grow (w : World) (os : Array Obj) (S : Nat → Prop) : Kp w (grow w os) S :=
  ⟨⟨rfl, rfl, rfl, by simp, fun i hi => absurd hi (Nat.not_lt_zero _)⟩, fun i hi _ => grow_blk w os i hi⟩
theorem put_blk (w : World) (n g : Nat) (d : Array Int) (os : Array Obj) (i : Nat) (hi : i < w.heap.size) (hne : i ≠ g) : (grow (putRow (Value.int .u64) (Sort.ahead w n) g 0 d) os).heap[i]? = w.heap[i]? := by
  rw [grow_blk _ _ _ (by simpa [putRow, mapBlock, Sort.ahead] using hi)]
  simp [putRow, mapBlock, Sort.ahead, Array.getElem?_modify, Ne.symm hne]
theorem put_own (w : World) (n g : Nat) (d : Array Int) (os : Array Obj) (cur : Array Value) (hb : w.heap[g]? = some (.cells cur 77 (0, 0))) : (grow (putRow (Value.int .u64) (Sort.ahead w n) g 0 d) os).heap[g]? = some (.cells (putCells (Value.int .u64) 0 d cur) 77 (0, 0)) := by
  rw [grow_blk _ _ _ (by simpa [putRow, mapBlock, Sort.ahead] using blk_lt hb)]
  simp [putRow, mapBlock, Sort.ahead, Array.getElem?_modify, hb, onCells]
theorem kp_put (w : World) (n g : Nat) (d : Array Int) (os : Array Obj) : Kp w (grow (putRow (Value.int .u64) (Sort.ahead w n) g 0 d) os) (fun i => some g = some i) :=
  ⟨⟨rfl, rfl, rfl, by simp [putRow, mapBlock, Sort.ahead], fun i hi => absurd hi (Nat.not_lt_zero _)⟩, fun i hi hn => put_blk w n g d os i hi (fun e => hn (by rw [e]))⟩
theorem take_put (d : Array Int) (cur : Array Value) (h : d.size ≤ cur.size) : (putCells (Value.int .u64) 0 d cur).toList.take (d.size * 1) = encs (Value.int .u64) d.toList := by
  refine List.ext_getElem? (fun j => ?_)
  rw [Nat.mul_one, List.getElem?_take]
  by_cases hj : j < d.size
  · rw [if_pos hj]
    have hjc : j < cur.size := by omega
    simp [putCells, encs, hj, hjc]
  · rw [if_neg hj]
    simp [encs, Nat.le_of_not_lt hj]
def SortPost (w : World) (base : Nat) (v : Value) (L : List Int) (e : Ending) (w' : World) : Prop :=
  e = .returned (.tuple #[]) ∧ ∃ L' : List Int, L'.Perm L ∧ L'.Pairwise (· ≤ ·) ∧ (Kd.int .u64).R 77 w' base (fun _ => True) v L' ∧ Kp w w' (fun i => v.ownBlock = some i)
theorem sort_row {w : World} {base Bs : Nat} {v : Value} {L : List Int} (hr : (Kd.int .u64).R 77 w base (fun _ => True) v L) (hlen : L.length ≤ 1000000000000) (hB : w.cell? ⟨Bs, 0, none⟩ = some v) (hne : v.ownBlock ≠ some Bs) (hBs : Bs < w.heap.size) :
    Calls Tryz.prog 58 #[.iface 80 v, .func (.func 59) #[] #[.pointer (some ⟨Bs, 0, none⟩)]] w (SortPost w base v L) := by
  have tiny : ∀ p n c, v = .slice p n c → n ≤ 1 → L.length = n → Calls Tryz.prog 58 #[.iface 80 v, .func (.func 59) #[] #[.pointer (some ⟨Bs, 0, none⟩)]] w (SortPost w base v L) := fun p n c hv hn hl => by
    rw [hv]
    refine (tiny_calls p n c hn _ _ _ w).mono fun e w' ⟨he, os, hw⟩ => ⟨he, L, List.Perm.refl _, ?_, ?_, ?_⟩
    · match L, hl with
      | [], _ => exact .nil
      | [a], _ => exact List.pairwise_singleton _ _
      | a :: b :: t, hl => simp at hl; omega
    · rw [← hv, hw]
      exact Kd.R_step hr (fun k _ hk => grow_blk w os k hk)
    · rw [hw]; exact kp_grow w os _
  have ho := Kd.own_of_R (enc := Value.int .u64) (h1 := fun _ => rfl) hr
  rcases ho.2 with ⟨hv, h0⟩ | ⟨g, cap, cur, hv, hlo, hb, hc1, hc2, hc3, hc4⟩
  · exact tiny none 0 0 hv (by omega) h0
  · by_cases h2 : L.length ≤ 1
    · exact tiny _ _ _ hv h2 rfl
    · have hds : L.toArray.size = L.length := by simp
      have hH : Holds (Value.int .u64) w g 0 L.toArray := fun j hj => by
        rw [hds] at hj
        refine ⟨?_, blk_frozen hb _⟩
        rw [Nat.zero_add, blk_cell hb j]
        have h5 : (cur.toList.take (L.length * 1))[j]? = (encs (Value.int .u64) L)[j]? := by rw [hc4]
        rw [Nat.mul_one, List.getElem?_take, if_pos hj] at h5
        have : cur[j]? = cur.toList[j]? := by simp
        rw [this, h5]
        simp [encs, hj]
      subst hv
      have hgs : g < w.heap.size := blk_lt hb
      have hne2 : Bs ≠ g := fun e => hne (by rw [e]; rfl)
      have hS := sort_calls g cap Bs L.toArray (by rw [hds]; omega) (by rw [hds]; omega) w (by rw [hds]; exact hB) hne2 hBs hH hgs
      rw [hds] at hS
      refine hS.mono fun e w' ⟨he, d', n, os, hP, hSo, hw⟩ => ?_
      obtain ⟨p1, p2, p3⟩ := hP
      rw [hds] at p1
      have hd' : d'.toList.length = L.length := by simp [p1]
      have hperm : d'.toList.Perm L := by
        have e1 : (d'.extract 0 L.length).toList = d'.toList := by
          have : d'.extract 0 L.length = d' := by rw [← p1]; simp
          rw [this]
        have e2 : (L.toArray.extract 0 L.length).toList = L := by simp
        rw [e1, e2] at p3
        exact p3
      refine ⟨he, d'.toList, hperm, ?_, ?_, ?_⟩
      · rw [List.pairwise_iff_getElem]
        intro i j hi hj hij
        have := hSo i j (Nat.zero_le _) hij (by simpa [p1] using hj)
        simp only [ltInt, decide_eq_false_iff_not] at this
        have gi : d'[i]! = d'.toList[i] := by simp at hi; simp [hi]
        have gj : d'[j]! = d'.toList[j] := by simp at hj; simp [hj]
        rw [gi, gj] at this
        omega
      · rw [hw]
        refine Kd.R_of_own (xs := d'.toList) ⟨by simp [encs], .inr ⟨g, cap, putCells (Value.int .u64) 0 d' cur, ?_, hlo, put_own w n g d' os cur hb, ?_, hc2, ?_, ?_⟩⟩ (fun _ _ => trivial)
        · rw [hd']
        · rw [hd']; exact hc1
        · rw [← hc3]; simp [putCells]
        · have := take_put d' cur (by rw [p1, hc3]; omega)
          rw [← this]
          simp
      · rw [hw]
        exact (kp_put w n g d' os).mono (fun i hi => hi)
end Go.Proofs.YtnoolgbbpekomaaGreatDoor.So
namespace Go.Proofs.YtnoolgbbpekomaaGreatDoor.Id
open Go.RowKit YtnoolgbbpekomaaGreatDoorW.PrintWords YtnoolgbbpekomaaGreatDoorW.PrintLast YtnoolgbbpekomaaGreatDoorW.PrintMore Fr Tr Sd Nn Rp No Gp Gw YtnoolgbbpekomaaGreatDoor.So Rw
set_option linter.unusedVariables false
set_option linter.unusedSimpArgs false
theorem info77 : (Tryz.prog.info? 77).map (fun i => (i.zero, i.size, i.bytes)) = some (some (.int .u64 0), 1, 8) := by kernel_rfl
/-- How many numbers there are in all. -/
def total (σ : List Nd) : Nat := (σ.map fun n => n.ids.length).sum
theorem once_len : ∀ {L M : List Int}, L.Pairwise (· ≠ ·) → (∀ x ∈ L, x ∈ M) → L.length ≤ M.length
  | [], M, _, _ => Nat.zero_le _
  | a :: t, M, h, hs => by
    have ⟨h1, h2⟩ := List.pairwise_cons.1 h
    have ha := hs a List.mem_cons_self
    have ih := once_len (M := M.erase a) h2 (fun x hx => (List.mem_erase_of_ne (Ne.symm (h1 x hx))).2 (hs x (List.mem_cons_of_mem _ hx)))
    have := List.length_erase_of_mem ha
    have hp : 0 < M.length := List.length_pos_of_mem ha
    simp only [List.length_cons]
    omega
theorem hit_total {σ : List Nd} {p : Wy} {key : List Int} {L : List Int} (h : L.Pairwise (· ≠ ·)) (hs : ∀ i ∈ L, Hit σ p key i) : L.length ≤ total σ := by
  have e : total σ = (σ.flatMap fun n => n.ids).length := by
    unfold total
    rw [List.length_flatMap]
  rw [e]
  refine once_len h (fun x hx => ?_)
  obtain ⟨k, k1, r, k2, k3, k4⟩ := hs x hx
  exact List.mem_flatMap.2 ⟨k, k1, k4⟩
def IdPost (w : World) (σ : List Nd) (key : List Int) (e : Ending) (w' : World) : Prop :=
  ∃ v L, e = .returned v ∧ (Kd.int .u64).R 77 w' w.heap.size (fun _ => True) v L ∧ L.Pairwise (· < ·) ∧ (∀ i, i ∈ L ↔ Hit σ [] key i) ∧ Below w.heap.size w w'
def RelL (w : World) (Bs mb it : Nat) (es : List Ent) (ck : Nat) (k : Nat) (wr : World) : Prop :=
  ∃ (seen : Array Nat) (v : Value) (L : List Int), wr.heap[it]? = some (.mapIter (some mb) ck seen ck) ∧ wr.heap[mb]? = some (.map (rawM .u64 es) ck) ∧ wr.heap[Bs]? = some (.cells #[v] 80 (0, 0)) ∧ (Kd.int .u64).R 77 wr w.heap.size (fun _ => True) v L ∧ L.Pairwise (· ≠ ·) ∧ (∀ i, i ∈ L ↔ Seen es seen i) ∧ Below w.heap.size w wr ∧ k = unseen es seen
theorem sorted_once {L' L : List Int} (hp : L'.Perm L) (hs : L'.Pairwise (· ≤ ·)) (ho : L.Pairwise (· ≠ ·)) : L'.Pairwise (· < ·) := by
  have h2 : L'.Pairwise (· ≠ ·) := (hp.pairwise_iff (fun h => Ne.symm h)).2 ho
  exact (List.Pairwise.and hs h2).imp (fun ⟨h1, h2⟩ => by omega)
theorem row_not {w : World} {base b : Nat} {v : Value} {L : List Int} {o : Obj} (hr : (Kd.int .u64).R 77 w base (fun _ => True) v L) (hb : w.heap[b]? = some o) (hn : ∀ cells, o ≠ .cells cells 77 (0, 0)) : some b ≠ v.ownBlock := fun e => by
  obtain ⟨_, _, _, q, hq, cells, hc⟩ := (Kd.R_bound (Kd.R_tight rfl hr)).1 b e.symm
  have : q ∈ [77] := hq
  simp at this
  subst this
  rw [hb] at hc
  injection hc with hc
  exact hn cells hc
set_option maxHeartbeats 2000000 in
set_option maxRecDepth 100000 in
theorem ids_calls {w : World} {base tb cap : Nat} {σ : List Nd} {A : Option Addr} {key : List Int} (h : St w base σ) (ht : Top w tb σ) (hkb : ∀ b ∈ key, 0 ≤ b ∧ b < 256) (hC : (Kd.int .u8).C w A key.length key) (hcap : key.length ≤ cap) (hc47 : cap ≤ 9223372036854775807) (htot : total σ ≤ 1000000000000) :
    Calls Tryz.prog 48 #[ptr tb, .slice A key.length cap] w (IdPost w σ key) := by
  have b1 : Below w.heap.size w (w.alloc (.cells #[.slice none 0 0] 80)) := (Below.refl _ _).alloc (Nat.le_refl _) _
  have hget := getTop_calls (h.below b1) (ht.below b1) hkb (Kd.C_below hC b1) hcap hc47
  have HGET := Lib.hid hget
  have hnew := blk_new w (.cells #[.slice none 0 0] 80)
  have HNEW := Lib.hid hnew
  have HTOT := Lib.hid htot
  clear h ht hkb hC b1 hget hnew htot
  simp only [ptr] at HGET ⊢
  go_enter Tryz.func48, Tryz.ntmps48
  go_wp2_with fail
  refine HGET.out.mono ?_
  rintro e w2 ⟨mb, rfl, hmb, hset, hb2⟩
  obtain ⟨es, ck, hs1, hs2⟩ := hset
  have hbn : w2.heap[w.heap.size]? = some (.cells #[.slice none 0 0] 80 (0, 0)) := (hb2.block _ (by simp)).trans HNEW.out
  have hb3 : Below w.heap.size w w2 := ((Below.refl _ _).alloc (Nat.le_refl _) _).trans (hb2.mono (by simp))
  have HBN := Lib.hid hbn
  have HB3 := Lib.hid hb3
  have HS1 := Lib.hid hs1
  have HS2 := Lib.hid hs2
  have hmb2 : w.heap.size < mb := by simp at hmb; omega
  have hlt : mb < w2.heap.size := blk_lt hs1.blk
  clear hmb hs1 hs2 hb2 hbn hb3 HGET HNEW
  go_wp2_with (at_range; refine wpL_range _ rfl _ rfl Tryz.underlying94 rfl HS1.out.blk ?_; go_frame)
  have hitm : w2.heap.size ≠ mb := by omega
  go_loopg [] (unseen es #[]) (fun k wx => RelL w w.heap.size mb w2.heap.size es ck k wx)
  case atStart => exact ⟨#[], .slice none 0 0, [], blk_new w2 _, up1 HS1.out.blk, up1 HBN.out, Kd.R_nil _ _ _ _ _, .nil, fun i => ⟨fun hi => (by cases hi), fun hi => absurd hi (seen_none es i)⟩, HB3.out.alloc HB3.out.size _, rfl⟩
  case round =>
    obtain ⟨seen, v, L, hit, hmr, hbs, hrow, hon, hmem, hbl, hk⟩ := hrel
    have hll : L.length ≤ total σ := hit_total hon (fun i hi => by
      obtain ⟨x, x1, x2, _⟩ := (hmem i).1 hi
      exact (HS2.out i).1 (has_mem.2 ⟨x, x1, x2⟩))
    have hll2 : L.length ≤ 1000000000000 := Nat.le_trans hll HTOT.out
    have HIT := Lib.hid hit
    have HMR := Lib.hid hmr
    have HBS := Lib.hid hbs
    have HROW := Lib.hid hrow
    have HON := Lib.hid hon
    have HMEM := Lib.hid hmem
    have HBL := Lib.hid hbl
    have HK := Lib.hid hk
    have hcell : wr.cell? ⟨w.heap.size, 0, none⟩ = some v := blk_cell HBS.out 0
    clear hit hmr hbs hrow hon hmem hbl hk hll
    go_upto_region 4 with (at_next; refine wpL_next _ rfl _ rfl ck seen rfl HIT.out HMR.out hitm HS1.out.clock (Nat.le_refl _) HS1.out.born (fun hdone => ?_) (fun x hx hns w6 hw6 hen => ?_))
    · have HD := Lib.hid hdone
      have hsort := sort_row HROW.out hll2 hcell (fun e => row_not HROW.out HBS.out (fun cells h => by cases h) e.symm) (blk_lt HBS.out)
      have HSORT := Lib.hid hsort
      clear hdone hsort
      refine HSORT.out.mono ?_
      rintro e w8 ⟨rfl, L', hp, hso, hr8, hk8⟩
      have hc8 : w8.cell? ⟨w.heap.size, 0, none⟩ = some v := blk_cell (hk8.blk HBS.out (fun e => row_not HROW.out HBS.out (fun cells h => by cases h) e.symm)) 0
      have hb8 : Below w.heap.size w w8 := (HBL.out).trans (hk8.toBelowB HBL.out.size (fun i hi => Kd.R_base HROW.out i hi))
      have HP := Lib.hid hp
      have HSO := Lib.hid hso
      have HR8 := Lib.hid hr8
      have HB8 := Lib.hid hb8
      clear hp hso hr8 hk8 hb8 hcell HSORT
      go_wp2_with fail
      go_ret
      refine ⟨v, L', rfl, HR8.out, sorted_once HP.out HSO.out HON.out, fun i => ?_, HB8.out⟩
      rw [HP.out.mem_iff, HMEM.out i, seen_done HD.out i, HS2.out i]
    · have bl6 : Below w.heap.size w (setO w6 w2.heap.size (Obj.mapIter (some mb) ck (seen.push x.2.2) ck)) := by
        rcases hw6 with rfl | rfl
        · exact setO_below HBL.out (by omega) _
        · exact setO_below HBL.out.drew (by omega) _
      have hi6 : (setO w6 w2.heap.size (Obj.mapIter (some mb) ck (seen.push x.2.2) ck)).heap[w2.heap.size]? = some (.mapIter (some mb) ck (seen.push x.2.2) ck) := by
        rcases hw6 with rfl | rfl
        · exact setO_same HIT.out
        · exact setO_same (w := wr.drew) HIT.out
      have hg6 : ∀ i, i ≠ w2.heap.size → (setO w6 w2.heap.size (Obj.mapIter (some mb) ck (seen.push x.2.2) ck)).heap[i]? = wr.heap[i]? := fun i hi => by
        rcases hw6 with rfl | rfl
        · exact setO_far _ _ hi
        · exact setO_far wr.drew _ hi
      have hm6 := (hg6 mb (Ne.symm hitm)).trans HMR.out
      have hs6 := (hg6 w.heap.size (by omega)).trans HBS.out
      have hr6 : (Kd.int .u64).R 77 (setO w6 w2.heap.size (Obj.mapIter (some mb) ck (seen.push x.2.2) ck)) w.heap.size (fun _ => True) v L :=
        Kd.R_mono (Kd.R_move (Kd.R_tight rfl HROW.out) (fun i hi => hg6 i (fun e => row_not HROW.out HIT.out (fun cells h => by cases h) (by rw [← e]; exact hi)))) (fun _ _ => trivial)
      have h3u := unseen_push HS1.out.born hx hns
      have hc6 : (setO w6 w2.heap.size (Obj.mapIter (some mb) ck (seen.push x.2.2) ck)).cell? ⟨w.heap.size, 0, none⟩ = some v := blk_cell hs6 0
      have hf6 : (setO w6 w2.heap.size (Obj.mapIter (some mb) ck (seen.push x.2.2) ck)).frozen? ⟨w.heap.size, 0, none⟩ = false := blk_frozen hs6 0
      have hxl : x.1 ∉ L := fun hin => by
        obtain ⟨z, z1, z2, z3⟩ := (HMEM.out x.1).1 hin
        have : z = x := key_one HS1.out.once z1 hx z2
        rw [this] at z3
        exact hns z3
      have BL6 := Lib.hid bl6
      have HI6 := Lib.hid hi6
      have HM6 := Lib.hid hm6
      have HS6 := Lib.hid hs6
      have HR6 := Lib.hid hr6
      have H3U := Lib.hid h3u
      have HXL := Lib.hid hxl
      have SP := Lib.hid (fun i => seen_push HS1.out.born (seen := seen) hx i)
      clear bl6 hi6 hg6 hm6 hs6 hr6 h3u hxl hns hx hcell
      obtain ⟨W6, hW6⟩ : ∃ W6, W6 = setO w6 w2.heap.size (Obj.mapIter (some mb) ck (seen.push x.2.2) ck) := ⟨_, rfl⟩
      rw [← hW6] at hen BL6 HI6 HM6 HS6 HR6 hc6 hf6 ⊢
      clear hW6 hw6
      have hbs6 : w.heap.size < W6.heap.size := blk_lt HS6.out
      go_wp2_with ((with_reducible refine gate_builtin (b := .append) (xs := #[.tmp 15, .tmp 17]) rfl ?_); at_builtin; refine Kd.R_append (Kd.int .u64) (w0 := w) w.heap.size rfl (.tmp 15) (.tmp 17) 80 77 (.int .u64 0) 8 rfl Tryz.underlying80 info77 rfl (by decide) (by omega) v L x.1 [.int .u64 x.1] (fun _ => True) (fun _ => False) rfl rfl ?aP (fun _ hk => hk.elim) ?aF ?aO ?aB ?aS ?aL ?_; (case aP => exact rfl); (case aB => exact BL6.out); (case aF => exact (fun _ _ => trivial)); (case aO => exact HR6.out); (case aS => omega); (case aL => omega); intro v8 w8 ho hb hg hat; obtain ⟨A8, c8, e8⟩ := Kd.R_slice ho; subst e8; have HO := Lib.hid ho; have HB8 := Lib.hid hb; have HG := Lib.hid hg; clear ho hb hg hat; have hs8 := (HG.out.block w.heap.size hbs6 (row_not HR6.out HS6.out (fun cells h => by cases h))).trans HS6.out; have HS8 := Lib.hid hs8; have hf8 := blk_frozen hs8 0; have hc8 := blk_cell hs8 0; clear hs8)
      go_roundg (unseen es (seen.push x.2.2))
      case measure => have := HK.out; have := H3U.out; omega
      case rel =>
        have g1 := (HG.out.block w2.heap.size (blk_lt HI6.out) (row_not HR6.out HI6.out (fun cells h => by cases h))).trans HI6.out
        have g2 := (HG.out.block mb (blk_lt HM6.out) (row_not HR6.out HM6.out (fun cells h => by cases h))).trans HM6.out
        have hO := HO.out
        simp only [List.length_append, List.length_singleton] at hO
        refine ⟨seen.push x.2.2, _, L ++ [x.1], (Below.heap_setCell _ _ _ _ (by simp; omega)).trans g1, (Below.heap_setCell _ _ _ _ (by simp; omega)).trans g2, blk_put HS8.out 0 _ rfl, Kd.R_set hO HS8.out (fun q hq => by have : q ∈ [77] := hq; simp at this; omega) 0 _, ?_, fun i => ?_, HB8.out.setCell (Nat.le_refl _) _, rfl⟩
        · refine List.pairwise_append.2 ⟨HON.out, List.pairwise_singleton _ _, fun a ha b hb2 e => ?_⟩
          rw [List.mem_singleton.1 hb2] at e
          rw [e] at ha
          exact HXL.out ha
        · rw [List.mem_append, HMEM.out i, SP.out i, List.mem_singleton]
end Go.Proofs.YtnoolgbbpekomaaGreatDoor.Id
namespace Go.Proofs.YtnoolgbbpekomaaGreatDoor.Ps
open Go.RowKit YtnoolgbbpekomaaGreatDoorW.PrintWords YtnoolgbbpekomaaGreatDoorW.PrintLast YtnoolgbbpekomaaGreatDoorW.PrintMore Fr PFnHoles
set_option linter.unusedVariables false
set_option linter.unusedSimpArgs false
theorem info9 : (Tryz.prog.info? 9).map (fun i => (i.zero, i.size, i.bytes)) = some (some (.string ⟨#[]⟩), 1, 16) := by kernel_rfl
/-- The first place of a byte, counted from n; or -1. -/
def ix (c : UInt8) : List UInt8 → Nat → Int
  | [], _ => -1
  | a :: t, n => if a = c then n else ix c t (n + 1)
/-- The parts between bytes. -/
def splitL (c : UInt8) : List UInt8 → List (List UInt8)
  | [] => [[]]
  | a :: t => if a = c then [] :: splitL c t else match splitL c t with
    | [] => [[a]]
    | h :: r => (a :: h) :: r
theorem split_some (c : UInt8) : ∀ l, ∃ h r, splitL c l = h :: r
  | [] => ⟨[], [], rfl⟩
  | a :: t => by
    obtain ⟨h, r, e⟩ := split_some c t
    unfold splitL
    by_cases h1 : a = c
    · rw [if_pos h1]; exact ⟨_, _, rfl⟩
    · rw [if_neg h1, e]; exact ⟨_, _, rfl⟩
theorem split_len (c : UInt8) : ∀ l, (splitL c l).length ≤ l.length + 1
  | [] => by simp [splitL]
  | a :: t => by
    have ih := split_len c t
    obtain ⟨h, r, e⟩ := split_some c t
    rw [e] at ih
    unfold splitL
    by_cases h1 : a = c
    · rw [if_pos h1, e]; simp at ih ⊢; omega
    · rw [if_neg h1, e]; simp at ih ⊢; omega
theorem ix_split (c : UInt8) : ∀ (l : List UInt8) (n : Nat), (ix c l n = -1 ∧ splitL c l = [l]) ∨ ∃ i, ix c l n = ((n + i : Nat) : Int) ∧ i < l.length ∧ splitL c l = l.take i :: splitL c (l.drop (i + 1))
  | [], n => .inl ⟨rfl, rfl⟩
  | a :: t, n => by
    by_cases h1 : a = c
    · refine .inr ⟨0, ?_, Nat.succ_pos _, ?_⟩
      · rw [ix, if_pos h1]; rfl
      · rw [splitL, if_pos h1]; rfl
    · rcases ix_split c t (n + 1) with ⟨h2, h3⟩ | ⟨i, h2, h3, h4⟩
      · refine .inl ⟨?_, ?_⟩
        · rw [ix, if_neg h1, h2]
        · rw [splitL, if_neg h1, h3]
      · refine .inr ⟨i + 1, ?_, ?_, ?_⟩
        · rw [ix, if_neg h1, h2]; congr 1; omega
        · simp only [List.length_cons]; omega
        · rw [splitL, if_neg h1, h4]; rfl
theorem toL (s : ByteArray) : s.toList = s.data.toList := ByteArray.toList_eq s
theorem one_toList (c : UInt8) : (⟨#[c]⟩ : ByteArray).toList = [c] := by rw [toL]
theorem ext_list (s : ByteArray) (a b : Nat) : (s.extract a b).data.toList = (s.data.toList.take b).drop a := by
  simp [List.extract_eq_take_drop, List.drop_take]
theorem index_l0 (c : UInt8) (s : ByteArray) (hs : s.size ≤ 4611686018427387904) : ∀ (m x k : Nat), m + x = s.size → m + 1 ≤ k → badgertrie_zzIndex.l0 k s ⟨#[c]⟩ (x : Int) = some (ix c (s.data.toList.drop x) x) := by
  have hlen : s.data.toList.length = s.size := rfl
  have h1 : ((⟨#[c]⟩ : ByteArray).size : Int) = 1 := rfl
  have hw : ∀ x : Nat, x ≤ s.size → wrap64 ((x : Int) + 1) = (x : Int) + 1 := fun x hx => by unfold Go.RowKit.wrap64; omega
  intro m
  induction m with
  | zero =>
    intro x k h hk
    obtain ⟨k, rfl⟩ := Nat.exists_eq_succ_of_ne_zero (n := k) (by omega)
    rw [badgertrie_zzIndex.l0, h1, hw x (by omega), if_neg (by omega), List.drop_of_length_le (by omega)]
    rfl
  | succ m ih =>
    intro x k h hk
    obtain ⟨k, rfl⟩ := Nat.exists_eq_succ_of_ne_zero (n := k) (by omega)
    have hx : x < s.data.toList.length := by omega
    rw [badgertrie_zzIndex.l0, h1, hw x (by omega), if_pos (by omega), if_pos (by omega), if_pos (by omega), List.drop_eq_getElem_cons hx, ix, toL, ext_list, one_toList]
    have e1 : ((x : Int)).toNat = x := by omega
    have e2 : ((x : Int) + 1).toNat = x + 1 := by omega
    have e3 : (s.data.toList.take (x + 1)).drop x = [s.data.toList[x]] := by
      rw [List.take_succ_eq_append_getElem hx, List.drop_left' (by simp; omega)]
    rw [e1, e2, e3]
    by_cases h2 : s.data.toList[x] = c
    · rw [if_pos (by rw [h2]), if_pos h2]
    · rw [if_neg (fun e => h2 (by simpa using e)), if_neg h2]
      have := ih (x + 1) k (by omega) (by omega)
      rw [← this]
      congr 1
theorem index_f (c : UInt8) (s : ByteArray) (hs : s.size ≤ 4611686018427387904) : badgertrie_zzIndex.f (s.size + 1) s ⟨#[c]⟩ = some (ix c s.data.toList 0) :=
  index_l0 c s hs s.size 0 (s.size + 1) rfl (Nat.le_refl _)
def SplitPost (w : World) (c : UInt8) (s : ByteArray) (e : Ending) (w' : World) : Prop :=
  ∃ v L, e = .returned v ∧ Kd.string.R 9 w' w.heap.size (fun _ => True) v L ∧ L.map (fun x => x.data.toList) = splitL c s.data.toList ∧ Below w.heap.size w w'
def RelS (w : World) (c : UInt8) (s : ByteArray) (k : Nat) (v0 v5 : Value) (wr : World) : Prop :=
  ∃ (sc : ByteArray) (L : List ByteArray), v0 = .string sc ∧ Kd.string.R 9 wr w.heap.size (fun _ => True) v5 L ∧ L.map (fun x => x.data.toList) ++ splitL c sc.data.toList = splitL c s.data.toList ∧ sc.size ≤ s.size ∧ Below w.heap.size w wr ∧ k = sc.size
set_option maxHeartbeats 1000000 in
set_option maxRecDepth 100000 in
theorem split_calls (c : UInt8) (s : ByteArray) (w : World) (hs : s.size ≤ 1099511627776) : Calls Tryz.prog 61 #[.string s, .string ⟨#[c]⟩] w (SplitPost w c s) := by
  have HS := Lib.hid hs
  clear hs
  go_enter Tryz.func61, Tryz.ntmps61
  go_wp2_with fail
  go_loopg [0, 5] s.size (fun kq v0 v5 wx => RelS w c s kq v0 v5 wx)
  case atStart => exact ⟨s, [], rfl, Kd.R_nil _ _ _ _ _, rfl, Nat.le_refl _, Below.refl _ _, rfl⟩
  case round =>
    obtain ⟨sc, L, rfl, hrow, hsp, hle, hbl, hk⟩ := hrel
    have hlen : L.length ≤ s.size := by
      have h1 := congrArg List.length hsp
      have h2 := split_len c s.data.toList
      obtain ⟨p, r, e⟩ := split_some c sc.data.toList
      rw [e, List.length_append, List.length_map, List.length_cons] at h1
      have h3 : s.data.toList.length = s.size := rfl
      omega
    have hidx := index_f c sc (by have := HS.out; omega)
    have hlim : (L.length + 1) * 16 ≤ 140737488355328 := by have := HS.out; omega
    have hcase := ix_split c sc.data.toList 0
    obtain ⟨A, cp, rfl⟩ := Kd.R_slice hrow
    have HROW := Lib.hid hrow
    have HSP := Lib.hid hsp
    have HBL := Lib.hid hbl
    have HK := Lib.hid hk
    have HLIM := Lib.hid hlim
    have HLE := Lib.hid hle
    clear hrow hsp hbl hk hlim hle hlen
    go_wp2_with fail
    refine (badgertrie_zzIndex.calls (sc.size + 1) sc ⟨#[c]⟩ _ wr hidx).mono ?_
    rintro e w2 ⟨rfl, ⟨m, rfl⟩⟩
    have HR2 := Lib.hid (Kd.R_drewN HROW.out m)
    have HB2 := Lib.hid (pw_below_drewN HBL.out m)
    generalize hw2 : wr.drewN m = w2 at *
    clear hw2 HROW HBL hidx
    rcases hcase with ⟨h1, h2⟩ | ⟨i, h1, h2, h3⟩
    · have H2 := Lib.hid h2
      clear h2
      rw [h1]
      go_wp2_with ((with_reducible refine gate_builtin (b := .append) (xs := #[.tmp 42, .tmp 44]) rfl ?_); at_builtin; refine Kd.R_append Kd.string (w0 := w) w.heap.size rfl (.tmp 42) (.tmp 44) 35 9 (.string ⟨#[]⟩) 16 rfl Tryz.underlying35 info9 rfl (by decide) (by omega) _ L sc [.string sc] (fun _ => True) (fun _ => False) rfl rfl ?aP (fun _ hk => hk.elim) ?aF ?aO ?aB ?aS ?aL ?_; (case aP => exact rfl); (case aB => exact HB2.out); (case aF => exact (fun _ _ => trivial)); (case aO => exact HR2.out); (case aS => exact HB2.out.size); (case aL => exact HLIM.out); intro v8 w8 ho hb hg hat; have HO := Lib.hid ho; have HB8 := Lib.hid hb; clear ho hb hg hat)
      go_ret
      refine ⟨v8, L ++ [sc], rfl, HO.out, ?_, HB8.out⟩
      rw [List.map_append, ← HSP.out, H2.out]
      rfl
    · have H3 := Lib.hid h3
      clear h3
      rw [h1]
      have hi1 : i < sc.size := h2
      have hbig := HS.out
      have hle := HLE.out
      have hsz1 : (sc.size : Int) ≤ 9223372036854775807 := by omega
      go_wp2_with ((with_reducible refine gate_builtin (b := .append) (xs := #[.tmp 46, .tmp 50]) rfl ?_); at_builtin; refine Kd.R_append Kd.string (w0 := w) w.heap.size rfl (.tmp 46) (.tmp 50) 35 9 (.string ⟨#[]⟩) 16 rfl Tryz.underlying35 info9 rfl (by decide) (by omega) _ L (sc.extract 0 i) [.string (sc.extract 0 i)] (fun _ => True) (fun _ => False) rfl rfl ?aP (fun _ hk => hk.elim) ?aF ?aO ?aB ?aS ?aL ?_; (case aP => exact rfl); (case aB => exact HB2.out); (case aF => exact (fun _ _ => trivial)); (case aO => exact HR2.out); (case aS => exact HB2.out.size); (case aL => exact HLIM.out); intro v8 w8 ho hb hg hat; have HO := Lib.hid ho; have HB8 := Lib.hid hb; clear ho hb hg hat)
      go_roundg (sc.size - (i + 1))
      case measure => have := HK.out; omega
      case rel =>
        refine ⟨sc.extract (i + 1) sc.size, L ++ [sc.extract 0 i], ?_, HO.out, ?_, ?_, HB8.out, ?_⟩
        · rfl
        · have e1 : (sc.extract 0 i).data.toList = sc.data.toList.take i := by rw [ext_list]; rfl
          have e2 : (sc.extract (i + 1) sc.size).data.toList = sc.data.toList.drop (i + 1) := by
            have h5 : sc.data.toList.length ≤ sc.size := Nat.le_refl _
            rw [ext_list, List.take_of_length_le h5]
          rw [List.map_append, ← HSP.out, H3.out, e2, List.append_assoc]
          simp only [List.map_cons, List.map_nil, e1]
          rfl
        · simp; omega
        · simp
end Go.Proofs.YtnoolgbbpekomaaGreatDoor.Ps
namespace Go.Proofs.YtnoolgbbpekomaaGreatDoor.Pi
open Go.RowKit YtnoolgbbpekomaaGreatDoorW.PrintWords YtnoolgbbpekomaaGreatDoorW.PrintLast YtnoolgbbpekomaaGreatDoorW.PrintMore Fr PFnHoles Ps
set_option linter.unusedVariables false
set_option linter.unusedSimpArgs false
/-- The list made longer. -/
def padTo (n : Nat) (out : List Bool) : List Bool := out ++ List.replicate (n - out.length) false
theorem pad_done {n : Nat} {out : List Bool} (h : n ≤ out.length) : padTo n out = out := by
  unfold padTo
  rw [Nat.sub_eq_zero_of_le h]
  simp
theorem pad_more {n : Nat} {out : List Bool} (h : out.length < n) : padTo n (out ++ [false]) = padTo n out := by
  unfold padTo
  obtain ⟨k, hk⟩ : ∃ k, n - out.length = k + 1 := ⟨n - out.length - 1, by omega⟩
  have h2 : n - (out ++ [false]).length = k := by simp; omega
  rw [h2, hk, List.append_assoc]
  rfl
theorem pad_len (n : Nat) (out : List Bool) : (padTo n out).length = max n out.length := by
  unfold padTo
  simp
  omega
/-- Some places set. -/
def setN : List Bool → Nat → Nat → List Bool
  | out, _, 0 => out
  | out, a, m + 1 => setN (out.set a true) (a + 1) m
theorem setN_len : ∀ (m a : Nat) (out : List Bool), (setN out a m).length = out.length
  | 0, _, _ => rfl
  | m + 1, a, out => by rw [setN, setN_len m]; simp
/-- One range. -/
def oneR (out : List Bool) (e : List UInt8) : Option (List Bool × Bool) :=
  match splitL 45 (Lib.trimSpace e) with
  | [a] => match Lib.atoiAll (Lib.trimSpace a) with
    | .ok v => if 0 ≤ v ∧ v ≤ 1000000 then some (setN (padTo (v.toNat + 1) out) v.toNat 1, true) else none
    | _ => some (out, false)
  | [a, b] => match Lib.atoiAll (Lib.trimSpace b) with
    | .ok u => match Lib.atoiAll (Lib.trimSpace a) with
      | .ok v => if 0 ≤ v ∧ v ≤ 1000000 ∧ 0 ≤ u ∧ u ≤ 1000000 then some (setN (padTo (u.toNat + 1) (padTo (v.toNat + 1) out)) v.toNat (u.toNat + 1 - v.toNat), true) else none
      | _ => some (out, false)
    | _ => some (out, false)
  | _ => some (out, false)
/-- All ranges, up to the first that is refused. -/
def parseGo : List Bool → List (List UInt8) → Option (List Bool × Bool)
  | out, [] => some (out, true)
  | out, e :: t => match oneR out e with
    | none => none
    | some (o, false) => some (o, false)
    | some (o, true) => parseGo o t
/-- What a text of places says. -/
def parse (l : List UInt8) : Option (List Bool × Bool) := if l = [] then some ([], true) else parseGo [] (splitL 44 (Lib.trimSpace l))
/-- A text that the walks take. -/
def TOk (l : List UInt8) : Prop := l.length ≤ 1000000000000 ∧ ∀ b ∈ l, b.toNat < 128
theorem TOk.sub {l l' : List UInt8} (h : TOk l) (hs : l'.Sublist l) : TOk l' := ⟨Nat.le_trans hs.length_le h.1, fun b hb => h.2 b (hs.subset hb)⟩
theorem trim_sub (l : List UInt8) : (Lib.trimSpace l).Sublist l := by
  unfold Lib.trimSpace
  have h1 := List.dropWhile_sublist (l := l) Lib.isSp
  have h2 := List.dropWhile_sublist (l := (l.dropWhile Lib.isSp).reverse) Lib.isSp
  have h3 := h2.reverse
  rw [List.reverse_reverse] at h3
  exact h3.trans h1
theorem split_sub (c : UInt8) : ∀ (l p : List UInt8), p ∈ splitL c l → p.Sublist l
  | [], p, hp => by
    simp only [splitL, List.mem_singleton] at hp
    subst hp
    exact List.Sublist.refl _
  | a :: t, p, hp => by
    have ih := split_sub c t
    obtain ⟨h, r, e⟩ := split_some c t
    rw [e] at ih
    unfold splitL at hp
    by_cases h1 : a = c
    · rw [if_pos h1, e] at hp
      rcases List.mem_cons.1 hp with rfl | hp
      · exact List.nil_sublist _
      · exact (ih p hp).cons _
    · rw [if_neg h1, e] at hp
      rcases List.mem_cons.1 hp with rfl | hp
      · exact (ih h List.mem_cons_self).cons_cons _
      · exact (ih p (List.mem_cons_of_mem _ hp)).cons _
theorem TOk.trim {l : List UInt8} (h : TOk l) : TOk (Lib.trimSpace l) := h.sub (trim_sub l)
theorem TOk.part {c : UInt8} {l p : List UInt8} (h : TOk l) (hp : p ∈ splitL c l) : TOk p := h.sub (split_sub c l p hp)
/-- What is laid before the program runs, as far as these texts ask. -/
structure Laid (w : World) : Prop where
  tab : Lib.TabIs Tryz.prog w "strings.asciiSpace" .u8 Lib.asciiSpaceTab
  syn : ∃ te pe, w.cell? ⟨2, 0, none⟩ = some (.iface te pe)
  ran : ∃ te pe, w.cell? ⟨3, 0, none⟩ = some (.iface te pe)
theorem cell_old {w w' : World} {a : Addr} {v : Value} (hb : Below w.heap.size w w') (h : w.cell? a = some v) : w'.cell? a = some v := by
  have hlt : a.block < w.heap.size := by
    rcases Nat.lt_or_ge a.block w.heap.size with h' | h'
    · exact h'
    · unfold World.cell? at h
      rw [Array.getElem?_eq_none h'] at h
      simp at h
  rw [hb.cell hlt]
  exact h
theorem Laid.below {w w' : World} (h : Laid w) (hb : Below w.heap.size w w') : Laid w' := by
  obtain ⟨a, b, c⟩ := h.syn
  obtain ⟨a2, b2, c2⟩ := h.ran
  exact ⟨Lib.tabBelow_of_tabIs h.tab w' hb, ⟨a, b, cell_old hb c⟩, ⟨a2, b2, cell_old hb c2⟩⟩
theorem new_calls (s : ByteArray) (w : World) : Calls Tryz.prog 63 #[.string s] w fun e w' => ∃ b, e = .returned (.iface 124 (.pointer (some ⟨b, 0, none⟩))) ∧ Below w.heap.size w w' := by
  go_enter Tryz.func63, Tryz.ntmps63
  go_wp2
  go_ret
  exact ⟨_, rfl, (Below.refl _ _).alloc (Nat.le_refl _) _⟩
theorem trim_calls {s : ByteArray} {w : World} (hl : Laid w) (hs : TOk s.data.toList) : Calls Tryz.prog 62 #[.string s] w fun e w' => e = .returned (.string ⟨(Lib.trimSpace s.data.toList).toArray⟩) ∧ Below w.heap.size w w' := by
  have hsz : s.size ≤ 1000000000000 := hs.1
  refine (Tryz.strings_TrimSpace s w (by omega) (fun j b h => hs.2 b (List.mem_of_getElem? h)) hl.tab).mono ?_
  rintro e w' ⟨rfl, rfl⟩
  exact ⟨rfl, Lib.bytesWorld_below _ _ _⟩
/-- How Atoi ends. -/
def AtoiEnd (l : List UInt8) (e : Ending) : Prop := match Lib.atoiAll l with
  | .ok v => e = .returned (.tuple #[.int .i64 v, .nilIface])
  | _ => ∃ u t p, e = .returned (.tuple #[.int .i64 u, .iface t p])
theorem atoi_calls {s : ByteArray} {w : World} (hl : Laid w) (hs : TOk s.data.toList) : Calls Tryz.prog 64 #[.string s] w fun e w' => AtoiEnd s.data.toList e ∧ Below w.heap.size w w' := by
  have hsz : s.size ≤ 1000000000000 := hs.1
  unfold AtoiEnd
  cases h : Lib.atoiAll s.data.toList with
  | ok v =>
    refine (Tryz.strconv_Atoi_ok s (by omega) v h w).mono ?_
    rintro e w' ⟨rfl, rfl | ⟨t, rfl⟩⟩
    · exact ⟨rfl, Below.refl _ _⟩
    · exact ⟨rfl, Lib.bytesWorld_below _ _ _⟩
  | «syntax» =>
    obtain ⟨te, pe, hc⟩ := hl.syn
    refine (Tryz.strconv_Atoi_syntax s (by omega) h _ w hc (.inr ⟨te, pe, rfl⟩)).mono ?_
    rintro e w' ⟨n, rfl, _, _, hb⟩
    exact ⟨⟨_, _, _, rfl⟩, hb⟩
  | range =>
    obtain ⟨te, pe, hc⟩ := hl.ran
    refine (Tryz.strconv_Atoi_range s (by omega) h _ w hc (.inr ⟨te, pe, rfl⟩)).mono ?_
    rintro e w' ⟨n, rfl, _, _, hb⟩
    exact ⟨⟨_, _, _, rfl⟩, hb⟩
end Go.Proofs.YtnoolgbbpekomaaGreatDoor.Pi
namespace Go.Proofs.YtnoolgbbpekomaaGreatDoor.Pj
open Go.RowKit YtnoolgbbpekomaaGreatDoorW.PrintWords YtnoolgbbpekomaaGreatDoorW.PrintLast YtnoolgbbpekomaaGreatDoorW.PrintMore Fr PFnHoles Ps YtnoolgbbpekomaaGreatDoor.Pi
set_option linter.unusedVariables false
set_option linter.unusedSimpArgs false
theorem info4 : (Tryz.prog.info? 4).map (fun i => (i.zero, i.size, i.bytes)) = some (some (.bool false), 1, 1) := by kernel_rfl
/-- What the error is. -/
def ErrIs (ok : Bool) (v : Value) : Prop := if ok = true then v = .nilIface else ∃ t p, v = .iface t p
def ParsePost (w : World) (r : List Bool × Bool) (e : Ending) (w' : World) : Prop :=
  ∃ v ev, e = .returned (.tuple #[v, ev]) ∧ Kd.bool.R 4 w' w.heap.size (fun _ => True) v r.1 ∧ ErrIs r.2 ev ∧ Below w.heap.size w w'
def RelP (w2 : World) (parts : List (List UInt8)) (r : List Bool × Bool) (k : Nat) (v4 v22 : Value) (wr : World) : Prop :=
  ∃ (out : List Bool) (i : Nat), v22 = .int .i64 (i : Int) ∧ Kd.bool.R 4 wr w2.heap.size (fun _ => True) v4 out ∧ parseGo out (parts.drop i) = some r ∧ i ≤ parts.length ∧ out.length ≤ 1000001 ∧ Below w2.heap.size w2 wr ∧ k = parts.length - i
def RelQ (w2 : World) (n : Nat) (out : List Bool) (k : Nat) (v4 : Value) (wr : World) : Prop :=
  ∃ (cur : List Bool), Kd.bool.R 4 wr w2.heap.size (fun _ => True) v4 cur ∧ padTo n cur = padTo n out ∧ cur.length ≤ 1000001 ∧ Below w2.heap.size w2 wr ∧ k = n - cur.length
def RelI (w2 : World) (v4 : Value) (fin : List Bool) (len u : Nat) (k : Nat) (v14 : Value) (wr : World) : Prop :=
  ∃ (cur : List Bool) (i : Nat), v14 = .int .i64 (i : Int) ∧ Kd.bool.R 4 wr w2.heap.size (fun _ => True) v4 cur ∧ cur.length = len ∧ setN cur i (u + 1 - i) = fin ∧ Below w2.heap.size w2 wr ∧ k = u + 1 - i
/-- What a range ends as, once its numbers are known: E is the end, or -1. -/
def fill (out : List Bool) (v : Nat) (E : Int) : List Bool :=
  if E = -1 then setN (padTo (v + 1) out) v 1 else setN (padTo (E.toNat + 1) (padTo (v + 1) out)) v (E.toNat + 1 - v)
/-- How a part is split: the parts of it, and what its end is, where it has one. -/
inductive EndOk (parts : List (List UInt8)) : Int → Prop
  | none (a : List UInt8) (h : parts = [a]) : EndOk parts (-1)
  | some (a b : List UInt8) (u : Int) (h : parts = [a, b]) (hu : Lib.atoiAll (Lib.trimSpace b) = .ok u) : EndOk parts u
theorem step_done {out : List Bool} {e : List UInt8} {t : List (List UInt8)} {r : List Bool × Bool} (h : parseGo out (e :: t) = some r) (h1 : oneR out e = some (out, false)) : r = (out, false) := by
  unfold parseGo at h
  rw [h1] at h
  injection h with h
  exact h.symm
theorem step_on {out o : List Bool} {e : List UInt8} {t : List (List UInt8)} {r : List Bool × Bool} (h : parseGo out (e :: t) = some r) (h1 : oneR out e = some (o, true)) : parseGo o t = some r := by
  unfold parseGo at h
  rw [h1] at h
  exact h
theorem one_many {out : List Bool} {e a b c : List UInt8} {t : List (List UInt8)} (h : splitL 45 (Lib.trimSpace e) = a :: b :: c :: t) : oneR out e = some (out, false) := by
  unfold oneR
  rw [h]
theorem one_bad2 {out : List Bool} {e a b : List UInt8} (h : splitL 45 (Lib.trimSpace e) = [a, b]) (hb : ∀ u, Lib.atoiAll (Lib.trimSpace b) ≠ .ok u) : oneR out e = some (out, false) := by
  unfold oneR
  rw [h]
  dsimp only
  split
  · rename_i u hu; exact absurd hu (hb u)
  · rfl
theorem one_bad1 {out : List Bool} {e : List UInt8} {E : Int} {a : List UInt8} {P : List (List UInt8)} (h : splitL 45 (Lib.trimSpace e) = P) (hE : EndOk P E) (ha : P.head? = some a) (hb : ∀ u, Lib.atoiAll (Lib.trimSpace a) ≠ .ok u) : oneR out e = some (out, false) := by
  unfold oneR
  rw [h]
  cases hE with
  | none a' h' =>
    subst h'
    injection ha with ha
    subst ha
    dsimp only
    split
    · rename_i u hu; exact absurd hu (hb u)
    · rfl
  | some a' b u h' hu =>
    subst h'
    injection ha with ha
    subst ha
    dsimp only
    rw [hu]
    dsimp only
    split
    · rename_i u hu; exact absurd hu (hb u)
    · rfl
/-- What the parse of a range that has both numbers says. -/
theorem one_good {out : List Bool} {e : List UInt8} {E v : Int} {a : List UInt8} {P : List (List UInt8)} {t : List (List UInt8)} {r : List Bool × Bool} (h : splitL 45 (Lib.trimSpace e) = P) (hE : EndOk P E) (ha : P.head? = some a) (hv : Lib.atoiAll (Lib.trimSpace a) = .ok v) (hr : parseGo out (e :: t) = some r) :
    0 ≤ v ∧ v ≤ 1000000 ∧ (E = -1 ∨ 0 ≤ E ∧ E ≤ 1000000) ∧ parseGo (fill out v.toNat E) t = some r := by
  cases hE with
  | none a' h' =>
    subst h'
    injection ha with ha
    subst ha
    by_cases hc : 0 ≤ v ∧ v ≤ 1000000
    · have h1 : oneR out e = some (fill out v.toNat (-1), true) := by
        unfold oneR
        rw [h]
        dsimp only
        rw [hv]
        dsimp only
        rw [if_pos hc]
        rfl
      exact ⟨hc.1, hc.2, .inl rfl, step_on hr h1⟩
    · have h1 : oneR out e = none := by
        unfold oneR
        rw [h]
        dsimp only
        rw [hv]
        dsimp only
        rw [if_neg hc]
      unfold parseGo at hr
      rw [h1] at hr
      cases hr
  | some a' b u h' hu =>
    subst h'
    injection ha with ha
    subst ha
    by_cases hc : 0 ≤ v ∧ v ≤ 1000000 ∧ 0 ≤ E ∧ E ≤ 1000000
    · have h1 : oneR out e = some (fill out v.toNat E, true) := by
        unfold oneR
        rw [h]
        dsimp only
        rw [hu]
        dsimp only
        rw [hv]
        dsimp only
        rw [if_pos hc]
        unfold fill
        rw [if_neg (by omega)]
      exact ⟨hc.1, hc.2.1, .inr hc.2.2, step_on hr h1⟩
    · have h1 : oneR out e = none := by
        unfold oneR
        rw [h]
        dsimp only
        rw [hu]
        dsimp only
        rw [hv]
        dsimp only
        rw [if_neg hc]
      unfold parseGo at hr
      rw [h1] at hr
      cases hr
theorem fill_len (out : List Bool) (v : Nat) (E : Int) (h : out.length ≤ 1000001) (hv : v ≤ 1000000) (hE : E ≤ 1000000) : (fill out v E).length ≤ 1000001 := by
  unfold fill
  split
  · rw [setN_len, pad_len]; omega
  · rw [setN_len, pad_len, pad_len]; omega
theorem own_row {w : World} {base : Nat} {v : Value} {L : List Bool} (h : Kd.bool.R 4 w base (fun _ => True) v L) (hn : 0 < L.length) : ∃ g c cells, v = .slice (some ⟨g, 0, none⟩) L.length c ∧ w.heap[g]? = some (.cells cells 4 (0, 0)) ∧ base ≤ g := by
  have := Kd.own_of_R (enc := Value.bool) (h1 := fun _ => rfl) h
  rcases this.2 with ⟨_, h2⟩ | ⟨g, cap, cur, h3, h4, h5, _⟩
  · omega
  · exact ⟨g, cap, cur, h3, h5, h4⟩
end Go.Proofs.YtnoolgbbpekomaaGreatDoor.Pj
namespace Go.Proofs.YtnoolgbbpekomaaGreatDoor.Pk
open Go.RowKit YtnoolgbbpekomaaGreatDoorW.PrintWords YtnoolgbbpekomaaGreatDoorW.PrintLast YtnoolgbbpekomaaGreatDoorW.PrintMore Fr PFnHoles Ps YtnoolgbbpekomaaGreatDoor.Pi Pj
set_option linter.unusedVariables false
set_option linter.unusedSimpArgs false
theorem add0 (g n : Nat) : (⟨g, 0, none⟩ : Addr).add n = ⟨g, n, none⟩ := by
  unfold Addr.add
  split
  · rename_i h; rw [h]
  · simp
theorem wrapS {i : Nat} (h : i < 9223372036854775807) : Value.int IntKind.i64 (wrap64 ((i : Int) + 1)) = Value.int IntKind.i64 ((i + 1 : Nat) : Int) := by
  congr 1
  unfold Go.RowKit.wrap64
  omega
theorem err_no (t : TypeId) (p : Value) : ErrIs false (.iface t p) := by
  unfold ErrIs
  rw [if_neg (by decide)]
  exact ⟨_, _, rfl⟩
set_option maxHeartbeats 2000000 in
set_option maxRecDepth 100000 in
theorem parse_calls {s : ByteArray} {w : World} (hl : Laid w) (hs : TOk s.data.toList) (r : List Bool × Bool) (h : parse s.data.toList = some r) : Calls Tryz.prog 52 #[.string s] w (ParsePost w r) := by
  by_cases he : s.data.toList = []
  · have e0 : s = ⟨#[]⟩ := by
      cases s with
      | mk d => cases d with
        | mk l => simp at he; subst he; rfl
    subst e0
    have e1 : r = ([], true) := by
      unfold parse at h
      rw [if_pos rfl] at h
      injection h with h
      exact h.symm
    subst e1
    clear h hl hs he
    go_enter Tryz.func52, Tryz.ntmps52
    go_wp2
    go_ret2
    exact ⟨_, _, rfl, Kd.R_nil _ _ _ _ _, rfl, Below.refl _ _⟩
  unfold parse at h
  rw [if_neg he] at h
  have hne : s.toList.isEmpty = false := by
    rw [toL]
    cases hd : s.data.toList with
    | nil => exact absurd hd he
    | cons a t => rfl
  have hts : TOk (⟨(Lib.trimSpace s.data.toList).toArray⟩ : ByteArray).data.toList := hs.trim
  have HT := Lib.hid (trim_calls hl hs)
  have HTS := Lib.hid hts
  have H := Lib.hid h
  have HL := Lib.hid hl
  clear h hl hs he hts
  go_enter Tryz.func52, Tryz.ntmps52
  go_wp2_with fail
  refine HT.out.mono ?_
  rintro e w1 ⟨rfl, hb1⟩
  have HB1 := Lib.hid hb1
  clear hb1 HT
  go_wp2_with fail
  refine (split_calls 44 _ w1 (Nat.le_trans HTS.out.1 (by decide))).mono ?_
  rintro e w2 ⟨v20, L, rfl, hrow, hmap, hb2⟩
  have hmap2 : L.map (fun x => x.data.toList) = splitL 44 (Lib.trimSpace s.data.toList) := hmap
  rw [← hmap2] at H
  have hall : ∀ x ∈ L, TOk x.data.toList := fun x hx => by
    have : x.data.toList ∈ splitL 44 (Lib.trimSpace s.data.toList) := by
      rw [← hmap2]
      exact List.mem_map.2 ⟨x, hx, rfl⟩
    exact HTS.out.part this
  have hl2 : Laid w2 := (HL.out.below HB1.out).below hb2
  have hb0 : Below w.heap.size w w2 := HB1.out.trans (hb2.mono HB1.out.size)
  obtain ⟨A, cp, rfl, hcp, hC⟩ := Kd.R_reads hrow
  have HC := Lib.hid hC
  have HALL := Lib.hid hall
  have HL2 := Lib.hid hl2
  have HB0 := Lib.hid hb0
  clear hrow hmap hmap2 hb2 hall hl2 hb0 hC HTS HL HB1
  go_wp2_with fail
  go_loopg [4, 22] L.length (fun kq v4 v22 wx => RelP w2 (L.map (fun x => x.data.toList)) r kq v4 v22 wx)
  case atStart => exact ⟨[], 0, rfl, Kd.R_nil _ _ _ _ _, H.out, Nat.zero_le _, Nat.zero_le _, Below.refl _ _, by simp⟩
  case round =>
    obtain ⟨out, i, rfl, hrow, hgo, hi, hlen, hbl, hk⟩ := hrel
    rw [List.length_map] at hi hk
    have HROW := Lib.hid hrow
    have HGO := Lib.hid hgo
    have HLEN := Lib.hid hlen
    have HBL := Lib.hid hbl
    have HK := Lib.hid hk
    clear hrow hgo hlen hbl hk H
    by_cases hlt : i < L.length
    · have hcell := Kd.at_string HC.out (i : Int) (by omega) (by omega)
      obtain ⟨ad, rfl, hcell⟩ := hcell
      have he0 : rdOf ByteArray.empty L (i : Int) = L[i] := by
        simp [rdOf, List.getD, hlt]
      rw [he0] at hcell
      obtain ⟨ei, hei⟩ : ∃ ei, ei = L[i] := ⟨_, rfl⟩
      rw [← hei] at hcell
      have hte : TOk ei.data.toList := HALL.out ei (hei ▸ List.getElem_mem _)
      have hgo1 : parseGo out (ei.data.toList :: (L.map (fun x => x.data.toList)).drop (i + 1)) = some r := by
        have := HGO.out
        rw [List.drop_eq_getElem_cons (by rw [List.length_map]; exact hlt), List.getElem_map, ← hei] at this
        exact this
      have hcw : wr.cell? (ad.add i) = some (.string ei) := cell_old HBL.out hcell
      have hlr : Laid wr := HL2.out.below HBL.out
      have HGO1 := Lib.hid hgo1
      have HTE := Lib.hid hte
      have HTRIM := Lib.hid (trim_calls hlr hte)
      have HLR := Lib.hid hlr
      clear hgo1 hte hlr HGO hcell he0 hei
      go_wp2_with fail
      refine HTRIM.out.mono ?_
      rintro e w3 ⟨rfl, hb3⟩
      have HB3 := Lib.hid hb3
      clear hb3
      go_wp2_with fail
      refine (split_calls 45 _ w3 (Nat.le_trans HTE.out.trim.1 (by decide))).mono ?_
      rintro e w4 ⟨v28, R, rfl, hrR, hmapR, hb4⟩
      have hmR : splitL 45 (Lib.trimSpace ei.data.toList) = R.map (fun x => x.data.toList) := hmapR.symm
      have hallR : ∀ x ∈ R, TOk x.data.toList := fun x hx => HTE.out.trim.part (c := 45) (by rw [hmR]; exact List.mem_map.2 ⟨x, hx, rfl⟩)
      have hb34 : Below wr.heap.size wr w4 := HB3.out.trans (hb4.mono HB3.out.size)
      have hr4 := Kd.R_below HROW.out hb34
      have hbl4 : Below w2.heap.size w2 w4 := HBL.out.trans (hb34.mono HBL.out.size)
      have hlr4 := HLR.out.below hb34
      have hR0 : 1 ≤ R.length := by
        obtain ⟨p, q, e⟩ := split_some 45 (Lib.trimSpace ei.data.toList)
        rw [hmR] at e
        have := congrArg List.length e
        simp only [List.length_map, List.length_cons] at this
        omega
      obtain ⟨A2, c2, rfl, hc2, hC2⟩ := Kd.R_reads hrR
      obtain ⟨A4, c4, rfl⟩ := Kd.R_slice hr4
      have HMR := Lib.hid hmR
      have HALLR := Lib.hid hallR
      have HR4 := Lib.hid hr4
      have HBL4 := Lib.hid hbl4
      have HLR4 := Lib.hid hlr4
      have HC2 := Lib.hid hC2
      clear hmapR hmR hallR hb34 hr4 hbl4 hlr4 hC2 hrR hb4 HB3 HROW HBL HLR HTRIM HTE hcw
      have hwsz : w2.heap.size ≤ w4.heap.size := HBL4.out.size
      have hz1 : ((R.length : Int) == 0) = false := by simp only [beq_eq_false_iff_ne]; omega
      have hz2 : R ≠ [] := fun e => by rw [e] at hR0; simp at hR0
      by_cases h3 : 3 ≤ R.length
      · have hr : r = (out, false) := by
          obtain ⟨a, b, c, t, rfl⟩ : ∃ a b c t, R = a :: b :: c :: t := by
            rcases R with _ | ⟨a, _ | ⟨b, _ | ⟨c, t⟩⟩⟩
            · simp at h3
            · simp at h3
            · simp at h3
            · exact ⟨a, b, c, t, rfl⟩
          exact step_done HGO1.out (one_many HMR.out)
        have HR := Lib.hid hr
        clear hr
        have hz3 : decide (2 < (R.length : Int)) = true := decide_eq_true (by omega)
        go_wp2_with fail
        refine (new_calls _ w4).mono ?_
        rintro e w5 ⟨b5, rfl, hb5⟩
        have HB5 := Lib.hid hb5
        clear hb5
        go_wp2_with fail
        go_ret2
        refine ⟨_, _, rfl, ?_, ?_, HB0.out.trans ((HBL4.out.trans (HB5.out.mono hwsz)).mono HB0.out.size)⟩
        · rw [HR.out]; exact Kd.R_lower (Kd.R_below HR4.out HB5.out) HB0.out.size
        · rw [HR.out]; exact err_no _ _
      · have hz3 : decide (2 < (R.length : Int)) = false := decide_eq_false (by omega)
        go_upto_if 41 with (fail)
        clear hz1 hz2 hz3
        go_cut [9] (fun v9 wc => ∃ E, v9 = .int .i64 E ∧ EndOk (R.map (fun x => x.data.toList)) E ∧ Below w4.heap.size w4 wc)
        case first =>
          rcases R with _ | ⟨a, _ | ⟨b, _ | ⟨c, t⟩⟩⟩
          · simp at hR0
          · go_wp2_with fail
            go_meet
            case rel => exact ⟨-1, rfl, .none _ rfl, Below.refl _ _⟩
          · obtain ⟨ad2, rfl, hcell⟩ := Kd.at_string HC2.out 1 (by decide) (by simp)
            have hcell1 : w4.cell? ⟨ad2.block, ad2.off + 1, none⟩ = some (.string b) := hcell
            have htb : TOk b.data.toList := HALLR.out b (by simp)
            have HTB := Lib.hid htb
            have HTT := Lib.hid (trim_calls HLR4.out htb)
            clear hcell htb
            have e2 : ([a, b] : List ByteArray).length = 2 := rfl
            rw [e2]
            clear e2
            go_wp2_with fail
            refine HTT.out.mono ?_
            rintro e w5 ⟨rfl, hb5⟩
            have hb5s := hb5.size
            have HB5 := Lib.hid hb5
            have HAT := Lib.hid (atoi_calls (s := ⟨(Lib.trimSpace b.data.toList).toArray⟩) (HLR4.out.below hb5) HTB.out.trim)
            clear hb5
            go_wp2_with fail
            refine HAT.out.mono ?_
            rintro e w6 ⟨hend, hb6⟩
            have HB6 := Lib.hid hb6
            have hb6s := hb6.size
            clear hb6
            unfold AtoiEnd at hend
            cases hA : Lib.atoiAll (Lib.trimSpace b.data.toList) with
            | ok u =>
              have hend2 : e = .returned (.tuple #[.int .i64 u, .nilIface]) := by
                have : Lib.atoiAll (⟨(Lib.trimSpace b.data.toList).toArray⟩ : ByteArray).data.toList = .ok u := hA
                rw [this] at hend
                exact hend
              subst hend2
              have HAA := Lib.hid hA
              clear hend hA
              go_wp2_with fail
              go_meet
              case rel => exact ⟨u, rfl, .some _ _ u rfl HAA.out, HB5.out.trans (HB6.out.mono hb5s)⟩
            | _ =>
              have hend2 : ∃ u t p, e = .returned (.tuple #[.int .i64 u, .iface t p]) := by
                have h9 := hA
                change Lib.atoiAll (⟨(Lib.trimSpace b.data.toList).toArray⟩ : ByteArray).data.toList = _ at h9
                rw [h9] at hend
                exact hend
              obtain ⟨u, tt, pp, rfl⟩ := hend2
              have HR := Lib.hid (step_done HGO1.out (one_bad2 HMR.out (fun u hu => by rw [hA] at hu; cases hu)))
              clear hend hA
              go_wp2_with fail
              go_ret2
              refine ⟨_, _, rfl, ?_, ?_, HB0.out.trans ((HBL4.out.trans ((HB5.out.trans (HB6.out.mono hb5s)).mono hwsz)).mono HB0.out.size)⟩
              · rw [HR.out]; exact Kd.R_lower (Kd.R_below HR4.out (HB5.out.trans (HB6.out.mono hb5s))) HB0.out.size
              · rw [HR.out]; exact err_no _ _
          · simp at h3
        case rest =>
          obtain ⟨E, rfl, hE, hbc⟩ := hcut
          have hLm : L.length ≤ 9223372036854775807 := Kd.C_max HC.out
          obtain ⟨ad2, rfl, hcell⟩ := Kd.at_string HC2.out 0 (by decide) (by omega)
          have ha : (R.map (fun x => x.data.toList)).head? = some (rdOf ByteArray.empty R 0).data.toList ∧ rdOf ByteArray.empty R 0 ∈ R := by
            rcases R with _ | ⟨a, t⟩
            · simp at hR0
            · exact ⟨rfl, List.mem_cons_self⟩
          obtain ⟨a0, ha0⟩ : ∃ a0, a0 = rdOf ByteArray.empty R 0 := ⟨_, rfl⟩
          rw [← ha0] at hcell ha
          have hcell1 : wc.cell? (ad2.add 0) = some (.string a0) := cell_old hbc hcell
          have hcell0 : wc.cell? ad2 = some (.string a0) := hcell1
          have hta : TOk a0.data.toList := HALLR.out a0 ha.2
          have hlc := HLR4.out.below hbc
          have HTA := Lib.hid hta
          have HLC0 := Lib.hid hlc
          have HTT := Lib.hid (trim_calls hlc hta)
          have HE := Lib.hid hE
          have HBC0 := Lib.hid hbc
          have HHD := Lib.hid ha.1
          have hbcs := hbc.size
          clear ha ha0 hcell hta hlc hE hbc
          go_wp2_with fail
          refine HTT.out.mono ?_
          rintro e w5 ⟨rfl, hb5⟩
          have hb5s := hb5.size
          have HB5 := Lib.hid hb5
          have HAT := Lib.hid (atoi_calls (s := ⟨(Lib.trimSpace a0.data.toList).toArray⟩) (HLC0.out.below hb5) HTA.out.trim)
          clear hb5 HTT hcell1 hcell0
          go_wp2_with fail
          refine HAT.out.mono ?_
          rintro e w6 ⟨hend, hb6⟩
          have HB46 := Lib.hid (HBC0.out.trans ((HB5.out.trans (hb6.mono hb5s)).mono hbcs))
          have hb6s := hb6.size
          clear hb6 HAT HB5
          unfold AtoiEnd at hend
          have hwsz6 : w2.heap.size ≤ w6.heap.size := by omega
          cases hA : Lib.atoiAll (Lib.trimSpace a0.data.toList) with
          | ok v =>
            have hend2 : e = .returned (.tuple #[.int .i64 v, .nilIface]) := by
              have : Lib.atoiAll (⟨(Lib.trimSpace a0.data.toList).toArray⟩ : ByteArray).data.toList = .ok v := hA
              rw [this] at hend
              exact hend
            subst hend2
            obtain ⟨hv0, hv1, hEr, hgo⟩ := one_good HMR.out HE.out HHD.out hA HGO1.out
            have HGO2 := Lib.hid hgo
            have HER := Lib.hid hEr
            have HR6 := Lib.hid (Kd.R_below HR4.out HB46.out)
            have HBL6 := Lib.hid (HBL4.out.trans (HB46.out.mono hwsz))
            have hEup : -1 ≤ E ∧ E ≤ 1000000 := by omega
            have hvm : (v == -1) = false := by simp only [beq_eq_false_iff_ne]; omega
            clear hend hA hgo hEr HGO1 HE HHD HALLR HLR4 HC2 HR4 HBL4 HTA HLC0 HBC0 HB46
            go_wp2_with fail
            go_loopg [4] (v.toNat + 1 - (out).length) (fun kq v4 wx => RelQ w2 (v.toNat + 1) (out) kq v4 wx)
            case atStart => exact ⟨out, HR6.out, rfl, HLEN.out, HBL6.out, rfl⟩
            case round =>
              obtain ⟨cur, hrow, hpad, hlen, hbl, hk⟩ := hrel
              have HRC := Lib.hid hrow
              have HPC := Lib.hid hpad
              have HLC := Lib.hid hlen
              have HBC := Lib.hid hbl
              have HKC := Lib.hid hk
              obtain ⟨A9, c9, rfl⟩ := Kd.R_slice hrow
              clear hrow hpad hlen hbl hk
              by_cases hc : (cur.length : Int) ≤ v
              · go_wp2_with ((with_reducible refine gate_builtin (b := .append) (xs := #[.tmp 76, .tmp 77]) rfl ?_); at_builtin; refine Kd.R_append Kd.bool (w0 := w2) w2.heap.size rfl (.tmp 76) (.tmp 77) 25 4 (.bool false) 1 rfl Tryz.underlying25 info4 rfl (by decide) (by omega) _ cur false [.bool false] (fun _ => True) (fun _ => False) rfl rfl ?aP (fun _ hk => hk.elim) ?aF ?aO ?aB ?aS ?aL ?_; (case aP => exact rfl); (case aB => exact HBC.out); (case aF => exact (fun _ _ => trivial)); (case aO => exact HRC.out); (case aS => exact HBC.out.size); (case aL => have := HLC.out; omega); intro v8 w8 ho hb hg hat; have HO := Lib.hid ho; have HB8 := Lib.hid hb; clear ho hb hg hat)
                go_roundg (v.toNat + 1 - (cur.length + 1))
                case measure => have := HKC.out; omega
                case rel => exact ⟨cur ++ [false], HO.out, (pad_more (by omega)).trans HPC.out, by simp; omega, HB8.out, by simp⟩
              · have hpd := HPC.out
                rw [pad_done (by omega)] at hpd
                obtain ⟨cur1, hcur1⟩ : ∃ c, c = cur := ⟨_, rfl⟩
                rw [← hcur1] at hpd HRC hc HLC ⊢
                clear hcur1
                have HPD1 := Lib.hid hpd
                have HRC1 := HRC
                have HBC1 := HBC
                have hl1 := HLC.out
                have hvc : v < cur1.length := by omega
                clear hpd HRC HBC HLC HPC HKC hc
                go_wp2_with fail
                go_loopg [4] ((E + 1).toNat - (cur1).length) (fun kq v4 wx => RelQ w2 ((E + 1).toNat) (cur1) kq v4 wx)
                case atStart => exact ⟨cur1, HRC1.out, rfl, hl1, HBC1.out, rfl⟩
                case round =>
                  obtain ⟨cur, hrow, hpad, hlen, hbl, hk⟩ := hrel
                  have HRC := Lib.hid hrow
                  have HPC := Lib.hid hpad
                  have HLC := Lib.hid hlen
                  have HBC := Lib.hid hbl
                  have HKC := Lib.hid hk
                  obtain ⟨A9, c9, rfl⟩ := Kd.R_slice hrow
                  clear hrow hpad hlen hbl hk
                  by_cases hc : (cur.length : Int) ≤ E
                  · go_wp2_with ((with_reducible refine gate_builtin (b := .append) (xs := #[.tmp 83, .tmp 84]) rfl ?_); at_builtin; refine Kd.R_append Kd.bool (w0 := w2) w2.heap.size rfl (.tmp 83) (.tmp 84) 25 4 (.bool false) 1 rfl Tryz.underlying25 info4 rfl (by decide) (by omega) _ cur false [.bool false] (fun _ => True) (fun _ => False) rfl rfl ?aP (fun _ hk => hk.elim) ?aF ?aO ?aB ?aS ?aL ?_; (case aP => exact rfl); (case aB => exact HBC.out); (case aF => exact (fun _ _ => trivial)); (case aO => exact HRC.out); (case aS => exact HBC.out.size); (case aL => have := HLC.out; omega); intro v8 w8 ho hb hg hat; have HO := Lib.hid ho; have HB8 := Lib.hid hb; clear ho hb hg hat)
                    go_roundg ((E + 1).toNat - (cur.length + 1))
                    case measure => have := HKC.out; omega
                    case rel => exact ⟨cur ++ [false], HO.out, (pad_more (by omega)).trans HPC.out, by simp; omega, HB8.out, by simp⟩
                  · have hpd := HPC.out
                    rw [pad_done (by omega)] at hpd
                    obtain ⟨cur2, hcur2⟩ : ∃ c, c = cur := ⟨_, rfl⟩
                    rw [← hcur2] at hpd HRC hc HLC ⊢
                    clear hcur2
                    have hc2l : cur1.length ≤ cur2.length := by rw [hpd, pad_len]; omega
                    have hvl : v.toNat < cur2.length := by omega
                    have hEl : E < cur2.length := by omega
                    have HPD2 := Lib.hid hpd
                    obtain ⟨g, cg, cells, hv9, hg9, hgb⟩ := own_row HRC.out (by omega)
                    injection hv9 with hA9 _ hcg
                    subst hA9
                    subst hcg
                    clear hpd hc HPC HKC HRC1 HBC1 hl1
                    by_cases hE1 : E = -1
                    · have hfe : fill out v.toNat E = setN cur2 v.toNat 1 := by
                        unfold fill
                        rw [if_pos hE1, ← HPD1.out, HPD2.out, pad_done (by omega)]
                      have HFE := Lib.hid hfe
                      have hcel := Kd.R_celln false HRC.out v (by omega) (by omega)
                      have hcel1 := hcel.1
                      have hcel2 := hcel.2
                      have hcel3 := hcel.1
                      have hcel4 := hcel.2
                      rw [← add0] at hcel3 hcel4
                      have hE2 : (E == -1) = true := by rw [hE1]; rfl
                      clear hcel hfe hg9 hE1
                      go_wp2_with fail
                      go_roundg (L.length - (i + 1))
                      case measure => have := HK.out; omega
                      case rel =>
                        refine ⟨setN cur2 v.toNat 1, i + 1, rfl, ?_, by rw [← HFE.out]; exact HGO2.out, by rw [List.length_map]; omega, by rw [setN_len]; exact HLC.out, HBC.out.setCell hgb _, by rw [List.length_map]⟩
                        have := Kd.R_putn HRC.out v true
                        exact this
                    · have hE2 : (E == -1) = false := by simpa using hE1
                      have hE0 : 0 ≤ E := by omega
                      have hfe : fill out v.toNat E = setN cur2 v.toNat (E.toNat + 1 - v.toNat) := by
                        unfold fill
                        rw [if_neg hE1, ← HPD1.out, HPD2.out]
                        congr 2
                        omega
                      have HFE := Lib.hid hfe
                      have HVV : (v.toNat : Int) = v := Int.toNat_of_nonneg hv0
                      have HVV2 := Lib.hid HVV
                      clear hfe hg9 hE1 HVV
                      go_wp2_with fail
                      go_loopg [14] (E.toNat + 1 - v.toNat) (fun kq v14 wx => RelI w2 (.slice (some ⟨g, 0, none⟩) cur2.length c9) (fill out v.toNat E) cur2.length E.toNat kq v14 wx)
                      case atStart => exact ⟨cur2, v.toNat, by rw [HVV2.out], HRC.out, rfl, HFE.out.symm, HBC.out, rfl⟩
                      case round =>
                        obtain ⟨cur, ii, rfl, hrow, hlen, hset, hbl, hk⟩ := hrel
                        have HRI := Lib.hid hrow
                        have HSI := Lib.hid hset
                        have HBI := Lib.hid hbl
                        have HKI := Lib.hid hk
                        have HLI := Lib.hid hlen
                        clear hrow hset hbl hk
                        by_cases hc : (ii : Int) ≤ E
                        · have hcel : wr.cell? ⟨g, ii, none⟩ = some (.bool (rdOf false cur (ii : Int))) ∧ wr.frozen? ⟨g, ii, none⟩ = false := Kd.R_celln false HRI.out (ii : Int) (by omega) (by omega)
                          have hcel1 := hcel.1
                          have hcel2 := hcel.2
                          have hcel3 := hcel.1
                          have hcel4 := hcel.2
                          rw [← add0] at hcel3 hcel4
                          have hput := Kd.R_putn HRI.out (ii : Int) true
                          have HPUT := Lib.hid hput
                          clear hcel hput hlen
                          go_wp2_with fail
                          go_roundg (E.toNat + 1 - (ii + 1))
                          case measure => have := HKI.out; omega
                          case rel =>
                            refine ⟨cur.set ii true, ii + 1, rfl, HPUT.out, by rw [List.length_set]; exact HLI.out, ?_, HBI.out.setCell hgb _, rfl⟩
                            rw [← HSI.out]
                            have e : E.toNat + 1 - ii = (E.toNat + 1 - (ii + 1)) + 1 := by omega
                            rw [e]
                            rfl
                        · have hz : E.toNat + 1 - ii = 0 := by omega
                          have hfin : cur = fill out v.toNat E := by
                            have := HSI.out
                            rw [hz] at this
                            exact this
                          have HFIN := Lib.hid hfin
                          clear hfin hlen hz
                          go_wp2_with fail
                          go_roundg (L.length - (i + 1))
                          case measure => have := HK.out; omega
                          case rel =>
                            exact ⟨cur, i + 1, rfl, HRI.out, by rw [HFIN.out]; exact HGO2.out, by rw [List.length_map]; omega, by rw [HLI.out]; exact HLC.out, HBI.out, by rw [List.length_map]⟩
          | _ =>
            have hend2 : ∃ u t p, e = .returned (.tuple #[.int .i64 u, .iface t p]) := by
              have h9 := hA
              change Lib.atoiAll (⟨(Lib.trimSpace a0.data.toList).toArray⟩ : ByteArray).data.toList = _ at h9
              rw [h9] at hend
              exact hend
            obtain ⟨u, tt, pp, rfl⟩ := hend2
            have HR := Lib.hid (step_done HGO1.out (one_bad1 HMR.out HE.out HHD.out (fun u hu => by rw [hA] at hu; cases hu)))
            clear hend hA
            go_wp2_with fail
            go_ret2
            refine ⟨_, _, rfl, ?_, ?_, HB0.out.trans ((HBL4.out.trans (HB46.out.mono hwsz)).mono HB0.out.size)⟩
            · rw [HR.out]; exact Kd.R_lower (Kd.R_below HR4.out HB46.out) HB0.out.size
            · rw [HR.out]; exact err_no _ _
    · have hz : i = L.length := by omega
      have hr : r = (out, true) := by
        have := HGO.out
        rw [List.drop_of_length_le (by rw [List.length_map]; omega)] at this
        injection this with this
        exact this.symm
      have HR := Lib.hid hr
      clear hr hz
      go_wp2_with fail
      go_ret2
      refine ⟨_, _, rfl, ?_, ?_, HB0.out.trans (HBL.out.mono HB0.out.size)⟩
      · rw [HR.out]; exact Kd.R_lower HROW.out HB0.out.size
      · rw [HR.out]; exact rfl
end Go.Proofs.YtnoolgbbpekomaaGreatDoor.Pk
