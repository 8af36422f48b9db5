/- Lemmas that the claim's top text leans on. No condition of their own. -/
import Derived.Shelf.Strconv.Itoa0
import Derived.Shelf.Strconv.Itoa1
import Derived.Shelf.LaysM
import Derived.Shelf.Strconv.Itoa2
import Derived.Shelf.Strconv.Lower
import Derived.Shelf.Bits.Mul64
import Derived.Test.YtocbeoomhlgnkaaGreatDoorProg
import Derived.Shelf.LaysC
import Derived.Shelf.Strconv.ToError
import Derived.Shelf.Strconv.ToErrorRange
namespace Go.Proofs
open Go.Shelf
def Tryz.lays129_ren : Go.Shelf.Ren := ⟨fun | 129 => 111 | n => n, fun | 53 => 24 | 3 => 3 | 4 => 4 | 46 => 26 | 5 => 5 | 9 => 9 | n => n, fun | n => n⟩
theorem Tryz.lays129 : Go.Proofs.Lays.n129 Tryz.prog Tryz.lays129_ren := {
  mixed := by kernel_rfl
  f129 := Tryz.func111.trans (congrArg some (by kernel_rfl))
  t3 := Tryz.underlying3
  a3 := Tryz.isAgg3
  z3 := Tryz.sizeOf3
  v3 := Tryz.zeroValue3
  t4 := Tryz.underlying4
  a4 := Tryz.isAgg4
  z4 := Tryz.sizeOf4
  v4 := Tryz.zeroValue4
  t5 := Tryz.underlying5
  a5 := Tryz.isAgg5
  z5 := Tryz.sizeOf5
  v5 := Tryz.zeroValue5
  t9 := Tryz.underlying9
  a9 := Tryz.isAgg9
  z9 := Tryz.sizeOf9
  v9 := Tryz.zeroValue9
  t46 := Tryz.underlying26
  a46 := Tryz.isAgg26
  z46 := Tryz.sizeOf26
  v46 := Tryz.zeroValue26
  t53 := Tryz.underlying24
  a53 := Tryz.isAgg24
  z53 := Tryz.sizeOf24
  v53 := Tryz.zeroValue24 }
theorem Tryz.bits_Len64 (x : Int) (w : World) (h0 : 0 ≤ x) (h1 : x ≤ 18446744073709551615) :
    Calls Tryz.prog 111 #[.int .u64 x] w fun e w' => e = .returned (.int .i64 (Lib.bitLen x.toNat)) ∧ w' = w := Any.bits_Len64 Tryz.lays129 x w h0 h1
def Tryz.lays321_ren : Go.Shelf.Ren := ⟨fun | 321 => 109 | n => n, fun | 5 => 5 | n => n, fun | n => n⟩
theorem Tryz.lays321 : Go.Proofs.Lays.n321 Tryz.prog Tryz.lays321_ren := {
  mixed := by kernel_rfl
  f321 := Tryz.func109.trans (congrArg some (by kernel_rfl))
  t5 := Tryz.underlying5
  a5 := Tryz.isAgg5
  z5 := Tryz.sizeOf5
  v5 := Tryz.zeroValue5 }
open Go.RowKit in
theorem Tryz.internal_strconv_lower (c : Int) (w : World) :
    Calls Tryz.prog 109 #[.int .u8 c] w fun e w' => e = .returned (.int .u8 (bits .or .u8 c 32)) ∧ w' = w := Any.internal_strconv_lower Tryz.lays321 c w
def Tryz.lays264_ren : Go.Shelf.Ren := ⟨fun | 264 => 123 | n => n, fun | 53 => 24 | 46 => 26 | n => n, fun | n => n⟩
theorem Tryz.lays264 : Go.Proofs.Lays.n264 Tryz.prog Tryz.lays264_ren := {
  mixed := by kernel_rfl
  f264 := Tryz.func123.trans (congrArg some (by kernel_rfl))
  t46 := Tryz.underlying26
  a46 := Tryz.isAgg26
  z46 := Tryz.sizeOf26
  v46 := Tryz.zeroValue26
  t53 := Tryz.underlying24
  a53 := Tryz.isAgg24
  z53 := Tryz.sizeOf24
  v53 := Tryz.zeroValue24 }
open Go.RowKit Go.Lib in
theorem Tryz.bits_Mul64 (x y : Nat) (hx : x < 18446744073709551616) (hy : y < 18446744073709551616) (w : World) :
    Calls Tryz.prog 123 #[.int .u64 x, .int .u64 y] w fun e w' => e = .returned (.tuple #[.int .u64 ((x * y / 18446744073709551616 : Nat) : Int), .int .u64 ((x * y % 18446744073709551616 : Nat) : Int)]) ∧ w' = w := Any.bits_Mul64 Tryz.lays264 x y hx hy w
def Tryz.laysC245_ren : Go.Shelf.Ren := ⟨fun | 245 => 57 | 279 => 71 | 280 => 72 | 281 => 73 | 282 => 74 | 316 => 87 | 171 => 89 | 205 => 88 | 243 => 105 | 246 => 122 | 283 => 127 | 284 => 128 | 285 => 129 | 286 => 130 | 129 => 111 | 317 => 133 | 318 => 115 | 319 => 134 | 320 => 135 | 337 => 136 | 338 => 137 | n => n, fun | 9 => 9 | 3 => 3 | 75 => 59 | 167 => 98 | 4 => 4 | 168 => 82 | 210 => 85 | 37 => 73 | 0 => 0 | 127 => 154 | 145 => 157 | 143 => 155 | 2 => 2 | 171 => 185 | 53 => 24 | 5 => 5 | 173 => 187 | 212 => 194 | 51 => 22 | 20 => 20 | 213 => 195 | 46 => 26 | 232 => 199 | 233 => 200 | 80 => 201 | n => n, fun | 15 => 1 | 16 => 2 | 17 => 11 | 18 => 12 | 19 => 13 | n => n⟩
theorem Tryz.laysC245 : Go.Proofs.LaysC.n245 Tryz.prog Tryz.laysC245_ren := {
  mixed := by kernel_rfl
  f129 := Tryz.func111.trans (congrArg some (by kernel_rfl))
  f171 := Tryz.func89.trans (congrArg some (by kernel_rfl))
  f205 := Tryz.func88.trans (congrArg some (by kernel_rfl))
  f243 := Tryz.func105.trans (congrArg some (by kernel_rfl))
  f245 := Tryz.func57.trans (congrArg some (by kernel_rfl))
  f246 := Tryz.func122.trans (congrArg some (by kernel_rfl))
  f279 := Tryz.func71.trans (congrArg some (by kernel_rfl))
  f280 := Tryz.func72.trans (congrArg some (by kernel_rfl))
  f281 := Tryz.func73.trans (congrArg some (by kernel_rfl))
  f282 := Tryz.func74.trans (congrArg some (by kernel_rfl))
  f283 := Tryz.func127.trans (congrArg some (by kernel_rfl))
  f284 := Tryz.func128.trans (congrArg some (by kernel_rfl))
  f285 := Tryz.func129.trans (congrArg some (by kernel_rfl))
  f286 := Tryz.func130.trans (congrArg some (by kernel_rfl))
  f316 := Tryz.func87.trans (congrArg some (by kernel_rfl))
  f317 := Tryz.func133.trans (congrArg some (by kernel_rfl))
  f318 := Tryz.func115.trans (congrArg some (by kernel_rfl))
  f319 := Tryz.func134.trans (congrArg some (by kernel_rfl))
  f320 := Tryz.func135.trans (congrArg some (by kernel_rfl))
  f337 := Tryz.func136.trans (congrArg some (by kernel_rfl))
  f338 := Tryz.func137.trans (congrArg some (by kernel_rfl))
  t0 := Tryz.underlying0
  a0 := Tryz.isAgg0
  z0 := Tryz.sizeOf0
  v0 := Tryz.zeroValue0
  t2 := Tryz.underlying2
  a2 := Tryz.isAgg2
  z2 := Tryz.sizeOf2
  v2 := Tryz.zeroValue2
  t3 := Tryz.underlying3
  a3 := Tryz.isAgg3
  z3 := Tryz.sizeOf3
  v3 := Tryz.zeroValue3
  t4 := Tryz.underlying4
  a4 := Tryz.isAgg4
  z4 := Tryz.sizeOf4
  v4 := Tryz.zeroValue4
  t5 := Tryz.underlying5
  a5 := Tryz.isAgg5
  z5 := Tryz.sizeOf5
  v5 := Tryz.zeroValue5
  t9 := Tryz.underlying9
  a9 := Tryz.isAgg9
  z9 := Tryz.sizeOf9
  v9 := Tryz.zeroValue9
  t20 := Tryz.underlying20
  a20 := Tryz.isAgg20
  z20 := Tryz.sizeOf20
  v20 := Tryz.zeroValue20
  t37 := Tryz.underlying73
  a37 := Tryz.isAgg73
  z37 := Tryz.sizeOf73
  v37 := Tryz.zeroValue73
  t46 := Tryz.underlying26
  a46 := Tryz.isAgg26
  z46 := Tryz.sizeOf26
  v46 := Tryz.zeroValue26
  t51 := Tryz.underlying22
  a51 := Tryz.isAgg22
  z51 := Tryz.sizeOf22
  v51 := Tryz.zeroValue22
  t53 := Tryz.underlying24
  a53 := Tryz.isAgg24
  z53 := Tryz.sizeOf24
  v53 := Tryz.zeroValue24
  t75 := Tryz.underlying59
  a75 := Tryz.isAgg59
  z75 := Tryz.sizeOf59
  v75 := Tryz.zeroValue59
  t127 := Tryz.underlying154
  a127 := Tryz.isAgg154
  z127 := Tryz.sizeOf154
  v127 := Tryz.zeroValue154
  t143 := Tryz.underlying155
  a143 := Tryz.isAgg155
  z143 := Tryz.sizeOf155
  v143 := Tryz.zeroValue155
  t145 := Tryz.underlying157
  a145 := Tryz.isAgg157
  z145 := Tryz.sizeOf157
  v145 := Tryz.zeroValue157
  t167 := Tryz.underlying98
  a167 := Tryz.isAgg98
  z167 := Tryz.sizeOf98
  v167 := Tryz.zeroValue98
  t168 := Tryz.underlying82
  a168 := Tryz.isAgg82
  z168 := Tryz.sizeOf82
  v168 := Tryz.zeroValue82
  t171 := Tryz.underlying185
  a171 := Tryz.isAgg185
  z171 := Tryz.sizeOf185
  v171 := Tryz.zeroValue185
  t173 := Tryz.underlying187
  a173 := Tryz.isAgg187
  z173 := Tryz.sizeOf187
  v173 := Tryz.zeroValue187
  t210 := Tryz.underlying85
  a210 := Tryz.isAgg85
  z210 := Tryz.sizeOf85
  v210 := Tryz.zeroValue85
  t212 := Tryz.underlying194
  a212 := Tryz.isAgg194
  z212 := Tryz.sizeOf194
  v212 := Tryz.zeroValue194
  t213 := Tryz.underlying195
  a213 := Tryz.isAgg195
  z213 := Tryz.sizeOf195
  t232 := Tryz.underlying199
  a232 := Tryz.isAgg199
  z232 := Tryz.sizeOf199
  v232 := Tryz.zeroValue199
  t233 := Tryz.underlying200
  a233 := Tryz.isAgg200
  z233 := Tryz.sizeOf200
  v233 := Tryz.zeroValue200
  g15 := by kernel_rfl
  g16 := by kernel_rfl
  g17 := by kernel_rfl
  g18 := by kernel_rfl
  g19 := by kernel_rfl
  t80 := Tryz.underlying201
  a80 := Tryz.isAgg201
  z80 := Tryz.sizeOf201
  v80 := Tryz.zeroValue201
  i0 := by kernel_rfl
  i2 := by kernel_rfl
  i3 := by kernel_rfl
  i4 := by kernel_rfl
  i5 := by kernel_rfl
  i9 := by kernel_rfl
  i20 := by kernel_rfl
  i37 := by kernel_rfl
  i46 := by kernel_rfl
  i51 := by kernel_rfl
  i53 := by kernel_rfl
  i75 := by kernel_rfl
  i80 := by kernel_rfl
  i127 := by kernel_rfl
  i143 := by kernel_rfl
  i145 := by kernel_rfl
  i167 := by kernel_rfl
  i168 := by kernel_rfl
  i171 := by kernel_rfl
  i173 := by kernel_rfl
  i210 := by kernel_rfl
  i212 := by kernel_rfl
  i232 := by kernel_rfl
  i233 := by kernel_rfl
  m15 := by kernel_rfl
  m16 := by kernel_rfl
  m17 := by kernel_rfl
  m18 := by kernel_rfl
  m19 := by kernel_rfl
  c0 := by kernel_rfl
  c2 := by kernel_rfl
  c3 := by kernel_rfl
  c4 := by kernel_rfl
  c5 := by kernel_rfl
  c9 := by kernel_rfl
  c20 := by kernel_rfl
  c37 := by kernel_rfl
  c46 := by kernel_rfl
  c51 := by kernel_rfl
  c53 := by kernel_rfl
  c75 := by kernel_rfl
  c80 := by kernel_rfl
  c127 := by kernel_rfl
  c143 := by kernel_rfl
  c145 := by kernel_rfl
  c167 := by kernel_rfl
  c168 := by kernel_rfl
  c171 := by kernel_rfl
  c173 := by kernel_rfl
  c210 := by kernel_rfl
  c212 := by kernel_rfl
  c213 := by kernel_rfl
  c232 := by kernel_rfl
  c233 := by kernel_rfl }
open Go.RowKit in
theorem Tryz.strconv_toError_syntax (fn s : ByteArray) (base bits : Int) (ev : Value) (w : World) (hlim : s.size ≤ 281474976710656) (hv : w.cell? ⟨1, 0, none⟩ = some ev) (hev : ev = .nilIface ∨ ∃ te pe, ev = .iface te pe) :
    Calls Tryz.prog 57 #[.string fn, .string s, .int .i64 base, .int .i64 bits, .iface 98 (.int .i64 2)] w fun e w' => ∃ N, e = .returned (.iface 82 (.pointer (some ⟨N, 0, none⟩))) ∧ w.heap.size ≤ N ∧ w'.heap[N]? = some (.cells #[.string fn, .string s, ev] 85 (0, 0)) ∧ Below w.heap.size w w' := Any.strconv_toError_syntax Tryz.laysC245 fn s base bits ev w hlim hv hev
open Go.RowKit in
theorem Tryz.strconv_toError_range (fn s : ByteArray) (base bits : Int) (ev : Value) (w : World) (hlim : s.size ≤ 281474976710656) (hv : w.cell? ⟨2, 0, none⟩ = some ev) (hev : ev = .nilIface ∨ ∃ te pe, ev = .iface te pe) :
    Calls Tryz.prog 57 #[.string fn, .string s, .int .i64 base, .int .i64 bits, .iface 98 (.int .i64 1)] w fun e w' => ∃ N, e = .returned (.iface 82 (.pointer (some ⟨N, 0, none⟩))) ∧ w.heap.size ≤ N ∧ w'.heap[N]? = some (.cells #[.string fn, .string s, ev] 85 (0, 0)) ∧ Below w.heap.size w w' := Any.strconv_toError_range Tryz.laysC245 fn s base bits ev w hlim hv hev
end Go.Proofs
