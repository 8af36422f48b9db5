/- Lemmas that the claim's top text leans on. No condition of their own. -/
import Derived.Shelf.Strconv.Itoa0
import Derived.Shelf.Strconv.Itoa1
import Derived.Shelf.LaysM
import Derived.Shelf.Strconv.Itoa2
import Derived.Shelf.Strconv.Lower
import Derived.Shelf.Bits.Mul64
import Derived.Test.YtnifedmhgncioaaDoorProg
import Derived.Shelf.LaysC
import Derived.Shelf.Strconv.ToError
import Derived.Shelf.Strconv.ToErrorRange
namespace Go.Proofs
open Go.Shelf
def Tryd.lays129_ren : Go.Shelf.Ren := ⟨fun | 129 => 48 | n => n, fun | 53 => 25 | 3 => 3 | 4 => 4 | 46 => 24 | 5 => 5 | 9 => 9 | n => n, fun | n => n⟩
theorem Tryd.lays129 : Go.Proofs.Lays.n129 Tryd.prog Tryd.lays129_ren := {
  mixed := by kernel_rfl
  f129 := Tryd.func48.trans (congrArg some (by kernel_rfl))
  t3 := Tryd.underlying3
  a3 := Tryd.isAgg3
  z3 := Tryd.sizeOf3
  v3 := Tryd.zeroValue3
  t4 := Tryd.underlying4
  a4 := Tryd.isAgg4
  z4 := Tryd.sizeOf4
  v4 := Tryd.zeroValue4
  t5 := Tryd.underlying5
  a5 := Tryd.isAgg5
  z5 := Tryd.sizeOf5
  v5 := Tryd.zeroValue5
  t9 := Tryd.underlying9
  a9 := Tryd.isAgg9
  z9 := Tryd.sizeOf9
  v9 := Tryd.zeroValue9
  t46 := Tryd.underlying24
  a46 := Tryd.isAgg24
  z46 := Tryd.sizeOf24
  v46 := Tryd.zeroValue24
  t53 := Tryd.underlying25
  a53 := Tryd.isAgg25
  z53 := Tryd.sizeOf25
  v53 := Tryd.zeroValue25 }
theorem Tryd.bits_Len64 (x : Int) (w : World) (h0 : 0 ≤ x) (h1 : x ≤ 18446744073709551615) :
    Calls Tryd.prog 48 #[.int .u64 x] w fun e w' => e = .returned (.int .i64 (Lib.bitLen x.toNat)) ∧ w' = w := Any.bits_Len64 Tryd.lays129 x w h0 h1
def Tryd.lays321_ren : Go.Shelf.Ren := ⟨fun | 321 => 46 | n => n, fun | 5 => 5 | n => n, fun | n => n⟩
theorem Tryd.lays321 : Go.Proofs.Lays.n321 Tryd.prog Tryd.lays321_ren := {
  mixed := by kernel_rfl
  f321 := Tryd.func46.trans (congrArg some (by kernel_rfl))
  t5 := Tryd.underlying5
  a5 := Tryd.isAgg5
  z5 := Tryd.sizeOf5
  v5 := Tryd.zeroValue5 }
open Go.RowKit in
theorem Tryd.internal_strconv_lower (c : Int) (w : World) :
    Calls Tryd.prog 46 #[.int .u8 c] w fun e w' => e = .returned (.int .u8 (bits .or .u8 c 32)) ∧ w' = w := Any.internal_strconv_lower Tryd.lays321 c w
def Tryd.lays264_ren : Go.Shelf.Ren := ⟨fun | 264 => 60 | n => n, fun | 53 => 25 | 46 => 24 | n => n, fun | n => n⟩
theorem Tryd.lays264 : Go.Proofs.Lays.n264 Tryd.prog Tryd.lays264_ren := {
  mixed := by kernel_rfl
  f264 := Tryd.func60.trans (congrArg some (by kernel_rfl))
  t46 := Tryd.underlying24
  a46 := Tryd.isAgg24
  z46 := Tryd.sizeOf24
  v46 := Tryd.zeroValue24
  t53 := Tryd.underlying25
  a53 := Tryd.isAgg25
  z53 := Tryd.sizeOf25
  v53 := Tryd.zeroValue25 }
open Go.RowKit Go.Lib in
theorem Tryd.bits_Mul64 (x y : Nat) (hx : x < 18446744073709551616) (hy : y < 18446744073709551616) (w : World) :
    Calls Tryd.prog 60 #[.int .u64 x, .int .u64 y] w fun e w' => e = .returned (.tuple #[.int .u64 ((x * y / 18446744073709551616 : Nat) : Int), .int .u64 ((x * y % 18446744073709551616 : Nat) : Int)]) ∧ w' = w := Any.bits_Mul64 Tryd.lays264 x y hx hy w
def Tryd.laysC245_ren : Go.Shelf.Ren := ⟨fun | 245 => 13 | 279 => 18 | 280 => 19 | 281 => 20 | 282 => 21 | 316 => 26 | 171 => 28 | 205 => 27 | 243 => 42 | 246 => 59 | 283 => 64 | 284 => 65 | 285 => 66 | 286 => 67 | 129 => 48 | 317 => 70 | 318 => 52 | 319 => 71 | 320 => 72 | 337 => 73 | 338 => 74 | n => n, fun | 9 => 9 | 3 => 3 | 75 => 34 | 167 => 49 | 4 => 4 | 168 => 42 | 210 => 45 | 37 => 23 | 0 => 0 | 127 => 101 | 145 => 104 | 143 => 102 | 2 => 2 | 171 => 134 | 53 => 25 | 5 => 5 | 173 => 136 | 212 => 143 | 51 => 83 | 20 => 20 | 213 => 144 | 46 => 24 | 232 => 148 | 233 => 149 | 80 => 150 | n => n, fun | 15 => 1 | 16 => 2 | 17 => 11 | 18 => 12 | 19 => 13 | n => n⟩
theorem Tryd.laysC245 : Go.Proofs.LaysC.n245 Tryd.prog Tryd.laysC245_ren := {
  mixed := by kernel_rfl
  f129 := Tryd.func48.trans (congrArg some (by kernel_rfl))
  f171 := Tryd.func28.trans (congrArg some (by kernel_rfl))
  f205 := Tryd.func27.trans (congrArg some (by kernel_rfl))
  f243 := Tryd.func42.trans (congrArg some (by kernel_rfl))
  f245 := Tryd.func13.trans (congrArg some (by kernel_rfl))
  f246 := Tryd.func59.trans (congrArg some (by kernel_rfl))
  f279 := Tryd.func18.trans (congrArg some (by kernel_rfl))
  f280 := Tryd.func19.trans (congrArg some (by kernel_rfl))
  f281 := Tryd.func20.trans (congrArg some (by kernel_rfl))
  f282 := Tryd.func21.trans (congrArg some (by kernel_rfl))
  f283 := Tryd.func64.trans (congrArg some (by kernel_rfl))
  f284 := Tryd.func65.trans (congrArg some (by kernel_rfl))
  f285 := Tryd.func66.trans (congrArg some (by kernel_rfl))
  f286 := Tryd.func67.trans (congrArg some (by kernel_rfl))
  f316 := Tryd.func26.trans (congrArg some (by kernel_rfl))
  f317 := Tryd.func70.trans (congrArg some (by kernel_rfl))
  f318 := Tryd.func52.trans (congrArg some (by kernel_rfl))
  f319 := Tryd.func71.trans (congrArg some (by kernel_rfl))
  f320 := Tryd.func72.trans (congrArg some (by kernel_rfl))
  f337 := Tryd.func73.trans (congrArg some (by kernel_rfl))
  f338 := Tryd.func74.trans (congrArg some (by kernel_rfl))
  t0 := Tryd.underlying0
  a0 := Tryd.isAgg0
  z0 := Tryd.sizeOf0
  v0 := Tryd.zeroValue0
  t2 := Tryd.underlying2
  a2 := Tryd.isAgg2
  z2 := Tryd.sizeOf2
  v2 := Tryd.zeroValue2
  t3 := Tryd.underlying3
  a3 := Tryd.isAgg3
  z3 := Tryd.sizeOf3
  v3 := Tryd.zeroValue3
  t4 := Tryd.underlying4
  a4 := Tryd.isAgg4
  z4 := Tryd.sizeOf4
  v4 := Tryd.zeroValue4
  t5 := Tryd.underlying5
  a5 := Tryd.isAgg5
  z5 := Tryd.sizeOf5
  v5 := Tryd.zeroValue5
  t9 := Tryd.underlying9
  a9 := Tryd.isAgg9
  z9 := Tryd.sizeOf9
  v9 := Tryd.zeroValue9
  t20 := Tryd.underlying20
  a20 := Tryd.isAgg20
  z20 := Tryd.sizeOf20
  v20 := Tryd.zeroValue20
  t37 := Tryd.underlying23
  a37 := Tryd.isAgg23
  z37 := Tryd.sizeOf23
  v37 := Tryd.zeroValue23
  t46 := Tryd.underlying24
  a46 := Tryd.isAgg24
  z46 := Tryd.sizeOf24
  v46 := Tryd.zeroValue24
  t51 := Tryd.underlying83
  a51 := Tryd.isAgg83
  z51 := Tryd.sizeOf83
  v51 := Tryd.zeroValue83
  t53 := Tryd.underlying25
  a53 := Tryd.isAgg25
  z53 := Tryd.sizeOf25
  v53 := Tryd.zeroValue25
  t75 := Tryd.underlying34
  a75 := Tryd.isAgg34
  z75 := Tryd.sizeOf34
  v75 := Tryd.zeroValue34
  t127 := Tryd.underlying101
  a127 := Tryd.isAgg101
  z127 := Tryd.sizeOf101
  v127 := Tryd.zeroValue101
  t143 := Tryd.underlying102
  a143 := Tryd.isAgg102
  z143 := Tryd.sizeOf102
  v143 := Tryd.zeroValue102
  t145 := Tryd.underlying104
  a145 := Tryd.isAgg104
  z145 := Tryd.sizeOf104
  v145 := Tryd.zeroValue104
  t167 := Tryd.underlying49
  a167 := Tryd.isAgg49
  z167 := Tryd.sizeOf49
  v167 := Tryd.zeroValue49
  t168 := Tryd.underlying42
  a168 := Tryd.isAgg42
  z168 := Tryd.sizeOf42
  v168 := Tryd.zeroValue42
  t171 := Tryd.underlying134
  a171 := Tryd.isAgg134
  z171 := Tryd.sizeOf134
  v171 := Tryd.zeroValue134
  t173 := Tryd.underlying136
  a173 := Tryd.isAgg136
  z173 := Tryd.sizeOf136
  v173 := Tryd.zeroValue136
  t210 := Tryd.underlying45
  a210 := Tryd.isAgg45
  z210 := Tryd.sizeOf45
  v210 := Tryd.zeroValue45
  t212 := Tryd.underlying143
  a212 := Tryd.isAgg143
  z212 := Tryd.sizeOf143
  v212 := Tryd.zeroValue143
  t213 := Tryd.underlying144
  a213 := Tryd.isAgg144
  z213 := Tryd.sizeOf144
  t232 := Tryd.underlying148
  a232 := Tryd.isAgg148
  z232 := Tryd.sizeOf148
  v232 := Tryd.zeroValue148
  t233 := Tryd.underlying149
  a233 := Tryd.isAgg149
  z233 := Tryd.sizeOf149
  v233 := Tryd.zeroValue149
  g15 := by kernel_rfl
  g16 := by kernel_rfl
  g17 := by kernel_rfl
  g18 := by kernel_rfl
  g19 := by kernel_rfl
  t80 := Tryd.underlying150
  a80 := Tryd.isAgg150
  z80 := Tryd.sizeOf150
  v80 := Tryd.zeroValue150
  i0 := by kernel_rfl
  i2 := by kernel_rfl
  i3 := by kernel_rfl
  i4 := by kernel_rfl
  i5 := by kernel_rfl
  i9 := by kernel_rfl
  i20 := by kernel_rfl
  i37 := by kernel_rfl
  i46 := by kernel_rfl
  i51 := by kernel_rfl
  i53 := by kernel_rfl
  i75 := by kernel_rfl
  i80 := by kernel_rfl
  i127 := by kernel_rfl
  i143 := by kernel_rfl
  i145 := by kernel_rfl
  i167 := by kernel_rfl
  i168 := by kernel_rfl
  i171 := by kernel_rfl
  i173 := by kernel_rfl
  i210 := by kernel_rfl
  i212 := by kernel_rfl
  i232 := by kernel_rfl
  i233 := by kernel_rfl
  m15 := by kernel_rfl
  m16 := by kernel_rfl
  m17 := by kernel_rfl
  m18 := by kernel_rfl
  m19 := by kernel_rfl
  c0 := by kernel_rfl
  c2 := by kernel_rfl
  c3 := by kernel_rfl
  c4 := by kernel_rfl
  c5 := by kernel_rfl
  c9 := by kernel_rfl
  c20 := by kernel_rfl
  c37 := by kernel_rfl
  c46 := by kernel_rfl
  c51 := by kernel_rfl
  c53 := by kernel_rfl
  c75 := by kernel_rfl
  c80 := by kernel_rfl
  c127 := by kernel_rfl
  c143 := by kernel_rfl
  c145 := by kernel_rfl
  c167 := by kernel_rfl
  c168 := by kernel_rfl
  c171 := by kernel_rfl
  c173 := by kernel_rfl
  c210 := by kernel_rfl
  c212 := by kernel_rfl
  c213 := by kernel_rfl
  c232 := by kernel_rfl
  c233 := by kernel_rfl }
open Go.RowKit in
theorem Tryd.strconv_toError_syntax (fn s : ByteArray) (base bits : Int) (ev : Value) (w : World) (hlim : s.size ≤ 281474976710656) (hv : w.cell? ⟨1, 0, none⟩ = some ev) (hev : ev = .nilIface ∨ ∃ te pe, ev = .iface te pe) :
    Calls Tryd.prog 13 #[.string fn, .string s, .int .i64 base, .int .i64 bits, .iface 49 (.int .i64 2)] w fun e w' => ∃ N, e = .returned (.iface 42 (.pointer (some ⟨N, 0, none⟩))) ∧ w.heap.size ≤ N ∧ w'.heap[N]? = some (.cells #[.string fn, .string s, ev] 45 (0, 0)) ∧ Below w.heap.size w w' := Any.strconv_toError_syntax Tryd.laysC245 fn s base bits ev w hlim hv hev
open Go.RowKit in
theorem Tryd.strconv_toError_range (fn s : ByteArray) (base bits : Int) (ev : Value) (w : World) (hlim : s.size ≤ 281474976710656) (hv : w.cell? ⟨2, 0, none⟩ = some ev) (hev : ev = .nilIface ∨ ∃ te pe, ev = .iface te pe) :
    Calls Tryd.prog 13 #[.string fn, .string s, .int .i64 base, .int .i64 bits, .iface 49 (.int .i64 1)] w fun e w' => ∃ N, e = .returned (.iface 42 (.pointer (some ⟨N, 0, none⟩))) ∧ w.heap.size ≤ N ∧ w'.heap[N]? = some (.cells #[.string fn, .string s, ev] 45 (0, 0)) ∧ Below w.heap.size w w' := Any.strconv_toError_range Tryd.laysC245 fn s base bits ev w hlim hv hev
end Go.Proofs
