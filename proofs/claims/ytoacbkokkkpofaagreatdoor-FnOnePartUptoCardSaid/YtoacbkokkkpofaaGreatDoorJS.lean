/- Lemmas that the claim's top text leans on. No condition of their own. -/
import Derived.Shelf.Strconv.Itoa0
import Derived.Shelf.Strconv.Itoa1
import Derived.Shelf.LaysM
import Derived.Shelf.Strconv.Itoa2
import Derived.Shelf.Strconv.Lower
import Derived.Shelf.Bits.Mul64
import Derived.Test.YtoacbkokkkpofaaGreatDoorProg
import Derived.Shelf.LaysC
import Derived.Shelf.Strconv.ToError
import Derived.Shelf.Strconv.ToErrorRange
namespace Go.Proofs
open Go.Shelf
def Tryz.lays129_ren : Go.Shelf.Ren := ⟨fun | 129 => 112 | n => n, fun | 53 => 26 | 3 => 3 | 4 => 4 | 46 => 66 | 5 => 5 | 9 => 9 | n => n, fun | n => n⟩
theorem Tryz.lays129 : Go.Proofs.Lays.n129 Tryz.prog Tryz.lays129_ren := {
  mixed := by kernel_rfl
  f129 := Tryz.func112.trans (congrArg some (by kernel_rfl))
  t3 := Tryz.underlying3
  a3 := Tryz.isAgg3
  z3 := Tryz.sizeOf3
  v3 := Tryz.zeroValue3
  t4 := Tryz.underlying4
  a4 := Tryz.isAgg4
  z4 := Tryz.sizeOf4
  v4 := Tryz.zeroValue4
  t5 := Tryz.underlying5
  a5 := Tryz.isAgg5
  z5 := Tryz.sizeOf5
  v5 := Tryz.zeroValue5
  t9 := Tryz.underlying9
  a9 := Tryz.isAgg9
  z9 := Tryz.sizeOf9
  v9 := Tryz.zeroValue9
  t46 := Tryz.underlying66
  a46 := Tryz.isAgg66
  z46 := Tryz.sizeOf66
  v46 := Tryz.zeroValue66
  t53 := Tryz.underlying26
  a53 := Tryz.isAgg26
  z53 := Tryz.sizeOf26
  v53 := Tryz.zeroValue26 }
theorem Tryz.bits_Len64 (x : Int) (w : World) (h0 : 0 ≤ x) (h1 : x ≤ 18446744073709551615) :
    Calls Tryz.prog 112 #[.int .u64 x] w fun e w' => e = .returned (.int .i64 (Lib.bitLen x.toNat)) ∧ w' = w := Any.bits_Len64 Tryz.lays129 x w h0 h1
def Tryz.lays321_ren : Go.Shelf.Ren := ⟨fun | 321 => 110 | n => n, fun | 5 => 5 | n => n, fun | n => n⟩
theorem Tryz.lays321 : Go.Proofs.Lays.n321 Tryz.prog Tryz.lays321_ren := {
  mixed := by kernel_rfl
  f321 := Tryz.func110.trans (congrArg some (by kernel_rfl))
  t5 := Tryz.underlying5
  a5 := Tryz.isAgg5
  z5 := Tryz.sizeOf5
  v5 := Tryz.zeroValue5 }
open Go.RowKit in
theorem Tryz.internal_strconv_lower (c : Int) (w : World) :
    Calls Tryz.prog 110 #[.int .u8 c] w fun e w' => e = .returned (.int .u8 (bits .or .u8 c 32)) ∧ w' = w := Any.internal_strconv_lower Tryz.lays321 c w
def Tryz.lays264_ren : Go.Shelf.Ren := ⟨fun | 264 => 124 | n => n, fun | 53 => 26 | 46 => 66 | n => n, fun | n => n⟩
theorem Tryz.lays264 : Go.Proofs.Lays.n264 Tryz.prog Tryz.lays264_ren := {
  mixed := by kernel_rfl
  f264 := Tryz.func124.trans (congrArg some (by kernel_rfl))
  t46 := Tryz.underlying66
  a46 := Tryz.isAgg66
  z46 := Tryz.sizeOf66
  v46 := Tryz.zeroValue66
  t53 := Tryz.underlying26
  a53 := Tryz.isAgg26
  z53 := Tryz.sizeOf26
  v53 := Tryz.zeroValue26 }
open Go.RowKit Go.Lib in
theorem Tryz.bits_Mul64 (x y : Nat) (hx : x < 18446744073709551616) (hy : y < 18446744073709551616) (w : World) :
    Calls Tryz.prog 124 #[.int .u64 x, .int .u64 y] w fun e w' => e = .returned (.tuple #[.int .u64 ((x * y / 18446744073709551616 : Nat) : Int), .int .u64 ((x * y % 18446744073709551616 : Nat) : Int)]) ∧ w' = w := Any.bits_Mul64 Tryz.lays264 x y hx hy w
def Tryz.laysC245_ren : Go.Shelf.Ren := ⟨fun | 245 => 49 | 279 => 65 | 280 => 66 | 281 => 67 | 282 => 68 | 316 => 85 | 171 => 87 | 205 => 86 | 243 => 104 | 246 => 123 | 283 => 128 | 284 => 129 | 285 => 130 | 286 => 131 | 129 => 112 | 317 => 134 | 318 => 116 | 319 => 135 | 320 => 136 | 337 => 137 | 338 => 138 | n => n, fun | 9 => 9 | 3 => 3 | 75 => 53 | 167 => 95 | 4 => 4 | 168 => 81 | 210 => 84 | 37 => 67 | 0 => 0 | 127 => 159 | 145 => 162 | 143 => 160 | 2 => 2 | 171 => 190 | 53 => 26 | 5 => 5 | 173 => 192 | 212 => 199 | 51 => 78 | 20 => 20 | 213 => 200 | 46 => 66 | 232 => 204 | 233 => 205 | 80 => 206 | n => n, fun | 15 => 1 | 16 => 2 | 17 => 11 | 18 => 12 | 19 => 13 | n => n⟩
theorem Tryz.laysC245 : Go.Proofs.LaysC.n245 Tryz.prog Tryz.laysC245_ren := {
  mixed := by kernel_rfl
  f129 := Tryz.func112.trans (congrArg some (by kernel_rfl))
  f171 := Tryz.func87.trans (congrArg some (by kernel_rfl))
  f205 := Tryz.func86.trans (congrArg some (by kernel_rfl))
  f243 := Tryz.func104.trans (congrArg some (by kernel_rfl))
  f245 := Tryz.func49.trans (congrArg some (by kernel_rfl))
  f246 := Tryz.func123.trans (congrArg some (by kernel_rfl))
  f279 := Tryz.func65.trans (congrArg some (by kernel_rfl))
  f280 := Tryz.func66.trans (congrArg some (by kernel_rfl))
  f281 := Tryz.func67.trans (congrArg some (by kernel_rfl))
  f282 := Tryz.func68.trans (congrArg some (by kernel_rfl))
  f283 := Tryz.func128.trans (congrArg some (by kernel_rfl))
  f284 := Tryz.func129.trans (congrArg some (by kernel_rfl))
  f285 := Tryz.func130.trans (congrArg some (by kernel_rfl))
  f286 := Tryz.func131.trans (congrArg some (by kernel_rfl))
  f316 := Tryz.func85.trans (congrArg some (by kernel_rfl))
  f317 := Tryz.func134.trans (congrArg some (by kernel_rfl))
  f318 := Tryz.func116.trans (congrArg some (by kernel_rfl))
  f319 := Tryz.func135.trans (congrArg some (by kernel_rfl))
  f320 := Tryz.func136.trans (congrArg some (by kernel_rfl))
  f337 := Tryz.func137.trans (congrArg some (by kernel_rfl))
  f338 := Tryz.func138.trans (congrArg some (by kernel_rfl))
  t0 := Tryz.underlying0
  a0 := Tryz.isAgg0
  z0 := Tryz.sizeOf0
  v0 := Tryz.zeroValue0
  t2 := Tryz.underlying2
  a2 := Tryz.isAgg2
  z2 := Tryz.sizeOf2
  v2 := Tryz.zeroValue2
  t3 := Tryz.underlying3
  a3 := Tryz.isAgg3
  z3 := Tryz.sizeOf3
  v3 := Tryz.zeroValue3
  t4 := Tryz.underlying4
  a4 := Tryz.isAgg4
  z4 := Tryz.sizeOf4
  v4 := Tryz.zeroValue4
  t5 := Tryz.underlying5
  a5 := Tryz.isAgg5
  z5 := Tryz.sizeOf5
  v5 := Tryz.zeroValue5
  t9 := Tryz.underlying9
  a9 := Tryz.isAgg9
  z9 := Tryz.sizeOf9
  v9 := Tryz.zeroValue9
  t20 := Tryz.underlying20
  a20 := Tryz.isAgg20
  z20 := Tryz.sizeOf20
  v20 := Tryz.zeroValue20
  t37 := Tryz.underlying67
  a37 := Tryz.isAgg67
  z37 := Tryz.sizeOf67
  v37 := Tryz.zeroValue67
  t46 := Tryz.underlying66
  a46 := Tryz.isAgg66
  z46 := Tryz.sizeOf66
  v46 := Tryz.zeroValue66
  t51 := Tryz.underlying78
  a51 := Tryz.isAgg78
  z51 := Tryz.sizeOf78
  v51 := Tryz.zeroValue78
  t53 := Tryz.underlying26
  a53 := Tryz.isAgg26
  z53 := Tryz.sizeOf26
  v53 := Tryz.zeroValue26
  t75 := Tryz.underlying53
  a75 := Tryz.isAgg53
  z75 := Tryz.sizeOf53
  v75 := Tryz.zeroValue53
  t127 := Tryz.underlying159
  a127 := Tryz.isAgg159
  z127 := Tryz.sizeOf159
  v127 := Tryz.zeroValue159
  t143 := Tryz.underlying160
  a143 := Tryz.isAgg160
  z143 := Tryz.sizeOf160
  v143 := Tryz.zeroValue160
  t145 := Tryz.underlying162
  a145 := Tryz.isAgg162
  z145 := Tryz.sizeOf162
  v145 := Tryz.zeroValue162
  t167 := Tryz.underlying95
  a167 := Tryz.isAgg95
  z167 := Tryz.sizeOf95
  v167 := Tryz.zeroValue95
  t168 := Tryz.underlying81
  a168 := Tryz.isAgg81
  z168 := Tryz.sizeOf81
  v168 := Tryz.zeroValue81
  t171 := Tryz.underlying190
  a171 := Tryz.isAgg190
  z171 := Tryz.sizeOf190
  v171 := Tryz.zeroValue190
  t173 := Tryz.underlying192
  a173 := Tryz.isAgg192
  z173 := Tryz.sizeOf192
  v173 := Tryz.zeroValue192
  t210 := Tryz.underlying84
  a210 := Tryz.isAgg84
  z210 := Tryz.sizeOf84
  v210 := Tryz.zeroValue84
  t212 := Tryz.underlying199
  a212 := Tryz.isAgg199
  z212 := Tryz.sizeOf199
  v212 := Tryz.zeroValue199
  t213 := Tryz.underlying200
  a213 := Tryz.isAgg200
  z213 := Tryz.sizeOf200
  t232 := Tryz.underlying204
  a232 := Tryz.isAgg204
  z232 := Tryz.sizeOf204
  v232 := Tryz.zeroValue204
  t233 := Tryz.underlying205
  a233 := Tryz.isAgg205
  z233 := Tryz.sizeOf205
  v233 := Tryz.zeroValue205
  g15 := by kernel_rfl
  g16 := by kernel_rfl
  g17 := by kernel_rfl
  g18 := by kernel_rfl
  g19 := by kernel_rfl
  t80 := Tryz.underlying206
  a80 := Tryz.isAgg206
  z80 := Tryz.sizeOf206
  v80 := Tryz.zeroValue206
  i0 := by kernel_rfl
  i2 := by kernel_rfl
  i3 := by kernel_rfl
  i4 := by kernel_rfl
  i5 := by kernel_rfl
  i9 := by kernel_rfl
  i20 := by kernel_rfl
  i37 := by kernel_rfl
  i46 := by kernel_rfl
  i51 := by kernel_rfl
  i53 := by kernel_rfl
  i75 := by kernel_rfl
  i80 := by kernel_rfl
  i127 := by kernel_rfl
  i143 := by kernel_rfl
  i145 := by kernel_rfl
  i167 := by kernel_rfl
  i168 := by kernel_rfl
  i171 := by kernel_rfl
  i173 := by kernel_rfl
  i210 := by kernel_rfl
  i212 := by kernel_rfl
  i232 := by kernel_rfl
  i233 := by kernel_rfl
  m15 := by kernel_rfl
  m16 := by kernel_rfl
  m17 := by kernel_rfl
  m18 := by kernel_rfl
  m19 := by kernel_rfl
  c0 := by kernel_rfl
  c2 := by kernel_rfl
  c3 := by kernel_rfl
  c4 := by kernel_rfl
  c5 := by kernel_rfl
  c9 := by kernel_rfl
  c20 := by kernel_rfl
  c37 := by kernel_rfl
  c46 := by kernel_rfl
  c51 := by kernel_rfl
  c53 := by kernel_rfl
  c75 := by kernel_rfl
  c80 := by kernel_rfl
  c127 := by kernel_rfl
  c143 := by kernel_rfl
  c145 := by kernel_rfl
  c167 := by kernel_rfl
  c168 := by kernel_rfl
  c171 := by kernel_rfl
  c173 := by kernel_rfl
  c210 := by kernel_rfl
  c212 := by kernel_rfl
  c213 := by kernel_rfl
  c232 := by kernel_rfl
  c233 := by kernel_rfl }
open Go.RowKit in
theorem Tryz.strconv_toError_syntax (fn s : ByteArray) (base bits : Int) (ev : Value) (w : World) (hlim : s.size ≤ 281474976710656) (hv : w.cell? ⟨1, 0, none⟩ = some ev) (hev : ev = .nilIface ∨ ∃ te pe, ev = .iface te pe) :
    Calls Tryz.prog 49 #[.string fn, .string s, .int .i64 base, .int .i64 bits, .iface 95 (.int .i64 2)] w fun e w' => ∃ N, e = .returned (.iface 81 (.pointer (some ⟨N, 0, none⟩))) ∧ w.heap.size ≤ N ∧ w'.heap[N]? = some (.cells #[.string fn, .string s, ev] 84 (0, 0)) ∧ Below w.heap.size w w' := Any.strconv_toError_syntax Tryz.laysC245 fn s base bits ev w hlim hv hev
open Go.RowKit in
theorem Tryz.strconv_toError_range (fn s : ByteArray) (base bits : Int) (ev : Value) (w : World) (hlim : s.size ≤ 281474976710656) (hv : w.cell? ⟨2, 0, none⟩ = some ev) (hev : ev = .nilIface ∨ ∃ te pe, ev = .iface te pe) :
    Calls Tryz.prog 49 #[.string fn, .string s, .int .i64 base, .int .i64 bits, .iface 95 (.int .i64 1)] w fun e w' => ∃ N, e = .returned (.iface 81 (.pointer (some ⟨N, 0, none⟩))) ∧ w.heap.size ≤ N ∧ w'.heap[N]? = some (.cells #[.string fn, .string s, ev] 84 (0, 0)) ∧ Below w.heap.size w w' := Any.strconv_toError_range Tryz.laysC245 fn s base bits ev w hlim hv hev
end Go.Proofs
