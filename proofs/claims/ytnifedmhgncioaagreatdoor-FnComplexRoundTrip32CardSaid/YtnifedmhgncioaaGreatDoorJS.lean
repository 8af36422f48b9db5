/- Lemmas that the claim's top text leans on. No condition of their own. -/
import Derived.Shelf.Strconv.Itoa0
import Derived.Shelf.Strconv.Itoa1
import Derived.Shelf.LaysM
import Derived.Shelf.Strconv.Itoa2
import Derived.Shelf.Strconv.Lower
import Derived.Shelf.Bits.Mul64
import Derived.Test.YtnifedmhgncioaaGreatDoorProg
import Derived.Shelf.LaysC
import Derived.Shelf.Strconv.ToError
import Derived.Shelf.Strconv.ToErrorRange
namespace Go.Proofs
open Go.Shelf
def Tryz.lays129_ren : Go.Shelf.Ren := ⟨fun | 129 => 93 | n => n, fun | 53 => 23 | 3 => 3 | 4 => 4 | 46 => 48 | 5 => 5 | 9 => 9 | n => n, fun | n => n⟩
theorem Tryz.lays129 : Go.Proofs.Lays.n129 Tryz.prog Tryz.lays129_ren := {
  mixed := by kernel_rfl
  f129 := Tryz.func93.trans (congrArg some (by kernel_rfl))
  t3 := Tryz.underlying3
  a3 := Tryz.isAgg3
  z3 := Tryz.sizeOf3
  v3 := Tryz.zeroValue3
  t4 := Tryz.underlying4
  a4 := Tryz.isAgg4
  z4 := Tryz.sizeOf4
  v4 := Tryz.zeroValue4
  t5 := Tryz.underlying5
  a5 := Tryz.isAgg5
  z5 := Tryz.sizeOf5
  v5 := Tryz.zeroValue5
  t9 := Tryz.underlying9
  a9 := Tryz.isAgg9
  z9 := Tryz.sizeOf9
  v9 := Tryz.zeroValue9
  t46 := Tryz.underlying48
  a46 := Tryz.isAgg48
  z46 := Tryz.sizeOf48
  v46 := Tryz.zeroValue48
  t53 := Tryz.underlying23
  a53 := Tryz.isAgg23
  z53 := Tryz.sizeOf23
  v53 := Tryz.zeroValue23 }
theorem Tryz.bits_Len64 (x : Int) (w : World) (h0 : 0 ≤ x) (h1 : x ≤ 18446744073709551615) :
    Calls Tryz.prog 93 #[.int .u64 x] w fun e w' => e = .returned (.int .i64 (Lib.bitLen x.toNat)) ∧ w' = w := Any.bits_Len64 Tryz.lays129 x w h0 h1
def Tryz.lays283_ren : Go.Shelf.Ren := ⟨fun | 283 => 150 | n => n, fun | 3 => 3 | 9 => 9 | 4 => 4 | n => n, fun | n => n⟩
theorem Tryz.lays283 : Go.Proofs.Lays.n283 Tryz.prog Tryz.lays283_ren := {
  mixed := by kernel_rfl
  f283 := Tryz.func150.trans (congrArg some (by kernel_rfl))
  t3 := Tryz.underlying3
  a3 := Tryz.isAgg3
  z3 := Tryz.sizeOf3
  v3 := Tryz.zeroValue3
  t4 := Tryz.underlying4
  a4 := Tryz.isAgg4
  z4 := Tryz.sizeOf4
  v4 := Tryz.zeroValue4
  t9 := Tryz.underlying9
  a9 := Tryz.isAgg9
  z9 := Tryz.sizeOf9
  v9 := Tryz.zeroValue9 }
open Go.Lib in
theorem Tryz.internal_strconv_small (i : Nat) (h : i < 100) (w : World) :
    Calls Tryz.prog 150 #[.int .i64 i] w fun e w' => e = .returned (.string ⟨(Lib.decDigits i).toArray⟩) ∧ w' = w := Any.internal_strconv_small Tryz.lays283 i h w
def Tryz.lays285_ren : Go.Shelf.Ren := ⟨fun | 285 => 132 | n => n, fun | 37 => 83 | 53 => 23 | 3 => 3 | 4 => 4 | 51 => 30 | 9 => 9 | 5 => 5 | 0 => 0 | n => n, fun | n => n⟩
theorem Tryz.lays285 : Go.Proofs.Lays.n285 Tryz.prog Tryz.lays285_ren := {
  mixed := by kernel_rfl
  f285 := Tryz.func132.trans (congrArg some (by kernel_rfl))
  t0 := Tryz.underlying0
  a0 := Tryz.isAgg0
  z0 := Tryz.sizeOf0
  v0 := Tryz.zeroValue0
  t3 := Tryz.underlying3
  a3 := Tryz.isAgg3
  z3 := Tryz.sizeOf3
  v3 := Tryz.zeroValue3
  t4 := Tryz.underlying4
  a4 := Tryz.isAgg4
  z4 := Tryz.sizeOf4
  v4 := Tryz.zeroValue4
  t5 := Tryz.underlying5
  a5 := Tryz.isAgg5
  z5 := Tryz.sizeOf5
  v5 := Tryz.zeroValue5
  t9 := Tryz.underlying9
  a9 := Tryz.isAgg9
  z9 := Tryz.sizeOf9
  v9 := Tryz.zeroValue9
  t37 := Tryz.underlying83
  a37 := Tryz.isAgg83
  z37 := Tryz.sizeOf83
  v37 := Tryz.zeroValue83
  t51 := Tryz.underlying30
  a51 := Tryz.isAgg30
  z51 := Tryz.sizeOf30
  v51 := Tryz.zeroValue30
  t53 := Tryz.underlying23
  a53 := Tryz.isAgg23
  z53 := Tryz.sizeOf23
  v53 := Tryz.zeroValue23 }
open Go.RowKit Go.Sort Go.Lib in
theorem Tryz.internal_strconv_formatBase10 (blk off cap : Nat) (u : Nat) (d : Array UInt8) (w : World) (hH : Holds (fun (b : UInt8) => Value.int .u8 (b.toNat : Int)) w blk off d) (hu : u < 10 ^ d.size) (hu64 : u < 18446744073709551616) (hsz : d.size < 4611686018427387904) :
    Calls Tryz.prog 132 #[.slice (some ⟨blk, off, none⟩) d.size cap, .int .u64 u] w fun e w' =>
      e = .returned (.tuple #[]) ∧ ∃ (n v' : Nat) (dk : Array UInt8), w' = (putRow (fun (b : UInt8) => Value.int .u8 (b.toNat : Int)) w blk off dk).drewN n ∧ FmtInv d.size u 0 v' dk := Any.internal_strconv_formatBase10 Tryz.lays285 blk off cap u d w hH hu hu64 hsz
def Tryz.lays321_ren : Go.Shelf.Ren := ⟨fun | 321 => 123 | n => n, fun | 5 => 5 | n => n, fun | n => n⟩
theorem Tryz.lays321 : Go.Proofs.Lays.n321 Tryz.prog Tryz.lays321_ren := {
  mixed := by kernel_rfl
  f321 := Tryz.func123.trans (congrArg some (by kernel_rfl))
  t5 := Tryz.underlying5
  a5 := Tryz.isAgg5
  z5 := Tryz.sizeOf5
  v5 := Tryz.zeroValue5 }
open Go.RowKit in
theorem Tryz.internal_strconv_lower (c : Int) (w : World) :
    Calls Tryz.prog 123 #[.int .u8 c] w fun e w' => e = .returned (.int .u8 (bits .or .u8 c 32)) ∧ w' = w := Any.internal_strconv_lower Tryz.lays321 c w
def Tryz.lays264_ren : Go.Shelf.Ren := ⟨fun | 264 => 152 | n => n, fun | 53 => 23 | 46 => 48 | n => n, fun | n => n⟩
theorem Tryz.lays264 : Go.Proofs.Lays.n264 Tryz.prog Tryz.lays264_ren := {
  mixed := by kernel_rfl
  f264 := Tryz.func152.trans (congrArg some (by kernel_rfl))
  t46 := Tryz.underlying48
  a46 := Tryz.isAgg48
  z46 := Tryz.sizeOf48
  v46 := Tryz.zeroValue48
  t53 := Tryz.underlying23
  a53 := Tryz.isAgg23
  z53 := Tryz.sizeOf23
  v53 := Tryz.zeroValue23 }
open Go.RowKit Go.Lib in
theorem Tryz.bits_Mul64 (x y : Nat) (hx : x < 18446744073709551616) (hy : y < 18446744073709551616) (w : World) :
    Calls Tryz.prog 152 #[.int .u64 x, .int .u64 y] w fun e w' => e = .returned (.tuple #[.int .u64 ((x * y / 18446744073709551616 : Nat) : Int), .int .u64 ((x * y % 18446744073709551616 : Nat) : Int)]) ∧ w' = w := Any.bits_Mul64 Tryz.lays264 x y hx hy w
def Tryz.laysC245_ren : Go.Shelf.Ren := ⟨fun | 245 => 47 | 279 => 64 | 280 => 65 | 281 => 66 | 282 => 67 | 316 => 85 | 171 => 87 | 205 => 86 | 243 => 120 | 246 => 149 | 283 => 150 | 284 => 96 | 285 => 132 | 286 => 151 | 129 => 93 | 317 => 97 | 318 => 133 | 319 => 155 | 320 => 156 | 337 => 157 | 338 => 158 | n => n, fun | 9 => 9 | 3 => 3 | 75 => 53 | 167 => 101 | 4 => 4 | 168 => 86 | 210 => 89 | 37 => 83 | 0 => 0 | 127 => 175 | 145 => 178 | 143 => 176 | 2 => 2 | 171 => 147 | 53 => 23 | 5 => 5 | 173 => 204 | 212 => 191 | 51 => 30 | 20 => 20 | 213 => 216 | 46 => 48 | 232 => 142 | 233 => 111 | 80 => 220 | n => n, fun | 15 => 1 | 16 => 2 | 17 => 6 | 18 => 12 | 19 => 13 | n => n⟩
theorem Tryz.laysC245 : Go.Proofs.LaysC.n245 Tryz.prog Tryz.laysC245_ren := {
  mixed := by kernel_rfl
  f129 := Tryz.func93.trans (congrArg some (by kernel_rfl))
  f171 := Tryz.func87.trans (congrArg some (by kernel_rfl))
  f205 := Tryz.func86.trans (congrArg some (by kernel_rfl))
  f243 := Tryz.func120.trans (congrArg some (by kernel_rfl))
  f245 := Tryz.func47.trans (congrArg some (by kernel_rfl))
  f246 := Tryz.func149.trans (congrArg some (by kernel_rfl))
  f279 := Tryz.func64.trans (congrArg some (by kernel_rfl))
  f280 := Tryz.func65.trans (congrArg some (by kernel_rfl))
  f281 := Tryz.func66.trans (congrArg some (by kernel_rfl))
  f282 := Tryz.func67.trans (congrArg some (by kernel_rfl))
  f283 := Tryz.func150.trans (congrArg some (by kernel_rfl))
  f284 := Tryz.func96.trans (congrArg some (by kernel_rfl))
  f285 := Tryz.func132.trans (congrArg some (by kernel_rfl))
  f286 := Tryz.func151.trans (congrArg some (by kernel_rfl))
  f316 := Tryz.func85.trans (congrArg some (by kernel_rfl))
  f317 := Tryz.func97.trans (congrArg some (by kernel_rfl))
  f318 := Tryz.func133.trans (congrArg some (by kernel_rfl))
  f319 := Tryz.func155.trans (congrArg some (by kernel_rfl))
  f320 := Tryz.func156.trans (congrArg some (by kernel_rfl))
  f337 := Tryz.func157.trans (congrArg some (by kernel_rfl))
  f338 := Tryz.func158.trans (congrArg some (by kernel_rfl))
  t0 := Tryz.underlying0
  a0 := Tryz.isAgg0
  z0 := Tryz.sizeOf0
  v0 := Tryz.zeroValue0
  t2 := Tryz.underlying2
  a2 := Tryz.isAgg2
  z2 := Tryz.sizeOf2
  v2 := Tryz.zeroValue2
  t3 := Tryz.underlying3
  a3 := Tryz.isAgg3
  z3 := Tryz.sizeOf3
  v3 := Tryz.zeroValue3
  t4 := Tryz.underlying4
  a4 := Tryz.isAgg4
  z4 := Tryz.sizeOf4
  v4 := Tryz.zeroValue4
  t5 := Tryz.underlying5
  a5 := Tryz.isAgg5
  z5 := Tryz.sizeOf5
  v5 := Tryz.zeroValue5
  t9 := Tryz.underlying9
  a9 := Tryz.isAgg9
  z9 := Tryz.sizeOf9
  v9 := Tryz.zeroValue9
  t20 := Tryz.underlying20
  a20 := Tryz.isAgg20
  z20 := Tryz.sizeOf20
  v20 := Tryz.zeroValue20
  t37 := Tryz.underlying83
  a37 := Tryz.isAgg83
  z37 := Tryz.sizeOf83
  v37 := Tryz.zeroValue83
  t46 := Tryz.underlying48
  a46 := Tryz.isAgg48
  z46 := Tryz.sizeOf48
  v46 := Tryz.zeroValue48
  t51 := Tryz.underlying30
  a51 := Tryz.isAgg30
  z51 := Tryz.sizeOf30
  v51 := Tryz.zeroValue30
  t53 := Tryz.underlying23
  a53 := Tryz.isAgg23
  z53 := Tryz.sizeOf23
  v53 := Tryz.zeroValue23
  t75 := Tryz.underlying53
  a75 := Tryz.isAgg53
  z75 := Tryz.sizeOf53
  v75 := Tryz.zeroValue53
  t127 := Tryz.underlying175
  a127 := Tryz.isAgg175
  z127 := Tryz.sizeOf175
  v127 := Tryz.zeroValue175
  t143 := Tryz.underlying176
  a143 := Tryz.isAgg176
  z143 := Tryz.sizeOf176
  v143 := Tryz.zeroValue176
  t145 := Tryz.underlying178
  a145 := Tryz.isAgg178
  z145 := Tryz.sizeOf178
  v145 := Tryz.zeroValue178
  t167 := Tryz.underlying101
  a167 := Tryz.isAgg101
  z167 := Tryz.sizeOf101
  v167 := Tryz.zeroValue101
  t168 := Tryz.underlying86
  a168 := Tryz.isAgg86
  z168 := Tryz.sizeOf86
  v168 := Tryz.zeroValue86
  t171 := Tryz.underlying147
  a171 := Tryz.isAgg147
  z171 := Tryz.sizeOf147
  v171 := Tryz.zeroValue147
  t173 := Tryz.underlying204
  a173 := Tryz.isAgg204
  z173 := Tryz.sizeOf204
  v173 := Tryz.zeroValue204
  t210 := Tryz.underlying89
  a210 := Tryz.isAgg89
  z210 := Tryz.sizeOf89
  v210 := Tryz.zeroValue89
  t212 := Tryz.underlying191
  a212 := Tryz.isAgg191
  z212 := Tryz.sizeOf191
  v212 := Tryz.zeroValue191
  t213 := Tryz.underlying216
  a213 := Tryz.isAgg216
  z213 := Tryz.sizeOf216
  t232 := Tryz.underlying142
  a232 := Tryz.isAgg142
  z232 := Tryz.sizeOf142
  v232 := Tryz.zeroValue142
  t233 := Tryz.underlying111
  a233 := Tryz.isAgg111
  z233 := Tryz.sizeOf111
  v233 := Tryz.zeroValue111
  g15 := by kernel_rfl
  g16 := by kernel_rfl
  g17 := by kernel_rfl
  g18 := by kernel_rfl
  g19 := by kernel_rfl
  t80 := Tryz.underlying220
  a80 := Tryz.isAgg220
  z80 := Tryz.sizeOf220
  v80 := Tryz.zeroValue220
  i0 := by kernel_rfl
  i2 := by kernel_rfl
  i3 := by kernel_rfl
  i4 := by kernel_rfl
  i5 := by kernel_rfl
  i9 := by kernel_rfl
  i20 := by kernel_rfl
  i37 := by kernel_rfl
  i46 := by kernel_rfl
  i51 := by kernel_rfl
  i53 := by kernel_rfl
  i75 := by kernel_rfl
  i80 := by kernel_rfl
  i127 := by kernel_rfl
  i143 := by kernel_rfl
  i145 := by kernel_rfl
  i167 := by kernel_rfl
  i168 := by kernel_rfl
  i171 := by kernel_rfl
  i173 := by kernel_rfl
  i210 := by kernel_rfl
  i212 := by kernel_rfl
  i232 := by kernel_rfl
  i233 := by kernel_rfl
  m15 := by kernel_rfl
  m16 := by kernel_rfl
  m17 := by kernel_rfl
  m18 := by kernel_rfl
  m19 := by kernel_rfl
  c0 := by kernel_rfl
  c2 := by kernel_rfl
  c3 := by kernel_rfl
  c4 := by kernel_rfl
  c5 := by kernel_rfl
  c9 := by kernel_rfl
  c20 := by kernel_rfl
  c37 := by kernel_rfl
  c46 := by kernel_rfl
  c51 := by kernel_rfl
  c53 := by kernel_rfl
  c75 := by kernel_rfl
  c80 := by kernel_rfl
  c127 := by kernel_rfl
  c143 := by kernel_rfl
  c145 := by kernel_rfl
  c167 := by kernel_rfl
  c168 := by kernel_rfl
  c171 := by kernel_rfl
  c173 := by kernel_rfl
  c210 := by kernel_rfl
  c212 := by kernel_rfl
  c213 := by kernel_rfl
  c232 := by kernel_rfl
  c233 := by kernel_rfl }
open Go.RowKit in
theorem Tryz.strconv_toError_syntax (fn s : ByteArray) (base bits : Int) (ev : Value) (w : World) (hlim : s.size ≤ 281474976710656) (hv : w.cell? ⟨1, 0, none⟩ = some ev) (hev : ev = .nilIface ∨ ∃ te pe, ev = .iface te pe) :
    Calls Tryz.prog 47 #[.string fn, .string s, .int .i64 base, .int .i64 bits, .iface 101 (.int .i64 2)] w fun e w' => ∃ N, e = .returned (.iface 86 (.pointer (some ⟨N, 0, none⟩))) ∧ w.heap.size ≤ N ∧ w'.heap[N]? = some (.cells #[.string fn, .string s, ev] 89 (0, 0)) ∧ Below w.heap.size w w' := Any.strconv_toError_syntax Tryz.laysC245 fn s base bits ev w hlim hv hev
open Go.RowKit in
theorem Tryz.strconv_toError_range (fn s : ByteArray) (base bits : Int) (ev : Value) (w : World) (hlim : s.size ≤ 281474976710656) (hv : w.cell? ⟨2, 0, none⟩ = some ev) (hev : ev = .nilIface ∨ ∃ te pe, ev = .iface te pe) :
    Calls Tryz.prog 47 #[.string fn, .string s, .int .i64 base, .int .i64 bits, .iface 101 (.int .i64 1)] w fun e w' => ∃ N, e = .returned (.iface 86 (.pointer (some ⟨N, 0, none⟩))) ∧ w.heap.size ≤ N ∧ w'.heap[N]? = some (.cells #[.string fn, .string s, ev] 89 (0, 0)) ∧ Below w.heap.size w w' := Any.strconv_toError_range Tryz.laysC245 fn s base bits ev w hlim hv hev
end Go.Proofs
