/- Lemmas that the claim's top text leans on. No condition of their own. -/
import Derived.Shelf.Strconv.Itoa0
import Derived.Shelf.Strconv.Itoa1
import Derived.Shelf.LaysM
import Derived.Shelf.Strconv.Itoa2
import Derived.Shelf.Strconv.Lower
import Derived.Shelf.Bits.Mul64
import Derived.Test.YtbpeeafhdeohjaaGreatDoorProg
import Derived.Shelf.LaysC
import Derived.Shelf.Strconv.ToError
import Derived.Shelf.Strconv.ToErrorRange
namespace Go.Proofs
open Go.Shelf
def Tryz.lays129_ren : Go.Shelf.Ren := ⟨fun | 129 => 125 | n => n, fun | 53 => 23 | 3 => 3 | 4 => 4 | 46 => 52 | 5 => 5 | 9 => 9 | n => n, fun | n => n⟩
theorem Tryz.lays129 : Go.Proofs.Lays.n129 Tryz.prog Tryz.lays129_ren := {
  mixed := by kernel_rfl
  f129 := Tryz.func125.trans (congrArg some (by kernel_rfl))
  t3 := Tryz.underlying3
  a3 := Tryz.isAgg3
  z3 := Tryz.sizeOf3
  v3 := Tryz.zeroValue3
  t4 := Tryz.underlying4
  a4 := Tryz.isAgg4
  z4 := Tryz.sizeOf4
  v4 := Tryz.zeroValue4
  t5 := Tryz.underlying5
  a5 := Tryz.isAgg5
  z5 := Tryz.sizeOf5
  v5 := Tryz.zeroValue5
  t9 := Tryz.underlying9
  a9 := Tryz.isAgg9
  z9 := Tryz.sizeOf9
  v9 := Tryz.zeroValue9
  t46 := Tryz.underlying52
  a46 := Tryz.isAgg52
  z46 := Tryz.sizeOf52
  v46 := Tryz.zeroValue52
  t53 := Tryz.underlying23
  a53 := Tryz.isAgg23
  z53 := Tryz.sizeOf23
  v53 := Tryz.zeroValue23 }
theorem Tryz.bits_Len64 (x : Int) (w : World) (h0 : 0 ≤ x) (h1 : x ≤ 18446744073709551615) :
    Calls Tryz.prog 125 #[.int .u64 x] w fun e w' => e = .returned (.int .i64 (Lib.bitLen x.toNat)) ∧ w' = w := Any.bits_Len64 Tryz.lays129 x w h0 h1
def Tryz.lays283_ren : Go.Shelf.Ren := ⟨fun | 283 => 179 | n => n, fun | 3 => 3 | 9 => 9 | 4 => 4 | n => n, fun | n => n⟩
theorem Tryz.lays283 : Go.Proofs.Lays.n283 Tryz.prog Tryz.lays283_ren := {
  mixed := by kernel_rfl
  f283 := Tryz.func179.trans (congrArg some (by kernel_rfl))
  t3 := Tryz.underlying3
  a3 := Tryz.isAgg3
  z3 := Tryz.sizeOf3
  v3 := Tryz.zeroValue3
  t4 := Tryz.underlying4
  a4 := Tryz.isAgg4
  z4 := Tryz.sizeOf4
  v4 := Tryz.zeroValue4
  t9 := Tryz.underlying9
  a9 := Tryz.isAgg9
  z9 := Tryz.sizeOf9
  v9 := Tryz.zeroValue9 }
open Go.Lib in
theorem Tryz.internal_strconv_small (i : Nat) (h : i < 100) (w : World) :
    Calls Tryz.prog 179 #[.int .i64 i] w fun e w' => e = .returned (.string ⟨(Lib.decDigits i).toArray⟩) ∧ w' = w := Any.internal_strconv_small Tryz.lays283 i h w
def Tryz.lays285_ren : Go.Shelf.Ren := ⟨fun | 285 => 161 | n => n, fun | 37 => 89 | 53 => 23 | 3 => 3 | 4 => 4 | 51 => 30 | 9 => 9 | 5 => 5 | 0 => 0 | n => n, fun | n => n⟩
theorem Tryz.lays285 : Go.Proofs.Lays.n285 Tryz.prog Tryz.lays285_ren := {
  mixed := by kernel_rfl
  f285 := Tryz.func161.trans (congrArg some (by kernel_rfl))
  t0 := Tryz.underlying0
  a0 := Tryz.isAgg0
  z0 := Tryz.sizeOf0
  v0 := Tryz.zeroValue0
  t3 := Tryz.underlying3
  a3 := Tryz.isAgg3
  z3 := Tryz.sizeOf3
  v3 := Tryz.zeroValue3
  t4 := Tryz.underlying4
  a4 := Tryz.isAgg4
  z4 := Tryz.sizeOf4
  v4 := Tryz.zeroValue4
  t5 := Tryz.underlying5
  a5 := Tryz.isAgg5
  z5 := Tryz.sizeOf5
  v5 := Tryz.zeroValue5
  t9 := Tryz.underlying9
  a9 := Tryz.isAgg9
  z9 := Tryz.sizeOf9
  v9 := Tryz.zeroValue9
  t37 := Tryz.underlying89
  a37 := Tryz.isAgg89
  z37 := Tryz.sizeOf89
  v37 := Tryz.zeroValue89
  t51 := Tryz.underlying30
  a51 := Tryz.isAgg30
  z51 := Tryz.sizeOf30
  v51 := Tryz.zeroValue30
  t53 := Tryz.underlying23
  a53 := Tryz.isAgg23
  z53 := Tryz.sizeOf23
  v53 := Tryz.zeroValue23 }
open Go.RowKit Go.Sort Go.Lib in
theorem Tryz.internal_strconv_formatBase10 (blk off cap : Nat) (u : Nat) (d : Array UInt8) (w : World) (hH : Holds (fun (b : UInt8) => Value.int .u8 (b.toNat : Int)) w blk off d) (hu : u < 10 ^ d.size) (hu64 : u < 18446744073709551616) (hsz : d.size < 4611686018427387904) :
    Calls Tryz.prog 161 #[.slice (some ⟨blk, off, none⟩) d.size cap, .int .u64 u] w fun e w' =>
      e = .returned (.tuple #[]) ∧ ∃ (n v' : Nat) (dk : Array UInt8), w' = (putRow (fun (b : UInt8) => Value.int .u8 (b.toNat : Int)) w blk off dk).drewN n ∧ FmtInv d.size u 0 v' dk := Any.internal_strconv_formatBase10 Tryz.lays285 blk off cap u d w hH hu hu64 hsz
def Tryz.lays321_ren : Go.Shelf.Ren := ⟨fun | 321 => 152 | n => n, fun | 5 => 5 | n => n, fun | n => n⟩
theorem Tryz.lays321 : Go.Proofs.Lays.n321 Tryz.prog Tryz.lays321_ren := {
  mixed := by kernel_rfl
  f321 := Tryz.func152.trans (congrArg some (by kernel_rfl))
  t5 := Tryz.underlying5
  a5 := Tryz.isAgg5
  z5 := Tryz.sizeOf5
  v5 := Tryz.zeroValue5 }
open Go.RowKit in
theorem Tryz.internal_strconv_lower (c : Int) (w : World) :
    Calls Tryz.prog 152 #[.int .u8 c] w fun e w' => e = .returned (.int .u8 (bits .or .u8 c 32)) ∧ w' = w := Any.internal_strconv_lower Tryz.lays321 c w
def Tryz.lays264_ren : Go.Shelf.Ren := ⟨fun | 264 => 181 | n => n, fun | 53 => 23 | 46 => 52 | n => n, fun | n => n⟩
theorem Tryz.lays264 : Go.Proofs.Lays.n264 Tryz.prog Tryz.lays264_ren := {
  mixed := by kernel_rfl
  f264 := Tryz.func181.trans (congrArg some (by kernel_rfl))
  t46 := Tryz.underlying52
  a46 := Tryz.isAgg52
  z46 := Tryz.sizeOf52
  v46 := Tryz.zeroValue52
  t53 := Tryz.underlying23
  a53 := Tryz.isAgg23
  z53 := Tryz.sizeOf23
  v53 := Tryz.zeroValue23 }
open Go.RowKit Go.Lib in
theorem Tryz.bits_Mul64 (x y : Nat) (hx : x < 18446744073709551616) (hy : y < 18446744073709551616) (w : World) :
    Calls Tryz.prog 181 #[.int .u64 x, .int .u64 y] w fun e w' => e = .returned (.tuple #[.int .u64 ((x * y / 18446744073709551616 : Nat) : Int), .int .u64 ((x * y % 18446744073709551616 : Nat) : Int)]) ∧ w' = w := Any.bits_Mul64 Tryz.lays264 x y hx hy w
def Tryz.laysC245_ren : Go.Shelf.Ren := ⟨fun | 245 => 60 | 279 => 92 | 280 => 93 | 281 => 94 | 282 => 95 | 316 => 117 | 171 => 119 | 205 => 118 | 243 => 149 | 246 => 178 | 283 => 179 | 284 => 128 | 285 => 161 | 286 => 180 | 129 => 125 | 317 => 129 | 318 => 162 | 319 => 184 | 320 => 185 | 337 => 186 | 338 => 187 | n => n, fun | 9 => 9 | 3 => 3 | 75 => 61 | 167 => 121 | 4 => 4 | 168 => 96 | 210 => 99 | 37 => 89 | 0 => 0 | 127 => 196 | 145 => 199 | 143 => 197 | 2 => 2 | 171 => 168 | 53 => 23 | 5 => 5 | 173 => 225 | 212 => 212 | 51 => 30 | 20 => 20 | 213 => 237 | 46 => 52 | 232 => 163 | 233 => 131 | 80 => 241 | n => n, fun | 15 => 1 | 16 => 2 | 17 => 6 | 18 => 12 | 19 => 13 | n => n⟩
theorem Tryz.laysC245 : Go.Proofs.LaysC.n245 Tryz.prog Tryz.laysC245_ren := {
  mixed := by kernel_rfl
  f129 := Tryz.func125.trans (congrArg some (by kernel_rfl))
  f171 := Tryz.func119.trans (congrArg some (by kernel_rfl))
  f205 := Tryz.func118.trans (congrArg some (by kernel_rfl))
  f243 := Tryz.func149.trans (congrArg some (by kernel_rfl))
  f245 := Tryz.func60.trans (congrArg some (by kernel_rfl))
  f246 := Tryz.func178.trans (congrArg some (by kernel_rfl))
  f279 := Tryz.func92.trans (congrArg some (by kernel_rfl))
  f280 := Tryz.func93.trans (congrArg some (by kernel_rfl))
  f281 := Tryz.func94.trans (congrArg some (by kernel_rfl))
  f282 := Tryz.func95.trans (congrArg some (by kernel_rfl))
  f283 := Tryz.func179.trans (congrArg some (by kernel_rfl))
  f284 := Tryz.func128.trans (congrArg some (by kernel_rfl))
  f285 := Tryz.func161.trans (congrArg some (by kernel_rfl))
  f286 := Tryz.func180.trans (congrArg some (by kernel_rfl))
  f316 := Tryz.func117.trans (congrArg some (by kernel_rfl))
  f317 := Tryz.func129.trans (congrArg some (by kernel_rfl))
  f318 := Tryz.func162.trans (congrArg some (by kernel_rfl))
  f319 := Tryz.func184.trans (congrArg some (by kernel_rfl))
  f320 := Tryz.func185.trans (congrArg some (by kernel_rfl))
  f337 := Tryz.func186.trans (congrArg some (by kernel_rfl))
  f338 := Tryz.func187.trans (congrArg some (by kernel_rfl))
  t0 := Tryz.underlying0
  a0 := Tryz.isAgg0
  z0 := Tryz.sizeOf0
  v0 := Tryz.zeroValue0
  t2 := Tryz.underlying2
  a2 := Tryz.isAgg2
  z2 := Tryz.sizeOf2
  v2 := Tryz.zeroValue2
  t3 := Tryz.underlying3
  a3 := Tryz.isAgg3
  z3 := Tryz.sizeOf3
  v3 := Tryz.zeroValue3
  t4 := Tryz.underlying4
  a4 := Tryz.isAgg4
  z4 := Tryz.sizeOf4
  v4 := Tryz.zeroValue4
  t5 := Tryz.underlying5
  a5 := Tryz.isAgg5
  z5 := Tryz.sizeOf5
  v5 := Tryz.zeroValue5
  t9 := Tryz.underlying9
  a9 := Tryz.isAgg9
  z9 := Tryz.sizeOf9
  v9 := Tryz.zeroValue9
  t20 := Tryz.underlying20
  a20 := Tryz.isAgg20
  z20 := Tryz.sizeOf20
  v20 := Tryz.zeroValue20
  t37 := Tryz.underlying89
  a37 := Tryz.isAgg89
  z37 := Tryz.sizeOf89
  v37 := Tryz.zeroValue89
  t46 := Tryz.underlying52
  a46 := Tryz.isAgg52
  z46 := Tryz.sizeOf52
  v46 := Tryz.zeroValue52
  t51 := Tryz.underlying30
  a51 := Tryz.isAgg30
  z51 := Tryz.sizeOf30
  v51 := Tryz.zeroValue30
  t53 := Tryz.underlying23
  a53 := Tryz.isAgg23
  z53 := Tryz.sizeOf23
  v53 := Tryz.zeroValue23
  t75 := Tryz.underlying61
  a75 := Tryz.isAgg61
  z75 := Tryz.sizeOf61
  v75 := Tryz.zeroValue61
  t127 := Tryz.underlying196
  a127 := Tryz.isAgg196
  z127 := Tryz.sizeOf196
  v127 := Tryz.zeroValue196
  t143 := Tryz.underlying197
  a143 := Tryz.isAgg197
  z143 := Tryz.sizeOf197
  v143 := Tryz.zeroValue197
  t145 := Tryz.underlying199
  a145 := Tryz.isAgg199
  z145 := Tryz.sizeOf199
  v145 := Tryz.zeroValue199
  t167 := Tryz.underlying121
  a167 := Tryz.isAgg121
  z167 := Tryz.sizeOf121
  v167 := Tryz.zeroValue121
  t168 := Tryz.underlying96
  a168 := Tryz.isAgg96
  z168 := Tryz.sizeOf96
  v168 := Tryz.zeroValue96
  t171 := Tryz.underlying168
  a171 := Tryz.isAgg168
  z171 := Tryz.sizeOf168
  v171 := Tryz.zeroValue168
  t173 := Tryz.underlying225
  a173 := Tryz.isAgg225
  z173 := Tryz.sizeOf225
  v173 := Tryz.zeroValue225
  t210 := Tryz.underlying99
  a210 := Tryz.isAgg99
  z210 := Tryz.sizeOf99
  v210 := Tryz.zeroValue99
  t212 := Tryz.underlying212
  a212 := Tryz.isAgg212
  z212 := Tryz.sizeOf212
  v212 := Tryz.zeroValue212
  t213 := Tryz.underlying237
  a213 := Tryz.isAgg237
  z213 := Tryz.sizeOf237
  t232 := Tryz.underlying163
  a232 := Tryz.isAgg163
  z232 := Tryz.sizeOf163
  v232 := Tryz.zeroValue163
  t233 := Tryz.underlying131
  a233 := Tryz.isAgg131
  z233 := Tryz.sizeOf131
  v233 := Tryz.zeroValue131
  g15 := by kernel_rfl
  g16 := by kernel_rfl
  g17 := by kernel_rfl
  g18 := by kernel_rfl
  g19 := by kernel_rfl
  t80 := Tryz.underlying241
  a80 := Tryz.isAgg241
  z80 := Tryz.sizeOf241
  v80 := Tryz.zeroValue241
  i0 := by kernel_rfl
  i2 := by kernel_rfl
  i3 := by kernel_rfl
  i4 := by kernel_rfl
  i5 := by kernel_rfl
  i9 := by kernel_rfl
  i20 := by kernel_rfl
  i37 := by kernel_rfl
  i46 := by kernel_rfl
  i51 := by kernel_rfl
  i53 := by kernel_rfl
  i75 := by kernel_rfl
  i80 := by kernel_rfl
  i127 := by kernel_rfl
  i143 := by kernel_rfl
  i145 := by kernel_rfl
  i167 := by kernel_rfl
  i168 := by kernel_rfl
  i171 := by kernel_rfl
  i173 := by kernel_rfl
  i210 := by kernel_rfl
  i212 := by kernel_rfl
  i232 := by kernel_rfl
  i233 := by kernel_rfl
  m15 := by kernel_rfl
  m16 := by kernel_rfl
  m17 := by kernel_rfl
  m18 := by kernel_rfl
  m19 := by kernel_rfl
  c0 := by kernel_rfl
  c2 := by kernel_rfl
  c3 := by kernel_rfl
  c4 := by kernel_rfl
  c5 := by kernel_rfl
  c9 := by kernel_rfl
  c20 := by kernel_rfl
  c37 := by kernel_rfl
  c46 := by kernel_rfl
  c51 := by kernel_rfl
  c53 := by kernel_rfl
  c75 := by kernel_rfl
  c80 := by kernel_rfl
  c127 := by kernel_rfl
  c143 := by kernel_rfl
  c145 := by kernel_rfl
  c167 := by kernel_rfl
  c168 := by kernel_rfl
  c171 := by kernel_rfl
  c173 := by kernel_rfl
  c210 := by kernel_rfl
  c212 := by kernel_rfl
  c213 := by kernel_rfl
  c232 := by kernel_rfl
  c233 := by kernel_rfl }
open Go.RowKit in
theorem Tryz.strconv_toError_syntax (fn s : ByteArray) (base bits : Int) (ev : Value) (w : World) (hlim : s.size ≤ 281474976710656) (hv : w.cell? ⟨1, 0, none⟩ = some ev) (hev : ev = .nilIface ∨ ∃ te pe, ev = .iface te pe) :
    Calls Tryz.prog 60 #[.string fn, .string s, .int .i64 base, .int .i64 bits, .iface 121 (.int .i64 2)] w fun e w' => ∃ N, e = .returned (.iface 96 (.pointer (some ⟨N, 0, none⟩))) ∧ w.heap.size ≤ N ∧ w'.heap[N]? = some (.cells #[.string fn, .string s, ev] 99 (0, 0)) ∧ Below w.heap.size w w' := Any.strconv_toError_syntax Tryz.laysC245 fn s base bits ev w hlim hv hev
open Go.RowKit in
theorem Tryz.strconv_toError_range (fn s : ByteArray) (base bits : Int) (ev : Value) (w : World) (hlim : s.size ≤ 281474976710656) (hv : w.cell? ⟨2, 0, none⟩ = some ev) (hev : ev = .nilIface ∨ ∃ te pe, ev = .iface te pe) :
    Calls Tryz.prog 60 #[.string fn, .string s, .int .i64 base, .int .i64 bits, .iface 121 (.int .i64 1)] w fun e w' => ∃ N, e = .returned (.iface 96 (.pointer (some ⟨N, 0, none⟩))) ∧ w.heap.size ≤ N ∧ w'.heap[N]? = some (.cells #[.string fn, .string s, ev] 99 (0, 0)) ∧ Below w.heap.size w w' := Any.strconv_toError_range Tryz.laysC245 fn s base bits ev w hlim hv hev
end Go.Proofs
