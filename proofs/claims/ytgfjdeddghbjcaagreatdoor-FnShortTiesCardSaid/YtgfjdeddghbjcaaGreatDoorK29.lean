/- Lemmas that the claim's top text leans on. No condition of their own. -/
import Derived.Test.YtgfjdeddghbjcaaGreatDoorK23
import Derived.Test.YtgfjdeddghbjcaaGreatDoorK28
namespace Go.Proofs.YtgfjdeddghbjcaaGreatDoor
open Go.RowKit
set_option linter.unusedSimpArgs false
set_option linter.unusedVariables false
set_option maxHeartbeats 16000000
theorem zqe (s:List UInt8) (n:Nat) (h:n<=s.length):(⟨s.toArray⟩:ByteArray).extract 0 n=⟨(s.take n).toArray⟩:=by
 apply ByteArray.ext;simp[ByteArray.extract,ByteArray.copySlice]
theorem zwn (L:Lit) (n:Nat) (hok:L.ok) (hlen:L.da.length+L.db.length<=800) (hde:∀ d ∈ L.de,d<10):-200000<=(goR L n).exp/\(goR L n).exp<=200000:=by
 obtain⟨z,nd,hz,hm,ht,hne,hze,hlt,hl,hM⟩:=zon L n hok;have hE:=zoo L.de hde;have hE9:goE L.de<=99999:=zd;have hper:zb7 L.hex<=4:=zαO;have h1:zb7 L.hex*z<=4*z:=Nat.mul_le_mul_right _ hper;have h2:zb7 L.hex*L.db.length<=4*L.db.length:=Nat.mul_le_mul_right _ hper;have hX:-99999<=goX L/\goX L<=99999:=by unfold goX;split <;> omega
 by_cases h0:L.num=0
 ·rw[(hze h0).1];omega
 ·rw[(hne h0).2.2.1];unfold Lit.ex;omega
theorem zgn {s:List UInt8} (hs:s.length<=4000000) (h:qp s=none) (w:World):Calls Tryz.prog 131 #[.string ⟨s.toArray⟩] w fun e w'=>e=.returned (.tuple #[.float .f64 0,.int .i64 0,.bool false])/\w=w':=by
 have:=zcs s w hs;rw[h]at this;exact this
theorem zlb {s:List UInt8} (hs:s.length<=4000000) {R:RR} (h:rfP s=some R) (w:World):Calls Tryz.prog 132 #[.string ⟨s.toArray⟩] w fun e w'=>
  e=.returned (.tuple #[.int .u64 (R.mant:Int),.int .i64 R.exp,.bool R.neg,.bool R.tr,.bool R.hex,.int .i64 (R.n:Int),.bool true])/\w=w':=by
 have:=zae s w hs;unfold RfPost at this;rw[h]at this;exact this
end Go.Proofs.YtgfjdeddghbjcaaGreatDoor
