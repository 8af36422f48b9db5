/- Lemmas that the claim's top text leans on. No condition of their own. -/
import Derived.Test.YtoacbkokkkpofaaGreatDoorJ32
import Derived.WalkMore
namespace Go.Proofs.YtoacbkokkkpofaaGreatDoor
open Go.RowKit
set_option linter.unusedSimpArgs false
set_option linter.unusedVariables false
set_option maxHeartbeats 16000000
section
attribute [local go_sem] undef
theorem yhw (s:List UInt8) (a b:Nat) (h:b<=s.length) (hab:a<=b):(⟨s.toArray⟩:ByteArray).extract a b=⟨((s.drop a).take (b-a)).toArray⟩:=by
 obtain⟨n,rfl⟩:∃ n,b=a+n:=⟨b-a,zd⟩;apply ByteArray.ext;simp[ByteArray.data_extract]
theorem yhv (s:List UInt8) (a N:Nat) (h:s.length=N) (hab:a<=N):(⟨s.toArray⟩:ByteArray).extract a N=⟨(s.drop a).toArray⟩:=by
 rw[yhw s a N zd hab];congr 2;rw[List.take_of_length_le (by rw[List.length_drop];omega)]
theorem yhx (s:List UInt8) (n:Nat) (h:n<=s.length):(⟨s.toArray⟩:ByteArray).extract 0 n=⟨(s.take n).toArray⟩:=by
 rw[yhw s 0 n h zd];rfl
set_option maxRecDepth 100000 in
theorem yhm (s:List UInt8) (w:World) (hs:s.length<=2000000):
  Calls Tryz.prog 23 #[.string ⟨s.toArray⟩] w fun e w'=>e=.returned (.bool (ul s).isSome)/\w.grownBy w' none:=by
 have HRT:=zH (fun W=>zbo s W hs);refine ye Tryz.func23 rfl (by rw[Tryz.ntmps23];simp) ?_;intro σ hσ;rw[Tryz.ntmps23];have s0:σ 0=.string ⟨s.toArray⟩:=hσ 0 zi;clear hσ;go_wp2_with fail;refine (HRT.out _).mono ?_;rintro e w2 ⟨hg2,hp⟩;clear HRT;cases hrd:ul s with
 | none=>
  rw[hrd]at hp;dsimp only at hp;subst hp;obtain⟨w3,hw3⟩:=zX (w2.alloc (.cells textZ.toArray 62));have HG3:=zH (show w.grownBy w3 none by rw[<-hw3];exact ya hg2 (World.grownBy_alloc w2 _ none));have HW3:=zH hw3;unfold textZ at HW3 ⊢;have HRD:=zH hrd;clear hrd hw3 hg2;go_upto_region 2 with fail;rw[HW3.out];(go_wp2_with fail;repeat ((first|refine cZ ?_|refine cW ?_);go_wp2_with fail));exact yl (.bool false) rfl ze zb ⟨by rw[HRD.out];rfl,HG3.out⟩
 | some r=>
  rw[hrd]at hp;dsimp only at hp;obtain⟨v,rfl,hv⟩:=hp;obtain⟨kind,neg,b,l,x⟩:=r;obtain⟨a,c,rfl⟩:=hv.1.len;obtain⟨N,hN⟩:=zX l.length;dsimp only;simp only[hN]at *
  obtain⟨w3,hw3⟩:=zX (w2.alloc (.cells #[.int .i64 kind,.bool neg,.int .i64 (b:Int),.slice a N c,.int .i64 x] 62));have HG3:=zH (show w.grownBy w3 none by rw[<-hw3];exact ya hg2 (World.grownBy_alloc w2 _ none));have HW3:=zH hw3;have HRD:=zH hrd;clear hrd hw3 hg2 hv hN;go_upto_region 2 with fail;rw[HW3.out];(go_wp2_with fail;repeat ((first|refine cZ ?_|refine cW ?_);go_wp2_with fail));exact yl (.bool true) rfl ze zb ⟨by rw[HRD.out];rfl,HG3.out⟩
end
end Go.Proofs.YtoacbkokkkpofaaGreatDoor
