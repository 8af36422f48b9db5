/- Lemmas that the claim's top text leans on. No condition of their own. -/
import Derived.Test.YtnifedmhgncioaaGreatDoorJ33
import Derived.Test.YtnifedmhgncioaaGreatDoorJ42
namespace Go.Proofs.YtnifedmhgncioaaGreatDoor
open Go.RowKit
set_option linter.unusedSimpArgs false
set_option linter.unusedVariables false
set_option maxHeartbeats 16000000
theorem ypn {f:Int} (h:ylg f=true):okF f:=by
 unfold ylg at h;unfold okF;simp only[Bool.or_eq_true,beq_iff_eq]at h;omega
theorem yqq (l:List UInt8):(yn0 l).length<=l.length+1:=by unfold yn0;split <;> simp
theorem ymy (R I:List UInt8):ylc R I=40::(R++(yn0 I++[105])++[41]):=by unfold ylc;simp
theorem ysf {l:List UInt8} (h:l≠[]) (hd:DigHead l):l.getD 0 0≠43:=by
 cases l with
 | nil=>exact absurd rfl h
 | cons c r=>
  intro e;have e:c=43:=e;have hd:48<=c.toNat:=hd;rw[e]at hd;revert hd;decide
theorem ysp {A:List UInt8->Nat->Nat->Value->Prop} {Pa:List UInt8->Nat->Nat->Prop} (H:FrOK A Pa) {R I:List UInt8} {xa xb:Txt} {x y k:Nat} (ha:ul R=some xa) (hb:ul I=some xb) (hla:R.length<=395) (hlb:I.length<=395)
  (hs:(yn0 I=43::I/\I.getD 0 0≠43)\/(yn0 I=I/\∃ J,I=45::J)) (hr:yhe A (ylc R I) x y k):
  ∃ k1 k2,Pa R x k1/\Pa I y k2/\k=if k2=2 then 2 else k1:=by
 unfold yhe at hr;rw[ymy,yi0]at hr;rcases hs with⟨e,hh⟩ | ⟨e,J,rfl⟩
 ·rw[e]at hr;obtain⟨k1,k2,-,-,h1,h2,h3⟩:=yjc H (b:=I) ha hb zd zd (Or.inl ⟨rfl,rfl,hh⟩) hr;exact⟨k1,k2,h1,h2,h3⟩
 ·rw[e]at hr;obtain⟨k1,k2,-,-,h1,h2,h3⟩:=yjc H (b:=J) ha hb zd zd (Or.inr ⟨rfl,rfl⟩) hr;exact⟨k1,k2,h1,h2,h3⟩
theorem crt32 (re im:Nat) (hre:re<4294967296) (him:im<4294967296) (h1:re%2147483648<2139095040) (h2:im%2147483648<2139095040) (f:Int) (hf:ylg f=true):
  (ylc (wi re f (-1)) (wi im f (-1))).length<=800/\∀ x y k,yhe yij (ylc (wi re f (-1)) (wi im f (-1))) x y k->x=zyo re/\y=zyo im/\k=0:=by
 obtain⟨a1,a2⟩:=rt32 re hre (zun re h1) f (ypn hf);obtain⟨b1,b2⟩:=rt32 im him (zun im h2) f (ypn hf);have hsg:=sgn32 im f (-1) him h2 hf;have hsl:=yqq (wi im f (-1));refine⟨by rw[ymy];simp only[List.length_cons,List.length_append,List.length_nil];omega,fun x y k hr=>?_⟩;have rd:∀ s:List UInt8,(∀ v k,yxs s v k->k=0/\v=v)->∃ t,ul s=some t:=by
  intro s h;cases hs:ul s with
  | some t=>exact⟨t,rfl⟩
  | none=>exact absurd (h 0 1 (⟨0,PaQ32.bad hs,zze⟩)).1 ze
 obtain⟨xa,ha⟩:=rd _ (fun v k h=>⟨(a2 v k h).1,rfl⟩);obtain⟨xb,hb⟩:=rd _ (fun v k h=>⟨(b2 v k h).1,rfl⟩);have hs:(yn0 (wi im f (-1))=43::wi im f (-1)/\(wi im f (-1)).getD 0 0≠43)\/(yn0 (wi im f (-1))=wi im f (-1)/\∃ J,wi im f (-1)=45::J):=by
  by_cases hi:im<2147483648
  ·rw[if_pos hi]at hsg;rw[Nat.mod_eq_of_lt hi]at h2;exact Or.inl ⟨hsg,ysf (yxn im f (-1)) (ymv 8 23 _ _ _ im f (-1) hi (yq5 8 23 im h2) hf)⟩
  ·rw[if_neg hi]at hsg;refine Or.inr ⟨hsg,?_⟩;have e:im=im%2147483648+2^(8+23):=by
    have:(2:Nat)^(8+23)=2147483648:=ze;omega
   have h3:=ynx 8 23 (-127) 40 (-189) (im%2147483648) f (-1) (Nat.mod_lt _ zd) (yq5 8 23 _ h2) (Or.inr hf);rw[<-e]at h3;exact⟨_,h3⟩
 obtain⟨k1,k2,g1,g2,g3⟩:=ysp frOK32 ha hb a1 b1 hs hr;obtain⟨c1,c2⟩:=a2 _ _ g1;obtain⟨d1,d2⟩:=b2 _ _ g2;refine⟨c2,d2,?_⟩;rw[g3,c1,d1];rfl
end Go.Proofs.YtnifedmhgncioaaGreatDoor
