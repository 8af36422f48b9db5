/- Lemmas that the claim's top text leans on. No condition of their own. -/
import Derived.Test.YtocbeoomhlgnkaaDoorK13
import Derived.Test.YtocbeoomhlgnkaaDoorK10
import Derived.Test.YtocbeoomhlgnkaaDoorK03
namespace Go.Proofs.YtocbeoomhlgnkaaDoor
open Go.RowKit
set_option linter.unusedSimpArgs false
set_option linter.unusedVariables false
set_option maxHeartbeats 16000000
def hxM (m c:Nat):Nat:=if m.log2<=4*c then vi (m*2^(4*c-m.log2)) 1 else vi m (2^(m.log2-4*c))
def hxE (m c:Nat):Nat:=if 4*c+1<yu (hxM m c) then 1 else 0
theorem znj (x b:Nat) (hx:x%2=0) (hb:b<2):x|||b=x+b:=by
 have h:=Nat.two_pow_add_eq_or_of_lt (i:=1) (b:=b) (by simpa using hb) (x / 2);rw[show 2^1*(x / 2)=x by omega]at h;exact h.symm
theorem zg2 (x:Nat):x|||1=x / 2*2+1:=by
 rcases Nat.mod_two_eq_zero_or_one x with h | h
 ·rw[znj x 1 h zd];omega
 ·have e:x=(x-1)|||1:=by rw[znj (x-1) 1 zd zd];omega
  have:x|||1=x:=by
   conv=>lhs;rw[e]
   rw[Nat.or_assoc,Nat.or_self];exact e.symm
  rw[this];omega
theorem zv5 (x:Nat) (b:Bool):x|||b2n b=if b=true then x / 2*2+1 else x:=by
 cases b
 ·simp[b2n]
 ·simp[b2n,zg2]
theorem zew (A B:Nat):zcj A B=if A%B=0 then A / B else A / B / 2*2+1:=by
 unfold zcj;rw[zv5];by_cases h:A%B=0 <;> simp[h]
theorem uu (q g:Nat) (hg:g<4) (hq:q<4000000000000000000):uv (4*q+g)=if g=3\/(g=2/\q%2=1) then q+1 else q:=by
 unfold uv;rw[show (4*q+g) / 4=q by omega,Nat.mod_eq_of_lt zd];split <;> omega
theorem zck (A B:Nat) (hB:0<B) (hlt:A<B*4000000000000000000):uv (zcj (4*A) B)=vi A B:=by
 have hq:A / B<4000000000000000000:=by rw[Nat.div_lt_iff_lt_mul hB,Nat.mul_comm];exact hlt
 have h0:=Nat.div_add_mod A B;have hr:A%B<B:=Nat.mod_lt _ hB;rw[zew];unfold vi;generalize A / B=q at *
 generalize A%B=r at *
 have key:∀ f g:Nat,4*r=B*f+g->g<B->4*A / B=4*q+f/\4*A%B=g:=by
  intro f g h1 h2;have e:4*A=g+B*(4*q+f):=by
   rw[Nat.mul_add];have:B*(4*q)=4*(B*q):=by rw[Nat.mul_left_comm]
   omega
  refine⟨?_,?_⟩
  ·rw[e,Nat.add_mul_div_left _ _ hB,Nat.div_eq_of_lt h2];omega
  ·rw[e,Nat.add_mul_mod_self_left,Nat.mod_eq_of_lt h2]
 clear h0 hlt;rcases Nat.lt_or_ge (4*r) B with c | c
 ·obtain⟨k1,k2⟩:=key 0 (4*r) zd c;rw[k1,k2,if_neg (show ¬(B<2*r\/2*r=B/\q%2=1) by omega)];by_cases z:4*r=0
  ·rw[if_pos z,uu q 0 zd hq,if_neg zd]
  ·rw[if_neg z,show (4*q+0) / 2*2+1=4*q+1 by omega,uu q 1 zd hq,if_neg zd]
 rcases Nat.lt_or_ge (4*r) (2*B) with c2 | c2
 ·obtain⟨k1,k2⟩:=key 1 (4*r-B) zd zd;rw[k1,k2,if_neg (show ¬(B<2*r\/2*r=B/\q%2=1) by omega),show (4*q+1) / 2*2+1=4*q+1 by omega,ite_self,uu q 1 zd hq,if_neg zd]
 rcases Nat.lt_or_ge (4*r) (3*B) with c3 | c3
 ·obtain⟨k1,k2⟩:=key 2 (4*r-2*B) zd zd;rw[k1,k2];by_cases z:4*r-2*B=0
  ·rw[if_pos z,uu q 2 zd hq];by_cases y:q%2=1
   ·rw[if_pos zd,if_pos zd]
   ·rw[if_neg zd,if_neg zd]
  ·rw[if_neg z,show (4*q+2) / 2*2+1=4*q+3 by omega,uu q 3 zd hq,if_pos zd,if_pos zd]
 ·obtain⟨k1,k2⟩:=key 3 (4*r-3*B) zd zd;rw[k1,k2,show (4*q+3) / 2*2+1=4*q+3 by omega,ite_self,uu q 3 zd hq,if_pos zd,if_pos zd]
theorem vm {a b c d:Nat} (hb:0<b) (hd:0<d) (h:a*d=c*b):vi a b=vi c d:=by
 have s:∀ x y k:Nat,0<k->vi (x*k) (y*k)=vi x y:=by
  intro x y k hk;unfold vi;rw[Nat.mul_div_mul_right _ _ hk,Nat.mul_mod_mul_right,<-Nat.mul_assoc];have e1:(y*k<2*(x%y)*k\/2*(x%y)*k=y*k/\x / y%2=1)↔(y<2*(x%y)\/2*(x%y)=y/\x / y%2=1):=by
   rw[Nat.mul_lt_mul_right hk];constructor
   ·rintro (h | ⟨h,h1⟩)
    ·exact .inl h
    ·exact .inr ⟨Nat.eq_of_mul_eq_mul_right hk h,h1⟩
   ·rintro (h | ⟨h,h1⟩)
    ·exact .inl h
    ·exact .inr ⟨by rw[h],h1⟩
  by_cases hh:(y<2*(x%y)\/2*(x%y)=y/\x / y%2=1)
  ·rw[if_pos hh,if_pos (e1.2 hh)]
  ·rw[if_neg hh,if_neg (fun h=>hh (e1.1 h))]
 rw[<-s a b d hd,h,<-s c d b hb,Nat.mul_comm b d]
theorem zia {K A B:Nat} (hB:0<B) (h:K*B<=A):K<=vi A B:=by
 have:K<=A / B:=(Nat.le_div_iff_mul_le hB).2 h;unfold vi;split <;> omega
theorem zcw {K A B:Nat} (hB:0<B) (h:A<=K*B):vi A B<=K:=by
 unfold vi;rcases Nat.lt_or_ge A (K*B) with h1 | h1
 ·have:A / B<K:=(Nat.div_lt_iff_lt_mul hB).2 h1;split <;> omega
 ·have e:A=K*B:=zd;rw[e,Nat.mul_div_cancel _ hB,Nat.mul_mod_left];rw[if_neg zd];omega
theorem zad (K B:Nat) (hB:0<B):vi (K*B) B=K:=Nat.le_antisymm (zcw hB (Nat.le_refl _)) (zia hB (Nat.le_refl _))
def leT (a b:Nat) (k:Int):Prop:=b*10^k.toNat<=a*10^(-k).toNat
theorem p10 (k:Nat):0<10^k:=Nat.pow_pos zd
theorem uf {x y x' y' c c':Nat} (hc:0<c) (hc':0<c') (hx:x*c=x'*c') (hy:y*c=y'*c'):x<=y↔x'<=y':=by
 rw[<-Nat.mul_le_mul_right_iff hc,hx,hy,Nat.mul_le_mul_right_iff hc']
instance (a b:Nat) (k:Int):Decidable (leT a b k):=by unfold leT;exact inferInstance
def vN (m:Nat) (e:Int):Nat:=m*2^e.toNat
def vD (e:Int):Nat:=2^(-e).toNat
theorem zjf (e:Int):0<vD e:=Nat.two_pow_pos _
theorem yam {m:Nat} (e:Int) (h:m≠0):vN m e≠0:=Nat.mul_ne_zero h (Nat.ne_of_gt (Nat.two_pow_pos _))
theorem zs6 (m s:Nat) (e:Int):vN (m*2^s) (e-s)*vD e=vN m e*vD (e-s):=by
 unfold vN vD;have:2^s*2^(e-s).toNat*2^(-e).toNat=2^e.toNat*2^(-(e-s)).toNat:=by
  rw[<-Nat.pow_add,<-Nat.pow_add,<-Nat.pow_add];congr 1;omega
 calc m*2^s*2^(e-s).toNat*2^(-e).toNat=m*(2^s*2^(e-s).toNat*2^(-e).toNat):=by ac_rfl
  _=m*(2^e.toNat*2^(-(e-s)).toNat):=by rw[this]
  _=m*2^e.toNat*2^(-(e-s)).toNat:=by ac_rfl
theorem zmg (u K:Nat) (hK:K%2=0) (hK0:0<K) (hu:u<16000000000000000000):K*4-2<=u↔K<=uv u:=by
 obtain⟨q,g,hg,rfl⟩:∃ q g,g<4/\u=4*q+g:=⟨u / 4,u%4,zd,zd⟩;rw[uu q g hg zd];split <;> omega
def yc1:List Nat->Nat
 | []=>0
 | x::r=>x+1000000000*yc1 r
theorem ydk (a:List Nat) (x:Nat):yc1 (a++[x])=yc1 a+1000000000^a.length*x:=by
 induction a with
 | nil=>simp[yc1]
 | cons y r ih=>
  rw[List.cons_append,yc1,ih,yc1,List.length_cons,Nat.pow_succ,Nat.mul_add];have:1000000000*(1000000000^r.length*x)=1000000000^r.length*1000000000*x:=by rw[<-Nat.mul_assoc,Nat.mul_comm 1000000000]
  omega
theorem yeh (l:List Nat) (i:Nat) (h:i<l.length):yc1 (l.drop i)=l.getD i 0+1000000000*yc1 (l.drop (i+1)):=by
 rw[List.drop_eq_getElem_cons h,yc1,List.getD_eq_getElem?_getD,List.getElem?_eq_getElem h];rfl
theorem OwnI.otherc {T:Nat} {w:World} {v:Value} {xs:List Nat} (h:OwnI T w v xs) {a:Addr} (hne:v.ownBlock≠Option.some a.block) (u:Value):OwnI T (w.setCell a u) v xs:=⟨h.1.setCell_other hne u,h.2⟩
theorem yfh (l q:List Nat) (k rest:Nat) (hk:k<l.length) (h:xo q*1000000000+rest=xo (l.drop (k+1))):
  xo ((rest*1073741824+l.getD k 0) / 1000000000::q)*1000000000+(rest*1073741824+l.getD k 0)%1000000000=xo (l.drop k):=by
 have h1:=yek (q:=q) (x:=l.getD k 0) (rest:=rest) (D:=xo (l.drop (k+1))) h;rw[List.drop_eq_getElem_cons hk,xo];have e:l.getD k 0=l[k]:=by rw[List.getD_eq_getElem?_getD,List.getElem?_eq_getElem hk];rfl
 rw[e]at h1 ⊢;exact h1
theorem ye3 (l q:List Nat) (k y:Nat) (hk:k<l.length):(l.take (k+1)++q).set k y=l.take k++(y::q):=by
 rw[zgj l k hk,List.append_assoc,List.set_append_right _ _ zN];rw[List.length_take,show k-min k l.length=0 by omega];rfl
theorem yda (y:Nat):∀ x,x<=y->(ycr x).length<=(ycr y).length:=by
 induction y using Nat.strongRecOn with
 | _ y ih=>
  intro x hx;by_cases h0:x=0
  ·subst h0;rw[yb9];simp
  ·rw[ycl h0,ycl (show y≠0 by omega),List.length_append,List.length_append];have:=ih (y / 10) zd (x / 10) zd;simp;omega
theorem yeq {x y:Nat} (h:x<=y):(ycr x).length<=(ycr y).length:=yda y x h
set_option maxRecDepth 100000 in
theorem yc0 (v:Value) (a:Nat) (w:World) (hr:NatV w v a) (hx:(yf a).length<=90000):
  Calls Tryd.prog 13 #[v] w fun e w'=>e=.returned (.string ⟨(ycg a).toArray⟩)/\w.grownBy w' none:=by
 have hglen:∀ (gs:List Nat) (X:Nat),yc1 gs+1000000000^gs.length*X=a->X≠0->gs.length<=200000:=by
  intro gs X h hX;have h1:1000000000^gs.length<=a:=Nat.le_trans (Nat.le_mul_of_pos_right _ (Nat.pos_of_ne_zero hX)) zd;have h2:=wu a;have h3:(536870912:Nat)^gs.length<=1000000000^gs.length:=Nat.pow_le_pow_left zd _;have h4:2^(29*gs.length)<2^(30*(yf a).length):=by
   rw[Nat.pow_mul,Nat.pow_mul];exact Nat.lt_of_le_of_lt (Nat.le_trans h3 h1) h2
  have h5:=(Nat.pow_lt_pow_iff_right (a:=2) ze).1 h4;omega
 have HGL:=zH hglen;have HT0:=zH (fun W (h:w.grownBy W none)=>zgi v (yf a) W (RdI.grown hr h) zd);have htr:(yf a).take (zcn (yf a) (yf a).length)=yf a:=by
  rw[zcm _ (wt a) _ (Nat.le_refl _),List.take_length,yfs]
 rw[htr]at HT0;have hXlen:∀ X,X<=a->(yf X).length<=90000:=fun X h=>Nat.le_trans (qt h) hx
 have HXL:=zH hXlen;clear hglen htr hr hx hXlen;refine ye Tryd.func13 rfl (by rw[Tryd.ntmps13];simp) ?_;intro σ hσ;rw[Tryd.ntmps13];have s0:σ 0=v:=hσ 0 zi;clear hσ;have HOG:=zH (OwnI.fresh0 (T:=w.heap.size) (w:=w) (Nat.le_refl _) 3);have HG0:=zH (World.grownBy_alloc w (.cells #[] 3) none);generalize hB0:w.heap.size=B0 at *
 have HB0:=zH hB0;clear hB0;(go_wp2_with fail;repeat ((first|refine cZ ?_|refine cW ?_);go_wp2_with fail));refine (HT0.out _ HG0.out).mono ?_;rintro e w1 ⟨vx,rfl,hox,hgx⟩;have HOG1:=zH (HOG.out.grown0 hgx);have hsz:B0+1<=(w.alloc (.cells #[] 3)).heap.size:=by have:=HB0.out;show B0+1<=(w.heap.push _).size;simp;omega
 have hne0:vx.ownBlock≠some B0:=by
  intro e;have:=hox.2 B0 e;omega
 have hox1:OwnI B0 w1 vx (yf a):=⟨hox.1,fun k hk=>by have:=hox.2 k hk;omega⟩;have HOX:=zH hox1;have HGX:=zH (ya HG0.out hgx);have HNE:=zH hne0;clear hox hgx hsz hne0 hox1 HT0;(go_wp2_with fail;repeat ((first|refine cZ ?_|refine cW ?_);go_wp2_with fail));refine xb (fun kk s' w'=>∃ (X:Nat) (gs:List Nat) (vg vx:Value),kk=X/\X<=a/\yc1 gs+1000000000^gs.length*X=a/\(∀ x ∈ gs,x<1000000000)/\gs.length<=200001/\s' 3=vg/\s' 4=vx/\OwnI B0 w' vg gs/\OwnI B0 w' vx (yf X)/\vx.ownBlock≠vg.ownBlock/\w.grownBy w' none) a
  ⟨a,[],.slice (some ⟨B0,0,none⟩) 0 0,vx,rfl,Nat.le_refl _,by simp[yc1],zi,zi,by simp[yc,yd,HB0.out],zb,HOG1.out,HOX.out,HNE.out,HGX.out⟩ ?_
 clear s0 σ HOG1 HOX HNE HGX HOG HG0 vx w1;rintro kk σ wk ⟨X,gs,vg,vx,hkk,hXa,hval,hgl,hgn,s3,s4,hog,hox,hne,hg⟩ RK KK HRK hKK;have HKK:=zH hkk;have HV:=zH hval;have HGS:=zH hgl;have HOG:=zH hog;have HG:=zH hg;obtain⟨gx,cx,rfl,hgB,hgs,hcx,hcm⟩:=hox.block;have HNE:=zH hne;have hXl:=HXL.out X hXa;obtain⟨N,hN⟩:=zX ((yf X).length);simp only[hN]at s4 hox hcx;rw[hN]at hXl;have HOX:=zH hox;have HN:=zH hN;have HNE2:Hid ((Value.slice (some ⟨gx,0,none⟩) N cx).ownBlock≠vg.ownBlock):=by rw[<-hN];exact HNE.out
 clear hkk hval hgl hog hg hne hox hN HNE;by_cases h0:X=0
 ·subst h0;have hN0:N=0:=by have:=HN.out;rw[xm]at this;simpa using this.symm
  subst hN0;have hgv:yc1 gs=a:=by have:=HV.out;simpa using this
  have HGV:=zH hgv;obtain⟨gg,cg,rfl,hggB,hggs,hcg,hcgm⟩:=HOG.out.block;obtain⟨M,hM⟩:=zX gs.length;simp only[hM]at s3 HOG hcg;rw[hM]at hgn;have HM:=zH hM;have hown0:OwnB wk.heap.size (wk.alloc (Obj.cells #[] 5)) (.slice (some ⟨wk.heap.size,0,none⟩) 0 0) []:=by
   refine⟨⟨wk.heap.size,[],rfl,Row.new wk [] _,by simp[maxLen]⟩,fun k hk=>?_⟩;simp[Value.ownBlock]at hk;omega
  have HOB0:=zH hown0;have HRG:=zH (RdI.of_own HOG.out);have HGA:=zH (ya HG.out (World.grownBy_alloc wk (Obj.cells #[] 5) none));have HGB:=zH (World.grownBy_alloc wk (Obj.cells #[] 5) none);have HGW:=zH HG.out;generalize hBk:wk.heap.size=Bk at *
  clear hgv hM hown0 HOG HV HKK HG HOX HNE2 HN HXL HGL;(go_wp2_with fail;repeat ((first|refine cZ ?_|refine cW ?_);go_wp2_with fail));refine xb (fun kk s' w'=>∃ (i:Nat) (vo:Value),kk=i/\i<=M/\s' 3=.slice (some ⟨gg,0,none⟩) M cg/\s' 9=.int .i64 ((i:Int)-1)/\s' 8=vo/\OwnB Bk w' vo (ycr (yc1 (gs.drop i)))/\wk.grownBy w' none) M
   ⟨M,.slice (some ⟨Bk,0,none⟩) 0 0,rfl,Nat.le_refl _,zb,zb,zb,by rw[List.drop_of_length_le (by rw[HM.out];exact Nat.le_refl _)];simp only[yc1];rw[yb9];exact HOB0.out,HGB.out⟩ ?_
  clear s3 s4 σ HOB0;rintro kk σ wi ⟨i,vo,hkk,hiM,s3,s9,s8,hob,hg⟩ RI KI HRI hKI;have HKI:=zH hkk;have HOB:=zH hob;have HG:=zH hg;have hVi:∀ j,j<=M->(ycr (yc1 (gs.drop j))).length<=2000000:=by
   intro j hj;have:∀ (l:List Nat),(∀ x ∈ l,x<1000000000)->yc1 l<10^(9*l.length):=by
    intro l;induction l with
    | nil=>intro _;simp[yc1]
    | cons x r ih=>
     intro h;have h1:=ih (fun y hy=>h y (by simp[hy]));have h2:=h x zi;rw[yc1,List.length_cons,Nat.mul_add,Nat.pow_add];omega
   have h1:=this (gs.drop j) (fun x hx=>HGS.out x (List.mem_of_mem_drop hx));have h2:=ycm _ _ h1;rw[List.length_drop,HM.out]at h2;omega
  have HVI:=zH hVi;clear hkk hob hg hVi;by_cases hi0:i=0
  ·subst hi0;have hfin:yc1 (gs.drop 0)=a:=by rw[List.drop_zero];exact HGV.out
   rw[hfin]at HOB;have hlen:=(HOB.out.block);by_cases ha0:a=0
   ·subst ha0;rw[yb9]at HOB hlen;obtain⟨go,co,rfl,_⟩:=hlen;(go_wp2_with fail;repeat ((first|refine cZ ?_|refine cW ?_);go_wp2_with fail));exact yl (.string ⟨#[48]⟩) rfl ze zb ⟨rfl,ya HGW.out HG.out⟩
   ·obtain⟨go,co,rfl,_⟩:=hlen;have hcv:=zk5 HOB.out;have hdT:ycg a=ycr a:=by unfold ycg;rw[if_neg ha0]
    have hl0:(ycr a).length≠0:=fun h=>ydn ha0 (List.length_eq_zero_iff.1 h)
    have HDT:=zH hdT;clear hdT;obtain⟨D,hD⟩:=zX ((ycr a).length);rw[hD]at hl0;simp only[hD]at s8 hcv;have q1:((D:Int)==0)=false:=zf;have q2:(D==0)=false:=zf;clear hD hfin;(go_wp2_with fail;repeat ((first|refine cZ ?_|refine cW ?_);go_wp2_with fail));exact yl (.string ⟨(ycr a).toArray⟩) rfl ze zb ⟨by rw[HDT.out],ya HGW.out HG.out⟩
  ·obtain⟨i',rfl⟩:∃ j,i=j+1:=⟨i-1,zd⟩;have e1:((i'+1:Nat):Int)-1=(i':Int):=zd;rw[e1]at s9;have hiN:(i':Int)<(M:Int):=zd;have hiN2:i'<M:=zd;have hi00:(0:Int)<=(i':Int):=zd;have hiL:i'<gs.length:=by rw[HM.out];exact hiN2
   obtain⟨g,hgd⟩:=zX (gs.getD i' 0);have hgd2:gs[i']?=some g:=by rw[<-hgd,List.getD_eq_getElem?_getD,List.getElem?_eq_getElem hiL];rfl
   have hg9:g<1000000000:=HGS.out g (List.mem_of_getElem? hgd2);obtain⟨V,hV⟩:=zX (yc1 (gs.drop (i'+1)));have hVn:yc1 (gs.drop i')=V*1000000000+g:=by rw[yeh gs i' hiL,hgd,hV];omega
   have hlim:=HVI.out i' zd;rw[hVn]at hlim;rw[hV]at HOB;have hmono:∀ x,x<=V*1000000000+g->(ycr x).length<=2000000:=fun x hx=>Nat.le_trans (yeq hx) hlim
   have HMO:=zH hmono;have HVN:=zH hVn;clear hgd hiL hV hVn hlim hmono e1 hi0;(go_wp2_with fail;repeat ((first|refine cZ ?_|refine cW ?_);go_wp2_with fail));refine xb (fun k2 s' w'=>∃ (j d:Nat) (vo:Value),j<=9/\k2=9-j/\(j=9->d=0)/\(j<9->d=10^(8-j))/\s' 3=.slice (some ⟨gg,0,none⟩) M cg/\s' 9=.int .i64 (i':Int)/\s' 10=.int .i64 (d:Int)/\s' 8=vo/\OwnB Bk w' vo (ycr (V*10^j+g / 10^(9-j)))/\wk.grownBy w' none) 9
    ⟨0,100000000,vo,zd,rfl,zd,fun _=>rfl,zb,zb,zb,zb,by rw[Nat.div_eq_of_lt (by simpa using hg9)];simpa using HOB.out,HG.out⟩ ?_
   clear s3 s9 s8 σ HOB HG;rintro k2 σ wj ⟨j,d,vo,hj9,hk2,hd9,hd,s3,s9,s10,s8,hob,hg⟩ RJ KJ HRJ hKJ;have HK2:=zH hk2;have HOB:=zH hob;have HG:=zH hg;clear hk2 hob hg;by_cases hje:j=9
   ·subst hje;have:=hd9 rfl;subst this;clear hd9 hd;(go_wp2_with fail;repeat ((first|refine cZ ?_|refine cW ?_);go_wp2_with fail));refine wo HRI i' (by have:=HKI.out;omega) ⟨i',vo,rfl,zd,zb,zj,zb,?_,HG.out⟩;rw[HVN.out];have:=HOB.out;simpa using this
   ·have hj8:j<9:=zd;have hdd:=hd hj8;have hdpos:0<d:=by rw[hdd];exact Nat.pow_pos zd
    have hdle:d<=100000000:=by rw[hdd];exact Nat.pow_le_pow_right zd (by omega:8-j<=8)
    have hstep:V*10^(j+1)+g / 10^(9-(j+1))=10*(V*10^j+g / 10^(9-j))+g / d%10:=by
     have h1:g / 10^(9-j)=g / d / 10:=by rw[hdd,Nat.div_div_eq_div_mul,<-Nat.pow_succ];congr 2;omega
     rw[h1,show 9-(j+1)=8-j by omega,<-hdd,Nat.pow_succ,Nat.mul_add];have h2:V*(10^j*10)=10*(V*10^j):=by rw[<-Nat.mul_assoc,Nat.mul_comm _ 10]
     omega
    have hnext:(j+1=9->d / 10=0)/\(j+1<9->d / 10=10^(8-(j+1))):=by
     refine⟨fun h=>?_,fun h=>?_⟩
     ·have:j=8:=zd;subst this;rw[hdd]
     ·rw[hdd,show 8-j=(8-(j+1))+1 by omega,Nat.pow_succ,Nat.mul_div_cancel _ zd]
    have hle:V*10^(j+1)+g / 10^(9-(j+1))<=V*1000000000+g:=by
     have h1:V*10^(j+1)<=V*10^9:=Nat.mul_le_mul_left _ (Nat.pow_le_pow_right zd zd);have h2:=Nat.div_le_self g (10^(9-(j+1)));have:(10:Nat)^9=1000000000:=ze;omega
    have HNX:=zH hnext;have hds:=yep (V*10^j+g / 10^(9-j)) (g / d%10) zd;rw[<-hstep]at hds;have hl1:=HMO.out _ hle;have hl2:=HMO.out (V*10^j+g / 10^(9-j)) zd;obtain⟨U,hU⟩:=zX (V*10^j+g / 10^(9-j));rw[hU]at HOB hds hl2;rw[hds]at hl1;have HDS:=zH hds;have hgdl:g / d<1000000000:=Nat.lt_of_le_of_lt (Nat.div_le_self _ _) hg9;have hq:∀ [Inhabited Nat],wrap64 ((g:Int) / (d:Int))=((g / d:Nat):Int):=by intro _;rw[<-Int.natCast_ediv];exact zht _ zd
    have hqr:∀ [Inhabited Nat],((g / d:Nat):Int).tmod 10=((g / d%10:Nat):Int):=by intro _;rfl
    have hdne:((d:Int)==0)=false:=zf;have hd0':(0:Int)<(d:Int):=zd;have hcell:=((HRG.out.grown HG.out).at (by intro h;rw[h]at hgd2;simp at hgd2));obtain⟨g',hg',hz1,hz2,hz3,hcells⟩:=hcell;clear hz1 hz2 hz3;cases hg';have hc:=hcells i' g hgd2;unfold qd at hc;clear hcells hd9 hd hdd hstep hnext hle hds hU;obtain⟨qq,hqq⟩:=zX (g / d);rw[hqq]at HDS hl1 hqr hq hgdl;obtain⟨c,hcd⟩:=zX (qq%10);clear hqq;have hc9:c<=9:=zd;rw[hcd]at HDS hl1 hqr;have hw:∀ [Inhabited Nat],wrap64 (48+(c:Int))%256=48+(c:Int):=by intro _;rw[show (48:Int)+(c:Int)=((48+c:Nat):Int) by omega,zht _ zd];omega
    obtain⟨go,co,rfl,hgo1,hgo2,hco1,hco2⟩:=HOB.out.block;obtain⟨D,hD⟩:=zX ((ycr U).length);simp only[hD]at s8 HOB hco1;rw[hD]at hl2;clear hcd;by_cases hz:U=0/\c=0
    ·obtain⟨rfl,rfl⟩:=hz;rw[yb9]at hD;have hD0:D=0:=by simpa using hD.symm
     subst hD0;clear hD;(go_wp2_with fail;repeat ((first|refine cZ ?_|refine cW ?_);go_wp2_with fail));refine wo HRJ (9-(j+1)) (by have:=HK2.out;omega) ⟨j+1,d / 10,.slice (some ⟨go,0,none⟩) 0 co,zd,rfl,HNX.out.1,HNX.out.2,zb,zb,zj,zb,?_,HG.out⟩;rw[HDS.out,if_pos zi];have:=HOB.out;rwa [yb9]at this
    ·rw[if_neg hz]at HDS hl1;rw[List.length_append]at hl1;have hpick:(decide ((0:Int)<(D:Int))=true)\/(D=0/\c≠0):=by
      by_cases hU0:U=0
      ·right;subst hU0;rw[yb9]at hD;exact⟨by simpa using hD.symm,fun h=>hz ⟨rfl,h⟩⟩
      ·left;have:D≠0:=by rw[<-hD];exact fun h=>ydn hU0 (List.length_eq_zero_iff.1 h)
       simp;omega
     have hD':=hD;clear hD hz;have HC8:=zH (show UInt8.ofNat ((48:Int)+(c:Int)).toNat=UInt8.ofNat (48+c) from by congr 1);have hl3:D<=2000000:=hl2;have huc:UInt8.ofNat (48+c)=UInt8.ofNat (48+c):=rfl;have hlc:c<10:=zd;have hfin:∀ (vo2:Value) (w2:World),OwnB Bk w2 vo2 (ycr U++[UInt8.ofNat (48+c)])->OwnB Bk w2 vo2 (ycr (V*10^(j+1)+g / 10^(9-(j+1)))):=fun vo2 w2 h=>by rw[HDS.out];exact h
     have HFIN:=zH hfin;clear hfin huc hl1;rcases hpick with hp | ⟨rfl,hp⟩
     ·have hp1:(0:Int)<(D:Int):=of_decide_eq_true hp;have hp2:0<D:=zd;clear hp;((repeat (go_wp2_with (first | (at_builtin;refine zch rfl _ _ _ _ rfl ze ze zsw (HOB.out.alloc _) zb _ zb [UInt8.ofNat ((48:Int)+(c:Int)).toNat] (ycc Tryd.underlying30 ((48:Int)+(c:Int)) zd zd _) (by rw[hD'];simp;omega) ?_;intro v2 w2 ho1 hs1));first|refine cZ ?_|refine cW ?_));go_wp2_with (first | (at_builtin;refine zch rfl _ _ _ _ rfl ze ze zsw (HOB.out.alloc _) zb _ zb [UInt8.ofNat ((48:Int)+(c:Int)).toNat] (ycc Tryd.underlying30 ((48:Int)+(c:Int)) zd zd _) (by rw[hD'];simp;omega) ?_;intro v2 w2 ho1 hs1)));refine wo HRJ (9-(j+1)) (by have:=HK2.out;omega) ⟨j+1,d / 10,v2,zd,rfl,HNX.out.1,HNX.out.2,zb,zb,zj,zb,HFIN.out _ _ (by rw[<-HC8.out];exact ho1),?_⟩;refine yx (ym HG.out (World.grownBy_alloc wj _ none)) hs1.1 (fun j e hj=>?_);have:=HOB.out.2 j e;omega
     ·have hp':(((48:Int)+(c:Int)) != 48)=true:=zQ;((repeat (go_wp2_with (first | (at_builtin;refine zch rfl _ _ _ _ rfl ze ze zsw (HOB.out.alloc _) zb _ zb [UInt8.ofNat ((48:Int)+(c:Int)).toNat] (ycc Tryd.underlying30 ((48:Int)+(c:Int)) zd zd _) (by rw[hD'];simp) ?_;intro v2 w2 ho1 hs1));first|refine cZ ?_|refine cW ?_));go_wp2_with (first | (at_builtin;refine zch rfl _ _ _ _ rfl ze ze zsw (HOB.out.alloc _) zb _ zb [UInt8.ofNat ((48:Int)+(c:Int)).toNat] (ycc Tryd.underlying30 ((48:Int)+(c:Int)) zd zd _) (by rw[hD'];simp) ?_;intro v2 w2 ho1 hs1)));refine wo HRJ (9-(j+1)) (by have:=HK2.out;omega) ⟨j+1,d / 10,v2,zd,rfl,HNX.out.1,HNX.out.2,zb,zb,zj,zb,HFIN.out _ _ (by rw[<-HC8.out];exact ho1),?_⟩;refine yx (ym HG.out (World.grownBy_alloc wj _ none)) hs1.1 (fun j e hj=>?_);have:=HOB.out.2 j e;omega
 ·have hN0:N≠0:=by
   intro h;have h1:=HN.out;rw[h]at h1;exact qn h0 (List.length_eq_zero_iff.1 h1)
  have hN1:0<N:=zd;have hN2:(0:Int)<(N:Int):=zd;have hgn2:=HGL.out gs X HV.out h0;(go_wp2_with fail;repeat ((first|refine cZ ?_|refine cW ?_);go_wp2_with fail));refine xb (fun k2 s' w'=>∃ (k:Nat) (q:List Nat) (rest:Nat),k2=k/\k<=N/\q.length+k=N/\Limbs q/\rest<1000000000/\xo q*1000000000+rest=xo ((yf X).drop k)/\s' 3=vg/\s' 4=.slice (some ⟨gx,0,none⟩) N cx/\s' 5=.int .i64 (rest:Int)/\s' 6=.int .i64 ((k:Int)-1)/\OwnI B0 w' vg gs/\OwnI B0 w' (.slice (some ⟨gx,0,none⟩) N cx) ((yf X).take k++q)/\w.grownBy w' none) N
   ⟨N,[],0,rfl,Nat.le_refl _,zi,Limbs.nil,zd,by rw[List.drop_of_length_le zR];rfl,zb,zb,zb,zb,HOG.out,by rw[List.append_nil,List.take_of_length_le zR];exact HOX.out,HG.out⟩ ?_
  clear s3 s4 σ;rintro k2 σ wj ⟨k,q,rest,hk2,hkN,hql,hqL,hrl,hqv,s3,s4,s5,s6,hog2,hox2,hg2⟩ RJ KJ HRJ hKJ;have HK2:=zH hk2;have HQL:=zH hqL;have HQN:=zH hql;have HQV:=zH hqv;have HOG2:=zH hog2;have HOX2:=zH hox2;have HG2:=zH hg2;clear hk2 hqL hqv hog2 hox2 hg2 hql;by_cases hk0:k=0
  ·subst hk0;have hqX:xo q*1000000000+rest=X:=by have:=HQV.out;rwa [List.drop_zero,yfs]at this
   have hoq:OwnI B0 wj (.slice (some ⟨gx,0,none⟩) N cx) q:=by have:=HOX2.out;rwa [List.take_zero,List.nil_append]at this
   have htr:q.take (zcn q q.length)=yf (xo q):=by rw[zcm _ HQL.out _ (Nat.le_refl _),List.take_length]
   have HTR:=zH (zgi _ q wj (RdI.of_own hoq) (by have:=HQN.out;omega));rw[htr]at HTR;have HQX:=zH hqX;clear hqX hoq htr;(go_wp2_with fail;repeat ((first|refine cZ ?_|refine cW ?_);go_wp2_with fail));refine HTR.out.mono ?_;rintro e w5 ⟨v5,rfl,ho5,hg5⟩;have HOG5:=zH (HOG2.out.grown0 hg5);have hne5:v5.ownBlock≠vg.ownBlock:=by
    intro e;obtain⟨g5,c5,rfl,h1,h2,_⟩:=ho5.block;obtain⟨g6,c6,rfl,h3,h4,_⟩:=HOG2.out.block;simp[Value.ownBlock]at e;omega
   have ho5':OwnI B0 w5 v5 (yf (xo q)):=⟨ho5.1,fun k hk=>by have h1:=ho5.2 k hk;have h2:=HOG2.out.lt;omega⟩;have HO5:=zH ho5';have HNE5:=zH hne5;have HG5:=zH (ya HG2.out hg5);clear ho5 ho5' hne5 hg5;((repeat (go_wp2_with (first | (at_builtin;refine yk rfl _ _ _ _ rfl ze ze ug (HOG5.out.alloc _) zb _ zb [rest] (ztn Tryd.underlying39 rest _) zh ?_;intro v6 w6 ho6 hs6));first | (refine jq ?hc ze ?_;(case hc=>(simp[ov, *];done))) | (refine kj ?hc ze ?_;(case hc=>(simp[ov, *];done)))));go_wp2_with (first | (at_builtin;refine yk rfl _ _ _ _ rfl ze ze ug (HOG5.out.alloc _) zb _ zb [rest] (ztn Tryd.underlying39 rest _) zh ?_;intro v6 w6 ho6 hs6)));have hXq:xo q<X:=by have:=HQX.out;omega
   refine wo HRK (xo q) (by have:=HKK.out;omega) ⟨xo q,gs++[rest],v6,v5,rfl,zd,?_,?_,by rw[List.length_append];simp;omega,zb,zb,ho6,?_,?_,?_⟩
   ·rw[ydk,List.length_append,List.length_singleton,Nat.pow_succ];have h1:=HV.out;have h2:=HQX.out;rw[<-h2,Nat.mul_add]at h1;have h3:1000000000^gs.length*1000000000*xo q=1000000000^gs.length*(xo q*1000000000):=by rw[Nat.mul_assoc,Nat.mul_comm 1000000000]
    omega
   ·intro x hx;rcases List.mem_append.1 hx with h | h
    ·exact HGS.out x h
    ·rw[List.mem_singleton.1 h];exact hrl
   ·exact (HO5.out.alloc _).grown hs6.1 HNE5.out
   ·intro e;obtain⟨g5,c5,hv5,h1,h2,_⟩:=HO5.out.block;rw[hv5]at e;have h3:=hs6.2 g5 e.symm (by show g5<(w5.heap.push _).size;simp;omega);apply HNE5.out;rw[hv5,h3];rfl
   ·refine xt (T:=B0) (by have:=HB0.out;omega) (ya HG5.out (World.grownBy_alloc w5 _ none)) (HOG5.out.alloc _) hs6
  ·obtain⟨j,rfl⟩:∃ j,k=j+1:=⟨k-1,zd⟩;have e1:((j+1:Nat):Int)-1=(j:Int):=zd;rw[e1]at s6;have hjN:(j:Int)<(N:Int):=zd;have hjN2:j<N:=zd;have hj0:(0:Int)<=(j:Int):=zd;have hjl:j<(yf X).length:=by rw[HN.out];exact hjN2
   obtain⟨x,hx⟩:=zX ((yf X).getD j 0);have hxl:x<1073741824:=by rw[<-hx];exact (wt X).getD j
   have hc:=HOX2.out.cell j x (by
    rw[List.getElem?_append_left zN,List.getElem?_take_of_lt zd,<-hx,List.getD_eq_getElem?_getD,List.getElem?_eq_getElem hjl];rfl)
   unfold qd at hc;have hfz:=HOX2.out.frozen j;have HQ2:=zH (yfh (yf X) q j rest hjl HQV.out);have HSM:=zH (ye3 (yf X) q j ((rest*1073741824+x) / 1000000000) hjl);rw[hx]at HQ2;have hyl:=yel hxl hrl;have HLY:=zH hyl;have HLAY:=zH (HOX2.out.laid j ((rest*1073741824+x) / 1000000000) (by rw[List.length_append,List.length_take];omega));have HOTH:=zH (HOG2.out.otherc (a:=⟨gx,j,none⟩) (by intro e;exact HNE2.out e.symm) (qd ((rest*1073741824+x) / 1000000000)));unfold qd at HLAY HOTH;clear hx hjl hyl e1 hk0;(go_wp2_with fail;repeat ((first|refine cZ ?_|refine cW ?_);go_wp2_with fail));refine wo HRJ j (by have:=HK2.out;omega) ⟨j,(rest*1073741824+x) / 1000000000::q,(rest*1073741824+x)%1000000000,rfl,zd,by have:=HQN.out;rw[List.length_cons];omega,?_,Nat.mod_lt _ zd,HQ2.out,zb,zb,zj,zj,?_,?_,?_⟩
   ·intro z hz;rcases List.mem_cons.1 hz with h | h
    ·rw[h];exact HLY.out
    ·exact HQL.out z h
   ·exact HOTH.out
   ·have:=HLAY.out;rw[HSM.out]at this;exact this
   ·exact yb HG2.out _ (by have:=HB0.out;show w.heap.size<=gx;omega)
def le2 (a b:Nat) (k:Int):Prop:=b*2^k.toNat<=a*2^(-k).toNat
instance (a b:Nat) (k:Int):Decidable (le2 a b k):=by unfold le2;exact inferInstance
def uo (a b:Nat):Int:=if le2 a b ((yu a:Int)-yu b) then (yu a:Int)-yu b else (yu a:Int)-yu b-1
theorem p2 (k:Nat):0<2^k:=Nat.two_pow_pos k
theorem ws {a b:Nat} {k j:Int} {n:Nat} (hn:k+j=(n:Int)):le2 a b k↔2^n*(b*2^(-j).toNat)<=a*2^j.toNat:=by
 unfold le2;refine uf (p2 j.toNat) (p2 (-k).toNat) ?_ ?_
 ·rw[Nat.mul_assoc,<-Nat.pow_add,Nat.mul_left_comm,<-Nat.pow_add,Nat.mul_assoc,<-Nat.pow_add];congr 2;omega
 ·rw[Nat.mul_assoc,<-Nat.pow_add,Nat.mul_assoc,<-Nat.pow_add];congr 2;omega
theorem zan {a b c d:Nat} (hb:0<b) (hd:0<d) (h:a*d=c*b) (k:Int):le2 a b k↔le2 c d k:=by
 unfold le2;refine uf hd hb ?_ ?_
 ·ac_rfl
 ·rw[Nat.mul_right_comm,h,Nat.mul_right_comm]
theorem wh {a b:Nat} {k j:Int} (h:j<=k) (hk:le2 a b k):le2 a b j:=by
 unfold le2 at *
 have h1:b*2^j.toNat*2^(-k).toNat<=b*2^k.toNat*2^(-j).toNat:=by
  rw[Nat.mul_assoc,<-Nat.pow_add,Nat.mul_assoc,<-Nat.pow_add];exact Nat.mul_le_mul_left _ (Nat.pow_le_pow_right zd zd)
 have h2:=Nat.mul_le_mul_right (2^(-j).toNat) hk;have h3:b*2^j.toNat*2^(-k).toNat<=a*2^(-j).toNat*2^(-k).toNat:=by
  rw[Nat.mul_right_comm a];exact Nat.le_trans h1 h2
 exact Nat.le_of_mul_le_mul_right h3 (p2 _)
theorem zeg {a b:Nat} {k j:Int} (h1:le2 a b k) (h2:¬le2 a b (k+1)) (h3:le2 a b j) (h4:¬le2 a b (j+1)):k=j:=by
 rcases Int.lt_trichotomy k j with h | h | h
 ·exact absurd (wh zd h3) h2
 ·exact h
 ·exact absurd (wh zd h1) h4
theorem wg (a b:Nat) (ha:a≠0) (hb:b≠0):le2 a b (uo a b)/\¬le2 a b (uo a b+1):=by
 have a1:=vw ha;have a2:=ke a;have b1:=vw hb;have b2:=ke b;have hup:¬le2 a b ((yu a:Int)-yu b+1):=by
  rw[ws (j:=(yu b:Int)-1) (n:=yu a) zd];have hp:=un hb;rw[show ((yu b:Int)-1).toNat=yu b-1 by omega,show (-((yu b:Int)-1)).toNat=0 by omega,Nat.pow_zero,Nat.mul_one,Nat.not_le,Nat.mul_comm (2^yu a)];exact Nat.lt_of_lt_of_le (Nat.mul_lt_mul_of_pos_right a2 (p2 _)) (by rw[Nat.mul_comm];exact Nat.mul_le_mul_right _ b1)
 have hlo:le2 a b ((yu a:Int)-yu b-1):=by
  have hp:=un ha;rw[ws (j:=(yu b:Int)) (n:=yu a-1) zd];rw[show ((yu b:Int)).toNat=yu b by omega,show (-((yu b:Int))).toNat=0 by omega,Nat.pow_zero,Nat.mul_one];exact Nat.mul_le_mul a1 (Nat.le_of_lt b2)
 unfold uo;split
 ·next h=>exact⟨h,hup⟩
 ·next h=>exact⟨hlo,by rw[Int.sub_add_cancel];exact h⟩
theorem zfa {a b:Nat} {k:Int} (ha:a≠0) (hb:b≠0) (h1:le2 a b k) (h2:¬le2 a b (k+1)):uo a b=k:=
 zeg (wg a b ha hb).1 (wg a b ha hb).2 h1 h2
def rB (a b:Nat) (e:Int):Nat:=vi (a*2^(-e).toNat) (b*2^e.toNat)
def yt (f bias:Int) (a b:Nat):Int:=if a=0 then 1-bias-f else max (1-bias-f) (uo a b-f)
def xh (f bias:Int) (inf:Nat) (a b:Nat):Nat:=
 if yt f bias a b<=bias-f then (yt f bias a b-(1-bias-f)).toNat*2^f.toNat+rB a b (yt f bias a b) else inf
theorem zld (a b:Nat) (f bias:Int) (hb:b≠0) (hf:0<=f):rB a b (yt f bias a b)<=2^(f.toNat+1):=by
 unfold rB yt;by_cases h0:a=0
 ·subst h0;refine zcw (Nat.mul_pos zd (p2 _)) ?_;rw[Nat.zero_mul];exact Nat.zero_le _
 ·rw[if_neg h0];obtain⟨h1,h2⟩:=wg a b h0 hb;generalize uo a b=k at *
  obtain⟨e,he⟩:=zX (max (1-bias-f) (k-f));rw[he];have h3:¬le2 a b (e+f+1):=fun h=>h2 (wh zd h)
  rw[ws (j:=-e) (n:=f.toNat+1) zd,Int.neg_neg,Nat.not_le]at h3;exact zcw (Nat.mul_pos zd (p2 _)) (Nat.le_of_lt h3)
theorem kt (A B:Nat) (hB:0<B):2*(vi A B*B)<=2*A+B/\2*A<=2*(vi A B*B)+B/\(vi A B%2=1->2*(vi A B*B)<2*A+B/\2*A<2*(vi A B*B)+B):=by
 have h0:=Nat.div_add_mod A B;have hr:A%B<B:=Nat.mod_lt _ hB;unfold vi;rw[Nat.mul_comm B]at h0;generalize A / B=q at *
 generalize A%B=r at *
 have e:(q+1)*B=q*B+B:=zβv;split
 ·rw[e];generalize q*B=x at *
  omega
 ·generalize q*B=x at *
  omega
theorem qf (A B s:Nat) (hB:0<B):vi A B=s↔2*(s*B)<=2*A+B/\2*A<=2*(s*B)+B/\(s%2=1->2*(s*B)<2*A+B/\2*A<2*(s*B)+B):=by
 constructor
 ·rintro rfl;exact kt A B hB
 ·intro ⟨h1,h2,h3⟩;obtain⟨k1,k2,k3⟩:=kt A B hB;generalize vi A B=t at *
  rcases Nat.lt_trichotomy t s with h | h | h
  ·exfalso;rcases Nat.lt_or_ge (t+1) s with h4 | h4
   ·have:=Nat.mul_le_mul_right B (show t+2<=s by omega);rw[Nat.add_mul]at this;omega
   ·have h5:s=t+1:=zd;subst h5;rw[Nat.add_mul,Nat.one_mul]at h1 h2 h3;generalize t*B=x at *
    omega
  ·exact h
  ·exfalso;rcases Nat.lt_or_ge (s+1) t with h4 | h4
   ·have:=Nat.mul_le_mul_right B (show s+2<=t by omega);rw[Nat.add_mul]at this;omega
   ·have h5:t=s+1:=zd;subst h5;rw[Nat.add_mul,Nat.one_mul]at k1 k2 k3;generalize s*B=x at *
    omega
theorem ztf (E:Int) (X b:Nat):X*2^(-(E-1)).toNat*2^E.toNat=2*(X*2^(-E).toNat)*2^(E-1).toNat:=by
 have:2^(-(E-1)).toNat*2^E.toNat=2*2^(-E).toNat*2^(E-1).toNat:=by
  rw[Nat.mul_comm 2,<-Nat.pow_succ,<-Nat.pow_add,<-Nat.pow_add];congr 1;omega
 calc X*2^(-(E-1)).toNat*2^E.toNat=X*(2^(-(E-1)).toNat*2^E.toNat):=by ac_rfl
  _=X*(2*2^(-E).toNat*2^(E-1).toNat):=by rw[this]
  _=2*(X*2^(-E).toNat)*2^(E-1).toNat:=by ac_rfl
theorem ztx (a b:Nat) (hb:b≠0) (E:Int):rB a b (E-1)=vi (2*(a*2^(-E).toNat)) (b*2^E.toNat):=by
 unfold rB;refine vm (Nat.mul_pos zd (p2 _)) (Nat.mul_pos zd (p2 _)) ?_;have:=ztf E a b;calc a*2^(-(E-1)).toNat*(b*2^E.toNat)=a*2^(-(E-1)).toNat*2^E.toNat*b:=by ac_rfl
  _=2*(a*2^(-E).toNat)*2^(E-1).toNat*b:=by rw[this]
  _=2*(a*2^(-E).toNat)*(b*2^(E-1).toNat):=by ac_rfl
theorem zke (a b:Nat) (E:Int) (n:Nat):le2 a b (E+n)↔2^n*(b*2^E.toNat)<=a*2^(-E).toNat:=by
 rw[ws (j:=-E) (n:=n) zd,Int.neg_neg]
theorem zux (n g:Nat):n / g+((decide (g<2*(n%g)) || (g==2*(n%g)&&n / g%2==1))).toNat=vi n g:=by
 unfold vi;by_cases h1:g<2*(n%g)
 ·rw[decide_eq_true h1,if_pos (Or.inl h1)];rfl
 ·rw[decide_eq_false h1,Bool.false_or];by_cases h2:2*(n%g)=g
  ·by_cases h3:n / g%2=1
   ·rw[if_pos (Or.inr ⟨h2,h3⟩),h2,h3];simp
   ·rw[if_neg (fun h=>h.elim h1 (fun h=>h3 h.2))];have:(n / g%2==1)=false:=by rw[beq_eq_false_iff_ne];exact h3
    rw[this,Bool.and_false];rfl
  ·rw[if_neg (fun h=>h.elim h1 (fun h=>h2 h.1))];have:(g==2*(n%g))=false:=by rw[beq_eq_false_iff_ne];exact fun h=>h2 h.symm
   rw[this,Bool.false_and];rfl
theorem qr {n g:Nat} (h:2*n<g):vi n g=0:=by
 have h1:n / g=0:=Nat.div_eq_of_lt zd;have h2:n%g=n:=Nat.mod_eq_of_lt zd;unfold vi;rw[h1,h2,if_neg zd]
theorem zuw (neg:Bool) (n drop:Nat):Ieee.Toward.even.cut neg n drop=vi n (2^drop):=by
 have e:Ieee.Toward.even.cut neg n drop=vi n (1<<<min drop (n.log2+2)):=zux n _;rw[e,Nat.one_shiftLeft];by_cases h:drop<=n.log2+2
 ·rw[Nat.min_eq_left h]
 ·rw[Nat.min_eq_right zd];have h1:n<2^(n.log2+1):=Nat.lt_log2_self;have h2:2^(n.log2+2)=2*2^(n.log2+1):=by rw[Nat.pow_succ 2 (n.log2+1)];omega
  have h3:2^(n.log2+2)<=2^drop:=Nat.pow_le_pow_right zd zd;rw[qr zd,qr zd]
theorem zb9 (mag:Nat) (place:Int) (h:mag≠0):uo (mag*2^place.toNat) (2^(-place).toNat)=place+mag.log2:=by
 have h1:2^mag.log2<=mag:=Nat.log2_self_le h;have h2:mag<2^(mag.log2+1):=Nat.lt_log2_self;have key:∀ j:Nat,le2 (mag*2^place.toNat) (2^(-place).toNat) (place+j)↔2^j<=mag:=by
  intro j;rw[ws (k:=place+j) (j:=-place) (n:=j) zd];rw[Int.neg_neg,Nat.mul_assoc mag,Nat.mul_comm (2^(-place).toNat)];exact⟨fun h=>Nat.le_of_mul_le_mul_right h (Nat.mul_pos (p2 _) (p2 _)),fun h=>Nat.mul_le_mul_right _ h⟩
 refine zfa (Nat.mul_ne_zero h (by have:=p2 place.toNat;omega)) (by have:=p2 (-place).toNat;omega) ((key _).2 h1) ?_;rw[Int.add_assoc,show ((mag.log2:Int)+1)=((mag.log2+1:Nat):Int) by omega,key];omega
theorem znc (mag:Nat) (place E:Int):rB (mag*2^place.toNat) (2^(-place).toNat) E=vi (mag*2^(place-E).toNat) (2^(E-place).toNat):=by
 unfold rB;refine vm (Nat.mul_pos (p2 _) (p2 _)) (p2 _) ?_;rw[Nat.mul_assoc,Nat.mul_assoc,Nat.mul_assoc,<-Nat.pow_add,<-Nat.pow_add,<-Nat.pow_add,<-Nat.pow_add];congr 2;omega
theorem zg4 (fmt:Ieee.Format) (f bias:Int) (inf:Nat) (hf:f=(fmt.fractionBits:Int)) (hl:fmt.leastPlace=1-bias-f) (hi:fmt.infRung=inf) (hinf:inf=(2*bias+1).toNat*2^f.toNat) (hb:1<=bias) (neg:Bool) (mag:Nat) (place:Int):
  fmt.nearest neg mag place=fmt.word neg (xh f bias inf (mag*2^place.toNat) (2^(-place).toNat)):=by
 unfold Ieee.Format.nearest;by_cases h0:mag=0
 ·subst h0;rw[if_pos rfl];congr 1;unfold xh yt;rw[Nat.zero_mul,if_pos rfl,if_pos zd,Int.sub_self];unfold rB;rw[Nat.zero_mul,qr (by have:=Nat.mul_pos (p2 (-place).toNat) (p2 (1-bias-f).toNat);omega)];simp
 ·rw[if_neg h0];have ho:=zb9 mag place h0;have ha:mag*2^place.toNat≠0:=Nat.mul_ne_zero h0 (by have:=p2 place.toNat;omega);have hE:yt f bias (mag*2^place.toNat) (2^(-place).toNat)=max (1-bias-f) (place+mag.log2-f):=by
   unfold yt;rw[if_neg ha,ho]
  have hfn:f.toNat=fmt.fractionBits:=zd;have hR:=zld (mag*2^place.toNat) (2^(-place).toNat) f bias (by have:=p2 (-place).toNat;omega) zd;obtain⟨E,hEE⟩:=zX (max (1-bias-f) (place+(mag.log2:Int)-f));rw[hEE]at hE;rw[hE,znc]at hR;have hlast:max (place+(mag.log2:Int)-fmt.fractionBits) fmt.leastPlace=E:=by rw[<-hEE,hl,hf];omega
  unfold xh;rw[hE,znc];show fmt.word neg (min ((max (place+(mag.log2:Int)-fmt.fractionBits) fmt.leastPlace-fmt.leastPlace).toNat*fmt.binade+Ieee.Toward.even.cut neg (mag<<<(place-max (place+(mag.log2:Int)-fmt.fractionBits) fmt.leastPlace).toNat) (max (place+(mag.log2:Int)-fmt.fractionBits) fmt.leastPlace-place).toNat) fmt.infRung)=_;rw[hlast,zuw,Nat.shiftLeft_eq,hl,hi,hfn];rw[hfn]at hR hinf;have hbin:fmt.binade=2^fmt.fractionBits:=rfl;rw[hbin];have hge:1-bias-f<E->2^fmt.fractionBits<=vi (mag*2^(place-E).toNat) (2^(E-place).toNat):=by
   intro h;refine zia (p2 _) ?_;have h1:2^mag.log2<=mag:=Nat.log2_self_le h0;refine Nat.le_trans ?_ (Nat.mul_le_mul_right _ h1);rw[<-Nat.pow_add,<-Nat.pow_add];exact Nat.pow_le_pow_right zd zd
  generalize vi (mag*2^(place-E).toNat) (2^(E-place).toNat)=R at *
  rw[Nat.pow_succ]at hR;have hP:=p2 fmt.fractionBits;generalize 2^fmt.fractionBits=P at *
  by_cases h:E<=bias-f
  ·rw[if_pos h];congr 1;refine Nat.min_eq_left ?_;rw[hinf];obtain⟨k,hk⟩:=zX ((E-(1-bias-f)).toNat);obtain⟨q,hq⟩:=zX ((2*bias+1).toNat);rw[hk,hq];have h1:k+2<=q:=zd;have h2:=Nat.mul_le_mul_right P h1;rw[Nat.add_mul]at h2;omega
  ·rw[if_neg h];congr 1;refine Nat.min_eq_right ?_;rw[hinf];have h3:=hge zd;obtain⟨k,hk⟩:=zX ((E-(1-bias-f)).toNat);obtain⟨q,hq⟩:=zX ((2*bias+1).toNat);rw[hk,hq];have h1:q<=k+1:=zd;have h2:=Nat.mul_le_mul_right P h1;rw[Nat.add_mul]at h2;omega
theorem zij (neg:Bool) (mag:Nat) (place:Int):Ieee.double.nearest neg mag place=Ieee.double.word neg (xh 52 1023 9218868437227405312 (mag*2^place.toNat) (2^(-place).toNat)):=
 zg4 Ieee.double 52 1023 _ rfl ze ze ze ze neg mag place
theorem zyw (neg:Bool) (mag:Nat) (place:Int):Ieee.single.nearest neg mag place=Ieee.single.word neg (xh 23 127 2139095040 (mag*2^place.toNat) (2^(-place).toNat)):=
 zg4 Ieee.single 23 127 _ rfl ze ze ze ze neg mag place
section
theorem zta (A B d:Nat) (hB:0<B):zcj (4*A) B<4*d↔A<d*B:=by
 have h0:=Nat.div_add_mod (4*A) B;have hr:4*A%B<B:=Nat.mod_lt _ hB;rw[zew];generalize 4*A / B=k at *
 generalize 4*A%B=r at *
 rw[Nat.mul_comm]at h0;have hm:∀ x y:Nat,x<=y->x*B<=y*B:=fun x y h=>Nat.mul_le_mul_right B h
 have e4:4*d*B=4*(d*B):=by rw[Nat.mul_assoc]
 by_cases hr0:r=0
 ·rw[if_pos hr0];constructor
  ·intro h;have:=hm (k+1) (4*d) h;rw[Nat.add_mul]at this;omega
  ·intro h;rcases Nat.lt_or_ge k (4*d) with h1 | h1
   ·exact h1
   ·have:=hm (4*d) k h1;omega
 ·rw[if_neg hr0];constructor
  ·intro h;have:=hm (k+1) (4*d) zd;rw[Nat.add_mul]at this;omega
  ·intro h;rcases Nat.lt_or_ge k (4*d) with h1 | h1
   ·omega
   ·have:=hm (4*d) k h1;omega
section
variable {G H s c dmin dmax : Nat}
end
end
theorem zmf (A B:Nat) (hB:0<B):zcj A B / 2|||zcj A B%2=zcj A (B*2):=by
 have e1:A / (B*2)=A / B / 2:=by rw[Nat.div_div_eq_div_mul]
 have e2:A%(B*2)=B*(A / B%2)+A%B:=by rw[Nat.mod_mul];omega
 have hu:∀ u:Nat,u / 2|||u%2=if u%2=0 then u / 2 else u / 2 / 2*2+1:=by
  intro u;rcases Nat.mod_two_eq_zero_or_one u with h1 | h1
  ·rw[h1,Nat.or_zero,if_pos rfl]
  ·rw[h1,zg2,if_neg zd]
 rw[hu,zew,zew,e1,e2];by_cases h:A%B=0
 ·rw[if_pos h,h,Nat.add_zero];by_cases h1:A / B%2=0
  ·rw[if_pos h1,h1,Nat.mul_zero,if_pos rfl]
  ·rw[if_neg h1,if_neg];intro h2;rcases Nat.mul_eq_zero.1 h2 with h3 | h3
   ·omega
   ·exact h1 h3
 ·rw[if_neg h,if_neg (show ¬((A / B / 2*2+1)%2=0) by omega),if_neg (show ¬(B*(A / B%2)+A%B=0) by omega)];omega
theorem zt5 (u:Nat):u|||u%2=u:=by
 rcases Nat.mod_two_eq_zero_or_one u with h1 | h1
 ·rw[h1,Nat.or_zero]
 ·rw[h1,zg2];omega
theorem zgv {a b n:Nat} {k:Int} (hb:b≠0) (h:le2 a b (k+n)):2^n<=rB a b k:=
 zia (Nat.mul_pos zd (p2 _)) ((zke a b k n).1 h)
theorem zsi {a b n:Nat} {k:Int} (hb:b≠0) (h:¬le2 a b (k+n)):rB a b k<=2^n:=by
 rw[zke,Nat.not_le]at h;exact zcw (Nat.mul_pos zd (p2 _)) (Nat.le_of_lt h)
def prG (F:Nat) (a b:Nat) (e:Int):Nat×Int:=if 2^(F+1)<=rB a b (-e) then (rB a b (1-e),e-1) else (rB a b (-e),e)
def pkG (F:Nat) (bias:Int) (inf:Nat) (x:Nat×Int):Nat:=if x.1<2^F then x.1 else if bias+1-F<=-x.2 then inf else x.1-2^F+(bias+F-x.2).toNat*2^F
theorem qm (F:Nat) (bias:Int) (inf a b:Nat) (E:Int) (h:yt F bias a b=E):xh F bias inf a b=if E<=bias-F then (E-(1-bias-F)).toNat*2^F+rB a b E else inf:=by
 unfold xh;rw[h,Int.toNat_natCast]
theorem zq2 (F:Nat) (bias:Int) (inf a b:Nat) (K e:Int) (ha:a≠0) (hb:b≠0) (hF:1<=F) (hbias:1<=bias) (hinf:inf=(2*bias+1).toNat*2^F)
  (h1:le2 a b (K-1)) (h2:¬le2 a b (K+1)) (h3:rB a b (K-F)<2^(F+1)) (he:e=min (bias+F-1) (F+1-K)):
  pkG F bias inf (prG F a b e)=xh F bias inf a b/\(prG F a b e).1<2^(F+1):=by
 obtain⟨o1,o2⟩:=wg a b ha hb;have hE:yt F bias a b=max (1-bias-F) (uo a b-F):=by unfold yt;rw[if_neg ha]
 generalize uo a b=o at *
 have hP:0<2^F:=p2 F;have hP1:2^(F+1)=2*2^F:=zE;have hoK:K-1<=o/\o<=K:=by
  constructor
  ·rcases Int.lt_or_le o (K-1) with h | h
   ·exact absurd (wh zd h1) o2
   ·exact h
  ·rcases Int.lt_or_le K o with h | h
   ·exact absurd (wh zd o1) h2
   ·exact h
 unfold prG;by_cases c:2^(F+1)<=rB a b (-e)
 ·rw[if_pos c];by_cases d:le2 a b (-e+((F+1:Nat):Int))
  ·have ho:o≥F+1-e:=by
    rcases Int.lt_or_le o (F+1-e) with h | h
    ·exact absurd (wh zd d) o2
    ·exact h
   have hr:rB a b (1-e)<2^(F+1):=by rw[show 1-e=K-F by omega];exact h3
   have hr2:2^F<=rB a b (1-e):=zgv hb (by rw[show 1-e+(F:Int)=o by omega];exact o1);refine⟨?_,hr⟩;rw[qm F bias inf a b (1-e) zd];unfold pkG;dsimp only;rw[if_neg zd];by_cases hi:bias+1-F<=-(e-1)
   ·rw[if_pos hi,if_neg zd]
   ·rw[if_neg hi,if_pos zd,show (bias+F-(e-1)).toNat=(1-e-(1-bias-F)).toNat+1 by omega,Nat.succ_mul];omega
  ·have heq:rB a b (-e)<=2^(F+1):=zsi hb d;have hX:rB a b (-e)=vi (a*2^(-(-e)).toNat) (b*2^(-e).toNat):=rfl;have hYp:0<b*2^(-e).toNat:=Nat.mul_pos zd (p2 _);have ho:o=F-e:=by
    refine zeg o1 o2 ?_ (by rw[show (F:Int)-e+1=-e+((F+1:Nat):Int) by omega];exact d);rw[show (F:Int)-e=-e+(F:Nat) by omega,zke];have:=(kt (a*2^(-(-e)).toNat) (b*2^(-e).toNat) hYp).1;rw[<-hX]at this;have h5:=Nat.mul_le_mul_right (b*2^(-e).toNat) c;rw[hP1,Nat.mul_assoc]at h5;have h6:=Nat.mul_le_mul_right (b*2^(-e).toNat) (show 1<=2^F from hP);omega
   have hR:rB a b (1-e)=2^F:=by
    refine Nat.le_antisymm (zsi hb (by rw[show 1-e+(F:Int)=-e+((F+1:Nat):Int) by omega];exact d)) ?_;have hp:=ztx a b hb (1-e);rw[show 1-e-1=-e by omega]at hp;rw[hp]at c;have hs:rB a b (1-e)=vi (a*2^(-(1-e)).toNat) (b*2^(1-e).toNat):=rfl;have hZ:0<b*2^(1-e).toNat:=Nat.mul_pos zd (p2 _);have k1:=(kt (2*(a*2^(-(1-e)).toNat)) (b*2^(1-e).toNat) hZ).1;have k2:=(kt (a*2^(-(1-e)).toNat) (b*2^(1-e).toNat) hZ).2.1;rw[<-hs]at k2;have k3:=Nat.mul_le_mul_right (b*2^(1-e).toNat) c;rcases Nat.lt_or_ge (rB a b (1-e)) (2^F) with hlt | hge
    ·exfalso;have k4:=Nat.mul_le_mul_right (b*2^(1-e).toNat) (show rB a b (1-e)+1<=2^F from hlt);rw[hP1,Nat.mul_assoc]at k3;rw[Nat.add_mul,Nat.one_mul]at k4;omega
    ·exact hge
   refine⟨?_,by dsimp only;rw[hR];omega⟩;rw[qm F bias inf a b (-e) zd];unfold pkG;dsimp only;rw[hR,if_neg zd];have hre:rB a b (-e)=2*2^F:=zd;by_cases hi:bias+1-F<=-(e-1)
   ·rw[if_pos hi];by_cases hj:-e<=bias-F
    ·rw[if_pos hj,hinf,hre,<-Nat.add_mul];congr 1;omega
    ·rw[if_neg hj]
   ·rw[if_neg hi,if_pos zd,hre,<-Nat.add_mul,show 2^F-2^F=0 by omega,Nat.zero_add];congr 1;omega
 ·rw[if_neg c];refine⟨?_,zw⟩;have d:¬le2 a b (-e+((F+1:Nat):Int)):=fun h=>c (zgv hb h)
  have ho:o<=F-e:=by
   rcases Int.lt_or_le (F-e) o with h | h
   ·exact absurd (wh zd o1) d
   ·exact h
  by_cases hm:e=bias+F-1
  ·rw[qm F bias inf a b (-e) zd,if_pos zd,show (-e-(1-bias-F)).toNat=0 by omega,Nat.zero_mul,Nat.zero_add];unfold pkG;dsimp only;by_cases hl:rB a b (-e)<2^F
   ·rw[if_pos hl]
   ·rw[if_neg hl,if_neg zd,show (bias+F-e).toNat=1 by omega];omega
  ·have hoo:o=F-e:=zd;have hr2:2^F<=rB a b (-e):=zgv hb (by rw[show -e+(F:Int)=o by omega];exact o1);rw[qm F bias inf a b (-e) zd];unfold pkG;dsimp only;rw[if_neg zd];by_cases hi:bias+1-F<=-e
   ·rw[if_pos hi,if_neg zd]
   ·rw[if_neg hi,if_pos zd,show (bias+F-e).toNat=(-e-(1-bias-F)).toNat+1 by omega,Nat.succ_mul];omega
theorem kv (F:Nat) (bias:Int) (inf a b:Nat) (hb:b≠0) (hbias:1<=bias) (hF:1<=F) (h:a≠0->¬le2 a b (-(bias+F))):xh F bias inf a b=0:=by
 have hE:yt F bias a b=1-bias-F:=by
  unfold yt;by_cases ha:a=0
  ·rw[if_pos ha]
  ·rw[if_neg ha];have o1:=(wg a b ha hb).1;have:uo a b < -(bias+F):=by
    rcases Int.lt_or_le (uo a b) (-(bias+F)) with h' | h'
    ·exact h'
    ·exact absurd (wh h' o1) (h ha)
   omega
 rw[qm F bias inf a b _ hE,if_pos zd,Int.sub_self];show 0*2^F+_=0;rw[Nat.zero_mul,Nat.zero_add];unfold rB;refine qr ?_;by_cases ha:a=0
 ·rw[ha,Nat.zero_mul];exact Nat.mul_pos zd (p2 _)
 ·have h':=h ha;rw[ws (j:=bias+F) (n:=0) zd,Nat.pow_zero,Nat.one_mul,Nat.not_le,show (-(bias+F)).toNat=0 by omega,Nat.pow_zero,Nat.mul_one]at h';rw[show (1-bias-F).toNat=0 by omega,Nat.pow_zero,Nat.mul_one];have e:a*2^(bias+F).toNat=2*(a*2^(-(1-bias-F)).toNat):=by
   rw[show (bias+F).toNat=(-(1-bias-F)).toNat+1 by omega,Nat.pow_succ,<-Nat.mul_assoc,Nat.mul_comm _ 2]
  omega
theorem ue (f bias:Int) (inf:Nat) {a b c d:Nat} (hb:b≠0) (hd:d≠0) (h:a*d=c*b):xh f bias inf a b=xh f bias inf c d:=by
 have hz:a=0↔c=0:=by
  constructor
  ·intro h0;rw[h0,Nat.zero_mul]at h;rcases Nat.mul_eq_zero.1 h.symm with h1 | h1
   ·exact h1
   ·exact absurd h1 hb
  ·intro h0;rw[h0,Nat.zero_mul]at h;rcases Nat.mul_eq_zero.1 h with h1 | h1
   ·exact h1
   ·exact absurd h1 hd
 have hE:yt f bias a b=yt f bias c d:=by
  unfold yt;by_cases ha:a=0
  ·rw[if_pos ha,if_pos (hz.1 ha)]
  ·rw[if_neg ha,if_neg (fun hc=>ha (hz.2 hc))];obtain⟨o1,o2⟩:=wg a b ha hb;rw[zfa (fun hc=>ha (hz.2 hc)) hd ((zan zd zd h _).1 o1) (fun hh=>o2 ((zan zd zd h _).2 hh))]
 have hR:∀ E,rB a b E=rB c d E:=by
  intro E;unfold rB;refine vm (Nat.mul_pos zd (p2 _)) (Nat.mul_pos zd (p2 _)) ?_;calc a*2^(-E).toNat*(d*2^E.toNat)=a*d*(2^(-E).toNat*2^E.toNat):=by ac_rfl
   _=c*b*(2^(-E).toNat*2^E.toNat):=by rw[h]
   _=c*2^(-E).toNat*(b*2^E.toNat):=by ac_rfl
 unfold xh;rw[hE,hR]
theorem zcv {A C B:Nat} (hB:0<B) (h:A<=C):vi A B<=vi C B:=by
 have a1:=(kt A B hB);have c1:=(kt C B hB);generalize vi A B=s at *
 generalize vi C B=t at *
 rcases Nat.lt_or_ge t s with h1 | h1
 ·exfalso;have h2:=Nat.mul_le_mul_right B (show t+1<=s from h1);rw[Nat.add_mul,Nat.one_mul]at h2;obtain⟨x1,x2,x3⟩:=a1;obtain⟨y1,y2,y3⟩:=c1;have hst:s=t+1:=by
   rcases Nat.lt_or_ge (t+1) s with h3 | h3
   ·exfalso;have h4:=Nat.mul_le_mul_right B (show t+2<=s from h3);rw[Nat.add_mul]at h4;omega
   ·omega
  rcases Nat.mod_two_eq_zero_or_one s with m | m
  ·have:=y3 zd;omega
  ·have:=x3 m;omega
 ·exact h1
theorem zg5 (F:Nat) (bias:Int) (inf:Nat) {a b c d:Nat} (hb:b≠0) (hd:d≠0) (hbias:1<=bias) (hinf:inf=(2*bias+1).toNat*2^F) (h:a*d<=c*b):xh F bias inf a b<=xh F bias inf c d:=by
 have e1:xh F bias inf a b=xh F bias inf (a*d) (b*d):=ue _ _ _ hb (Nat.mul_ne_zero hb hd) (by ac_rfl);have e2:xh F bias inf c d=xh F bias inf (c*b) (b*d):=ue _ _ _ hd (Nat.mul_ne_zero hb hd) (by ac_rfl);rw[e1,e2];generalize a*d=x at *
 generalize c*b=y at *
 have hD:b*d≠0:=Nat.mul_ne_zero hb hd;generalize b*d=D at *
 clear e1 e2;have hle:yt F bias x D<=yt F bias y D:=by
  unfold yt;by_cases hx:x=0
  ·rw[if_pos hx];split <;> omega
  ·have hy:y≠0:=zd;rw[if_neg hx,if_neg hy];obtain⟨o1,-⟩:=wg x D hx hD;obtain⟨-,q2⟩:=wg y D hy hD;have:uo x D<=uo y D:=by
    rcases Int.lt_or_le (uo y D) (uo x D) with hh | hh
    ·exfalso;apply q2;refine wh (k:=uo x D) zd ?_;unfold le2 at *
     exact Nat.le_trans o1 (Nat.mul_le_mul_right _ h)
    ·exact hh
   omega
 have hxl:1-bias-F<=yt F bias x D:=zβk;have hb1:=zld x D F bias hD zd;rw[Int.toNat_natCast]at hb1;have hP:2^(F+1)=2*2^F:=zE;rw[qm F bias inf x D _ rfl,qm F bias inf y D _ rfl];rcases Int.lt_or_eq_of_le hle with hlt | heq
 ·have hy:y≠0:=by
   intro h0;have:yt F bias y D=1-bias-F:=by unfold yt;rw[if_pos h0]
   omega
  have hoy:yt F bias y D=uo y D-F:=by
   have:yt F bias y D=max (1-bias-F) (uo y D-F):=by unfold yt;rw[if_neg hy]
   omega
  have hr2:2^F<=rB y D (yt F bias y D):=zgv hD (by rw[hoy,show uo y D-(F:Int)+(F:Nat)=uo y D by omega];exact (wg y D hy hD).1);generalize rB y D (yt F bias y D)=ry at *
  generalize rB x D (yt F bias x D)=rx at *
  generalize yt F bias y D=ey at *
  generalize yt F bias x D=ex at *
  have hmul:∀ n m:Nat,n+1<=m->n*2^F+2^F<=m*2^F:=by
   intro n m hnm;have:=Nat.mul_le_mul_right (2^F) hnm;rw[Nat.add_mul,Nat.one_mul]at this;exact this
  by_cases hi:ey<=bias-F
  ·rw[if_pos hi,if_pos zd];have:=hmul (ex-(1-bias-F)).toNat (ey-(1-bias-F)).toNat zd;omega
  ·rw[if_neg hi];by_cases hj:ex<=bias-F
   ·rw[if_pos hj,hinf];have:=hmul (ex-(1-bias-F)).toNat (2*bias).toNat zd;have h4:=hmul (2*bias).toNat (2*bias+1).toNat zd;omega
   ·rw[if_neg hj];exact Nat.le_refl _
 ·rw[heq];have hr:rB x D (yt F bias y D)<=rB y D (yt F bias y D):=zcv (Nat.mul_pos zd (p2 _)) (Nat.mul_le_mul_right _ h);split
  ·omega
  ·exact Nat.le_refl _
theorem ud (F:Nat) (bias:Int) (inf a b:Nat) (hb:b≠0) (hbias:1<=bias) (hinf:inf=(2*bias+1).toNat*2^F):xh F bias inf a b<=inf:=by
 have hb1:=zld a b F bias hb zd;rw[Int.toNat_natCast,Nat.pow_succ]at hb1;have hxl:1-bias-F<=yt F bias a b:=zβk;rw[qm F bias inf a b _ rfl];generalize rB a b (yt F bias a b)=rx at *
 generalize yt F bias a b=ex at *
 by_cases hj:ex<=bias-F
 ·rw[if_pos hj,hinf];have h1:(ex-(1-bias-F)).toNat+2<=(2*bias+1).toNat:=zd;have h2:=Nat.mul_le_mul_right (2^F) h1;rw[Nat.add_mul]at h2;omega
 ·rw[if_neg hj];exact Nat.le_refl _
theorem zug (α β a b m n:Nat) (k k':Int) (h:k'=k+m-n):α*2^m*(a*2^k.toNat)<=β*2^n*(b*2^(-k).toNat)↔α*(a*2^k'.toNat)<=β*(b*2^(-k').toNat):=by
 refine uf (p2 k'.toNat) (p2 (m+k.toNat)) ?_ ?_
 ·rw[Nat.pow_add];ac_rfl
 ·have e:2^n*2^(-k).toNat*2^k'.toNat=2^(-k').toNat*2^(m+k.toNat):=by
   rw[<-Nat.pow_add,<-Nat.pow_add,<-Nat.pow_add];congr 1;omega
  calc β*2^n*(b*2^(-k).toNat)*2^k'.toNat=β*b*(2^n*2^(-k).toNat*2^k'.toNat):=by ac_rfl
   _=β*b*(2^(-k').toNat*2^(m+k.toNat)):=by rw[e]
   _=β*(b*2^(-k').toNat)*2^(m+k.toNat):=by ac_rfl
def lpT (p:Int):Int:=p*108853 / 32768
def zth (p:Int):Bool:=decide (10^(-p).toNat*2^(lpT p).toNat<=10^p.toNat*2^(-lpT p).toNat)&&decide (16777216*(10^p.toNat*2^(-(lpT p+1)).toNat)<=16777215*(10^(-p).toNat*2^(lpT p+1).toNat))
theorem zqd:(List.range 696).all (fun i=>zth ((i:Int)-348))=true:=by decide +kernel
theorem zvn (p:Int) (h1:-348<=p) (h2:p<=347):zth p=true:=by
 have h:=List.all_eq_true.1 zqd (p+348).toNat (List.mem_range.2 zd);rw[show (((p+348).toNat:Nat):Int)-348=p by omega]at h;exact h
theorem zcq (d L:Nat) (p:Int) (hp1:-348≤p) (hp2:p≤347) (hL:1≤L) (hd1:2^(L-1)≤d) (hd2:d<2^L):
  le2 (d*10^p.toNat) (10^(-p).toNat) ((L:Int)+lpT p-1)∧¬le2 (d*10^p.toNat) (10^(-p).toNat) ((L:Int)+lpT p+1)∧
  ∀ F:Nat,23≤F→rB (d*10^p.toNat) (10^(-p).toNat) ((L:Int)+lpT p-F)<2^(F+1):=by
 have h:=zvn p hp1 hp2
 unfold zth at h
 simp only[Bool.and_eq_true,decide_eq_true_eq]at h
 obtain⟨t1,t2⟩:=h
 have hT:0<10^(-p).toNat:=p10 _
 generalize lpT p=lp at *
 have t3:16777216*(d*10^p.toNat*2^(-(lp+1)).toNat)≤16777215*2^L*(10^(-p).toNat*2^(-(-(lp+1))).toNat):=by
  rw[Int.neg_neg]
  have a1:=Nat.mul_le_mul (Nat.le_of_lt hd2) t2
  calc 16777216*(d*10^p.toNat*2^(-(lp+1)).toNat)=d*(16777216*(10^p.toNat*2^(-(lp+1)).toNat)):=by ac_rfl
   _≤2^L*(16777215*(10^(-p).toNat*2^(lp+1).toNat)):=a1
   _=_:=by ac_rfl
 refine⟨?_,?_,?_⟩
 ·rw[ws (j:=-lp) (n:=L-1) zd,Int.neg_neg]
  have:=Nat.mul_le_mul hd1 t1
  calc _≤_:=this
   _=_:=by ac_rfl
 ·rw[ws (j:=-(lp+1)) (n:=L) zd,Nat.not_le]
  have hpos:0<2^L*(10^(-p).toNat*2^(-(-(lp+1))).toNat):=Nat.mul_pos (p2 _) (Nat.mul_pos hT (p2 _))
  rw[Nat.mul_assoc 16777215]at t3
  omega
 ·intro F hF
  have hlt:2^(F-23)≤2^(F+1):=Nat.pow_le_pow_right zd zd
  have hpF:=p2 (F-23)
  have e24:2^(F+1)=16777216*2^(F-23):=by rw[show F+1=24+(F-23) by omega,Nat.pow_add]
  have key:rB (d*10^p.toNat) (10^(-p).toNat) ((L:Int)+lp-F)≤16777215*2^(F-23):=by
   unfold rB
   refine zcw (Nat.mul_pos hT (p2 _)) ?_
   have m:=(zug 16777216 (2^(F+1)*16777215) (d*10^p.toNat) (10^(-p).toNat) (F+1) L (-(lp+1)) ((F:Int)-(L+lp)) zd).1 (by
    have:=Nat.mul_le_mul_left (2^(F+1)) t3
    calc _=_:=by ac_rfl
     _≤_:=this
     _=_:=by ac_rfl)
   rw[show -((F:Int)-(L+lp))=(L:Int)+lp-F by omega,show ((F:Int)-(L+lp))=-((L:Int)+lp-F) by omega,e24]at m
   have m2:16777216*(d*10^p.toNat*2^(-((L:Int)+lp-F)).toNat)≤16777216*(16777215*2^(F-23)*(10^(-p).toNat*2^((L:Int)+lp-F).toNat)):=by
    calc _≤_:=m
     _=_:=by ac_rfl
   omega
  omega
end Go.Proofs.YtocbeoomhlgnkaaDoor
