/- Lemmas that the claim's top text leans on. No condition of their own. -/
import Derived.Test.YtgfjdeddghbjcaaGreatDoorK23
namespace Go.Proofs.YtgfjdeddghbjcaaGreatDoor
open Go.RowKit
set_option linter.unusedSimpArgs false
set_option linter.unusedVariables false
set_option maxHeartbeats 16000000
def yc1:List Nat->Nat
 | []=>0
 | x::r=>x+1000000000*yc1 r
theorem ydk (a:List Nat) (x:Nat):yc1 (a++[x])=yc1 a+1000000000^a.length*x:=by
 induction a with
 | nil=>simp[yc1]
 | cons y r ih=>
  rw[List.cons_append,yc1,ih,yc1,List.length_cons,Nat.pow_succ,Nat.mul_add];have:1000000000*(1000000000^r.length*x)=1000000000^r.length*1000000000*x:=by rw[<-Nat.mul_assoc,Nat.mul_comm 1000000000]
  omega
theorem yeh (l:List Nat) (i:Nat) (h:i<l.length):yc1 (l.drop i)=l.getD i 0+1000000000*yc1 (l.drop (i+1)):=by
 rw[List.drop_eq_getElem_cons h,yc1,List.getD_eq_getElem?_getD,List.getElem?_eq_getElem h];rfl
theorem OwnI.otherc {T:Nat} {w:World} {v:Value} {xs:List Nat} (h:OwnI T w v xs) {a:Addr} (hne:v.ownBlock≠Option.some a.block) (u:Value):OwnI T (w.setCell a u) v xs:=⟨h.1.setCell_other hne u,h.2⟩
theorem yfh (l q:List Nat) (k rest:Nat) (hk:k<l.length) (h:xo q*1000000000+rest=xo (l.drop (k+1))):
  xo ((rest*1073741824+l.getD k 0) / 1000000000::q)*1000000000+(rest*1073741824+l.getD k 0)%1000000000=xo (l.drop k):=by
 have h1:=yek (q:=q) (x:=l.getD k 0) (rest:=rest) (D:=xo (l.drop (k+1))) h;rw[List.drop_eq_getElem_cons hk,xo];have e:l.getD k 0=l[k]:=by rw[List.getD_eq_getElem?_getD,List.getElem?_eq_getElem hk];rfl
 rw[e]at h1 ⊢;exact h1
theorem ye3 (l q:List Nat) (k y:Nat) (hk:k<l.length):(l.take (k+1)++q).set k y=l.take k++(y::q):=by
 rw[zgj l k hk,List.append_assoc,List.set_append_right _ _ zN];rw[List.length_take,show k-min k l.length=0 by omega];rfl
theorem yda (y:Nat):∀ x,x<=y->(ycr x).length<=(ycr y).length:=by
 induction y using Nat.strongRecOn with
 | _ y ih=>
  intro x hx;by_cases h0:x=0
  ·subst h0;rw[yb9];simp
  ·rw[ycl h0,ycl (show y≠0 by omega),List.length_append,List.length_append];have:=ih (y / 10) zd (x / 10) zd;simp;omega
theorem yeq {x y:Nat} (h:x<=y):(ycr x).length<=(ycr y).length:=yda y x h
set_option maxRecDepth 100000 in
theorem yc0 (v:Value) (a:Nat) (w:World) (hr:NatV w v a) (hx:(yf a).length<=90000):
  Calls Tryz.prog 63 #[v] w fun e w'=>e=.returned (.string ⟨(ycg a).toArray⟩)/\w.grownBy w' none:=by
 have hglen:∀ (gs:List Nat) (X:Nat),yc1 gs+1000000000^gs.length*X=a->X≠0->gs.length<=200000:=by
  intro gs X h hX;have h1:1000000000^gs.length<=a:=Nat.le_trans (Nat.le_mul_of_pos_right _ (Nat.pos_of_ne_zero hX)) zd;have h2:=wu a;have h3:(536870912:Nat)^gs.length<=1000000000^gs.length:=Nat.pow_le_pow_left zd _;have h4:2^(29*gs.length)<2^(30*(yf a).length):=by
   rw[Nat.pow_mul,Nat.pow_mul];exact Nat.lt_of_le_of_lt (Nat.le_trans h3 h1) h2
  have h5:=(Nat.pow_lt_pow_iff_right (a:=2) ze).1 h4;omega
 have HGL:=zH hglen;have HT0:=zH (fun W (h:w.grownBy W none)=>zgi v (yf a) W (RdI.grown hr h) zd);have htr:(yf a).take (zcn (yf a) (yf a).length)=yf a:=by
  rw[zcm _ (wt a) _ (Nat.le_refl _),List.take_length,yfs]
 rw[htr]at HT0;have hXlen:∀ X,X<=a->(yf X).length<=90000:=fun X h=>Nat.le_trans (qt h) hx
 have HXL:=zH hXlen;clear hglen htr hr hx hXlen;refine ye Tryz.func63 rfl (by rw[Tryz.ntmps63];simp) ?_;intro σ hσ;rw[Tryz.ntmps63];have s0:σ 0=v:=hσ 0 zi;clear hσ;have HOG:=zH (OwnI.fresh0 (T:=w.heap.size) (w:=w) (Nat.le_refl _) 3);have HG0:=zH (World.grownBy_alloc w (.cells #[] 3) none);generalize hB0:w.heap.size=B0 at *
 have HB0:=zH hB0;clear hB0;(go_wp2_with fail;repeat ((first|refine cZ ?_|refine cW ?_);go_wp2_with fail));refine (HT0.out _ HG0.out).mono ?_;rintro e w1 ⟨vx,rfl,hox,hgx⟩;have HOG1:=zH (HOG.out.grown0 hgx);have hsz:B0+1<=(w.alloc (.cells #[] 3)).heap.size:=by have:=HB0.out;show B0+1<=(w.heap.push _).size;simp;omega
 have hne0:vx.ownBlock≠some B0:=by
  intro e;have:=hox.2 B0 e;omega
 have hox1:OwnI B0 w1 vx (yf a):=⟨hox.1,fun k hk=>by have:=hox.2 k hk;omega⟩;have HOX:=zH hox1;have HGX:=zH (ya HG0.out hgx);have HNE:=zH hne0;clear hox hgx hsz hne0 hox1 HT0;(go_wp2_with fail;repeat ((first|refine cZ ?_|refine cW ?_);go_wp2_with fail));refine xx (fun kk s' w'=>∃ (X:Nat) (gs:List Nat) (vg vx:Value),kk=X/\X<=a/\yc1 gs+1000000000^gs.length*X=a/\(∀ x ∈ gs,x<1000000000)/\gs.length<=200001/\s' 3=vg/\s' 4=vx/\OwnI B0 w' vg gs/\OwnI B0 w' vx (yf X)/\vx.ownBlock≠vg.ownBlock/\w.grownBy w' none) a
  ⟨a,[],.slice (some ⟨B0,0,none⟩) 0 0,vx,rfl,Nat.le_refl _,by simp[yc1],zi,zi,by simp[yc,yd,HB0.out],zb,HOG1.out,HOX.out,HNE.out,HGX.out⟩ ?_
 clear s0 σ HOG1 HOX HNE HGX HOG HG0 vx w1;rintro kk σ wk ⟨X,gs,vg,vx,hkk,hXa,hval,hgl,hgn,s3,s4,hog,hox,hne,hg⟩ RK KK HRK hKK;have HKK:=zH hkk;have HV:=zH hval;have HGS:=zH hgl;have HOG:=zH hog;have HG:=zH hg;obtain⟨gx,cx,rfl,hgB,hgs,hcx,hcm⟩:=hox.block;have HNE:=zH hne;have hXl:=HXL.out X hXa;obtain⟨N,hN⟩:=zX ((yf X).length);simp only[hN]at s4 hox hcx;rw[hN]at hXl;have HOX:=zH hox;have HN:=zH hN;have HNE2:Hid ((Value.slice (some ⟨gx,0,none⟩) N cx).ownBlock≠vg.ownBlock):=by rw[<-hN];exact HNE.out
 clear hkk hval hgl hog hg hne hox hN HNE;by_cases h0:X=0
 ·subst h0;have hN0:N=0:=by have:=HN.out;rw[xm]at this;simpa using this.symm
  subst hN0;have hgv:yc1 gs=a:=by have:=HV.out;simpa using this
  have HGV:=zH hgv;obtain⟨gg,cg,rfl,hggB,hggs,hcg,hcgm⟩:=HOG.out.block;obtain⟨M,hM⟩:=zX gs.length;simp only[hM]at s3 HOG hcg;rw[hM]at hgn;have HM:=zH hM;have hown0:OwnB wk.heap.size (wk.alloc (Obj.cells #[] 5)) (.slice (some ⟨wk.heap.size,0,none⟩) 0 0) []:=by
   refine⟨⟨wk.heap.size,[],rfl,Row.new wk [] _,zγB⟩,fun k hk=>?_⟩;simp[Value.ownBlock]at hk;omega
  have HOB0:=zH hown0;have HRG:=zH (RdI.of_own HOG.out);have HGA:=zH (ya HG.out (World.grownBy_alloc wk (Obj.cells #[] 5) none));have HGB:=zH (World.grownBy_alloc wk (Obj.cells #[] 5) none);have HGW:=zH HG.out;generalize hBk:wk.heap.size=Bk at *
  clear hgv hM hown0 HOG HV HKK HG HOX HNE2 HN HXL HGL;(go_wp2_with fail;repeat ((first|refine cZ ?_|refine cW ?_);go_wp2_with fail));refine xx (fun kk s' w'=>∃ (i:Nat) (vo:Value),kk=i/\i<=M/\s' 3=.slice (some ⟨gg,0,none⟩) M cg/\s' 9=.int .i64 ((i:Int)-1)/\s' 8=vo/\OwnB Bk w' vo (ycr (yc1 (gs.drop i)))/\wk.grownBy w' none) M
   ⟨M,.slice (some ⟨Bk,0,none⟩) 0 0,rfl,Nat.le_refl _,zb,zb,zb,by rw[List.drop_of_length_le (by rw[HM.out];exact Nat.le_refl _)];simp only[yc1];rw[yb9];exact HOB0.out,HGB.out⟩ ?_
  clear s3 s4 σ HOB0;rintro kk σ wi ⟨i,vo,hkk,hiM,s3,s9,s8,hob,hg⟩ RI KI HRI hKI;have HKI:=zH hkk;have HOB:=zH hob;have HG:=zH hg;have hVi:∀ j,j<=M->(ycr (yc1 (gs.drop j))).length<=2000000:=by
   intro j hj;have:∀ (l:List Nat),(∀ x ∈ l,x<1000000000)->yc1 l<10^(9*l.length):=by
    intro l;induction l with
    | nil=>intro _;simp[yc1]
    | cons x r ih=>
     intro h;have h1:=ih (fun y hy=>h y (by simp[hy]));have h2:=h x zi;rw[yc1,List.length_cons,Nat.mul_add,Nat.pow_add];omega
   have h1:=this (gs.drop j) (fun x hx=>HGS.out x (List.mem_of_mem_drop hx));have h2:=ycm _ _ h1;rw[List.length_drop,HM.out]at h2;omega
  have HVI:=zH hVi;clear hkk hob hg hVi;by_cases hi0:i=0
  ·subst hi0;have hfin:yc1 (gs.drop 0)=a:=by rw[List.drop_zero];exact HGV.out
   rw[hfin]at HOB;have hlen:=(HOB.out.block);by_cases ha0:a=0
   ·subst ha0;rw[yb9]at HOB hlen;obtain⟨go,co,rfl,_⟩:=hlen;(go_wp2_with fail;repeat ((first|refine cZ ?_|refine cW ?_);go_wp2_with fail));exact yl (.string ⟨#[48]⟩) rfl ze zb ⟨rfl,ya HGW.out HG.out⟩
   ·obtain⟨go,co,rfl,_⟩:=hlen;have hcv:=zk5 HOB.out;have hdT:ycg a=ycr a:=by unfold ycg;rw[if_neg ha0]
    have hl0:(ycr a).length≠0:=fun h=>ydn ha0 (List.length_eq_zero_iff.1 h)
    have HDT:=zH hdT;clear hdT;obtain⟨D,hD⟩:=zX ((ycr a).length);rw[hD]at hl0;simp only[hD]at s8 hcv;have q1:((D:Int)==0)=false:=zf;have q2:(D==0)=false:=zf;clear hD hfin;(go_wp2_with fail;repeat ((first|refine cZ ?_|refine cW ?_);go_wp2_with fail));exact yl (.string ⟨(ycr a).toArray⟩) rfl ze zb ⟨by rw[HDT.out],ya HGW.out HG.out⟩
  ·obtain⟨i',rfl⟩:∃ j,i=j+1:=⟨i-1,zd⟩;have e1:((i'+1:Nat):Int)-1=(i':Int):=zd;rw[e1]at s9;have hiN:(i':Int)<(M:Int):=zd;have hiN2:i'<M:=zd;have hi00:(0:Int)<=(i':Int):=zd;have hiL:i'<gs.length:=by rw[HM.out];exact hiN2
   obtain⟨g,hgd⟩:=zX (gs.getD i' 0);have hgd2:gs[i']?=some g:=by rw[<-hgd,List.getD_eq_getElem?_getD,List.getElem?_eq_getElem hiL];rfl
   have hg9:g<1000000000:=HGS.out g (List.mem_of_getElem? hgd2);obtain⟨V,hV⟩:=zX (yc1 (gs.drop (i'+1)));have hVn:yc1 (gs.drop i')=V*1000000000+g:=by rw[yeh gs i' hiL,hgd,hV];omega
   have hlim:=HVI.out i' zd;rw[hVn]at hlim;rw[hV]at HOB;have hmono:∀ x,x<=V*1000000000+g->(ycr x).length<=2000000:=fun x hx=>Nat.le_trans (yeq hx) hlim
   have HMO:=zH hmono;have HVN:=zH hVn;clear hgd hiL hV hVn hlim hmono e1 hi0;(go_wp2_with fail;repeat ((first|refine cZ ?_|refine cW ?_);go_wp2_with fail));refine xx (fun k2 s' w'=>∃ (j d:Nat) (vo:Value),j<=9/\k2=9-j/\(j=9->d=0)/\(j<9->d=10^(8-j))/\s' 3=.slice (some ⟨gg,0,none⟩) M cg/\s' 9=.int .i64 (i':Int)/\s' 10=.int .i64 (d:Int)/\s' 8=vo/\OwnB Bk w' vo (ycr (V*10^j+g / 10^(9-j)))/\wk.grownBy w' none) 9
    ⟨0,100000000,vo,zd,rfl,zd,fun _=>rfl,zb,zb,zb,zb,by rw[Nat.div_eq_of_lt (by simpa using hg9)];simpa using HOB.out,HG.out⟩ ?_
   clear s3 s9 s8 σ HOB HG;rintro k2 σ wj ⟨j,d,vo,hj9,hk2,hd9,hd,s3,s9,s10,s8,hob,hg⟩ RJ KJ HRJ hKJ;have HK2:=zH hk2;have HOB:=zH hob;have HG:=zH hg;clear hk2 hob hg;by_cases hje:j=9
   ·subst hje;have:=hd9 rfl;subst this;clear hd9 hd;(go_wp2_with fail;repeat ((first|refine cZ ?_|refine cW ?_);go_wp2_with fail));refine wo HRI i' (by have:=HKI.out;omega) ⟨i',vo,rfl,zd,zb,zj,zb,?_,HG.out⟩;rw[HVN.out];have:=HOB.out;simpa using this
   ·have hj8:j<9:=zd;have hdd:=hd hj8;have hdpos:0<d:=by rw[hdd];exact Nat.pow_pos zd
    have hdle:d<=100000000:=by rw[hdd];exact Nat.pow_le_pow_right zd (by omega:8-j<=8)
    have hstep:V*10^(j+1)+g / 10^(9-(j+1))=10*(V*10^j+g / 10^(9-j))+g / d%10:=by
     have h1:g / 10^(9-j)=g / d / 10:=by rw[hdd,Nat.div_div_eq_div_mul,<-Nat.pow_succ];congr 2;omega
     rw[h1,show 9-(j+1)=8-j by omega,<-hdd,Nat.pow_succ,Nat.mul_add];have h2:V*(10^j*10)=10*(V*10^j):=by rw[<-Nat.mul_assoc,Nat.mul_comm _ 10]
     omega
    have hnext:(j+1=9->d / 10=0)/\(j+1<9->d / 10=10^(8-(j+1))):=by
     refine⟨fun h=>?_,fun h=>?_⟩
     ·have:j=8:=zd;subst this;rw[hdd]
     ·rw[hdd,show 8-j=(8-(j+1))+1 by omega,Nat.pow_succ,Nat.mul_div_cancel _ zd]
    have hle:V*10^(j+1)+g / 10^(9-(j+1))<=V*1000000000+g:=by
     have h1:V*10^(j+1)<=V*10^9:=Nat.mul_le_mul_left _ (Nat.pow_le_pow_right zd zd);have h2:=Nat.div_le_self g (10^(9-(j+1)));have:(10:Nat)^9=1000000000:=ze;omega
    have HNX:=zH hnext;have hds:=yep (V*10^j+g / 10^(9-j)) (g / d%10) zd;rw[<-hstep]at hds;have hl1:=HMO.out _ hle;have hl2:=HMO.out (V*10^j+g / 10^(9-j)) zd;obtain⟨U,hU⟩:=zX (V*10^j+g / 10^(9-j));rw[hU]at HOB hds hl2;rw[hds]at hl1;have HDS:=zH hds;have hgdl:g / d<1000000000:=Nat.lt_of_le_of_lt (Nat.div_le_self _ _) hg9;have hq:∀ [Inhabited Nat],wrap64 ((g:Int) / (d:Int))=((g / d:Nat):Int):=by intro _;rw[<-Int.natCast_ediv];exact zht _ zd
    have hqr:∀ [Inhabited Nat],((g / d:Nat):Int).tmod 10=((g / d%10:Nat):Int):=by intro _;rfl
    have hdne:((d:Int)==0)=false:=zf;have hd0':(0:Int)<(d:Int):=zd;have hcell:=((HRG.out.grown HG.out).at (by intro h;rw[h]at hgd2;simp at hgd2));obtain⟨g',hg',hz1,hz2,hz3,hcells⟩:=hcell;clear hz1 hz2 hz3;cases hg';have hc:=hcells i' g hgd2;unfold qd at hc;clear hcells hd9 hd hdd hstep hnext hle hds hU;obtain⟨qq,hqq⟩:=zX (g / d);rw[hqq]at HDS hl1 hqr hq hgdl;obtain⟨c,hcd⟩:=zX (qq%10);clear hqq;have hc9:c<=9:=zd;rw[hcd]at HDS hl1 hqr;have hw:∀ [Inhabited Nat],wrap64 (48+(c:Int))%256=48+(c:Int):=by intro _;rw[show (48:Int)+(c:Int)=((48+c:Nat):Int) by omega,zht _ zd];omega
    obtain⟨go,co,rfl,hgo1,hgo2,hco1,hco2⟩:=HOB.out.block;obtain⟨D,hD⟩:=zX ((ycr U).length);simp only[hD]at s8 HOB hco1;rw[hD]at hl2;clear hcd;by_cases hz:U=0/\c=0
    ·obtain⟨rfl,rfl⟩:=hz;rw[yb9]at hD;have hD0:D=0:=by simpa using hD.symm
     subst hD0;clear hD;(go_wp2_with fail;repeat ((first|refine cZ ?_|refine cW ?_);go_wp2_with fail));refine wo HRJ (9-(j+1)) (by have:=HK2.out;omega) ⟨j+1,d / 10,.slice (some ⟨go,0,none⟩) 0 co,zd,rfl,HNX.out.1,HNX.out.2,zb,zb,zj,zb,?_,HG.out⟩;rw[HDS.out,if_pos zi];have:=HOB.out;rwa [yb9]at this
    ·rw[if_neg hz]at HDS hl1;rw[List.length_append]at hl1;have hpick:(decide ((0:Int)<(D:Int))=true)\/(D=0/\c≠0):=by
      by_cases hU0:U=0
      ·right;subst hU0;rw[yb9]at hD;exact⟨by simpa using hD.symm,fun h=>hz ⟨rfl,h⟩⟩
      ·left;have:D≠0:=by rw[<-hD];exact fun h=>ydn hU0 (List.length_eq_zero_iff.1 h)
       simp;omega
     have hD':=hD;clear hD hz;have HC8:=zH (show UInt8.ofNat ((48:Int)+(c:Int)).toNat=UInt8.ofNat (48+c) from by congr 1);have hl3:D<=2000000:=hl2;have huc:UInt8.ofNat (48+c)=UInt8.ofNat (48+c):=rfl;have hlc:c<10:=zd;have hfin:∀ (vo2:Value) (w2:World),OwnB Bk w2 vo2 (ycr U++[UInt8.ofNat (48+c)])->OwnB Bk w2 vo2 (ycr (V*10^(j+1)+g / 10^(9-(j+1)))):=fun vo2 w2 h=>by rw[HDS.out];exact h
     have HFIN:=zH hfin;clear hfin huc hl1;rcases hpick with hp | ⟨rfl,hp⟩
     ·have hp1:(0:Int)<(D:Int):=of_decide_eq_true hp;have hp2:0<D:=zd;clear hp;((repeat (go_wp2_with (first | (at_builtin;refine zch rfl _ _ _ _ rfl ze ze zsw (HOB.out.alloc _) zb _ zb [UInt8.ofNat ((48:Int)+(c:Int)).toNat] (ycc Tryz.underlying100 ((48:Int)+(c:Int)) zd zd _) (by rw[hD'];simp;omega) ?_;intro v2 w2 ho1 hs1));first|refine cZ ?_|refine cW ?_));go_wp2_with (first | (at_builtin;refine zch rfl _ _ _ _ rfl ze ze zsw (HOB.out.alloc _) zb _ zb [UInt8.ofNat ((48:Int)+(c:Int)).toNat] (ycc Tryz.underlying100 ((48:Int)+(c:Int)) zd zd _) (by rw[hD'];simp;omega) ?_;intro v2 w2 ho1 hs1)));refine wo HRJ (9-(j+1)) (by have:=HK2.out;omega) ⟨j+1,d / 10,v2,zd,rfl,HNX.out.1,HNX.out.2,zb,zb,zj,zb,HFIN.out _ _ (by rw[<-HC8.out];exact ho1),?_⟩;refine yx (ym HG.out (World.grownBy_alloc wj _ none)) hs1.1 (fun j e hj=>?_);have:=HOB.out.2 j e;omega
     ·have hp':(((48:Int)+(c:Int)) != 48)=true:=zQ;((repeat (go_wp2_with (first | (at_builtin;refine zch rfl _ _ _ _ rfl ze ze zsw (HOB.out.alloc _) zb _ zb [UInt8.ofNat ((48:Int)+(c:Int)).toNat] (ycc Tryz.underlying100 ((48:Int)+(c:Int)) zd zd _) (by rw[hD'];simp) ?_;intro v2 w2 ho1 hs1));first|refine cZ ?_|refine cW ?_));go_wp2_with (first | (at_builtin;refine zch rfl _ _ _ _ rfl ze ze zsw (HOB.out.alloc _) zb _ zb [UInt8.ofNat ((48:Int)+(c:Int)).toNat] (ycc Tryz.underlying100 ((48:Int)+(c:Int)) zd zd _) (by rw[hD'];simp) ?_;intro v2 w2 ho1 hs1)));refine wo HRJ (9-(j+1)) (by have:=HK2.out;omega) ⟨j+1,d / 10,v2,zd,rfl,HNX.out.1,HNX.out.2,zb,zb,zj,zb,HFIN.out _ _ (by rw[<-HC8.out];exact ho1),?_⟩;refine yx (ym HG.out (World.grownBy_alloc wj _ none)) hs1.1 (fun j e hj=>?_);have:=HOB.out.2 j e;omega
 ·have hN0:N≠0:=by
   intro h;have h1:=HN.out;rw[h]at h1;exact qn h0 (List.length_eq_zero_iff.1 h1)
  have hN1:0<N:=zd;have hN2:(0:Int)<(N:Int):=zd;have hgn2:=HGL.out gs X HV.out h0;(go_wp2_with fail;repeat ((first|refine cZ ?_|refine cW ?_);go_wp2_with fail));refine xx (fun k2 s' w'=>∃ (k:Nat) (q:List Nat) (rest:Nat),k2=k/\k<=N/\q.length+k=N/\Limbs q/\rest<1000000000/\xo q*1000000000+rest=xo ((yf X).drop k)/\s' 3=vg/\s' 4=.slice (some ⟨gx,0,none⟩) N cx/\s' 5=.int .i64 (rest:Int)/\s' 6=.int .i64 ((k:Int)-1)/\OwnI B0 w' vg gs/\OwnI B0 w' (.slice (some ⟨gx,0,none⟩) N cx) ((yf X).take k++q)/\w.grownBy w' none) N
   ⟨N,[],0,rfl,Nat.le_refl _,zi,Limbs.nil,zd,by rw[List.drop_of_length_le zR];rfl,zb,zb,zb,zb,HOG.out,by rw[List.append_nil,List.take_of_length_le zR];exact HOX.out,HG.out⟩ ?_
  clear s3 s4 σ;rintro k2 σ wj ⟨k,q,rest,hk2,hkN,hql,hqL,hrl,hqv,s3,s4,s5,s6,hog2,hox2,hg2⟩ RJ KJ HRJ hKJ;have HK2:=zH hk2;have HQL:=zH hqL;have HQN:=zH hql;have HQV:=zH hqv;have HOG2:=zH hog2;have HOX2:=zH hox2;have HG2:=zH hg2;clear hk2 hqL hqv hog2 hox2 hg2 hql;by_cases hk0:k=0
  ·subst hk0;have hqX:xo q*1000000000+rest=X:=by have:=HQV.out;rwa [List.drop_zero,yfs]at this
   have hoq:OwnI B0 wj (.slice (some ⟨gx,0,none⟩) N cx) q:=by have:=HOX2.out;rwa [List.take_zero,List.nil_append]at this
   have htr:q.take (zcn q q.length)=yf (xo q):=by rw[zcm _ HQL.out _ (Nat.le_refl _),List.take_length]
   have HTR:=zH (zgi _ q wj (RdI.of_own hoq) (by have:=HQN.out;omega));rw[htr]at HTR;have HQX:=zH hqX;clear hqX hoq htr;(go_wp2_with fail;repeat ((first|refine cZ ?_|refine cW ?_);go_wp2_with fail));refine HTR.out.mono ?_;rintro e w5 ⟨v5,rfl,ho5,hg5⟩;have HOG5:=zH (HOG2.out.grown0 hg5);have hne5:v5.ownBlock≠vg.ownBlock:=by
    intro e;obtain⟨g5,c5,rfl,h1,h2,_⟩:=ho5.block;obtain⟨g6,c6,rfl,h3,h4,_⟩:=HOG2.out.block;simp[Value.ownBlock]at e;omega
   have ho5':OwnI B0 w5 v5 (yf (xo q)):=⟨ho5.1,fun k hk=>by have h1:=ho5.2 k hk;have h2:=HOG2.out.lt;omega⟩;have HO5:=zH ho5';have HNE5:=zH hne5;have HG5:=zH (ya HG2.out hg5);clear ho5 ho5' hne5 hg5;((repeat (go_wp2_with (first | (at_builtin;refine yk rfl _ _ _ _ rfl ze ze ug (HOG5.out.alloc _) zb _ zb [rest] (ztn Tryz.underlying36 rest _) zh ?_;intro v6 w6 ho6 hs6));first | (refine jq ?hc ze ?_;(case hc=>(simp[ov, *];done))) | (refine kj ?hc ze ?_;(case hc=>(simp[ov, *];done)))));go_wp2_with (first | (at_builtin;refine yk rfl _ _ _ _ rfl ze ze ug (HOG5.out.alloc _) zb _ zb [rest] (ztn Tryz.underlying36 rest _) zh ?_;intro v6 w6 ho6 hs6)));have hXq:xo q<X:=by have:=HQX.out;omega
   refine wo HRK (xo q) (by have:=HKK.out;omega) ⟨xo q,gs++[rest],v6,v5,rfl,zd,?_,?_,by rw[List.length_append];simp;omega,zb,zb,ho6,?_,?_,?_⟩
   ·rw[ydk,List.length_append,List.length_singleton,Nat.pow_succ];have h1:=HV.out;have h2:=HQX.out;rw[<-h2,Nat.mul_add]at h1;have h3:1000000000^gs.length*1000000000*xo q=1000000000^gs.length*(xo q*1000000000):=by rw[Nat.mul_assoc,Nat.mul_comm 1000000000]
    omega
   ·intro x hx;rcases List.mem_append.1 hx with h | h
    ·exact HGS.out x h
    ·rw[List.mem_singleton.1 h];exact hrl
   ·exact (HO5.out.alloc _).grown hs6.1 HNE5.out
   ·intro e;obtain⟨g5,c5,hv5,h1,h2,_⟩:=HO5.out.block;rw[hv5]at e;have h3:=hs6.2 g5 e.symm (by show g5<(w5.heap.push _).size;simp;omega);apply HNE5.out;rw[hv5,h3];rfl
   ·refine wl (T:=B0) (by have:=HB0.out;omega) (ya HG5.out (World.grownBy_alloc w5 _ none)) (HOG5.out.alloc _) hs6
  ·obtain⟨j,rfl⟩:∃ j,k=j+1:=⟨k-1,zd⟩;have e1:((j+1:Nat):Int)-1=(j:Int):=zd;rw[e1]at s6;have hjN:(j:Int)<(N:Int):=zd;have hjN2:j<N:=zd;have hj0:(0:Int)<=(j:Int):=zd;have hjl:j<(yf X).length:=by rw[HN.out];exact hjN2
   obtain⟨x,hx⟩:=zX ((yf X).getD j 0);have hxl:x<1073741824:=by rw[<-hx];exact (wt X).getD j
   have hc:=HOX2.out.cell j x (by
    rw[List.getElem?_append_left zN,List.getElem?_take_of_lt zd,<-hx,List.getD_eq_getElem?_getD,List.getElem?_eq_getElem hjl];rfl)
   unfold qd at hc;have hfz:=HOX2.out.frozen j;have HQ2:=zH (yfh (yf X) q j rest hjl HQV.out);have HSM:=zH (ye3 (yf X) q j ((rest*1073741824+x) / 1000000000) hjl);rw[hx]at HQ2;have hyl:=yel hxl hrl;have HLY:=zH hyl;have HLAY:=zH (HOX2.out.laid j ((rest*1073741824+x) / 1000000000) (by rw[List.length_append,List.length_take];omega));have HOTH:=zH (HOG2.out.otherc (a:=⟨gx,j,none⟩) (by intro e;exact HNE2.out e.symm) (qd ((rest*1073741824+x) / 1000000000)));unfold qd at HLAY HOTH;clear hx hjl hyl e1 hk0;(go_wp2_with fail;repeat ((first|refine cZ ?_|refine cW ?_);go_wp2_with fail));refine wo HRJ j (by have:=HK2.out;omega) ⟨j,(rest*1073741824+x) / 1000000000::q,(rest*1073741824+x)%1000000000,rfl,zd,by have:=HQN.out;rw[List.length_cons];omega,?_,Nat.mod_lt _ zd,HQ2.out,zb,zb,zj,zj,?_,?_,?_⟩
   ·intro z hz;rcases List.mem_cons.1 hz with h | h
    ·rw[h];exact HLY.out
    ·exact HQL.out z h
   ·exact HOTH.out
   ·have:=HLAY.out;rw[HSM.out]at this;exact this
   ·exact yb HG2.out _ (by have:=HB0.out;show w.heap.size<=gx;omega)
theorem yw2 (w:World) (c:UInt8):OwnB w.heap.size (w.alloc (Obj.cells #[.int .u8 (c.toNat:Int)] 5)) (.slice (some ⟨w.heap.size,0,none⟩) 1 1) [c]:=by
 refine⟨⟨w.heap.size,[],rfl,Row.new w [zkm c] _,zγB⟩,fun k hk=>?_⟩;simp[Value.ownBlock]at hk;omega
theorem yvz (n:Nat) (h:n<=100000):1<=(ycg n).length/\(ycg n).length<=6:=by
 unfold ycg;split
 ·simp
 ·rename_i h0;have h1:=ycm n 6 zd;have h2:(ycr n).length≠0:=fun h=>ydn h0 (List.length_eq_zero_iff.1 h)
  omega
set_option maxRecDepth 10000 in
theorem yt9 (letter:UInt8) (e:Int) (short:Bool) (w:World) (h1:-100000<=e) (h2:e<=100000):
  Calls Tryz.prog 45 #[.int .u8 (letter.toNat:Int),.int .i64 e,.bool short] w fun r w'=>r=.returned (.string ⟨(ys5 letter e short).toArray⟩)/\w.grownBy w' none:=by
 obtain⟨sg,hsg⟩:=zX ((if e<0 then (45:UInt8) else 43));obtain⟨n,hn⟩:=zX e.natAbs;have hres:ys5 letter e short=letter::sg::(if (ycg n).length<2/\short=false then 48::ycg n else ycg n):=by unfold ys5;rw[hsg,hn]
 have hn1:n<=100000:=zd;have HRES:=zH hres;have HSG:=zH hsg;have HO:=zH (fun W=>ww n W zd);have hnl:(yf n).length<=90000:=Nat.le_trans (yv (k:=1) zd) zd;have HT:=zH (fun v W h=>yc0 v n W h hnl);have HCV:=zH (fun W=>zk5 (yw2 W letter));have HLN:=zH (yvz n hn1);clear hres hsg hnl;refine ye Tryz.func45 rfl (by rw[Tryz.ntmps45];simp) ?_;intro σ hσ;rw[Tryz.ntmps45];have s0:σ 0=.int .u8 (letter.toNat:Int):=hσ 0 zi;have s1:σ 1=.int .i64 e:=hσ 1 zi;have s2:σ 2=.bool short:=hσ 2 zi;clear hσ;go_wp2_with fail;refine yr (fun s' w'=>s' 0=.int .u8 (letter.toNat:Int)/\s' 1=.int .i64 (n:Int)/\s' 2=.bool short/\s' 7=.string ⟨#[sg]⟩/\w=w') ?_ ?_
 ·intro R' K' HR hK';by_cases hneg:e<0
  ·have hs:sg=45:=by have:=HSG.out;rw[if_pos hneg]at this;exact this.symm
   subst hs;have he:e=-(n:Int):=zd;subst he;clear HSG h1 h2 hn;have hd:decide (-(n:Int)<0)=true:=zh;have hd2:0<n:=zd;clear hneg;(go_wp2_with fail;repeat ((first|refine cZ ?_|refine cW ?_);go_wp2_with fail));exact got HR zb
  ·have hs:sg=43:=by have:=HSG.out;rw[if_neg hneg]at this;exact this.symm
   subst hs;have he:e=(n:Int):=zd;subst he;clear HSG h1 h2 hn hneg;(go_wp2_with fail;repeat ((first|refine cZ ?_|refine cW ?_);go_wp2_with fail));exact got HR zb
 clear s0 s1 s2 σ HSG h1 h2 hn;rintro σ w' ⟨s0,s1,s2,s7,rfl⟩;go_wp2_with fail;refine (HO.out _).mono ?_;rintro r w1 ⟨v1,rfl,hv1,hg1⟩;have HV1:=zH hv1;have HG1:=zH hg1;clear hv1 hg1;go_wp2_with fail;refine (HT.out _ _ HV1.out).mono ?_;rintro r w2 ⟨rfl,hg2⟩;have HG2:=zH (ya HG1.out hg2);clear hg2;generalize hD:ycg n=ds at *
 have hsz:(⟨ds.toArray⟩:ByteArray).size=ds.length:=zm;obtain⟨D,hDl⟩:=zX ds.length;rw[hDl]at hsz HLN HRES;have hl1:=HLN.out.1;have hl2:=HLN.out.2;have hcv:=HCV.out w2;have c1:(⟨#[48]⟩:ByteArray)++⟨ds.toArray⟩=⟨(48::ds).toArray⟩:=yb0 [48] ds;have c2:(⟨#[letter]⟩:ByteArray)++⟨#[sg]⟩=⟨#[letter,sg]⟩:=yb0 [letter] [sg];have c3:(⟨#[letter,sg]⟩:ByteArray)++⟨ds.toArray⟩=⟨(letter::sg::ds).toArray⟩:=yb0 [letter,sg] ds;have c4:(⟨#[letter,sg]⟩:ByteArray)++⟨(48::ds).toArray⟩=⟨(letter::sg::48::ds).toArray⟩:=yb0 [letter,sg] (48::ds);have hsz2:(⟨(48::ds).toArray⟩:ByteArray).size=D+1:=by rw[<-hDl];simp[ByteArray.size]
 clear hDl hD HT HO;by_cases hD2:D<2
 ·have q1:(D:Int)<2:=zd;cases short
  ·rw[if_pos ⟨hD2,rfl⟩]at HRES;clear c3;(go_wp2_with fail;repeat ((first|refine cZ ?_|refine cW ?_);go_wp2_with fail));exact yl (.string ⟨(letter::sg::48::ds).toArray⟩) rfl ze zb ⟨by rw[HRES.out],ya HG2.out (World.grownBy_alloc w2 _ none)⟩
  ·rw[if_neg zi]at HRES;clear c1 c4;(go_wp2_with fail;repeat ((first|refine cZ ?_|refine cW ?_);go_wp2_with fail));exact yl (.string ⟨(letter::sg::ds).toArray⟩) rfl ze zb ⟨by rw[HRES.out],ya HG2.out (World.grownBy_alloc w2 _ none)⟩
 ·have q1:decide ((D:Int)<2)=false:=zh;have q2:decide (D<2)=false:=zh;rw[if_neg zd]at HRES;clear c1 c4;(go_wp2_with fail;repeat ((first|refine cZ ?_|refine cW ?_);go_wp2_with fail));exact yl (.string ⟨(letter::sg::ds).toArray⟩) rfl ze zb ⟨by rw[HRES.out],ya HG2.out (World.grownBy_alloc w2 _ none)⟩
def gG (E p:Int):Nat:=2^E.toNat*10^p.toNat
def gH (E p:Int):Nat:=2^(-E).toNat*10^(-p).toNat
def ivOk (E:Int):Bool:=
 decide (gH E (-(E*78913 / 262144))<=gG E (-(E*78913 / 262144)))&&decide (gG E (-(E*78913 / 262144))<10*gH E (-(E*78913 / 262144))) &&
 decide (4*gH E (-((E*631305-261663) / 2097152))<=3*gG E (-((E*631305-261663) / 2097152)))&&decide (3*gG E (-((E*631305-261663) / 2097152))<40*gH E (-((E*631305-261663) / 2097152)))
set_option maxRecDepth 100000 in
theorem ys2:(List.range 2201).all (fun i=>ivOk ((i:Int)-1100))=true:=by decide +kernel
theorem iv_ok (E:Int) (h1:-1100<=E) (h2:E<=1100):(gH E (-(E*78913 / 262144))<=gG E (-(E*78913 / 262144))/\gG E (-(E*78913 / 262144))<10*gH E (-(E*78913 / 262144)))/\
  4*gH E (-((E*631305-261663) / 2097152))<=3*gG E (-((E*631305-261663) / 2097152))/\3*gG E (-((E*631305-261663) / 2097152))<40*gH E (-((E*631305-261663) / 2097152)):=by
 have h:=ys2;rw[List.all_eq_true]at h;have:=h (E+1100).toNat (List.mem_range.2 zd);rw[show (((E+1100).toNat:Nat):Int)-1100=E by omega]at this;unfold ivOk at this;simp only[Bool.and_eq_true,decide_eq_true_eq]at this;exact⟨⟨this.1.1.1,this.1.1.2⟩,this.1.2,this.2⟩
theorem yp0 (E p:Int):0<gG E p:=Nat.mul_pos (p2 _) (p10 _)
theorem ymu (E p:Int):0<gH E p:=Nat.mul_pos (p2 _) (p10 _)
theorem ylv (k z:Nat) (E p:Int) (hz:2<=z):zvm (k*2^(z-2)) (E-z) p=zcj (4*(k*gG E p)) (4*gH E p):=by
 rw[ylr];refine zd7 (Nat.mul_pos (zjf _) (p10 _)) (Nat.mul_pos zd (ymu E p)) ?_;have e:2^(z-2)*2^(E-z).toNat*4*2^(-E).toNat=2^E.toNat*2^(-(E-z)).toNat:=by
  rw[show (4:Nat)=2^2 from rfl,<-Nat.pow_add,<-Nat.pow_add,<-Nat.pow_add,<-Nat.pow_add];congr 1;omega
 unfold vN vD gG gH;calc 4*(k*2^(z-2)*2^(E-z).toNat*10^p.toNat)*(4*(2^(-E).toNat*10^(-p).toNat))=4*k*10^p.toNat*10^(-p).toNat*(2^(z-2)*2^(E-z).toNat*4*2^(-E).toNat):=by ac_rfl
  _=4*k*10^p.toNat*10^(-p).toNat*(2^E.toNat*2^(-(E-z)).toNat):=by rw[e]
  _=4*(k*(2^E.toNat*10^p.toNat))*(2^(-(E-z)).toNat*10^(-p).toNat):=by ac_rfl
theorem yow (s z:Nat) (E p:Int):zvm (s*2^z) (E-z) p=zcj (4*(s*gG E p)) (gH E p):=by
 rw[ylr];refine zd7 (Nat.mul_pos (zjf _) (p10 _)) (ymu E p) ?_;have e:2^z*2^(E-z).toNat*2^(-E).toNat=2^E.toNat*2^(-(E-z)).toNat:=by
  rw[<-Nat.pow_add,<-Nat.pow_add,<-Nat.pow_add];congr 1;omega
 unfold vN vD gG gH;calc 4*(s*2^z*2^(E-z).toNat*10^p.toNat)*(2^(-E).toNat*10^(-p).toNat)=4*s*10^p.toNat*10^(-p).toNat*(2^z*2^(E-z).toNat*2^(-E).toNat):=by ac_rfl
  _=4*s*10^p.toNat*10^(-p).toNat*(2^E.toNat*2^(-(E-z)).toNat):=by rw[e]
  _=4*(s*(2^E.toNat*10^p.toNat))*(2^(-(E-z)).toNat*10^(-p).toNat):=by ac_rfl
theorem iv_of (s z c:Nat) (E p:Int) (mn mx:Nat) (hz:2<=z) (hs0:0<s) (hs:s<9007199254740992) (hc:c=1/\s%2=0/\4*gH E p<=3*gG E p/\3*gG E p<40*gH E p\/c=2/\gH E p<=gG E p/\gG E p<10*gH E p)
  (hmn:mn=(4*s-c)*2^(z-2)) (hmx:mx=(4*s+2)*2^(z-2)) (u1:usE mn (E-z) p=zvm mn (E-z) p) (u2:usE mx (E-z) p=zvm mx (E-z) p):
  Iv (gG E p) (gH E p) s c (yll (yj6 (usE mn (E-z) p) ((s%2:Nat):Int))) (ykw (yj6 (usE mx (E-z) p) (-((s%2:Nat):Int)))):=by
 have hg:=yp0 E p;have hh:=ymu E p;rw[u1,u2,hmn,hmx,ylv _ _ _ _ hz,ylv _ _ _ _ hz];clear u1 u2 hmn hmx;generalize gG E p=G at *
 generalize gH E p=H at *
 have hB:0<4*H:=zd;have hcs:c<=2:=zd;have e1:(4*s-c)*G+c*G=4*(s*G):=by rw[<-Nat.add_mul,Nat.sub_add_cancel zd,Nat.mul_assoc]
 have e2:(4*s+2)*G=4*(s*G)+2*G:=by rw[Nat.add_mul,Nat.mul_assoc]
 have e3:∀ d,d*(4*H)=4*(d*H):=fun d=>by rw[Nat.mul_left_comm]
 have hsG:s*G<=9007199254740992*G:=Nat.mul_le_mul_right _ zd;have hG14:3*G<40*H:=zd;have b1:zcj (4*((4*s-c)*G)) (4*H)<18446744073709551600:=by
  have:=(zta ((4*s-c)*G) (4*H) 1000000000000000000 hB).2 zd;omega
 have b2:zcj (4*((4*s+2)*G)) (4*H)<18446744073709551600:=by
  have:=(zta ((4*s+2)*G) (4*H) 1000000000000000000 hB).2 zd;omega
 have b3:0<zcj (4*((4*s+2)*G)) (4*H):=by
  rcases Nat.eq_zero_or_pos (zcj (4*((4*s+2)*G)) (4*H)) with h | h
  ·exfalso;have:=(yn2 ((4*s+2)*G) (4*H) 0 hB).1 zd;rw[Nat.zero_mul]at this;omega
  ·exact h
 have l1:=fun d=>yn2 ((4*s-c)*G) (4*H) d hB
 have l2:=fun d=>zta ((4*s-c)*G) (4*H) d hB
 have l3:=fun d=>yn2 ((4*s+2)*G) (4*H) d hB
 have l4:=fun d=>zta ((4*s+2)*G) (4*H) d hB
 generalize zcj (4*((4*s-c)*G)) (4*H)=v1 at *
 generalize zcj (4*((4*s+2)*G)) (4*H)=v2 at *
 refine⟨hg,hh,hs0,hc,fun d=>?_,fun d=>?_⟩
 ·have h1:=l1 d;have h2:=l2 d;rw[e3]at h1 h2;by_cases ho:s%2=1
  ·rw[if_pos ho,ho,show (((1:Nat):Int))=1 from rfl,yrd v1 d b1,h2];constructor <;> intro h <;> omega
  ·rw[if_neg ho,show s%2=0 by omega,show (((0:Nat):Int))=0 from rfl,ymt v1 b1,yqd v1 d b1,h1];constructor <;> intro h <;> omega
 ·have h3:=l3 d;have h4:=l4 d;rw[e3]at h3 h4;by_cases ho:s%2=1
  ·rw[if_pos ho,ho,show (-((1:Nat):Int))=-1 from rfl,yp2 v2 d b3 b2];constructor
   ·intro h;have:¬v2<=4*d:=by omega
    rw[h3]at this;omega
   ·intro h;have:¬v2<=4*d:=by rw[h3];omega
    omega
  ·rw[if_neg ho,show s%2=0 by omega,show (-((0:Nat):Int))=0 from rfl,ymt v2 b2,ymx];constructor
   ·intro h;have:¬v2<4*d:=by omega
    rw[h4]at this;omega
   ·intro h;have:¬v2<4*d:=by rw[h4];omega
    omega
theorem yqo {Z:Nat} {ME:Int} {mb m:Nat} {x:Int} (hz:Kd Z ME mb m x) (hm0:m≠0):(2^mb<=m->shS m=Z)/\(m<2^mb->Z<shS m)/\shS m<=63:=by
 have hm53:m<2^53:=zβH;obtain⟨hb1,hb2,hb3,hb4⟩:=zdq m zd hm0;have hmb:m<2^(mb+1):=by
  rcases hz with⟨_,_,rfl,_,_,h⟩ | ⟨_,_,rfl,_,_,h⟩ <;> exact h
 have hbm:=Lib.bitLen_le m (mb+1) zβH hmb;have hS:shS m=64-Lib.bitLen m:=rfl;refine⟨fun h=>?_,fun h=>?_,zd⟩
 ·have h2:mb<Lib.bitLen m:=(Nat.pow_lt_pow_iff_right (by omega:1<2)).1 (Nat.lt_of_le_of_lt h hb3);unfold Kd at hz;omega
 ·have h2:=Lib.bitLen_le m mb zβH h;unfold Kd at hz;omega
theorem yrw {m:Nat} (hm:m<2^53) (hm0:m≠0) (S:Nat) (hS:S<=63) (h:m*2^S=9223372036854775808):m=2^(63-S):=by
 have e:(9223372036854775808:Nat)=2^(63-S)*2^S:=by rw[<-Nat.pow_add,show 63-S+S=63 by omega]
 rw[e]at h;exact Nat.eq_of_mul_eq_mul_right (p2 S) h
def yoy (G H s dmin dmax:Nat) (p:Int):Nat×Int:=
 if dmin<=dmax / 10*10 then (dmax / 10,-(p-1)) else if dmin<dmax then (vi (s*G) H,-p) else (dmin,-p)
theorem yoh (Z:Nat) (ME:Int) (mb m:Nat) (x:Int) (hz:Kd Z ME mb m x) (hnorm:2^mb<=m\/x-(mb:Nat)=ME+Z) (hm0:m≠0):
  ∃ (c dmin dmax:Nat) (p:Int),(c=1↔(m=2^mb/\ME+Z<x-(mb:Nat)))/\Iv (gG (x-(mb:Nat)) p) (gH (x-(mb:Nat)) p) m c dmin dmax/\-348<=p/\p<=347/\(c=2->p=-((x-(mb:Nat))*78913 / 262144))/\
   kg Z ME (m*2^shS m) (x-(mb:Nat)-(shS m:Nat))=yoy (gG (x-(mb:Nat)) p) (gH (x-(mb:Nat)) p) m dmin dmax p:=by
 have ht:=ypd hz hm0;obtain⟨n1,n2,n3⟩:=yqo hz hm0;have hge:=ht.ge;have hlt:=ht.lt;have hmod:=ht.mod;have hlo:=ht.lo;have hhi:=ht.hi;have hs11:=ht.s11;have hm53:=ht.m53;have htp:=yrw hm53 hm0 (shS m) n3;have hE2:-1074<=x-(mb:Nat)/\x-(mb:Nat)<=971:=zβH;have hleast:ME+Z<=x-(mb:Nat):=zβH;have hZ2:2<=Z:=zβH;have hlo2:-1200<=x-(mb:Nat)-(shS m:Nat):=zd;generalize shS m=S at *
 generalize x-(mb:Nat)=E at *
 have hq:m*2^S=4*m*2^(S-2):=by
  have:2^S=2^(S-2)*4:=by rw[show (4:Nat)=2^2 from rfl,<-Nat.pow_add];congr 1;omega
  rw[this];ac_rfl
 have hp1:2*2^(S-2)=2^(S-1):=by rw[Nat.mul_comm,<-Nat.pow_succ];congr 1;omega
 have hpw:2^(S-1)*2<=m*2^S:=by
  rw[<-Nat.pow_succ,show (S-1).succ=S by omega];exact Nat.le_mul_of_pos_left _ zd
 have h512:2^(S-2)%512=0:=by
  rw[show S-2=(S-11)+9 by omega,Nat.pow_add];exact Nat.mul_mod_left _ _
 have hmx:m*2^S+2^(S-1)<18446744073709551616:=by
  have h64:(18446744073709551616:Nat)=2^(64-S)*2^S:=by rw[<-Nat.pow_add,show 64-S+S=64 by omega]
  have h1:m<2^(64-S):=by
   rw[h64]at hlt;exact Nat.lt_of_mul_lt_mul_right hlt
  have h2:(m+1)*2^S<=2^(64-S)*2^S:=Nat.mul_le_mul_right _ h1;have h3:2^(S-1)<2^S:=Nat.pow_lt_pow_right zd zd;rw[h64];rw[Nat.add_mul,Nat.one_mul]at h2;omega
 obtain⟨iv1,iv2⟩:=iv_ok E zd zd;have main:∀ (c:Nat) (p:Int) (mn mx:Nat),-348<=p->p<=347->(c=1/\m%2=0/\4*gH E p<=3*gG E p/\3*gG E p<40*gH E p\/c=2/\gH E p<=gG E p/\gG E p<10*gH E p) ->
   3<=-(E-S+p*108853 / 32768+3)->mn=(4*m-c)*2^(S-2)->mx=(4*m+2)*2^(S-2)->shC Z ME (m*2^S) (E-S)=(p,mn,mx,m%2) ->
   ∃ dmin dmax,Iv (gG E p) (gH E p) m c dmin dmax/\kg Z ME (m*2^S) (E-S)=yoy (gG E p) (gH E p) m dmin dmax p:=by
  intro c p mn mx p1 p2' hc hsh hmn hmx2 hC;have hc2:c<=2:=zd;have hmnv:mn+c*2^(S-2)=m*2^S:=by
   rw[hmn,hq,<-Nat.add_mul,Nat.sub_add_cancel zd]
  have hcb:c*2^(S-2)<=2^(S-1):=by rw[<-hp1];exact Nat.mul_le_mul_right _ hc2
  have hmxv:mx=m*2^S+2^(S-1):=by rw[hmx2,hq,Nat.add_mul,hp1]
  have u1:usE mn (E-S) p=zvm mn (E-S) p:=by
   refine yst mn (E-S) p p1 p2' zd zd ?_ hsh;rw[hmn,Nat.mul_mod,h512,Nat.mul_zero,Nat.zero_mod]
  have u2:usE mx (E-S) p=zvm mx (E-S) p:=by
   refine yst mx (E-S) p p1 p2' zd zd ?_ hsh;rw[hmx2,Nat.mul_mod,h512,Nat.mul_zero,Nat.zero_mod]
  have u3:usE (m*2^S) (E-S) p=zvm (m*2^S) (E-S) p:=ysu _ _ _ p1 p2' hlt hge hmod zd;refine⟨_,_,iv_of m S c E p mn mx zd zd zd hc hmn hmx2 u1 u2,?_⟩;have hg:=yp0 E p;have hrn:yj4 (usE (m*2^S) (E-S) p)=vi (m*gG E p) (gH E p):=by
   rw[u3,yow];refine zck _ _ (ymu E p) ?_;have h1:m*gG E p<=9007199254740992*gG E p:=Nat.mul_le_mul_right _ zd;have:=ymu E p;omega
  unfold kg yoy;rw[hC];dsimp only;rw[hrn]
 by_cases hA:m*2^S=9223372036854775808/\ME<E-S
 ·have hpm:=htp hA.1;have hn:2^mb<=m:=by
   rcases Nat.lt_or_ge m (2^mb) with h | h
   ·exfalso;have:=n2 h;rcases hnorm with h1 | h1 <;> omega
   ·exact h
  have hSZ:=n1 hn;have hmmb:m=2^mb:=by rw[hpm];congr 1;unfold Kd at hz;omega
  have hC:shC Z ME (m*2^S) (E-S)=(-((E*631305-261663) / 2097152),m*2^S-2^(S-2),m*2^S+2^(S-1),m%2):=by
   unfold shC;rw[if_pos hA,<-hSZ,show E-(S:Int)+S=E by omega,Nat.mul_div_cancel _ (p2 S)];congr 2
   ·omega
   ·congr 1;omega
  have hev:m%2=0:=by
   rw[hmmb,show mb=mb-1+1 by unfold Kd at hz;omega,Nat.pow_succ];omega
  obtain⟨dmin,dmax,h1,h2⟩:=main 1 _ _ _ zd zd (Or.inl ⟨rfl,hev,iv2⟩) zd (by rw[Nat.sub_mul,Nat.one_mul,<-hq]) (by rw[Nat.add_mul,hp1,<-hq]) hC;exact⟨1,dmin,dmax,_,⟨fun _=>⟨hmmb,zd⟩,fun _=>rfl⟩,h1,zd,zd,fun h=>absurd h zd,h2⟩
 ·have hnot:¬(m=2^mb/\ME+Z<E):=by
   rintro⟨h1,h2⟩;have hSZ:=n1 zd;apply hA;refine⟨?_,zd⟩;rw[h1,hSZ,<-Nat.pow_add];rcases hz with⟨rfl,-,rfl,-⟩ | ⟨rfl,-,rfl,-⟩ <;> rfl
  have hC:shC Z ME (m*2^S) (E-S)=(-(E*78913 / 262144),m*2^S-2^(S-1),m*2^S+2^(S-1),m%2):=by
   unfold shC;rw[if_neg hA];by_cases hB:ME<=E-S
   ·have hn:2^mb<=m:=by
     rcases Nat.lt_or_ge m (2^mb) with h | h
     ·exfalso;have:=n2 h;rcases hnorm with h1 | h1 <;> omega
     ·exact h
    have hSZ:=n1 hn;rw[if_pos hB,<-hSZ,show E-(S:Int)+S=E by omega,Nat.mul_div_cancel _ (p2 S)];congr 2
    ·omega
    ·congr 1;omega
   ·have hEl:E=ME+Z:=by
     rcases hnorm with h1 | h1
     ·have:=n1 h1;omega
     ·exact h1
    have hzS:Z+(ME-(E-S)).toNat=S:=zd;rw[if_neg hB,hzS,<-hEl,Nat.mul_div_cancel _ (p2 S)];congr 2
    ·omega
    ·congr 1;omega
  obtain⟨dmin,dmax,h1,h2⟩:=main 2 _ _ _ zd zd (Or.inr ⟨rfl,iv1⟩) zd (by rw[Nat.sub_mul,hp1,<-hq]) (by rw[Nat.add_mul,hp1,<-hq]) hC;exact⟨2,dmin,dmax,_,⟨fun h=>zd,fun h=>absurd h hnot⟩,h1,zd,zd,fun _=>rfl,h2⟩
section
def yu3 (b:Nat) (k:Int):Nat:=b*10^(-k).toNat
def yvf (a b:Nat) (k:Int):Nat:=a*10^k.toNat / yu3 b k
def yvd (a b:Nat) (k:Int):Nat:=a*10^k.toNat%yu3 b k
def yv0 (rd:Nat->Int->Bool) (a b:Nat) (e:Int) (n:Nat):Bool:=decide (0<yvf a b ((n:Int)-1-e))&&rd (yvf a b ((n:Int)-1-e)) (e-n+1)
def yv1 (rd:Nat->Int->Bool) (a b:Nat) (e:Int) (n:Nat):Bool:=decide (0<yvd a b ((n:Int)-1-e))&&rd (yvf a b ((n:Int)-1-e)+1) (e-n+1)
def yuq (rd:Nat->Int->Bool) (a b:Nat) (e:Int) (n:Nat):Nat:=
 if yv1 rd a b e n&&(!yv0 rd a b e n || decide (yu3 b ((n:Int)-1-e)<2*yvd a b ((n:Int)-1-e))) then yvf a b ((n:Int)-1-e)+1 else yvf a b ((n:Int)-1-e)
def yws (rd:Nat->Int->Bool) (a b:Nat) (e:Int) (n:Nat):Bool:=yv0 rd a b e n&&yv1 rd a b e n&&decide (2*yvd a b ((n:Int)-1-e)=yu3 b ((n:Int)-1-e))
def jj (rd:Nat->Int->Bool) (a b:Nat) (e:Int):Nat->Nat->Nat×Nat×Bool
 | 0,n=>(yuq rd a b e n,n,yws rd a b e n)
 | k+1,n=>if yv0 rd a b e n || yv1 rd a b e n then (yuq rd a b e n,n,yws rd a b e n) else jj rd a b e k (n+1)
theorem yu6 {a b c d:Nat} (hb:0<b) (hd:0<d) (h:a*d=c*b):a / b=c / d/\a%b*d=c%d*b:=by
 constructor
 ·rw[<-Nat.mul_div_mul_right a b hd,h,Nat.mul_comm b d,Nat.mul_div_mul_right _ _ hb]
 ·rw[<-Nat.mul_mod_mul_right,h,Nat.mul_comm b d,Nat.mul_mod_mul_right]
def yvy (e:Int) (near n:Nat):List UInt8×Int:=if n<(ycg near).length then ((ycg near).take n,e+1) else (ycg near,e)
theorem yxg (e:Int) (t n:Nat) (hn:1<=n) (h1:10^(n-1)<=t) (h2:t<10^n) (h3:t%10≠0):yvy e t n=(dsC t,e):=by
 have hp:=p10 (n-1);have hd:=ykm hn h1 h2;unfold yvy;rw[yu9 t zd,va,hd,if_neg zd];unfold dsC;rw[zi8 h3,hd]
section
variable {G H s c dmin dmax : Nat} {p e : Int} {a b N : Nat} {rd : Nat → Int → Bool}
structure Stp1 (G H s dmin dmax N:Nat) (a b:Nat) (e:Int) (rd:Nat->Int->Bool) (n i:Nat):Prop where
 low:yvf a b ((n:Int)-1-e)=s*G / H / 10^i
 rst0:0<yvd a b ((n:Int)-1-e)↔s*G%(H*10^i)≠0
 rst2:yu3 b ((n:Int)-1-e)<2*yvd a b ((n:Int)-1-e)↔H*10^i<2*(s*G%(H*10^i))
 rst3:2*yvd a b ((n:Int)-1-e)=yu3 b ((n:Int)-1-e)↔2*(s*G%(H*10^i))=H*10^i
 rd:∀ d,0<d->(rd d (e-n+1)=true↔dmin<=d*10^i/\d*10^i<=dmax)
theorem stp1 (hb:0<b) (hH:0<H) (hV:∀ i:Nat,a*10^(p-i).toNat*(H*10^i)=s*G*(b*10^(-(p-i)).toNat)) (hN:p+1+e=N)
  (hrd:∀ (d i:Nat),0<d->(rd d ((i:Int)-p)=true↔dmin<=d*10^i/\d*10^i<=dmax)) (n i:Nat) (hi:n+i=N):Stp1 G H s dmin dmax N a b e rd n i:=by
 have hk:(n:Int)-1-e=p-i:=zd;have hD:0<b*10^(-(p-(i:Int))).toNat:=Nat.mul_pos hb (p10 _);have hD2:0<H*10^i:=Nat.mul_pos hH (p10 _);obtain⟨h1,h2⟩:=yu6 hD hD2 (hV i);have e1:yvd a b ((n:Int)-1-e)*(H*10^i)=s*G%(H*10^i)*yu3 b ((n:Int)-1-e):=by unfold yvd yu3;rw[hk];exact h2
 have hden:0<yu3 b ((n:Int)-1-e):=by unfold yu3;rw[hk];exact hD
 refine⟨by unfold yvf yu3;rw[hk,h1,Nat.div_div_eq_div_mul],?_,?_,?_,fun d hd=>?_⟩
 ·generalize yvd a b ((n:Int)-1-e)=x at *
  generalize yu3 b ((n:Int)-1-e)=y at *
  generalize s*G%(H*10^i)=z at *
  generalize H*10^i=t at *
  constructor
  ·intro h hz;rw[hz,Nat.zero_mul]at e1;rcases Nat.mul_eq_zero.1 e1 with h3 | h3 <;> omega
  ·intro h;rcases Nat.eq_zero_or_pos x with h3 | h3
   ·rw[h3,Nat.zero_mul]at e1;rcases Nat.mul_eq_zero.1 e1.symm with h4 | h4 <;> omega
   ·exact h3
 ·generalize yvd a b ((n:Int)-1-e)=x at *
  generalize yu3 b ((n:Int)-1-e)=y at *
  generalize s*G%(H*10^i)=z at *
  generalize H*10^i=t at *
  have h5:y<2*x↔y*t<2*x*t:=(Nat.mul_lt_mul_right hD2).symm;have h6:t<2*z↔t*y<2*z*y:=(Nat.mul_lt_mul_right hden).symm;rw[h5,h6,Nat.mul_assoc,e1,<-Nat.mul_assoc,Nat.mul_comm y t]
 ·generalize yvd a b ((n:Int)-1-e)=x at *
  generalize yu3 b ((n:Int)-1-e)=y at *
  generalize s*G%(H*10^i)=z at *
  generalize H*10^i=t at *
  constructor
  ·intro h;refine Nat.eq_of_mul_eq_mul_right hden ?_;rw[Nat.mul_assoc,<-e1,<-Nat.mul_assoc,h,Nat.mul_comm]
  ·intro h;refine Nat.eq_of_mul_eq_mul_right hD2 ?_;rw[Nat.mul_assoc,e1,<-Nat.mul_assoc,h,Nat.mul_comm]
 ·rw[show e-n+1=(i:Int)-p by omega];exact hrd d i hd
end
end
section
theorem yv5 (A B:Nat):(vi A B=A / B/\(2*(A%B)<B\/2*(A%B)=B))\/(vi A B=A / B+1/\(B<2*(A%B)\/2*(A%B)=B)):=by
 unfold vi;split <;> omega
section
variable {G H s c dmin dmax N : Nat} {p e : Int} {a b : Nat} {rd : Nat → Int → Bool}
theorem yvm {n i:Nat} (h:Stp1 G H s dmin dmax N a b e rd n i):yv0 rd a b e n=true↔0<s*G / H / 10^i/\dmin<=s*G / H / 10^i*10^i/\s*G / H / 10^i*10^i<=dmax:=by
 unfold yv0;rw[Bool.and_eq_true,decide_eq_true_eq];constructor
 ·intro ⟨h1,h2⟩;have:=(h.rd _ h1).1 h2;rw[h.low]at h1 this;exact⟨h1,this⟩
 ·intro ⟨h1,h2⟩;rw[<-h.low]at h1 h2;exact⟨h1,(h.rd _ h1).2 h2⟩
theorem yvn {n i:Nat} (h:Stp1 G H s dmin dmax N a b e rd n i):yv1 rd a b e n=true↔s*G%(H*10^i)≠0/\dmin<=(s*G / H / 10^i+1)*10^i/\(s*G / H / 10^i+1)*10^i<=dmax:=by
 unfold yv1;rw[Bool.and_eq_true,decide_eq_true_eq,h.rst0];have h2:=h.rd (yvf a b ((n:Int)-1-e)+1) zd;rw[h.low]at h2 ⊢;rw[h2]
theorem ywc (x m:Nat) (hm:0<m):x / m*m<=x/\x<x / m*m+m:=by
 have h1:=Nat.div_add_mod x m;have h2:=Nat.mod_lt x hm;rw[Nat.mul_comm]at h1;omega
theorem ywt (hI:Iv G H s c dmin dmax) {n i t:Nat} (h:Stp1 G H s dmin dmax N a b e rd n i) (hi:1<=i) (hq:10^i<=s*G / H) (h1:dmin<=t*10^i) (h2:t*10^i<=dmax):
  (yv0 rd a b e n || yv1 rd a b e n)=true/\yuq rd a b e n=t/\yws rd a b e n=false/\(t=s*G / H / 10^i\/t=s*G / H / 10^i+1):=by
 have ht:=hI.ten;have hp:10<=10^i:=by
  obtain⟨j,rfl⟩:∃ j,i=j+1:=⟨i-1,zd⟩;rw[Nat.pow_succ];have:=p10 j;omega
 obtain⟨q,hqq⟩:=zX (s*G / H);obtain⟨l,hl⟩:=zX (q / 10^i);have hb:=yvm h;have ha:=yvn h;have hlow:=h.low;have hs:=hI.some;rw[hqq,hl]at hb ha hlow;rw[hqq]at hq hs ⊢;rw[hl];obtain⟨d1,d2⟩:=ywc q (10^i) zd;rw[hl]at d1 d2;have hl0:0<l:=by rw[<-hl];exact Nat.div_pos hq zd
 have hmul:∀ x y:Nat,x+1<=y->x*10^i+10^i<=y*10^i:=fun x y hxy=>by
  have:=Nat.mul_le_mul_right (10^i) hxy;rw[Nat.add_mul,Nat.one_mul]at this;exact this
 have e1:(l+1)*10^i=l*10^i+10^i:=by rw[Nat.add_mul,Nat.one_mul]
 rw[e1]at ha;have hqd:q<=dmax/\dmin<=q+1:=zd;have htl:t=l\/t=l+1:=by
  rcases Nat.lt_trichotomy t l with h3 | h3 | h3
  ·have:=hmul t l h3;omega
  ·exact Or.inl h3
  ·rcases Nat.lt_or_ge (l+1) t with h4 | h4
   ·have:=hmul (l+1) t h4;omega
   ·right;omega
 unfold yuq yws;rw[hlow];rcases htl with rfl | rfl
 ·have hbt:yv0 rd a b e n=true:=hb.2 ⟨hl0,h1,h2⟩;have haf:yv1 rd a b e n=false:=by
   rw[Bool.eq_false_iff];intro hh;have:=ha.1 hh;omega
  rw[hbt,haf];exact⟨rfl,rfl,rfl,Or.inl rfl⟩
 ·rw[e1]at h1 h2;have hbf:yv0 rd a b e n=false:=by
   rw[Bool.eq_false_iff];intro hh;have:=hb.1 hh;omega
  have hat:yv1 rd a b e n=true:=by
   refine ha.2 ⟨fun h0=>?_,h1,h2⟩;have hv:l*10^i*H=s*G:=by
    have h3:=Nat.div_add_mod (s*G) (H*10^i);rw[h0,Nat.add_zero,<-Nat.div_div_eq_div_mul,hqq,hl]at h3;rw[<-h3];ac_rfl
   have h4:=hI.above (l*10^i) zd;omega
  rw[hbf,hat];exact⟨rfl,rfl,rfl,Or.inr rfl⟩
end
end
theorem ypt {X Y X' Y':Nat} (s:Nat) (low:Bool) (hY:0<Y) (hY':0<Y') (h:X*Y'=X'*Y):inI X Y s low↔inI X' Y' s low:=by
 have key:∀ (A B A' B':Nat),A*Y'=A'*Y->B*Y'=B'*Y->((A<=B↔A'<=B')/\(A<B↔A'<B')):=by
  intro A B A' B' h1 h2;constructor
  ·rw[<-Nat.mul_le_mul_right_iff hY',h1,h2,Nat.mul_le_mul_right_iff hY]
  ·rw[<-Nat.mul_lt_mul_right hY',h1,h2,Nat.mul_lt_mul_right hY]
 have k1:=key (4*(s*Y)) (4*X+Y) (4*(s*Y')) (4*X'+Y') (by ac_rfl) (by rw[Nat.add_mul,Nat.add_mul,Nat.mul_assoc,h,Nat.mul_comm Y Y'];ac_rfl);have k2:=key (2*(s*Y)) (2*X+Y) (2*(s*Y')) (2*X'+Y') (by ac_rfl) (by rw[Nat.add_mul,Nat.add_mul,Nat.mul_assoc,h,Nat.mul_comm Y Y'];ac_rfl);have k3:=key (2*X) (2*(s*Y)+Y) (2*X') (2*(s*Y')+Y') (by rw[Nat.mul_assoc,h];ac_rfl) (by rw[Nat.add_mul,Nat.add_mul,Nat.mul_comm Y Y'];ac_rfl);unfold inI;rw[k2.1,k3.1,k2.2,k3.2];cases low
 ·simp only[Bool.false_eq_true,if_false]
 ·simp only[if_true];rw[k1.1]
theorem ywn {A B C D:Nat} (hB:0<B) (hD:0<D) (h:A*D=C*B):B<=A↔D<=C:=by
 rw[<-Nat.mul_le_mul_right_iff hD,h,Nat.mul_comm B D,Nat.mul_le_mul_right_iff hB]
theorem pow3 (p i:Int) (hi:0<=i):10^(p-i).toNat*10^(-p).toNat*10^i.toNat=10^p.toNat*10^(-(p-i)).toNat:=by
 rw[<-Nat.pow_add,<-Nat.pow_add,<-Nat.pow_add];congr 1;omega
theorem yw4 (s:Nat) (E p:Int) (i:Nat):vN s E*10^(p-i).toNat*(gH E p*10^i)=s*gG E p*(vD E*10^(-(p-i)).toNat):=by
 have h:=pow3 p i zd;rw[Int.toNat_natCast]at h;unfold vN vD gG gH;calc s*2^E.toNat*10^(p-i).toNat*(2^(-E).toNat*10^(-p).toNat*10^i)=s*2^E.toNat*2^(-E).toNat*(10^(p-i).toNat*10^(-p).toNat*10^i):=by ac_rfl
  _=s*2^E.toNat*2^(-E).toNat*(10^p.toNat*10^(-(p-i)).toNat):=by rw[h]
  _=s*(2^E.toNat*10^p.toNat)*(2^(-E).toNat*10^(-(p-i)).toNat):=by ac_rfl
theorem yxd (s:Nat) (E p:Int) (hs:s≠0) (hq:s*gG E p / gH E p≠0):p+1+ym6 (vN s E) (vD E)=(yi (s*gG E p / gH E p):Nat):=by
 obtain⟨q,hq2⟩:=zX (s*gG E p / gH E p);have hH:=ymu E p;rw[hq2]at hq ⊢;have hn:=yfr hq;have l1:=qh hq;have l2:=xi q;have key:∀ i:Nat,leT (vN s E) (vD E) ((i:Int)-p)↔10^i<=q:=by
  intro i;have h1:=ywn (Nat.mul_pos (zjf E) (p10 _)) (Nat.mul_pos hH (p10 i)) (yw4 s E p i);unfold leT;rw[show -((i:Int)-p)=p-i by omega,show (i:Int)-p=-(p-i) by omega,h1,<-hq2,Nat.le_div_iff_mul_le hH,Nat.mul_comm]
 have:=ym5 (yam E hs) (Nat.ne_of_gt (zjf E)) ((key (yi q-1)).2 l1) (by
  rw[show ((yi q-1:Nat):Int)-p+1=((yi q:Nat):Int)-p by omega,key];omega)
 rw[this];omega
theorem ysv {s c dmin dmax:Nat} {E p:Int} (hI:Iv (gG E p) (gH E p) s c dmin dmax) (f:Nat) (F bias:Int) (inf:Nat) (hF:F=f) (hE:1-bias-F<=E) (hEb:E<=bias-F) (hs:s<2^(f+1)) (hn:E=1-bias-F\/2^f<=s) (hinf:inf=(2*bias+1).toNat*2^f) (hbias:1<=bias) (hf:1<=f)
  (hc:c=1↔(s=2^f/\1-bias-F<E)) (d i:Nat) (hd:0<d):
  decide (xh F bias inf (d*10^((i:Int)-p).toNat) (10^(-((i:Int)-p)).toNat)=(E-(1-bias-F)).toNat*2^f+s)=true↔dmin<=d*10^i/\d*10^i<=dmax:=by
 rw[decide_eq_true_iff,zz3 f F bias inf _ _ s E hF (Nat.ne_of_gt (p10 _)) (Nat.ne_of_gt (Nat.mul_pos hd (p10 _))) hE hEb hs hn hinf hbias hf,hI.mem,
  show decide (s=2^f/\1-bias-F<E)=decide (c=1) from decide_eq_decide.2 hc.symm]
 refine ypt s _ (Nat.mul_pos (p10 _) (p2 _)) (yp0 E p) ?_;have h:=pow3 p i zd;rw[Int.toNat_natCast]at h;rw[show -((i:Int)-p)=p-i by omega,show (i:Int)-p=-(p-i) by omega];unfold gG gH;calc d*10^(-(p-i)).toNat*2^(-E).toNat*(2^E.toNat*10^p.toNat)=d*2^(-E).toNat*2^E.toNat*(10^p.toNat*10^(-(p-i)).toNat):=by ac_rfl
  _=d*2^(-E).toNat*2^E.toNat*(10^(p-i).toNat*10^(-p).toNat*10^i):=by rw[h]
  _=d*10^i*(2^(-E).toNat*10^(-p).toNat)*(10^(p-i).toNat*2^E.toNat):=by ac_rfl
theorem yvq {G H s k:Nat} (h0:1<=k) (h1:(4*k-2)*G<40*H) (h2:19*H<2*(k*G)) (h:40*H<=4*(s*G)+2*G):19*H<2*(s*G):=by
 rcases Nat.lt_or_ge s k with h3 | h3
 ·exfalso;have h4:(4*s+2)*G<=(4*k-2)*G:=Nat.mul_le_mul_right _ zd;rw[Nat.add_mul,Nat.mul_assoc]at h4;omega
 ·have:=Nat.mul_le_mul_right G h3;omega
set_option exponentiation.threshold 2000 in
theorem yvr:(4*2-2)*gG (-1074) 324<40*gH (-1074) 324/\19*gH (-1074) 324<2*(2*gG (-1074) 324):=by decide +kernel
theorem yvs:(4*7-2)*gG (-149) 45<40*gH (-149) 45/\19*gH (-149) 45<2*(7*gG (-149) 45):=by decide +kernel
section
theorem ywm (rd:Nat->Int->Bool) (a b:Nat) (e:Int):∀ (k n0 near n:Nat),jj rd a b e k n0=(near,n,true) ->
  n0<=n/\near=yuq rd a b e n/\yws rd a b e n=true/\∀ j,n0<=j->j<n->(yv0 rd a b e j || yv1 rd a b e j)=false:=by
 intro k;induction k with
 | zero=>
  intro n0 near n h;rw[jj]at h;simp only[Prod.mk.injEq]at h;obtain⟨h1,h2,h3⟩:=h;subst h1;subst h2;exact⟨Nat.le_refl _,rfl,h3,fun j g1 g2=>zd⟩
 | succ k ih=>
  intro n0 near n h;rw[jj]at h;by_cases c:(yv0 rd a b e n0 || yv1 rd a b e n0)=true
  ·rw[if_pos c]at h;simp only[Prod.mk.injEq]at h;obtain⟨h1,h2,h3⟩:=h;subst h1;subst h2;exact⟨Nat.le_refl _,rfl,h3,fun j g1 g2=>zd⟩
  ·rw[if_neg c]at h;obtain⟨h1,h2,h3,h4⟩:=ih (n0+1) near n h;refine⟨zd,h2,h3,fun j g1 g2=>?_⟩;by_cases hj:j=n0
   ·subst hj;exact Bool.eq_false_iff.2 c
   ·exact h4 j zd g2
section
variable {G H s c dmin dmax N : Nat} {p e : Int} {a b : Nat} {rd : Nat → Int → Bool}
theorem yaa (hI:Iv G H s c dmin dmax) (hb:0<b) (hV:∀ i:Nat,a*10^(p-i).toNat*(H*10^i)=s*G*(b*10^(-(p-i)).toNat)) (hN:p+1+e=N) (hN1:1<=N)
  (hlo:10^(N-1)*H<=s*G) (hup:s*G<10^N*H) (hrd:∀ (d i:Nat),0<d->(rd d ((i:Int)-p)=true↔dmin<=d*10^i/\d*10^i<=dmax)) (hsp:N=1->10<=dmax->19*H<2*(s*G)) (near n:Nat) (h:jj rd a b e 16 1=(near,n,true)):
  n=N/\near=s*G / H/\2*(s*G%H)=H/\10^(N-1)<=near/\near+1<10^N/\near%10≠0/\(near+1)%10≠0/\∃ d,yoy G H s dmin dmax p=(d,-p)/\(d=near\/d=near+1):=by
 obtain⟨t1,t2,t3,t4⟩:=ywm rd a b e 16 1 near n h;have hH:=hI.h0;have st:=fun n i hi=>stp1 (dmin:=dmin) (dmax:=dmax) hb hH hV hN hrd n i hi
 have hten:=hI.ten;have hpos:=hI.pos;have hsome:=hI.some;have hq1:10^(N-1)<=s*G / H:=(Nat.le_div_iff_mul_le hH).2 hlo;have hq2:s*G / H<10^N:=(Nat.div_lt_iff_lt_mul hH).2 hup;have hp1:=p10 (N-1);have hpN:10^N=10*10^(N-1):=by rw[Nat.mul_comm,<-Nat.pow_succ];congr 1;omega
 have S0:=st N 0 zd;have hbel:=yvm S0;have habo:=yvn S0;have hlow:=S0.low;have hr2:=S0.rst2;have hr3:=S0.rst3;simp only[Nat.pow_zero,Nat.div_one,Nat.mul_one]at hbel habo hlow hr2 hr3;have hnN:n<=N:=by
  by_cases hn:n<=N
  ·exact hn
  exfalso;have h1:=t4 N hN1 zd;rw[Bool.or_eq_false_iff]at h1;rcases hsome with⟨h2,h3⟩ | ⟨h2,h3,h4⟩
  ·have:=hbel.2 ⟨zd,h2,h3⟩;rw[h1.1]at this;cases this
  ·have:=habo.2 ⟨h4,zd,h3⟩;rw[h1.2]at this;cases this
 unfold yws at t3;rw[Bool.and_eq_true,Bool.and_eq_true,decide_eq_true_eq]at t3;obtain⟨⟨b1,b2⟩,b3⟩:=t3;have hnN2:n=N:=by
  have S1:=st n (N-n) zd;have c1:=(yvm S1).1 b1;have c2:=(yvn S1).1 b2;by_cases hi:N-n=0
  ·omega
  exfalso;have h10:10<=10^(N-n):=Nat.le_trans (by decide:10<=10^1) (Nat.pow_le_pow_right zd zd);have h3:=c2.2.2;rw[Nat.add_mul,Nat.one_mul]at h3;omega
 subst hnN2;have c1:=hbel.1 b1;have c2:=habo.1 b2;have c3:=hr3.1 b3;obtain⟨q,hq⟩:=zX (s*G / H);obtain⟨r,hr⟩:=zX (s*G%H);have hdm:=Nat.div_add_mod (s*G) H;have hrn:=yv5 (s*G) H;rw[hq]at c1 c2 hq1 hq2 hlow hdm hrn;rw[hr]at c2 c3 hdm hrn;have hC:¬dmin<=dmax / 10*10:=by
  intro hC;have hT2:dmax / 10*10<=dmax:=Nat.div_mul_le_self _ _;rcases Nat.lt_or_ge n 2 with hN2 | hN2
  ·have hn1:n=1:=zd;have hgt:=hsp hn1 zd;rw[hn1]at hq2;have h9:q<=9:=zd;have h8:H*q<=H*9:=Nat.mul_le_mul_left _ h9;omega
  ·have S1:=st (n-1) 1 zd;have h10q:10<=q:=Nat.le_trans (Nat.le_trans (by decide:10<=10^1) (Nat.pow_le_pow_right zd (by omega:1<=n-1))) hq1;obtain⟨f1,-,-,-⟩:=ywt hI S1 (Nat.le_refl 1) (by rw[hq];exact h10q) (t:=dmax / 10) hC hT2;have:=t4 (n-1) zd zd;rw[f1]at this;cases this
 have hno10:∀ k,¬(dmin<=10*k/\10*k<=dmax):=fun k hk=>by omega
 have hpk:near=q:=by
  rw[t2];unfold yuq;rw[b1,b2,hlow,decide_eq_false (by rw[b3];omega)];rfl
 have hn10:q%10≠0:=fun hh=>hno10 (q / 10) ⟨zd,zd⟩
 have hn11:(q+1)%10≠0:=fun hh=>hno10 ((q+1) / 10) ⟨zd,zd⟩
 refine⟨rfl,by rw[hpk,hq],by rw[hr];exact c3,by rw[hpk];exact hq1,by rw[hpk];omega,by rw[hpk];exact hn10,by rw[hpk];exact hn11,vi (s*G) H,?_,?_⟩
 ·unfold yoy;rw[if_neg hC,if_pos zd]
 ·rw[hpk];rcases hrn with⟨h1,-⟩ | ⟨h1,-⟩
  ·exact Or.inl h1
  ·exact Or.inr h1
end
theorem ywh (Z:Nat) (ME:Int) (mb m:Nat) (x bias:Int) (inf:Nat) (hz:Kd Z ME mb m x) (hnorm:2^mb<=m\/x-(mb:Nat)=ME+Z) (hm0:m≠0) (hb:bias=1-(ME+Z)-mb) (hinf:inf=(2*bias+1).toNat*2^mb) (near n:Nat)
  (h:jj (fun d k=>decide (xh (mb:Nat) bias inf (d*10^k.toNat) (10^(-k).toNat)=(x-(mb:Nat)-(ME+Z)).toNat*2^mb+m)) (vN m (x-(mb:Nat))) (vD (x-(mb:Nat))) (ym6 (vN m (x-(mb:Nat))) (vD (x-(mb:Nat)))) 16 1=(near,n,true)):
  ∃ (d:Nat) (p:Int),kg Z ME (m*2^shS m) (x-(mb:Nat)-(shS m:Nat))=(d,-p)/\(d=near\/d=near+1)/\1<=n/\n<=17/\10^(n-1)<=near/\near+1<10^n/\near%10≠0/\(near+1)%10≠0/\-348<=p/\p<=347/\p+1+ym6 (vN m (x-(mb:Nat))) (vD (x-(mb:Nat)))=n/\
   2*(vN m (x-(mb:Nat))*10^p.toNat)=(2*near+1)*(vD (x-(mb:Nat))*10^(-p).toNat):=by
 obtain⟨c,dmin,dmax,p,hc,hI,hp1,hp2,hp,hS⟩:=yoh Z ME mb m x hz hnorm hm0;rw[hS];have hleast:1-bias-(mb:Nat)=ME+Z:=zd;have hE1:ME+Z<=x-(mb:Nat):=zβH;have hE2:x-(mb:Nat)<=bias-(mb:Nat):=zβH;have hm1:m<2^(mb+1):=by
  rcases hz with⟨_,_,rfl,_,_,h⟩ | ⟨_,_,rfl,_,_,h⟩ <;> exact h
 have hm53:m<9007199254740992:=zβH;have hbias:1<=bias:=zβH;have hmb:1<=mb:=zβH;have hmbn:mb=23\/mb=52:=zβH;have hkind:(ME+Z=-1074\/ME+Z=-149):=zβH;generalize x-(mb:Nat)=E at *
 have hH:=ymu E p;have hG:=yp0 E p;have hcc:=hI.cc;have hGH:gH E p<=gG E p:=zd;have hmG:gG E p<=m*gG E p:=Nat.le_mul_of_pos_left _ zd;have hq0:m*gG E p / gH E p≠0:=by
  have:1<=m*gG E p / gH E p:=(Nat.le_div_iff_mul_le hH).2 zd;omega
 have hN:=yxd m E p hm0 hq0;have l1:=qh hq0;have l2:=xi (m*gG E p / gH E p);have hN1:=yfr hq0;have hlo:=(Nat.le_div_iff_mul_le hH).1 l1;have hup:=(Nat.div_lt_iff_lt_mul hH).1 l2;have hmGu:m*gG E p<100000000000000000*gH E p:=by
  rcases hcc with⟨h1,h2,h3,h4⟩ | ⟨h1,h2,h3⟩
  ·have h5:=(hc.1 h1).1;have h6:m<=4503599627370496:=by
    rcases hmbn with h | h <;> rw[h]at h5 <;> omega
   have:=Nat.mul_le_mul_right (gG E p) h6;omega
  ·have:m*gG E p<=9007199254740992*gG E p:=Nat.mul_le_mul_right _ zd;omega
 have hN17:yi (m*gG E p / gH E p)<=17:=by
  have h1:m*gG E p / gH E p<10^17:=(Nat.div_lt_iff_lt_mul hH).2 hmGu;have h2:=Nat.lt_of_le_of_lt l1 h1;have:=(Nat.pow_lt_pow_iff_right (by omega:1<10)).1 h2;omega
 refine (fun key=>?_) (yaa hI (zjf E) (yw4 m E p) hN zd hlo hup ?_ ?_ near n h)
 ·obtain⟨e1,e2,e3,e4,e5,e6,e7,d,e8,e9⟩:=key;subst e1;refine⟨d,p,e8,e9,zd,hN17,e4,e5,e6,e7,hp1,hp2,hN,?_⟩;have h0:=yw4 m E p 0;rw[Nat.pow_zero,Nat.mul_one,show p-((0:Nat):Int)=p by omega]at h0;have hdm:=Nat.div_add_mod (m*gG E p) (gH E p);rw[<-e2]at hdm;have h2:2*(m*gG E p)=(2*near+1)*gH E p:=by
   rw[Nat.add_mul,Nat.one_mul,Nat.mul_assoc,Nat.mul_comm near];omega
  refine Nat.eq_of_mul_eq_mul_right hH ?_;calc 2*(vN m E*10^p.toNat)*gH E p=2*(vN m E*10^p.toNat*gH E p):=by rw[Nat.mul_assoc]
   _=2*(m*gG E p*(vD E*10^(-p).toNat)):=by rw[h0]
   _=2*(m*gG E p)*(vD E*10^(-p).toNat):=by ac_rfl
   _=(2*near+1)*gH E p*(vD E*10^(-p).toNat):=by rw[h2]
   _=(2*near+1)*(vD E*10^(-p).toNat)*gH E p:=by ac_rfl
 ·intro d i hd;have:=ysv hI mb (mb:Nat) bias inf rfl zd hE2 hm1 (by rcases hnorm with h | h;exact Or.inr h;exact Or.inl zd) hinf hbias hmb (by rw[hc,hleast]) d i hd;rw[hleast]at this;exact this
 ·intro hn1 hd;rw[hn1]at hup;have h40:40*gH E p<=4*(m*gG E p)+2*gG E p:=by
   have:=(hI.up 10).1 hd;split at this <;> omega
  have hEl:E=ME+Z:=by
   rcases hnorm with h | h
   ·exfalso;have h8:(8388608:Nat)<=m:=by rcases hmbn with h9 | h9 <;> rw[h9]at h <;> omega
    have:=Nat.mul_le_mul_right (gG E p) h8;omega
   ·exact h
  have hc2:c=2:=by
   rcases hcc with⟨h1,-⟩ | ⟨h1,-⟩
   ·have:=(hc.1 h1).2;omega
   ·exact h1
  have hpv:=hp hc2;rcases hkind with hk | hk
  ·rw[hEl,hk]at hpv;rw[hEl,hk,show p=324 by omega]at h40 ⊢;exact yvq (k:=2) zd yvr.1 yvr.2 h40
  ·rw[hEl,hk]at hpv;rw[hEl,hk,show p=45 by omega]at h40 ⊢;exact yvq (k:=7) zd yvs.1 yvs.2 h40
end
def KK:Int:=6000
def sc (x:Nat) (p q:Int):Nat:=x*(10^(p+KK).toNat*2^(q+KK).toNat)
def St (m x z:Nat):Prop:=x=m*2^z\/(m%2=1/\(m-1)*2^z<x/\x<(m+1)*2^z)
section
def HS (F:Nat) (bias:Int) (inf nb m:Nat) (e:Int):Prop:=
 ∃ (x z:Nat) (k:Int),St m x z/\e=F+k+z/\xh F bias inf (x*2^k.toNat) (2^(-k).toNat)=nb
section
variable {F : Nat} {bias : Int} {inf nb m : Nat} {e : Int}
end
end
theorem ze0 {A n h:Nat} (hn:0<n):2*h*n<=2*A↔2*h<=2*(A / n)+(A%n != 0).toNat:=by
 have h1:2*h*n<=2*A↔h*n<=A:=by rw[Nat.mul_assoc];omega
 rw[h1,<-Nat.le_div_iff_mul_le hn];cases (A%n != 0) <;> simp <;> omega
theorem zjq {A n h:Nat} (hn:0<n):2*A<=2*h*n↔2*(A / n)+(A%n != 0).toNat<=2*h:=by
 have h1:2*A<=2*h*n↔A<=h*n:=by rw[Nat.mul_assoc];omega
 have hd:=Nat.div_add_mod A n;have hm:=Nat.mod_lt A hn;rw[h1];by_cases h0:A%n=0
 ·have e:(A%n != 0)=false:=by rw[h0];rfl
  rw[e];rw[h0,Nat.add_zero]at hd;constructor
  ·intro h2;have:A / n<=h:=by
    rw[<-hd,Nat.mul_comm n]at h2;exact Nat.le_of_mul_le_mul_right h2 hn
   simp;omega
  ·intro h2;have:A / n<=h:=by simp at h2;omega
   rw[<-hd,Nat.mul_comm n];exact Nat.mul_le_mul_right n this
 ·have e:(A%n != 0)=true:=by rw[bne_iff_ne];exact h0
  rw[e];constructor
  ·intro h2;have:A / n<h:=by
    rw[Nat.div_lt_iff_lt_mul hn];rcases Nat.lt_or_eq_of_le h2 with h3 | h3
    ·exact h3
    ·exact absurd (by rw[h3];exact Nat.mul_mod_left h n) h0
   show 2*(A / n)+1<=2*h;omega
  ·intro h2;have h3:A / n<h:=by
    have:2*(A / n)+1<=2*h:=h2;omega
   rw[Nat.div_lt_iff_lt_mul hn]at h3;omega
theorem zh9 (A n u:Nat) (hn:0<n) (hu:1<=u):vi (2*(A / n)+(A%n != 0).toNat) (2^(u+1))=vi A (n*2^u):=by
 obtain⟨V,hV⟩:∃ V,2^u=2*V:=⟨2^(u-1),by rw[show u=u-1+1 by omega,Nat.pow_succ];simp;omega⟩;have hV0:0<V:=by have:=Nat.two_pow_pos u;omega
 have hs:=kt A (n*2^u) (Nat.mul_pos hn (Nat.two_pow_pos u));generalize vi A (n*2^u)=s at *
 rw[qf _ _ s (Nat.two_pow_pos _),Nat.pow_succ,hV];rw[hV]at hs;have e1:s*(n*(2*V))=2*(s*V*n):=by rw[Nat.mul_left_comm n,Nat.mul_left_comm s,Nat.mul_comm n,Nat.mul_assoc s]
 have e2:n*(2*V)=2*(V*n):=by rw[Nat.mul_left_comm,Nat.mul_comm n]
 have e3:s*(2*V*2)=4*(s*V):=by rw[show 2*V*2=4*V by omega,Nat.mul_left_comm]
 rw[e1,e2]at hs;rw[e3];have a1:=ze0 (A:=A) (h:=2*(s*V)-V) hn;have a2:=zjq (A:=A) (h:=2*(s*V)-V) hn;have b1:=ze0 (A:=A) (h:=2*(s*V)+V) hn;have b2:=zjq (A:=A) (h:=2*(s*V)+V) hn;have f1:2*(2*(s*V)-V)*n=4*(s*V*n)-2*(V*n):=by
  rw[Nat.mul_assoc,Nat.sub_mul,Nat.mul_assoc];omega
 have f2:2*(2*(s*V)+V)*n=4*(s*V*n)+2*(V*n):=by
  rw[Nat.mul_assoc,Nat.add_mul,Nat.mul_assoc];omega
 rw[f1]at a1 a2;rw[f2]at b1 b2;generalize 2*(A / n)+(A%n != 0).toNat=t at *
 have hsV:s=0\/V<=s*V:=by
  rcases Nat.eq_zero_or_pos s with h | h
  ·exact Or.inl h
  ·exact Or.inr (Nat.le_mul_of_pos_left V h)
 have hsn:s=0\/V*n<=s*V*n:=hsV.imp_right (fun h=>Nat.mul_le_mul_right n h);have hz:0<V*n:=Nat.mul_pos hV0 hn;have h0:s=0->s*V=0:=fun h=>by rw[h,Nat.zero_mul]
 have h0n:s=0->s*V*n=0:=fun h=>by rw[h0 h,Nat.zero_mul]
 generalize s*V*n=y at *
 generalize s*V=x at *
 generalize V*n=z at *
 obtain⟨c1,c2,c3⟩:=hs;refine⟨?_,?_,?_⟩
 ·omega
 ·omega
 ·intro ho;have:=c3 ho;omega
theorem zgl {A n k:Nat} (hn:0<n) (hk:1<=k):2^k<=2*(A / n)+(A%n != 0).toNat↔2^k*n<=2*A:=by
 obtain⟨h,hh⟩:∃ h,2^k=2*h:=⟨2^(k-1),by rw[show k=k-1+1 by omega,Nat.pow_succ];simp;omega⟩;rw[hh];exact (ze0 hn).symm
theorem zkd {m n:Nat} (d:Int) (more j:Nat):le2 (m*2^d.toNat) (n*2^(-d).toNat) (d-more-1+j)↔2^j*n<=2*(m*2^more):=by
 rw[ws (k:=d-more-1+j) (j:=(more:Int)+1-d) (n:=j) zd];refine uf (p2 0) (p2 ((-d).toNat+(d-more-1).toNat)) ?_ ?_
 ·rw[Nat.pow_zero,Nat.mul_one,Nat.pow_add,show (-((more:Int)+1-d)).toNat=(d-more-1).toNat by omega];simp only[Nat.mul_assoc]
 ·have e:2*(m*2^more)=m*2^(more+1):=by rw[Nat.pow_succ,Nat.mul_left_comm,Nat.mul_comm 2]
  rw[Nat.pow_zero,Nat.mul_one,e,Nat.mul_assoc,Nat.mul_assoc,<-Nat.pow_add,<-Nat.pow_add];congr 2;omega
theorem zni {m n:Nat} (d:Int) (more L:Nat) (hm:m≠0) (hn:0<n) (hL:1<=L) (hl:(2*((m*2^more) / n)+((m*2^more)%n != 0).toNat).log2=L):uo (m*2^d.toNat) (n*2^(-d).toNat)=d-more-1+L:=by
 generalize ht:2*((m*2^more) / n)+((m*2^more)%n != 0).toNat=t at hl;have h0:t≠0:=by
  intro h;rw[h]at hl;simp at hl;omega
 have a1:2^L<=t:=by rw[<-hl];exact Nat.log2_self_le h0
 have a2:t<2^(L+1):=by rw[<-hl];exact Nat.lt_log2_self
 refine zfa (Nat.mul_ne_zero hm (by have:=p2 d.toNat;omega)) (Nat.mul_ne_zero zd (by have:=p2 (-d).toNat;omega)) ?_ ?_
 ·rw[zkd,<-zgl hn hL,ht];exact a1
 ·rw[Int.add_assoc,show ((L:Int)+1)=((L+1:Nat):Int) by omega,zkd,<-zgl hn zd,ht];omega
theorem ztw {m n t:Nat} (d E:Int) (more u:Nat) (hn:0<n) (hu:1<=u) (hE:E-d+more=u) (ht:2*((m*2^more) / n)+((m*2^more)%n != 0).toNat=t):vi (t*2^(d-more-1-E).toNat) (2^(E-(d-more-1)).toNat)=rB (m*2^d.toNat) (n*2^(-d).toNat) E:=by
 rw[show (d-more-1-E).toNat=0 by omega,show (E-(d-more-1)).toNat=u+1 by omega,Nat.pow_zero,Nat.mul_one,<-ht,zh9 _ _ _ hn hu];unfold rB;refine yj7 (Nat.mul_pos hn (p2 _)) (Nat.mul_pos (Nat.mul_pos hn (p2 _)) (p2 _)) ?_;rw[show m*2^more*(n*2^(-d).toNat*2^E.toNat)=m*n*(2^more*2^(-d).toNat*2^E.toNat) by ac_rfl,show m*2^d.toNat*2^(-E).toNat*(n*2^u)=m*n*(2^d.toNat*2^(-E).toNat*2^u) by ac_rfl,<-Nat.pow_add,<-Nat.pow_add,<-Nat.pow_add,<-Nat.pow_add];congr 2;omega
theorem znr (f bias:Int) (inf:Nat) {m n t:Nat} (d:Int) (more:Nat) (hm:m≠0) (hn:0<n) (hf:0<=f) (ht:2*((m*2^more) / n)+((m*2^more)%n != 0).toNat=t) (hL:f+2<=(t.log2:Int)):xh f bias inf (t*2^(d-more-1).toNat) (2^(-(d-more-1)).toNat)=xh f bias inf (m*2^d.toNat) (n*2^(-d).toNat):=by
 have h0:t≠0:=by intro h;rw[h]at hL;simp at hL;omega
 have o1:=zb9 t (d-more-1) h0;have o2:=zni d more t.log2 hm hn zd (by rw[ht]);have ha:t*2^(d-more-1).toNat≠0:=Nat.mul_ne_zero h0 (by have:=p2 (d-more-1).toNat;omega);have hb:m*2^d.toNat≠0:=Nat.mul_ne_zero hm (by have:=p2 d.toNat;omega);have hE:yt f bias (t*2^(d-more-1).toNat) (2^(-(d-more-1)).toNat)=yt f bias (m*2^d.toNat) (n*2^(-d).toNat):=by
  unfold yt;rw[if_neg ha,if_neg hb,o1,o2]
 have hE2:d-more-1+t.log2-f<=yt f bias (m*2^d.toNat) (n*2^(-d).toNat):=by
  unfold yt;rw[if_neg hb,o2];omega
 unfold xh;rw[hE];generalize yt f bias (m*2^d.toNat) (n*2^(-d).toNat)=E at *
 obtain⟨u,hu⟩:∃ u:Nat,E-d+more=u:=⟨(E-d+more).toNat,zd⟩;rw[znc,ztw d E more u hn zd hu ht]
section
structure FmtOK (fmt:Ieee.Format) (f:Nat) (bias:Int) (inf:Nat):Prop where
 hf:fmt.fractionBits=f
 hl:fmt.leastPlace=1-bias-f
 hi:fmt.infRung=inf
 hinf:inf=(2*bias+1).toNat*2^f
 hb:1<=bias
 hfb:(f:Int)+2<=bias
 hf2:2<=f
 hw:inf<fmt.signWeight
theorem FmtOK.double:FmtOK Ieee.double 52 1023 9218868437227405312:=⟨rfl,ze,ze,ze,ze,ze,ze,ze⟩
theorem FmtOK.single:FmtOK Ieee.single 23 127 2139095040:=⟨rfl,ze,ze,ze,ze,ze,ze,ze⟩
section
variable {fmt : Ieee.Format} {f : Nat} {bias : Int} {inf : Nat}
theorem FmtOK.binade (h:FmtOK fmt f bias inf):fmt.binade=2^f:=by unfold Ieee.Format.binade;rw[h.hf]
theorem FmtOK.near (h:FmtOK fmt f bias inf) (neg:Bool) (mag:Nat) (place:Int):fmt.nearest neg mag place=fmt.word neg (xh f bias inf (mag*2^place.toNat) (2^(-place).toNat)):=by
 have h1:=h.hf;exact zg4 fmt f bias inf (by rw[h1]) h.hl h.hi (by rw[Int.toNat_natCast];exact h.hinf) h.hb neg mag place
theorem zcy (h:FmtOK fmt f bias inf) (neg:Bool) (k S:Nat) (h1:2^f<=S) (h2:S<2^(f+1)) (hk:k*2^f+S<inf):fmt.read (fmt.word neg (k*2^f+S))=.number neg S (fmt.leastPlace+k):=by
 have hw:=h.hw;have hB:=h.binade;have hi:=h.hi;rw[Nat.pow_succ]at h2;have hBp:=p2 f;unfold Ieee.Format.read Ieee.Format.word;simp only[hB,hi];generalize 2^f=B at *
 generalize fmt.signWeight=W at *
 have hkB:S<=k*B+S:=Nat.le_add_left _ _;have m3:(k*B+S)%B=S-B:=by
  rw[Nat.mul_comm,Nat.mul_add_mod];rw[Nat.mod_eq_sub_mod h1,Nat.mod_eq_of_lt zd]
 have m4:(k*B+S) / B=k+1:=by
  rw[Nat.mul_comm,Nat.mul_add_div hBp];congr 1;exact Nat.div_eq_of_lt_le (by rw[Nat.one_mul];exact h1) zd
 obtain⟨r,hr⟩:=zX (k*B+S);rw[hr]at m3 m4 hk hkB ⊢;have m1:(if neg=true then W+r else r)%W=r:=by
  cases neg
  ·simp only[Bool.false_eq_true,if_false];exact Nat.mod_eq_of_lt zd
  ·simp only[if_true];rw[Nat.add_mod_left];exact Nat.mod_eq_of_lt zd
 have m2:((if neg=true then W+r else r) / W%2==1)=neg:=by
  cases neg
  ·simp only[Bool.false_eq_true,if_false];rw[Nat.div_eq_of_lt zd];rfl
  ·simp only[if_true];rw[Nat.add_div_left _ zd,Nat.div_eq_of_lt zd];rfl
 rw[m1,m2,m3,m4,if_neg zd,if_pos hk];congr 1;omega
def RdV (fmt:Ieee.Format) (x:Nat) (neg:Bool) (v:Nat):Prop:=∃ m j,fmt.read x=.number neg m j/\m≠0/\m*2^j.toNat=v*2^(-j).toNat
theorem zln (h:FmtOK fmt f bias inf) (d:Nat) (h0:d≠0) (hd:d<2^(f+1)):xh f bias inf d 1=(d.log2+bias.toNat-1)*2^f+d*2^(f-d.log2)/\d.log2<=f:=by
 have hb:=h.hb;have hfb:=h.hfb;have hl:d.log2<=f:=by
  have:=(Nat.log2_lt h0).2 hd;omega
 have ho:uo d 1=d.log2:=by
  have:=zb9 d 0 h0;simpa using this
 have hE:yt f bias d 1=(d.log2:Int)-f:=by
  unfold yt;rw[if_neg h0,ho];omega
 refine⟨?_,hl⟩;unfold xh;rw[hE,if_pos zd];unfold rB;rw[show ((d.log2:Int)-f).toNat=0 by omega,show (-((d.log2:Int)-f)).toNat=f-d.log2 by omega,show ((d.log2:Int)-f-(1-bias-f)).toNat=d.log2+bias.toNat-1 by omega];have:=zad (d*2^(f-d.log2)) 1 zd;rw[Nat.mul_one]at this;rw[Nat.pow_zero,Nat.mul_one,this];rfl
theorem zhw (d:Nat) (h0:d≠0) (h:d.log2<=f):2^f<=d*2^(f-d.log2)/\d*2^(f-d.log2)<2^(f+1):=by
 have h1:2^d.log2<=d:=Nat.log2_self_le h0;have h2:d<2^(d.log2+1):=Nat.lt_log2_self;constructor
 ·calc 2^f=2^d.log2*2^(f-d.log2):=by rw[<-Nat.pow_add];congr 1;omega
   _<=_:=Nat.mul_le_mul_right _ h1
 ·calc d*2^(f-d.log2)<2^(d.log2+1)*2^(f-d.log2):=Nat.mul_lt_mul_of_pos_right h2 (p2 _)
   _=2^(f+1):=by rw[<-Nat.pow_add];congr 1;omega
theorem RdV.small (h:FmtOK fmt f bias inf) (neg:Bool) (d:Nat) (h0:d≠0) (hd:d<2^(f+1)):RdV fmt (fmt.word neg (xh f bias inf d 1)) neg d:=by
 obtain⟨e,hl⟩:=zln h d h0 hd;obtain⟨h1,h2⟩:=zhw (f:=f) d h0 hl;have hb:=h.hb;have hfb:=h.hfb;rw[e];refine⟨_,_,zcy h neg _ _ h1 h2 ?_,?_,?_⟩
 ·rw[h.hinf];have h3:(d.log2+bias.toNat-1+2)*2^f<=(2*bias+1).toNat*2^f:=Nat.mul_le_mul_right _ zd;rw[Nat.pow_succ]at h2;rw[Nat.add_mul]at h3;omega
 ·have:=p2 f;omega
 ·rw[h.hl];rw[show (1-bias-(f:Int)+((d.log2+bias.toNat-1:Nat):Int)).toNat=0 by omega,show (-(1-bias-(f:Int)+((d.log2+bias.toNat-1:Nat):Int))).toNat=f-d.log2 by omega,Nat.pow_zero,Nat.mul_one]
theorem zpa (m v n u:Nat) (i j:Int) (hi:m*2^i.toNat=v*2^(-i).toNat) (hj:n*2^j.toNat=u*2^(-j).toNat):m*n*2^(i+j).toNat=v*u*2^(-(i+j)).toNat:=by
 have key:m*n*2^(i+j).toNat*(2^(-i).toNat*2^(-j).toNat*2^(i.toNat+j.toNat))=v*u*2^(-(i+j)).toNat*(2^(-i).toNat*2^(-j).toNat*2^(i.toNat+j.toNat)):=by
  have e1:m*n*2^(i+j).toNat*(2^(-i).toNat*2^(-j).toNat*2^(i.toNat+j.toNat))=(m*2^i.toNat)*(n*2^j.toNat)*(2^(i+j).toNat*2^(-i).toNat*2^(-j).toNat):=by
   rw[Nat.pow_add];ac_rfl
  have e2:v*u*2^(-(i+j)).toNat*(2^(-i).toNat*2^(-j).toNat*2^(i.toNat+j.toNat))=(v*2^(-i).toNat)*(u*2^(-j).toNat)*(2^(-(i+j)).toNat*2^i.toNat*2^j.toNat):=by
   rw[Nat.pow_add];ac_rfl
  rw[e1,e2,hi,hj,<-Nat.pow_add,<-Nat.pow_add,<-Nat.pow_add,<-Nat.pow_add];congr 2;omega
 exact Nat.eq_of_mul_eq_mul_right (Nat.mul_pos (Nat.mul_pos (p2 _) (p2 _)) (p2 _)) key
theorem zpb (m v n u:Nat) (i j:Int) (hi:m*2^i.toNat=v*2^(-i).toNat) (hj:n*2^j.toNat=u*2^(-j).toNat):m*2^(i-j).toNat*u=v*(n*2^(-(i-j)).toNat):=by
 have key:m*2^(i-j).toNat*u*(2^(-i).toNat*2^(-j).toNat*2^(i.toNat+j.toNat))=v*(n*2^(-(i-j)).toNat)*(2^(-i).toNat*2^(-j).toNat*2^(i.toNat+j.toNat)):=by
  have e1:m*2^(i-j).toNat*u*(2^(-i).toNat*2^(-j).toNat*2^(i.toNat+j.toNat))=(m*2^i.toNat)*(u*2^(-j).toNat)*(2^(i-j).toNat*2^(-i).toNat*2^j.toNat):=by
   rw[Nat.pow_add];ac_rfl
  have e2:v*(n*2^(-(i-j)).toNat)*(2^(-i).toNat*2^(-j).toNat*2^(i.toNat+j.toNat))=(v*2^(-i).toNat)*(n*2^j.toNat)*(2^(-(i-j)).toNat*2^i.toNat*2^(-j).toNat):=by
   rw[Nat.pow_add];ac_rfl
  rw[e1,e2,hi,hj,<-Nat.pow_add,<-Nat.pow_add,<-Nat.pow_add,<-Nat.pow_add];congr 2;omega
 exact Nat.eq_of_mul_eq_mul_right (Nat.mul_pos (Nat.mul_pos (p2 _) (p2 _)) (p2 _)) key
theorem RdV.mul (h:FmtOK fmt f bias inf) {x y v u:Nat} {s t:Bool} (hx:RdV fmt x s v) (hy:RdV fmt y t u):fmt.mul x y=some (fmt.word (s ^^ t) (xh f bias inf (v*u) 1)):=by
 obtain⟨m,i,hx,-,hi⟩:=hx;obtain⟨n,j,hy,-,hj⟩:=hy;unfold Ieee.Format.mul;rw[hx,hy];show some (fmt.nearest (s ^^ t) (m*n) (i+j))=_;rw[h.near];congr 2;refine ue f bias inf (by have:=p2 (-(i+j)).toNat;omega) ze ?_;rw[Nat.mul_one];exact zpa m v n u i j hi hj
theorem RdV.div (h:FmtOK fmt f bias inf) {x y v u:Nat} {s t:Bool} (hx:RdV fmt x s v) (hy:RdV fmt y t u) (hu:u≠0):fmt.div x y=some (fmt.word (s ^^ t) (xh f bias inf v u)):=by
 obtain⟨m,i,hx,hm,hi⟩:=hx;obtain⟨n,j,hy,hn,hj⟩:=hy;unfold Ieee.Format.div;rw[hx,hy];show Option.map _ (if n=0 then _ else _)=_;rw[if_neg hn,h.hf];show some (fmt.nearest (s ^^ t) (2*((m<<<(f+2+n.log2-m.log2)) / n)+((m<<<(f+2+n.log2-m.log2))%n != 0).toNat) (i-j-(f+2+n.log2-m.log2:Nat)-1))=_;rw[h.near,Nat.shiftLeft_eq];congr 2;obtain⟨more,hmore⟩:=zX (f+2+n.log2-m.log2);rw[hmore];obtain⟨q,hq⟩:=zX (2*((m*2^more) / n)+((m*2^more)%n != 0).toNat);rw[hq];have hL:((f:Nat):Int)+2<=(q.log2:Int):=by
  have h1:2^m.log2<=m:=Nat.log2_self_le hm;have h2:n<2^(n.log2+1):=Nat.lt_log2_self;have h3:2^(f+1)<=(m*2^more) / n:=by
   rw[Nat.le_div_iff_mul_le zd];have h4:2^(f+1)*n<=2^(f+1)*2^(n.log2+1):=Nat.mul_le_mul_left _ zd;have h5:2^m.log2*2^more<=m*2^more:=Nat.mul_le_mul_right _ h1;rw[<-Nat.pow_add]at h4 h5;refine Nat.le_trans h4 (Nat.le_trans (Nat.pow_le_pow_right zd zd) h5)
  have h6:2^(f+2)<=q:=by rw[<-hq,Nat.pow_succ 2 (f+1)];omega
  have h7:q≠0:=by have:=p2 (f+2);omega
  have:=(Nat.le_log2 h7).2 h6;omega
 rw[znr f bias inf (i-j) more hm zd zd hq hL];have h8:n*2^(-(i-j)).toNat≠0:=by have:=Nat.mul_pos (Nat.pos_of_ne_zero hn) (p2 (-(i-j)).toNat);omega
 exact ue f bias inf h8 hu (zpb m v n u i j hi hj)
theorem zgo {s:Bool} {m v:Nat} {i base:Int} (hi:m*2^i.toNat=v*2^(-i).toNat) (hb:base<=i) (hb0:base<=0):Ieee.signed s m (i-base).toNat=if s then -((v*2^(-base).toNat:Nat):Int) else ((v*2^(-base).toNat:Nat):Int):=by
 have e:m<<<(i-base).toNat=v*2^(-base).toNat:=by
  rw[Nat.shiftLeft_eq];have key:m*2^(i-base).toNat*2^(-i).toNat=v*2^(-base).toNat*2^(-i).toNat:=by
   have e1:m*2^(i-base).toNat*2^(-i).toNat=m*2^i.toNat*2^(-base).toNat:=by
    rw[Nat.mul_assoc,Nat.mul_assoc,<-Nat.pow_add,<-Nat.pow_add];congr 2;omega
   rw[e1,hi];ac_rfl
  exact Nat.eq_of_mul_eq_mul_right (p2 _) key
 unfold Ieee.signed;rw[e]
theorem RdV.order {x y v u:Nat} {s t:Bool} (hx:RdV fmt x s v) (hy:∃ n j,fmt.read y=.number t n j/\j<=0/\n*2^j.toNat=u*2^(-j).toNat):
  fmt.order x y=some (compare (if s then -(v:Int) else (v:Int)) (if t then -(u:Int) else (u:Int))):=by
 obtain⟨m,i,hx,-,hi⟩:=hx;obtain⟨n,j,hy,hj0,hj⟩:=hy;unfold Ieee.Format.order;rw[hx,hy];show some (compare (Ieee.signed s m (i-min i j).toNat) (Ieee.signed t n (j-min i j).toNat))=_;rw[zgo hi zd zd,zgo hj zd zd];congr 1;obtain⟨K,hK⟩:=zX (2^(-min i j).toNat);have hKp:0<K:=by rw[<-hK];exact p2 _
 rw[hK];have e1:∀ (b:Bool) (z:Nat),(if b then -((z*K:Nat):Int) else ((z*K:Nat):Int))=(if b then -(z:Int) else (z:Int))*K:=by
  intro b z;cases b
  ·simp
  ·simp[Int.neg_mul]
 rw[e1,e1];generalize (if s then -(v:Int) else (v:Int))=a;generalize (if t then -(u:Int) else (u:Int))=b;have hKi:(0:Int)<(K:Int):=zd;rcases Int.lt_trichotomy a b with h | h | h
 ·rw[Int.compare_eq_lt.2 h,Int.compare_eq_lt.2 (Int.mul_lt_mul_of_pos_right h hKi)]
 ·rw[h];rw[Int.compare_eq_eq.2 rfl,Int.compare_eq_eq.2 rfl]
 ·rw[Int.compare_eq_gt.2 h,Int.compare_eq_gt.2 (Int.mul_lt_mul_of_pos_right h hKi)]
theorem RdV.large (h:FmtOK fmt f bias inf) (neg:Bool) (d:Nat) (hd:2^(f+1)<=d) (hlt:d<2^bias.toNat):∃ v,RdV fmt (fmt.word neg (xh f bias inf d 1)) neg v/\2^(f+1)<=v:=by
 have hb:=h.hb;have hfb:=h.hfb;have h0:d≠0:=by have:=p2 (f+1);omega
 have hlo:f+1<=d.log2:=(Nat.le_log2 h0).2 hd;have hhi:d.log2<bias.toNat:=(Nat.log2_lt h0).2 hlt;have ho:uo d 1=d.log2:=by
  have:=zb9 d 0 h0;simpa using this
 have hE:yt f bias d 1=(d.log2:Int)-f:=by
  unfold yt;rw[if_neg h0,ho];omega
 have hN:xh f bias inf d 1=(d.log2+bias.toNat-1)*2^f+vi d (2^(d.log2-f)):=by
  unfold xh;rw[hE,if_pos zd];unfold rB;rw[show ((d.log2:Int)-f).toNat=d.log2-f by omega,show (-((d.log2:Int)-f)).toNat=0 by omega,show ((d.log2:Int)-f-(1-bias-f)).toNat=d.log2+bias.toNat-1 by omega];rw[Nat.pow_zero,Nat.mul_one,Nat.one_mul];rfl
 have hB:=p2 (d.log2-f);have h1:2^d.log2<=d:=Nat.log2_self_le h0;have h2:d<2^(d.log2+1):=Nat.lt_log2_self;have hr1:2^f<=vi d (2^(d.log2-f)):=by
  have e:=zad (2^f) (2^(d.log2-f)) hB;rw[<-e];refine zcv hB ?_;rw[<-Nat.pow_add,show f+(d.log2-f)=d.log2 by omega];exact h1
 have hr2:vi d (2^(d.log2-f))<=2^(f+1):=by
  have e:=zad (2^(f+1)) (2^(d.log2-f)) hB;rw[<-e];refine zcv hB ?_;rw[<-Nat.pow_add,show f+1+(d.log2-f)=d.log2+1 by omega];omega
 have hinf:∀ k S,k+2<=2*bias.toNat+1->S<2^(f+1)->k*2^f+S<inf:=by
  intro k S hk hS;rw[h.hinf];have h3:(k+2)*2^f<=(2*bias+1).toNat*2^f:=Nat.mul_le_mul_right _ zd;rw[Nat.pow_succ]at hS;rw[Nat.add_mul]at h3;omega
 rw[hN];obtain⟨k,hk⟩:=zX (d.log2+bias.toNat-1);rw[hk];generalize vi d (2^(d.log2-f))=r at *
 have key:∀ (K S:Nat),2^f<=S->S<2^(f+1)->k<=K->K<=k+1->∃ v,RdV fmt (fmt.word neg (K*2^f+S)) neg v/\2^(f+1)<=v:=by
  intro K S a1 a2 a3 a4;refine⟨S*2^(K+1-bias.toNat-f),⟨S,_,zcy h neg K S a1 a2 (hinf K S zd a2),by have:=p2 f;omega,?_⟩,?_⟩
  ·rw[h.hl,show (1-bias-(f:Int)+(K:Int)).toNat=K+1-bias.toNat-f by omega,show (-(1-bias-(f:Int)+(K:Int))).toNat=0 by omega,Nat.pow_zero,Nat.mul_one]
  ·have h5:2^f*2^1<=S*2^(K+1-bias.toNat-f):=Nat.mul_le_mul a1 (Nat.pow_le_pow_right zd zd);rw[<-Nat.pow_add]at h5;exact h5
 by_cases hc:r=2^(f+1)
 ·have e:k*2^f+r=(k+1)*2^f+2^f:=by rw[hc,Nat.add_mul,Nat.pow_succ];omega
  rw[e];refine key (k+1) (2^f) (Nat.le_refl _) ?_ zd zd;rw[Nat.pow_succ];have:=p2 f;omega
 ·exact key k r hr1 zd zd zd
end
end
section
section
variable {fmt : Ieee.Format} {f : Nat} {bias : Int} {inf : Nat}
end
theorem zq3 (F:Nat) (bias:Int) (inf a b:Nat) (hb:b≠0) (hbias:1<=bias) (hbF:(F:Int)+2<=bias) (hinf:inf=(2*bias+1).toNat*2^F) (h:a≠0->¬le2 a b bias):xh F bias inf a b≠inf:=by
 have hE:yt F bias a b<=bias-1-F:=by
  unfold yt;by_cases ha:a=0
  ·rw[if_pos ha];omega
  ·rw[if_neg ha];have o1:=(wg a b ha hb).1;have:uo a b<bias:=by
    rcases Int.lt_or_le (uo a b) bias with h' | h'
    ·exact h'
    ·exact absurd (wh h' o1) (h ha)
   omega
 have hE2:1-bias-F<=yt F bias a b:=zβk;have hr:=zld a b F bias hb zd;rw[Int.toNat_natCast]at hr;unfold xh;rw[if_pos zd,hinf,Int.toNat_natCast];have h2:(yt F bias a b-(1-bias-F)).toNat+2<=2*bias.toNat:=zd;have h3:=Nat.mul_le_mul_right (2^F) h2;rw[Nat.pow_succ]at hr;rw[Nat.add_mul]at h3;have h4:(2*bias+1).toNat=2*bias.toNat+1:=zd;rw[h4,Nat.add_mul,Nat.one_mul];have:=p2 F;omega
theorem zt9 (F:Nat) (bias:Int) (inf d m:Nat) (p:Int) (hd:d<10^m) (hbias:1<=bias) (hbF:(F:Int)+2<=bias) (hinf:inf=(2*bias+1).toNat*2^F) (hp:p<=m) (h:10^(2*m)<=2^bias.toNat):nvT F bias inf 10 d p≠inf:=by
 unfold nvT;have hp10:∀ k,10^k≠0:=fun k=>by have:=p10 k;omega
 refine zq3 F bias inf _ _ (hp10 _) hbias hbF hinf (fun _=>?_);unfold le2;rw[show (-bias).toNat=0 by omega,Nat.pow_zero,Nat.mul_one,Nat.not_le];have h1:d*10^p.toNat<10^m*10^p.toNat:=Nat.mul_lt_mul_of_pos_right hd (p10 _);have h2:10^m*10^p.toNat<=10^(2*m):=by rw[<-Nat.pow_add];exact Nat.pow_le_pow_right zd zd
 have h3:2^bias.toNat<=10^(-p).toNat*2^bias.toNat:=Nat.le_mul_of_pos_left _ (p10 _);omega
structure DecArg (F:Nat) (bias:Int) (inf:Nat) (nv d:Nat) (p:Int) (tr:Bool) (L:Lit):Prop where
 lt:d<10^19
 zero:d=0->nv=0/\L.num=0
 ne:d≠0->L.num≠0
 same:tr=false->nv=nvT F bias inf 10 d p
 lo:nvT F bias inf 10 d p<=nv
 hi:tr=true->nv<=nvT F bias inf 10 (d+1) p
 dp1:d≠0->p<=L.ex+yi L.num
 dp2:d≠0->L.ex+yi L.num<=p+19
 far:d≠0->10^(yi L.num-1)<=L.num/\L.num<10^yi L.num/\1<=yi L.num
 nvis:nv=nvT F bias inf 10 L.num L.ex
theorem zo9 (F:Nat) (bias:Int) (inf:Nat) (L:Lit) (n:Nat) (hok:L.ok) (hx:L.hex=false) (hbias:1<=bias) (hF1:1<=F) (hinf:inf=(2*bias+1).toNat*2^F):
  DecArg F bias inf (nvL F bias inf L) (goR L n).mant (goR L n).exp (goR L n).tr L:=by
 obtain⟨z,nd,hz,hm,ht,hne,hze,hlt,hlen,hM⟩:=zon L n hok;have hb:xj L.hex=10:=by rw[hx];rfl
 have hMm:ju L.hex=19:=by rw[hx];rfl
 have hp:zb7 L.hex=1:=by rw[hx];rfl
 have htn:zjn L.hex=10:=by rw[hx];rfl
 rw[hb]at hm ht hne hlt hM;rw[hMm]at hz hM;rw[hp]at hne;have hnv:nvL F bias inf L=nvT F bias inf 10 L.num L.ex:=by unfold nvL;rw[htn]
 generalize (goR L n).mant=d at *
 generalize (goR L n).exp=p at *
 generalize (goR L n).tr=tr at *
 have hp10:∀ k,10^k≠0:=fun k=>by have:=p10 k;omega
 by_cases h0:L.num=0
 ·obtain⟨a1,a2,-⟩:=hze h0;subst a1 a2;have hn0:nvL F bias inf L=0:=by rw[hnv,h0];exact zca F bias inf 10 _ ze hbias hF1
  have ht0:tr=false:=by rw[ht,h0,Nat.zero_mod];rfl
  refine⟨hM,fun _=>⟨hn0,h0⟩,fun h=>absurd rfl h,fun _=>?_,?_,fun h=>?_,fun h=>absurd rfl h,fun h=>absurd rfl h,fun h=>absurd rfl h,hnv⟩
  ·rw[hn0];exact (zca F bias inf 10 _ ze hbias hF1).symm
  ·rw[zca F bias inf 10 _ ze hbias hF1];exact Nat.zero_le _
  ·rw[ht0]at h;cases h
 ·obtain⟨a1,a2,a3,a4⟩:=hne h0;rw[Nat.one_mul]at a3;have hnd:yi L.num=nd:=by
   have:=xa (nd-1) L.num a2 (by rw[show nd-1+1=nd by omega];exact hlt);omega
  have hdm:=Nat.div_add_mod L.num (10^z);rw[<-hm]at hdm;have hml:=Nat.mod_lt L.num (p10 z);have sameV:∀ D:Nat,D*10^p.toNat*10^(-L.ex).toNat=D*10^z*10^L.ex.toNat*10^(-p).toNat:=by
   intro D;rw[Nat.mul_assoc,Nat.mul_assoc,Nat.mul_assoc,<-Nat.pow_add,<-Nat.pow_add,<-Nat.pow_add];congr 2;omega
  refine⟨hM,fun h=>absurd h a4,fun _=>h0,fun h=>?_,?_,fun h=>?_,fun _=>by rw[hnd];omega,fun _=>by rw[hnd];omega,fun _=>by rw[hnd];exact⟨a2,hlt,a1⟩,hnv⟩
  ·rw[hnv];have h1:L.num=d*10^z:=by
    rw[ht]at h;have h2:L.num%10^z=0:=zI;rw[h2,Nat.add_zero,Nat.mul_comm]at hdm;exact hdm.symm
   unfold nvT;refine ue F bias inf (hp10 _) (hp10 _) ?_;rw[h1];exact (sameV d).symm
  ·rw[hnv];unfold nvT;refine zg5 F bias inf (hp10 _) (hp10 _) hbias hinf ?_;rw[sameV d];exact Nat.mul_le_mul_right _ (Nat.mul_le_mul_right _ (by rw[Nat.mul_comm];omega))
  ·rw[hnv];unfold nvT;refine zg5 F bias inf (hp10 _) (hp10 _) hbias hinf ?_;rw[sameV (d+1)];exact Nat.mul_le_mul_right _ (Nat.mul_le_mul_right _ (by rw[Nat.add_mul,Nat.one_mul,Nat.mul_comm];omega))
theorem DecArg.over {F:Nat} {bias:Int} {inf nv d:Nat} {p:Int} {tr:Bool} {L:Lit} (h:DecArg F bias inf nv d p tr L) (m:Nat) (h0:d≠0) (hm:(m:Int)<p) (h2:2^(bias+1).toNat<=10^m) (hbias:1<=bias):nv=inf:=by
 obtain⟨h3,h4,h5⟩:=h.far h0;have h6:=h.dp1 h0;rw[h.nvis];exact znp F bias inf 10 L.num (yi L.num-1) m (bias+1).toNat L.ex ze h3 h2 zd zd 
theorem DecArg.under {F:Nat} {bias:Int} {inf nv d:Nat} {p:Int} {tr:Bool} {L:Lit} (h:DecArg F bias inf nv d p tr L) (m:Nat) (h0:d≠0) (hm:p+19<=-(m:Int)) (h2:2^(bias+F).toNat<=10^m) (hbias:1<=bias) (hF:1<=F):nv=0:=by
 obtain⟨h3,h4,h5⟩:=h.far h0;have h6:=h.dp2 h0;rw[h.nvis];exact zno F bias inf 10 L.num (yi L.num) m (bias+F).toNat L.ex ze h4 h2 zd zd hbias hF
end
theorem ym1 (Z:Nat) (ME:Int) (mb m:Nat) (x bias:Int) (inf:Nat) (hz:Kd Z ME mb m x) (hnorm:2^mb<=m\/x-(mb:Nat)=ME+Z) (hm0:m≠0) (hb:bias=1-(ME+Z)-mb) (hinf:inf=(2*bias+1).toNat*2^mb):
  (kg Z ME (m*2^shS m) (x-(mb:Nat)-(shS m:Nat))).1≠0/\
  xh (mb:Nat) bias inf ((kg Z ME (m*2^shS m) (x-(mb:Nat)-(shS m:Nat))).1*10^(kg Z ME (m*2^shS m) (x-(mb:Nat)-(shS m:Nat))).2.toNat) (10^(-(kg Z ME (m*2^shS m) (x-(mb:Nat)-(shS m:Nat))).2).toNat)=(x-(mb:Nat)-(ME+Z)).toNat*2^mb+m:=by
 obtain⟨c,dmin,dmax,p,hc,hI,-,-,hp,hS⟩:=yoh Z ME mb m x hz hnorm hm0;rw[hS];have hleast:1-bias-(mb:Nat)=ME+Z:=zd;have hE1:ME+Z<=x-(mb:Nat):=zβH;have hE2:x-(mb:Nat)<=bias-(mb:Nat):=zβH;have hm1:m<2^(mb+1):=by
  rcases hz with⟨_,_,rfl,_,_,h⟩ | ⟨_,_,rfl,_,_,h⟩ <;> exact h
 have hbias:1<=bias:=zβH;have hmb:1<=mb:=zβH;generalize x-(mb:Nat)=E at *
 have hpos:=hI.pos;have hne:dmin<=dmax:=by
  rcases hI.some with h | h <;> omega
 have hrd:=fun d i hd=>ysv hI mb (mb:Nat) bias inf rfl zd hE2 hm1 (by rw[hleast];exact hnorm.symm) hinf hbias hmb (by rw[hleast];exact hc) d i hd
 rw[hleast]at hrd;have key:∀ (d i:Nat) (k:Int),0<d->k=(i:Int)-p->dmin<=d*10^i->d*10^i<=dmax->d≠0/\xh (mb:Nat) bias inf (d*10^k.toNat) (10^(-k).toNat)=(E-(ME+Z)).toNat*2^mb+m:=by
  intro d i k hd hk h1 h2;have:=(hrd d i hd).2 ⟨h1,h2⟩;rw[hk];exact⟨zd,of_decide_eq_true this⟩
 unfold yoy;split
 ·rename_i h;exact key _ 1 _ zd zd (by rw[Nat.pow_one];exact h) (by rw[Nat.pow_one];omega)
 ·split
  ·rename_i h;obtain⟨a,b⟩:=hI.near h;exact key _ 0 _ zd zd (by rw[Nat.pow_zero,Nat.mul_one];exact a) (by rw[Nat.pow_zero,Nat.mul_one];exact b)
  ·exact key _ 0 _ zd zd (by rw[Nat.pow_zero,Nat.mul_one];omega) (by rw[Nat.pow_zero,Nat.mul_one];omega)
end Go.Proofs.YtgfjdeddghbjcaaGreatDoor
