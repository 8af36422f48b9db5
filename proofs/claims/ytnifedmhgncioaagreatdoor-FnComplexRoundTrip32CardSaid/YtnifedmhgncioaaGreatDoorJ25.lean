/- Lemmas that the claim's top text leans on. No condition of their own. -/
import Derived.Test.YtnifedmhgncioaaGreatDoorJ23
import Derived.Test.YtnifedmhgncioaaGreatDoorJ20
import Derived.Test.YtnifedmhgncioaaGreatDoorJ26
namespace Go.Proofs.YtnifedmhgncioaaGreatDoor
open Go.RowKit
set_option linter.unusedSimpArgs false
set_option linter.unusedVariables false
set_option maxHeartbeats 16000000
def Exit.two (l0 l1:Nat) (J0 J1:Act->World->Prop) (Q:Exit->Act->World->Prop):Exit->Act->World->Prop
 | .goto l',a,w=>(l'=l0/\J0 a w)\/(l'=l1/\J1 a w)
 | e,a,w=>Q e a w
theorem zgc {P:Program} {a:Act} {w:World} {Q:Exit->Act->World->Prop} {c rest0 rest1:Code} (l0 l1:Nat) (J0 J1:Act->World->Prop) (hf0:findLabel c l0=some rest0) (hf1:findLabel c l1=some rest1)
  (first:c.wp P (Exit.two l0 l1 J0 J1 Q) a w)
  (pass0:∀ a w,J0 a w->rest0.wp P (Exit.noGoto Q) a w) (pass1:∀ a w,J1 a w->rest1.wp P (Exit.noGoto Q) a w):(Code.scope c).wp P Q a w:=by
 intro b k cs;have key:∀ (l:Nat) (rest:Code),findLabel c l=some rest->∀ a w,rest.wp P (Exit.noGoto Q) a w->gotoIn l (.inScope c::k)=some (.code rest::.inScope c::k)/\∃ e a' w',Q e a' w'/\Arrives P (lone (b.at a (.code rest::.inScope c::k)) cs w) b k cs e a' w':=by
  intro l rest hf a w hp;refine⟨by simp[gotoIn,hf],?_⟩;obtain⟨e,a₁,w₁,hq,harr⟩:=hp b (.inScope c::k) cs;cases e with
  | normal=>exact⟨.normal,a₁,w₁,hq,Steps.trans harr (.one step_inScope)⟩
  | exit id=>exact⟨.exit id,a₁,w₁,hq,fun k' hk=>harr k' (by simp[exitTo,hk])⟩
  | goto l=>exact hq.elim
  | ret=>exact⟨_,a₁,w₁,hq,harr⟩
  | panic ch=>exact⟨_,a₁,w₁,hq,harr⟩
  | outgrown=>exact⟨_,a₁,w₁,hq,harr⟩
 obtain⟨e,a₁,w₁,hq,harr⟩:=first b (.inScope c::k) cs
 cases e with
 | normal=>exact⟨.normal,a₁,w₁,hq,.head step_scope (Steps.trans harr (.one step_inScope))⟩
 | exit id=>exact⟨.exit id,a₁,w₁,hq,fun k' hk=>.head step_scope (harr k' (by simp[exitTo,hk]))⟩
 | goto l'=>
  rcases hq with⟨rfl,hJ⟩ | ⟨rfl,hJ⟩
  ·obtain⟨hg,e₂,a₂,w₂,hq₂,harr₂⟩:=key _ rest0 hf0 a₁ w₁ (pass0 a₁ w₁ hJ);exact⟨e₂,a₂,w₂,hq₂,.of_steps (.head step_scope (harr _ hg)) harr₂⟩
  ·obtain⟨hg,e₂,a₂,w₂,hq₂,harr₂⟩:=key _ rest1 hf1 a₁ w₁ (pass1 a₁ w₁ hJ);exact⟨e₂,a₂,w₂,hq₂,.of_steps (.head step_scope (harr _ hg)) harr₂⟩
 | ret=>exact⟨_,a₁,w₁,hq,.of_steps (.one step_scope) harr⟩
 | panic ch=>exact⟨_,a₁,w₁,hq,.of_steps (.one step_scope) harr⟩
 | outgrown=>exact⟨_,a₁,w₁,hq,.of_steps (.one step_scope) harr⟩
structure GotL (Q:Exit->Act->World->Prop) (l:Nat) (n:Nat) (R:(Nat->Value)->World->Prop):Prop where
 out:∀ env s w,R (over env s) w->Q (.goto l) (Fr n env s) w
theorem zhx {P:Program} {n:Nat} {env:List (Nat×Value)} {s:Nat->Value} {w:World} {Q:Exit->Act->World->Prop} {c rest0 rest1:Code} (l0 l1:Nat) (hl:l0≠l1) (R0 R1:(Nat->Value)->World->Prop) (hf0:findLabel c l0=some rest0) (hf1:findLabel c l1=some rest1)
  (first:∀ Q':Exit->Act->World->Prop,Hid (GotL Q' l0 n R0)->Hid (GotL Q' l1 n R1)->c.wp P Q' (Fr n env s) w)
  (pass0:∀ s w,R0 s w->rest0.wp P (Exit.noGoto Q) (Fr n [] s) w) (pass1:∀ s w,R1 s w->rest1.wp P (Exit.noGoto Q) (Fr n [] s) w):(Code.scope c).wp P Q (Fr n env s) w:=by
 refine zgc l0 l1 (fun a w=>∃ env s,a=Fr n env s/\R0 (over env s) w) (fun a w=>∃ env s,a=Fr n env s/\R1 (over env s) w) hf0 hf1 ?_ ?_ ?_
 ·exact first _ ⟨fun env s w h=>Or.inl ⟨rfl,env,s,rfl,h⟩⟩ ⟨fun env s w h=>Or.inr ⟨rfl,env,s,rfl,h⟩⟩
 ·rintro a w ⟨env,s,rfl,h⟩;rw[zbg];exact pass0 _ _ h
 ·rintro a w ⟨env,s,rfl,h⟩;rw[zbg];exact pass1 _ _ h
theorem DecT.drewN {w:World} {g N:Nat} {p:Int} {ng tr:Bool} (h:DecT w g N p ng tr) (n:Nat):DecT (w.drewN n) g N p ng tr:=h.grown (yh w n none) zi 
theorem ztz:∀ i,i<9->(1<=i->2^ptV i<=10^i)/\(i=0->ptV i=1):=by decide
theorem yao {i:Nat} (h:9<=i):2^27<=10^i:=Nat.le_trans (show 2^27<=10^9 by decide) (Nat.pow_le_pow_right zd h)
theorem zsj:∀ i,i<9->1<=ptV i/\ptV i<=26:=by decide
section
attribute [local go_sem] undef
theorem Dec.setNg {w:World} {g:Nat} {bs:List UInt8} {nd dp:Int} {ng tr:Bool} (h:Dec w g bs nd dp ng tr) (x:Bool):Dec (w.setCell ⟨g,802,none⟩ (.bool x)) g bs nd dp x tr:=by
 refine⟨h.1,?_⟩;have:=h.2.setCell 802 (.bool x);rw[List.set_append_right _ _ zv,List.length_map,h.1]at this;exact this
theorem sd95 {c:UInt8} {r:List UInt8} {dot dig:Bool} {nd:Nat} {dp:Int} {N:Nat} (h:c.toNat=95):dsD (c::r) dot dig nd dp N=dsD r dot dig nd dp N:=by
 rw[dsD,if_pos (UInt8.toNat_inj.1 h)]
theorem sd46n {c:UInt8} {r:List UInt8} {dig:Bool} {nd:Nat} {dp:Int} {N:Nat} (h:c.toNat=46):dsD (c::r) false dig nd dp N=dsD r true dig nd nd N:=by
 rw[dsD,if_neg (uw (by rw[h];decide)),if_pos (UInt8.toNat_inj.1 h),if_neg ze]
theorem sd46y {c:UInt8} {r:List UInt8} {dig:Bool} {nd:Nat} {dp:Int} {N:Nat} (h:c.toNat=46):dsD (c::r) true dig nd dp N=(true,dig,nd,dp,N,c::r):=by
 rw[dsD,if_neg (uw (by rw[h];decide)),if_pos (UInt8.toNat_inj.1 h),if_pos rfl]
theorem sdD {c:UInt8} {r:List UInt8} {dot dig:Bool} {nd:Nat} {dp:Int} {N:Nat} (h:48<=c.toNat/\c.toNat<=57):
  dsD (c::r) dot dig nd dp N=if c.toNat-48=0/\nd=0 then dsD r dot true nd (dp-1) N else dsD r dot true (nd+1) dp (N*10+(c.toNat-48)):=by
 rw[dsD,if_neg (uw (by show ¬c.toNat=95;omega)),if_neg (uw (by show ¬c.toNat=46;omega))];have e:dgV false c=some (c.toNat-48):=by unfold dgV;rw[if_pos h]
 rw[e]
theorem sdN {c:UInt8} {r:List UInt8} {dot dig:Bool} {nd:Nat} {dp:Int} {N:Nat} (h1:¬(48<=c.toNat/\c.toNat<=57)) (h2:c.toNat≠95) (h3:c.toNat≠46):dsD (c::r) dot dig nd dp N=(dot,dig,nd,dp,N,c::r):=by
 rw[dsD,if_neg (uw h2),if_neg (uw h3)];have e:dgV false c=none:=by unfold dgV;rw[if_neg h1,if_neg zi]
 rw[e]
theorem zex (bs:List UInt8) (n:Nat) (c:UInt8) (h:n<bs.length):(bs.set n c).take (n+1)=bs.take n++[c]:=by
 rw[List.take_add_one,List.take_set_of_le (Nat.le_refl _),List.getElem?_set_self h];rfl
theorem zo5 (bs:List UInt8) (N nd d:Nat) (hd:d<10) (hl:nd<bs.length) (h:bs.take nd=digs N nd):(bs.set nd (UInt8.ofNat (48+d))).take (nd+1)=digs (N*10+d) (nd+1):=by
 rw[zex _ _ _ hl,h,zap,show (N*10+d) / 10=N by omega];congr 2;unfold Lib.dg;rw[Nat.pow_zero,Nat.div_one,show (N*10+d)%10=d by omega]
set_option maxRecDepth 100000 in
theorem zts (g:Nat) (s:List UInt8) (L:Lit) (bs0:List UInt8) (ng0 tr0:Bool) (w:World) (hL:zau s=some L) (hx:L.hex=false) (h0:L.num≠0) (hs:s.length<=800) (hd:Dec w g bs0 0 0 ng0 tr0):
  Calls Tryz.prog 114 #[.pointer (some ⟨g,0,none⟩),.string ⟨s.toArray⟩] w fun r w'=>r=.returned (.bool true)/\DecT w' g L.num L.ex L.neg false/\Gr w w' g:=by
 have HLOW:=zH (fun (c:UInt8) W=>za5 c W);obtain⟨hne,dotT,ndT,dpT,rest,hT,hndT,hdpT,hrest⟩:=ztr hL hx h0;have hok:=zfk hL;have hneg:(sgn s).1=L.neg:=hok.2.2.2.2.symm;have hgoE:=zoo L.de hok.2.2.1;have hE9:goE L.de<=99999:=zd;have hRH:∀ c r,rest=c::r->wc c=101:=by
  intro c r h;rcases hrest with⟨h1,-⟩ | ⟨c',r1,d,r2,h1,h2,-⟩
  ·rw[h1]at h;cases h
  ·rw[h1]at h;cases h;exact h2
 have hndT8:ndT<=800:=by
  rw[hndT];have h1:=zko 10 zd (L.da++L.db) (fun d h=>by have:=hok.1 d h;rw[hx]at this;exact this);have h2:L.num<10^(L.da++L.db).length:=by unfold Lit.num;rw[hx];exact h1
  have:=zee h2;rw[List.length_append]at this;omega
 have hex:L.ex=goX L-(L.db.length:Int):=by unfold Lit.ex zb7;rw[hx];simp
 have hlen:=hok.2.1;have hfin:∀ W bs,bs.take ndT=digs L.num ndT->Dec W g bs ndT ((ndT:Int)-L.db.length+goX L) L.neg false->DecT W g L.num L.ex L.neg false:=by
  intro W bs h1 h2;rw[hndT]at h1 h2;exact⟨h0,zd,bs,h1,by rw[hex,show goX L-(L.db.length:Int)+(yi L.num:Int)=(yi L.num:Int)-L.db.length+goX L by omega];exact h2⟩
 have HFIN:=zH hfin;have HRH:=zH hRH;have HREST:=zH hrest;have HDPT:=zH hdpT;have HTT:=zH hT;have HE9:=zH hE9;obtain⟨ng,hng⟩:=zX L.neg;rw[hng]at hneg HFIN;obtain⟨X,hX⟩:=zX (goX L);rw[hX]at HFIN;have HXX:=zH hX;obtain⟨lb,hlb⟩:=zX L.db.length;rw[hlb]at HDPT HFIN;have hlb8:lb<=800:=zd;rw[hng];clear hL hok hrest hT hdpT hRH hfin hndT hex hx h0 hgoE hE9 hng hX hlb hlen;refine ye Tryz.func114 rfl (by rw[Tryz.ntmps114];simp) ?_;intro σ hσ;rw[Tryz.ntmps114];have s0:σ 0=.pointer (some ⟨g,0,none⟩):=hσ 0 zi;have s1:σ 1=.string ⟨s.toArray⟩:=hσ 1 zi;clear hσ;have hsz:(⟨s.toArray⟩:ByteArray).size=s.length:=zm;have HIDX:=zH (fun i h=>xu s i h);obtain⟨N,hN⟩:=zX s.length;rw[hN]at hsz hs HIDX;have HN:=zH hN;clear hN;have hN0:0<N:=by rw[<-HN.out];exact List.length_pos_iff.2 hne
 have n1:(0:Int)<(N:Int):=zd;have n3:decide ((N:Int)<=0)=false:=zh;have n4:decide (N<=0)=false:=zh;have n5:decide (N=0)=false:=zh;have n6:¬N=0:=zd;have hidx0:=HIDX.out 0 hN0;have hsg:(sgn s)=(decide ((s.getD 0 0).toNat=45),s.drop (0+if (s.getD 0 0).toNat=43\/(s.getD 0 0).toNat=45 then 1 else 0)):=zmz (s:=s) (i:=0) (by rw[HN.out];exact hN0);obtain⟨c,hc⟩:=zX (s.getD 0 0);rw[hc]at hsg hidx0;obtain⟨n,hn⟩:=zX c.toNat;simp only[hn]at hsg;rw[hsg]at hneg;simp only at hneg;obtain⟨i0,hi0⟩:=zX (0+(if n=43\/n=45 then 1 else 0));rw[hi0]at hsg;have hi0N:i0<=N:=by rw[<-hi0];split <;> omega
 have HI0:=zH hi0;have HNEG:=zH hneg;have hT2:=HTT.out;rw[hsg]at hT2;have HT:=zH hT2;have hlt:=hd.lt;have fz:=hd.frozen;have hd1:=hd.setNg false;have hd2:=hd1.setTr false;have HD:=zH hd2;have HG:=zH (((Gr.refl w g).set 802 (.bool false)).set 803 (.bool false));have d3:=hd.cng;have d4:=hd.ctr;clear hc hsg hi0 hneg hT2 hd hd1 hd2 HTT;(go_upto_block 0 with fail;repeat ((first|refine cZ ?_|refine cW ?_);go_upto_block 0 with fail));refine yr (fun s' w'=>s' 0=.pointer (some ⟨g,0,none⟩)/\s' 1=.string ⟨s.toArray⟩/\s' 4=.bool false/\s' 5=.int .i64 (i0:Int)/\Dec w' g bs0 0 0 ng false/\Gr w w' g) ?_ ?_
 ·intro R' K' HR hK';by_cases h43:n=43
  ·subst h43;have e1:ng=false:=by rw[<-HNEG.out];rfl
   have e2:i0=1:=by rw[<-HI0.out];rfl
   subst e1 e2;(go_wp2_with fail;repeat ((first|refine cZ ?_|refine cW ?_);go_wp2_with fail));exact got HR ⟨zb,zb,zb,zb,HD.out,HG.out⟩
  ·obtain⟨a1,a2,a3⟩:=yq (z:=43) rfl h43;by_cases h45:n=45
   ·subst h45;have e1:ng=true:=by rw[<-HNEG.out];rfl
    have e2:i0=1:=by rw[<-HI0.out];rfl
    subst e1 e2;clear h43 a1 a2 a3;(go_wp2_with fail;repeat ((first|refine cZ ?_|refine cW ?_);go_wp2_with fail));exact got HR ⟨zb,zb,zb,zb,HD.out.setNg true,HG.out.set 802 (.bool true)⟩
   ·obtain⟨b1,b2,b3⟩:=yq (z:=45) rfl h45;have e1:ng=false:=by rw[<-HNEG.out];exact decide_eq_false h45
    have e2:i0=0:=by rw[<-HI0.out,if_neg (fun h=>h.elim h43 h45)]
    subst e1 e2;clear h43 h45;(go_wp2_with fail;repeat ((first|refine cZ ?_|refine cW ?_);go_wp2_with fail));exact got HR ⟨zb,zb,zb,zb,HD.out,HG.out⟩
 clear s0 s1 σ HD HG hlt fz d3 d4 hidx0 HI0 HNEG n1 n3 n4 n5 n6 hn n c;rintro σ w1 ⟨s0,s1,s4,s5,hd,hg⟩;have HD:=zH hd;have HG:=zH hg;clear hd hg;(go_upto_block 1 with fail;repeat ((first|refine cZ ?_|refine cW ?_);go_upto_block 1 with fail));refine yr (fun s' w'=>∃ (i nd:Nat) (dot dig:Bool) (dp:Int) (Nn:Nat) (bs:List UInt8),i<=N/\(dotT,true,ndT,dpT,L.num,rest)=(dot,dig,nd,dp,Nn,s.drop i)/\s' 0=.pointer (some ⟨g,0,none⟩)/\s' 1=.string ⟨s.toArray⟩/\s' 4=.bool false/\s' 5=.int .i64 (i:Int)/\s' 6=.bool dot/\s' 7=.bool dig/\bs.take nd=digs Nn nd/\-(800:Int)<=dp/\dp<=800/\Dec w' g bs nd dp ng false/\Gr w w' g) ?_ ?_
 ·intro R' K' HR hK';(go_wp2_with fail;repeat ((first|refine cZ ?_|refine cW ?_);go_wp2_with fail));refine xx (fun kk s' w'=>∃ (i nd:Nat) (dot dig:Bool) (dp:Int) (Nn:Nat) (bs:List UInt8),i<=N/\kk=N-i/\dsD (s.drop i) dot dig nd dp Nn=(dotT,true,ndT,dpT,L.num,rest)/\nd<=i/\-(i:Int)<=dp/\dp<=i/\s' 0=.pointer (some ⟨g,0,none⟩)/\s' 1=.string ⟨s.toArray⟩/\s' 4=.bool false/\s' 5=.int .i64 (i:Int)/\s' 6=.bool dot/\s' 7=.bool dig/\bs.take nd=digs Nn nd/\Dec w' g bs nd dp ng false/\Gr w w' g) (N-i0)
   ⟨i0,0,false,false,0,0,bs0,hi0N,rfl,HT.out,zd,zd,zd,zb,zb,zb,zb,zb,zb,rfl,HD.out,HG.out⟩ ?_
  clear s0 s1 s4 s5 σ HT HD HG hi0N i0;rintro kk σ wk ⟨i,nd,dot,dig,dp,Nn,bs,hi,hkk,hsc,o3,o4,o5,s0,s1,s4,s5,s6,s7,hbs,hd,hg⟩ RK KK HRK hKK;have HKK:=zH hkk;have HSC:=zH hsc;have HBS:=zH hbs;have HD:=zH hd;have HG:=zH hg;have hlt:=hd.lt;have fz:=hd.frozen;have d1:=hd.cnd;have d2:=hd.cdp;clear hkk hsc hbs hd hg;by_cases hiN:i<N
  ·have hidx:=HIDX.out i hiN;have hiN':(i:Int)<(N:Int):=zd;have hdr:=ua s i zn;have hsc:=HSC.out;rw[hdr]at hsc;have HDR:=zH hdr;generalize s.getD i 0=c at *
   obtain⟨n,hn⟩:=zX c.toNat;have HNN:=zH hn;have HS2:=zH hsc;clear hdr hsc HSC;by_cases h95:n=95
   ·have HF:=zH ((sd95 (HNN.out.trans h95)).symm.trans HS2.out);subst h95;(go_wp2_with fail;repeat ((first|refine cZ ?_|refine cW ?_);go_wp2_with fail));exact wo HRK (N-(i+1)) (by have:=HKK.out;omega) ⟨i+1,nd,dot,dig,dp,Nn,bs,zd,rfl,HF.out,zd,zd,zd,zb,zb,zb,zb,zb,zb,HBS.out,HD.out,HG.out⟩
   ·obtain⟨a1,a2,a3⟩:=yq (z:=95) rfl h95;have H95:=zH h95;clear h95;by_cases h46:n=46
    ·subst h46;cases dot
     ·have HF:=zH ((sd46n HNN.out).symm.trans HS2.out);(go_wp2_with fail;repeat ((first|refine cZ ?_|refine cW ?_);go_wp2_with fail));exact wo HRK (N-(i+1)) (by have:=HKK.out;omega) ⟨i+1,nd,true,dig,(nd:Int),Nn,bs,zd,rfl,HF.out,zd,zd,zd,zb,zb,zb,zb,zb,zb,HBS.out,HD.out.setDp _,HG.out.set _ _⟩
     ·exfalso;have h1:=(sd46y HNN.out).symm.trans HS2.out;have h2:c::s.drop (i+1)=rest:=congrArg (fun x=>x.2.2.2.2.2) h1;have h3:=HRH.out _ _ h2.symm;have h4:c=46:=UInt8.toNat_inj.1 HNN.out;rw[h4]at h3;revert h3;decide
    ·obtain⟨b1,b2,b3⟩:=yq (z:=46) rfl h46;have H46:=zH h46;clear h46;obtain⟨dd,hdd⟩:=zX (decide (48<=n/\n<=57));have HDD:=zH hdd;clear hdd;(go_upto_region 20 with fail;repeat ((first|refine cZ ?_|refine cW ?_);go_upto_region 20 with fail));refine yr (fun s' w'=>s' 0=.pointer (some ⟨g,0,none⟩)/\s' 1=.string ⟨s.toArray⟩/\s' 4=.bool false/\s' 5=.int .i64 (i:Int)/\s' 6=.bool dot/\s' 7=.bool dig/\s' 58=.bool dd/\w'=wk) ?_ ?_
     ·intro R2 K2 HR2 hK2;by_cases h1:48<=n
      ·have k1:(48:Int)<=(n:Int):=zd;by_cases h2:n<=57
       ·have k2:(n:Int)<=57:=zd;have e:dd=true:=by rw[<-HDD.out];exact decide_eq_true ⟨h1,h2⟩
        subst e;go_wp2_with fail;all_goals exact got HR2 ⟨zb,zb,zb,zb,zb,zb,zb,rfl⟩
       ·have e:dd=false:=by rw[<-HDD.out];exact decide_eq_false (fun h=>h2 h.2)
        have k2:decide ((n:Int)<=57)=false:=zh;have k3:decide (n<=57)=false:=zh;subst e;clear h2;go_wp2_with fail;all_goals exact got HR2 ⟨zb,zb,zb,zb,zb,zb,zb,rfl⟩
      ·have e:dd=false:=by rw[<-HDD.out];exact decide_eq_false (fun h=>h1 h.1)
       have k2:decide (48<=(n:Int))=false:=zh;have k3:decide (48<=n)=false:=zh;subst e;clear h1;go_wp2_with fail;all_goals exact got HR2 ⟨zb,zb,zb,zb,zb,zb,zb,rfl⟩
     clear s0 s1 s4 s5 s6 s7 σ;rintro σ w2 ⟨s0,s1,s4,s5,s6,s7,s58,rfl⟩;cases dd
     ·have HF:=zH (show (dotT,true,ndT,dpT,L.num,rest)=(dot,dig,nd,dp,Nn,s.drop i) by
       rw[HDR.out,<-HS2.out];exact sdN (fun h=>by have:=HDD.out;rw[decide_eq_true (by rw[<-HNN.out];exact h)]at this;cases this) (by rw[HNN.out];exact H95.out) (by rw[HNN.out];exact H46.out))
      (go_wp2_with fail;repeat ((first|refine cZ ?_|refine cW ?_);go_wp2_with fail));exact got HR ⟨i,nd,dot,dig,dp,Nn,bs,hi,HF.out,zb,zb,zb,zb,zb,zb,HBS.out,zd,zd,HD.out,HG.out⟩
     ·have hdg:=of_decide_eq_true HDD.out;have HF:=zH ((sdD (by rw[HNN.out];exact hdg)).symm.trans HS2.out);rw[hn]at HF;obtain⟨z,hz⟩:=zX (decide (n=48/\nd=0));have HZ:=zH hz;clear hz;(go_upto_region 22 with fail;repeat ((first|refine cZ ?_|refine cW ?_);go_upto_region 22 with fail));refine yr (fun s' w'=>s' 0=.pointer (some ⟨g,0,none⟩)/\s' 1=.string ⟨s.toArray⟩/\s' 4=.bool false/\s' 5=.int .i64 (i:Int)/\s' 6=.bool dot/\s' 7=.bool true/\s' 79=.bool z/\w'=w2) ?_ ?_
      ·intro R2 K2 HR2 hK2;by_cases h1:n=48
       ·by_cases h2:nd=0
        ·have e:z=true:=by rw[<-HZ.out];exact decide_eq_true ⟨h1,h2⟩
         subst h1 h2 e;go_wp2_with fail;all_goals exact got HR2 ⟨zb,zb,zb,zb,zb,zb,zb,rfl⟩
        ·obtain⟨c1,c2,c3⟩:=yq (z:=0) rfl h2;have e:z=false:=by rw[<-HZ.out];exact decide_eq_false (fun h=>h2 h.2)
         subst h1 e;clear h2;go_wp2_with fail;all_goals exact got HR2 ⟨zb,zb,zb,zb,zb,zb,zb,rfl⟩
       ·obtain⟨c1,c2,c3⟩:=yq (z:=48) rfl h1;have e:z=false:=by rw[<-HZ.out];exact decide_eq_false (fun h=>h1 h.1)
        subst e;clear h1;go_wp2_with fail;all_goals exact got HR2 ⟨zb,zb,zb,zb,zb,zb,zb,rfl⟩
      clear s0 s1 s4 s5 s6 s7 s58 σ;rintro σ w3 ⟨s0,s1,s4,s5,s6,s7,s79,rfl⟩;cases z
      ·have HF2:=zH (show dsD (s.drop (i+1)) dot true (nd+1) dp (Nn*10+(n-48))=(dotT,true,ndT,dpT,L.num,rest) by
        rw[<-HF.out,if_neg];intro h;have:=of_decide_eq_false HZ.out;exact this ⟨zd,h.2⟩)
       have hnd8:(nd:Int)<800:=zd;have hdW:∃ v,w3.cell? ⟨g,nd,none⟩=some v:=⟨_,HD.out.digit nd zd⟩;obtain⟨vW,hvW⟩:=hdW;have hbl:bs.length=800:=HD.out.len;have HB2:=zH (zo5 bs Nn nd (n-48) zd zd HBS.out);have hn256:n<256:=by rw[<-HNN.out];exact UInt8.toNat_lt c
       have e48:((n:Int)).toNat=48+(n-48):=zd;have hwd:IntKind.i64.wrap ((nd:Int)+1)=(nd:Int)+1:=zk;have hdn:=HD.out.setDigit nd zd (n:Int) zd zd;rw[e48]at hdn;have HDN:=zH hdn;clear hdn;(go_upto_region 25 with fail;repeat ((first|refine cZ ?_|refine cW ?_);go_upto_region 25 with fail));go_still_tail 11,zg;(go_wp2_with fail;repeat ((first|refine cZ ?_|refine cW ?_);go_wp2_with fail));refine wo HRK (N-(i+1)) (by have:=HKK.out;omega) ⟨i+1,nd+1,dot,true,dp,Nn*10+(n-48),bs.set nd (UInt8.ofNat (48+(n-48))),zd,rfl,HF2.out,zd,zd,zd,zb,zb,zb,zb,zb,zb,HB2.out,?_,?_⟩
       ·first
         | exact HDN.out.setNd _
         | exact (HDN.out.drewN _).setNd _
       ·first
         | exact (HG.out.set _ _).set _ _
         | exact ((HG.out.drewN _).set _ _).set _ _
      ·obtain⟨h1,h2⟩:=of_decide_eq_true HZ.out;have HF2:=zH (show dsD (s.drop (i+1)) dot true 0 (dp-1) Nn=(dotT,true,ndT,dpT,L.num,rest) by
        rw[<-HF.out,if_pos ⟨zd,h2⟩,h2])
       subst h1 h2;(go_wp2_with fail;repeat ((first|refine cZ ?_|refine cW ?_);go_wp2_with fail));exact wo HRK (N-(i+1)) (by have:=HKK.out;omega) ⟨i+1,0,dot,true,dp-1,Nn,bs,zd,rfl,HF2.out,zd,zd,zd,zb,zb,zb,zb,zb,zb,HBS.out,HD.out.setDp _,HG.out.set _ _⟩
  ·have eN:i=N:=zd;have HF:=zH (show (dotT,true,ndT,dpT,L.num,rest)=(dot,dig,nd,dp,Nn,s.drop i) by rw[<-HSC.out,List.drop_eq_nil_of_le zt];rfl);have g1:decide ((i:Int)<(N:Int))=false:=zh;have g2:decide (i<N)=false:=zh;have g3:¬((i:Int)<(N:Int)):=zd;(go_wp2_with fail;repeat ((first|refine cZ ?_|refine cW ?_);go_wp2_with fail));exact got HR ⟨i,nd,dot,dig,dp,Nn,bs,hi,HF.out,zb,zb,zb,zb,zb,zb,HBS.out,zd,zd,HD.out,HG.out⟩
 clear HT HD HG hi0N i0 s0 s1 s4 s5 σ;rintro σ w2 ⟨i,nd,dot,dig,dp,Nn,bs,hi,hT,s0,s1,s4,s5,s6,s7,hbs,hdp1,hdp2,hd,hg⟩;simp only[Prod.mk.injEq]at hT;obtain⟨rfl,rfl,rfl,rfl,hNn,hrest⟩:=hT;subst hNn;rw[hrest]at HREST;have HBS:=zH hbs;have HD:=zH hd;have HG:=zH hg;have hlt:=hd.lt;have fz:=hd.frozen;have d1:=hd.cnd;have d2:=hd.cdp;clear hbs hd hg hrest HRH;obtain⟨dv,hdv⟩:=zX ((ndT:Int)-lb);rw[hdv]at HDPT HFIN;have hdva:-800<=dv:=zd;have hdvb:dv<=800:=zd;clear hdv;(go_upto_region 30 with fail;repeat ((first|refine cZ ?_|refine cW ?_);go_upto_region 30 with fail));go_wp2_with fail;refine yr (fun s' w'=>s' 0=.pointer (some ⟨g,0,none⟩)/\s' 1=.string ⟨s.toArray⟩/\s' 4=.bool false/\s' 5=.int .i64 (i:Int)/\Dec w' g bs ndT dv ng false/\Gr w w' g) ?_ ?_
 ·intro R' K' HR hK';cases dotT
  ·have e:(ndT:Int)=dv:=HDPT.out;subst e;(go_wp2_with fail;repeat ((first|refine cZ ?_|refine cW ?_);go_wp2_with fail));exact got HR ⟨zb,zb,zb,zb,HD.out.setDp _,HG.out.set _ _⟩
  ·have e:dpT=dv:=HDPT.out;subst e;(go_wp2_with fail;repeat ((first|refine cZ ?_|refine cW ?_);go_wp2_with fail));exact got HR ⟨zb,zb,zb,zb,HD.out,HG.out⟩
 clear s0 s1 s4 s5 s6 s7 σ HD HG HDPT hlt fz d1 d2 hdp1 hdp2;rintro σ w3 ⟨s0,s1,s4,s5,hd,hg⟩;have HD:=zH hd;have HG:=zH hg;have hlt:=hd.lt;have fz:=hd.frozen;have d2:=hd.cdp;clear hd hg;have HFIN2:=zH (fun W h=>HFIN.out W bs HBS.out h);clear HFIN HBS;rcases HREST.out with⟨hr0,hx0⟩ | ⟨c,r1,d,r2,hr,hcl,hr2,hdd,hscE,hen⟩
 ·have eN:i=N:=by
   have h1:=congrArg List.length hr0;rw[List.length_drop,HN.out,List.length_nil]at h1;omega
  have e0:X=0:=by rw[<-HXX.out];exact hx0
  have HFF:=zH (HFIN2.out w3 (by rw[e0,Int.add_zero];exact HD.out));clear hr0 hx0 HREST;subst eN;(go_wp2_with fail;repeat ((first|refine cZ ?_|refine cW ?_);go_wp2_with fail));exact yl (.bool true) rfl ze zb ⟨rfl,HFF.out,HG.out⟩
 ·have hiN:i<N:=by
   have h1:=congrArg List.length hr;rw[List.length_drop,HN.out,List.length_cons]at h1;omega
  have hdr:=ua s i zn;rw[hr]at hdr;obtain⟨hce,hr1⟩:=List.cons.inj hdr;have hidx:=HIDX.out i hiN;rw[<-hce]at hidx;have hlow:=fun W=>HLOW.out c W
  rw[hcl]at hlow;obtain⟨n,hn⟩:=zX c.toNat;rw[hn]at hlow;have HL:=zH hlow;have hiN':(i:Int)<(N:Int):=zd;have g4:i+1<N:=by
   have h1:r1≠[]:=by intro e;rw[e]at hr2;simp[sgn]at hr2
   have h2:=List.length_pos_iff.2 h1;rw[hr1,List.length_drop,HN.out]at h2;omega
  have HSA:=zH (zmz (s:=s) (i:=i+1) (by rw[HN.out];exact g4));have hidx1:=HIDX.out (i+1) g4;obtain⟨c1,hc1⟩:=zX (s.getD (i+1) 0);rw[hc1]at hidx1 HSA;obtain⟨n1,hn1⟩:=zX c1.toNat;simp only[hn1]at HSA;obtain⟨i2,hi2e⟩:=zX (i+1+(if n1=43\/n1=45 then 1 else 0));rw[hi2e]at HSA;have HI2:=zH hi2e;rw[hr1,HSA.out]at hr2 hen;simp only at hr2 hen;obtain⟨eneg,heneg⟩:=zX (decide (n1=45));rw[heneg]at hen;have HEN:=zH heneg;obtain⟨es,hes⟩:=zX ((if eneg=true then -1 else 1));have HES:=zH hes;have hi2N:i2<N:=by
   have h1:=congrArg List.length hr2;rw[List.length_drop,HN.out,List.length_cons]at h1;omega
  have hdr2:=ua s i2 (by rw[HN.out];exact hi2N);rw[hr2]at hdr2;have hde:=(List.cons.inj hdr2).1;have hidx2:=HIDX.out i2 hi2N;rw[<-hde]at hidx2;have HX:=zH (show ∀ us,(scE (s.drop i2) us 0).2=(goE L.de,[]) by rw[hr2];exact hscE);have hxe:X=(goE L.de:Int)*es:=by
   rw[<-HXX.out,<-hes];unfold goX;rw[hen];cases eneg <;> simp
  have HXE:=zH hxe;obtain⟨m,hm⟩:=zX d.toNat;rw[hm]at hdd;have g5:(i:Int)+1<(N:Int):=zd;have g1:decide ((N:Int)<=(i:Int)+1)=false:=zh;have g2:decide (N<=i+1)=false:=zh;have g3:¬((N:Int)<=(i:Int)+1):=zd;have hw:IntKind.i64.wrap ((i:Int)+1)=(i:Int)+1:=zk;have hw2:IntKind.i64.wrap ((i:Int)+1+1)=(i:Int)+1+1:=zk;clear hlow hr hcl hr2 hscE hen hdr hce hr1 hc1 hi2e heneg hes hdr2 hde hxe HREST HXX HSA;(go_upto_region 32 with fail;repeat ((first|refine cZ ?_|refine cW ?_);go_upto_region 32 with fail));refine yr (fun s' w'=>s' 0=.pointer (some ⟨g,0,none⟩)/\s' 1=.string ⟨s.toArray⟩/\s' 4=.bool false/\s' 5=.int .i64 (i:Int)/\s' 138=.bool true/\w'=w3) ?_ ?_
  ·intro R' K' HR hK';(go_wp2_with fail;repeat ((first|refine cZ ?_|refine cW ?_);go_wp2_with fail));refine (HL.out _).mono ?_;rintro e w1 ⟨rfl,rfl⟩;(go_wp2_with fail;repeat ((first|refine cZ ?_|refine cW ?_);go_wp2_with fail));all_goals exact got HR ⟨zb,zb,zb,zb,zb,rfl⟩
  clear s0 s1 s4 s5 σ HL hn n c hidx;rintro σ w4 ⟨s0,s1,s4,s5,s138,rfl⟩;(go_upto_block 4 with fail;repeat ((first|refine cZ ?_|refine cW ?_);go_upto_block 4 with fail));refine yr (fun s' w'=>s' 0=.pointer (some ⟨g,0,none⟩)/\s' 1=.string ⟨s.toArray⟩/\s' 4=.bool false/\s' 5=.int .i64 (i2:Int)/\s' 8=.int .i64 es/\w'=w4) ?_ ?_
  ·intro R2 K2 HR2 hK2;by_cases h43:n1=43
   ·subst h43;have e1:eneg=false:=by rw[<-HEN.out];rfl
    subst e1;have e2:es=1:=by rw[<-HES.out];rfl
    have e3:i2=i+1+1:=by rw[<-HI2.out];rfl
    subst e2 e3;(go_wp2_with fail;repeat ((first|refine cZ ?_|refine cW ?_);go_wp2_with fail));exact got HR2 ⟨zb,zb,zb,zb,zb,rfl⟩
   ·obtain⟨a1,a2,a3⟩:=yq (z:=43) rfl h43;by_cases h45:n1=45
    ·subst h45;have e1:eneg=true:=by rw[<-HEN.out];rfl
     subst e1;have e2:es=-1:=by rw[<-HES.out];rfl
     have e3:i2=i+1+1:=by rw[<-HI2.out];rfl
     subst e2 e3;clear h43 a1 a2 a3;(go_wp2_with fail;repeat ((first|refine cZ ?_|refine cW ?_);go_wp2_with fail));exact got HR2 ⟨zb,zb,zb,zb,zb,rfl⟩
    ·obtain⟨b1,b2,b3⟩:=yq (z:=45) rfl h45;have e1:eneg=false:=by rw[<-HEN.out];exact decide_eq_false h45
     subst e1;have e2:es=1:=by rw[<-HES.out];rfl
     have e3:i2=i+1:=by rw[<-HI2.out,if_neg (fun h=>h.elim h43 h45)]
     subst e2 e3;clear h43 h45;(go_wp2_with fail;repeat ((first|refine cZ ?_|refine cW ?_);go_wp2_with fail));exact got HR2 ⟨zb,zb,zb,zb,zb,rfl⟩
  clear s0 s1 s4 s5 s138 σ hidx1 HI2 HEN hn1 n1 c1 g1 g2 g3 g4 g5 hw hw2 hiN hiN' hi;rintro σ w5 ⟨s0,s1,s4,s5,s8,rfl⟩;have h48:decide ((m:Int)<48)=false:=zh;have h48n:decide (m<48)=false:=zh;have h57:decide ((57:Int)<(m:Int))=false:=zh;have h57n:decide (57<m)=false:=zh;have g1:decide ((N:Int)<=(i2:Int))=false:=zh;have g2:decide (N<=i2)=false:=zh;have g5:(i2:Int)<(N:Int):=zd;(go_upto_region 42 with fail;repeat ((first|refine cZ ?_|refine cW ?_);go_upto_region 42 with fail));refine yr (fun s' w'=>s' 0=.pointer (some ⟨g,0,none⟩)/\s' 1=.string ⟨s.toArray⟩/\s' 4=.bool false/\s' 5=.int .i64 (i2:Int)/\s' 8=.int .i64 es/\s' 171=.bool false/\w'=w5) ?_ ?_
  ·intro R2 K2 HR2 hK2;go_wp2_with fail;all_goals exact got HR2 ⟨zb,zb,zb,zb,zb,zb,rfl⟩
  clear s0 s1 s4 s5 s8 σ h48 h48n h57 h57n g1 g2 g5 hidx2 hm;rintro σ w6 ⟨s0,s1,s4,s5,s8,s171,rfl⟩;obtain⟨E,hE⟩:=zX (goE L.de);rw[hE]at HX HXE HE9;have hE9:=HE9.out;have hes1:es=1\/es=-1:=by rw[<-HES.out];cases eneg <;> simp
  clear hE;(go_upto_block 5 with fail;repeat ((first|refine cZ ?_|refine cW ?_);go_upto_block 5 with fail));refine yr (fun s' w'=>s' 0=.pointer (some ⟨g,0,none⟩)/\s' 1=.string ⟨s.toArray⟩/\s' 4=.bool false/\s' 5=.int .i64 (N:Int)/\s' 8=.int .i64 es/\s' 9=.int .i64 (E:Int)/\w'=w6) ?_ ?_
  ·intro R2 K2 HR2 hK2;(go_wp2_with fail;repeat ((first|refine cZ ?_|refine cW ?_);go_wp2_with fail));refine xx (fun kk s' w'=>∃ (i4 e:Nat) (u:Bool),i4<=N/\kk=N-i4/\e<=99999/\(scE (s.drop i4) u e).2=(E,[])/\s' 0=.pointer (some ⟨g,0,none⟩)/\s' 1=.string ⟨s.toArray⟩/\s' 4=.bool false/\s' 5=.int .i64 (i4:Int)/\s' 8=.int .i64 es/\s' 9=.int .i64 (e:Int)/\w'=w6) (N-i2)
    ⟨i2,0,false,zd,rfl,zd,HX.out false,zb,zb,zb,zb,zb,zb,rfl⟩ ?_
   clear s0 s1 s4 s5 s8 s171 σ HX hi2N i2;rintro kk σ wk ⟨i4,e,u,hi4,hkk,he9,hX4,s0,s1,s4,s5,s8,s9,rfl⟩ RK KK HRK hKK;have HKK:=zH hkk;have HX4:=zH hX4;clear hkk hX4;by_cases hiN:i4<N
   ·have hidx4:=HIDX.out i4 hiN;have g5:(i4:Int)<(N:Int):=zd;have hdr:=ua s i4 zn;have hx4:=HX4.out;rw[hdr]at hx4;generalize s.getD i4 0=c at *
    obtain⟨n,hn⟩:=zX c.toNat;have HNN:=zH hn;have HX5:=zH hx4;clear hdr hx4 HX4;have hw:IntKind.i64.wrap ((i4:Int)+1)=(i4:Int)+1:=zk;by_cases hdig:48<=n/\n<=57
    ·obtain⟨h1,h2⟩:=hdig;have k1:(48:Int)<=(n:Int):=zd;have k2:(n:Int)<=57:=zd;have h95:n≠95:=zd;obtain⟨a1,a2,a3⟩:=yq (z:=95) rfl h95;have HF:=zH (show (scE (s.drop (i4+1)) u (if e<10000 then e*10+(n-48) else e)).2=(E,[]) by
      have:=HX5.out;rw[zvu (by rw[HNN.out];exact⟨h1,h2⟩),HNN.out]at this;exact this)
     (go_upto_region 44 with fail;repeat ((first|refine cZ ?_|refine cW ?_);go_upto_region 44 with fail));refine yr (fun s' w'=>s' 0=.pointer (some ⟨g,0,none⟩)/\s' 1=.string ⟨s.toArray⟩/\s' 4=.bool false/\s' 5=.int .i64 (i4:Int)/\s' 8=.int .i64 es/\s' 9=.int .i64 (e:Int)/\s' 193=.bool true/\w'=wk) ?_ ?_
     ·intro R3 K3 HR3 hK3;go_wp2_with fail;all_goals exact got HR3 ⟨zb,zb,zb,zb,zb,zb,zb,rfl⟩
     clear s0 s1 s4 s5 s8 s9 σ;rintro σ w7 ⟨s0,s1,s4,s5,s8,s9,s193,rfl⟩;by_cases he4:e<10000
     ·have he4i:(e:Int)<10000:=zd;have HF2:=zH (show (scE (s.drop (i4+1)) u (e*10+(n-48))).2=(E,[]) by have:=HF.out;rw[if_pos he4]at this;exact this);have q1:(e:Int)*10+(n:Int)-48=((e*10+(n-48):Nat):Int):=zd;(go_wp2_with fail;repeat ((first|refine cZ ?_|refine cW ?_);go_wp2_with fail));refine wo HRK (N-(i4+1)) (by have:=HKK.out;omega) ⟨i4+1,e*10+(n-48),u,zd,rfl,zd,HF2.out,zb,zb,zb,zb,zb,?_,rfl⟩;rw[<-q1];simp[yc,yd];try omega
     ·have he4i:decide ((e:Int)<10000)=false:=zh;have he4n:decide (e<10000)=false:=zh;have HF2:=zH (show (scE (s.drop (i4+1)) u e).2=(E,[]) by have:=HF.out;rw[if_neg he4]at this;exact this);(go_wp2_with fail;repeat ((first|refine cZ ?_|refine cW ?_);go_wp2_with fail));exact wo HRK (N-(i4+1)) (by have:=HKK.out;omega) ⟨i4+1,e,u,zd,rfl,zd,HF2.out,zb,zb,zb,zb,zb,zb,rfl⟩
    ·by_cases h95:n=95
     ·have HF:=zH (show (scE (s.drop (i4+1)) true e).2=(E,[]) by
       have:=HX5.out;rw[zvs (by rw[HNN.out];exact h95)]at this;exact this)
      subst h95;clear hdig;(go_upto_region 44 with fail;repeat ((first|refine cZ ?_|refine cW ?_);go_upto_region 44 with fail));refine yr (fun s' w'=>s' 0=.pointer (some ⟨g,0,none⟩)/\s' 1=.string ⟨s.toArray⟩/\s' 4=.bool false/\s' 5=.int .i64 (i4:Int)/\s' 8=.int .i64 es/\s' 9=.int .i64 (e:Int)/\s' 193=.bool true/\w'=wk) ?_ ?_
      ·intro R3 K3 HR3 hK3;go_wp2_with fail;all_goals exact got HR3 ⟨zb,zb,zb,zb,zb,zb,zb,rfl⟩
      clear s0 s1 s4 s5 s8 s9 σ;rintro σ w7 ⟨s0,s1,s4,s5,s8,s9,s193,rfl⟩;(go_wp2_with fail;repeat ((first|refine cZ ?_|refine cW ?_);go_wp2_with fail));exact wo HRK (N-(i4+1)) (by have:=HKK.out;omega) ⟨i4+1,e,true,zd,rfl,zd,HF.out,zb,zb,zb,zb,zb,zb,rfl⟩
     ·exfalso;have h1:=HX5.out;rw[zvt (by rw[HNN.out];exact hdig) (by rw[HNN.out];exact h95)]at h1;have h2:=congrArg (fun x=>x.2) h1;simp at h2
   ·have eN:i4=N:=zd;have HF:=zH (show e=E by
     have h1:=HX4.out;rw[List.drop_eq_nil_of_le zt]at h1;exact congrArg (fun x=>x.1) h1)
    have g1:decide ((N:Int)<(N:Int))=false:=zi;have eE:=HF.out;subst eN eE;clear hiN;(go_upto_region 44 with fail;repeat ((first|refine cZ ?_|refine cW ?_);go_upto_region 44 with fail));refine yr (fun s' w'=>s' 0=.pointer (some ⟨g,0,none⟩)/\s' 1=.string ⟨s.toArray⟩/\s' 4=.bool false/\s' 5=.int .i64 (i4:Int)/\s' 8=.int .i64 es/\s' 9=.int .i64 (e:Int)/\s' 193=.bool false/\w'=wk) ?_ ?_
    ·intro R3 K3 HR3 hK3;go_wp2_with fail;all_goals exact got HR3 ⟨zb,zb,zb,zb,zb,zb,zb,rfl⟩
    clear s0 s1 s4 s5 s8 s9 σ;rintro σ w7 ⟨s0,s1,s4,s5,s8,s9,s193,rfl⟩;(go_wp2_with fail;repeat ((first|refine cZ ?_|refine cW ?_);go_wp2_with fail));exact got HR2 ⟨zb,zb,zb,zb,zb,zb,rfl⟩
  clear s0 s1 s4 s5 s8 s171 σ HX hi2N i2;rintro σ w7 ⟨s0,s1,s4,s5,s8,s9,rfl⟩;have hEe1:-99999<=(E:Int)*es:=by rcases hes1 with h | h <;> rw[h] <;> omega
  have hEe2:(E:Int)*es<=99999:=by rcases hes1 with h | h <;> rw[h] <;> omega
  obtain⟨Y,hY⟩:=zX ((E:Int)*es);rw[hY]at hEe1 hEe2;have hwm:IntKind.i64.wrap ((E:Int)*es)=Y:=by rw[hY,IntKind.wrap_i64];omega
  have HFF:=zH (fun W (h:Dec W g bs ndT (dv+Y) ng false)=>HFIN2.out W (by rw[HXE.out,hY];exact h));have HDY:=zH (HD.out.setDp (dv+Y));(go_wp2_with fail;repeat ((first|refine cZ ?_|refine cW ?_);go_wp2_with fail));exact yl (.bool true) rfl ze zb ⟨rfl,HFF.out _ HDY.out,HG.out.set _ _⟩
end
theorem zom {w w1 w2:World} (h:w.grownBy w1 none) (hg:Gr w1 w2 w.heap.size):w.grownBy w2 none:=
 ⟨hg.os.trans h.os,hg.tape.trans h.tape,hg.output.trans h.output,Nat.le_trans h.size hg.size,fun j hj _=>
  (hg.block j (Nat.lt_of_lt_of_le hj h.size) (fun e=>by cases e;omega)).trans (h.block j hj zi)⟩
theorem zqe (s:List UInt8) (n:Nat) (h:n<=s.length):(⟨s.toArray⟩:ByteArray).extract 0 n=⟨(s.take n).toArray⟩:=by
 apply ByteArray.ext;simp[ByteArray.extract,ByteArray.copySlice]
theorem zec (F:Nat) (bias:Int) (inf d:Nat) (p:Int) (hbias:1<=bias) (hinf:inf=(2*bias+1).toNat*2^F):nvT F bias inf 10 d p<=inf:=
 ud F bias inf _ _ (qg _ ze) hbias hinf
theorem zwn (L:Lit) (n:Nat) (hok:L.ok) (hlen:L.da.length+L.db.length<=800) (hde:∀ d ∈ L.de,d<10):-200000<=(goR L n).exp/\(goR L n).exp<=200000:=by
 obtain⟨z,nd,hz,hm,ht,hne,hze,hlt,hl,hM⟩:=zon L n hok;have hE:=zoo L.de hde;have hE9:goE L.de<=99999:=zd;have hper:zb7 L.hex<=4:=zαO;have h1:zb7 L.hex*z<=4*z:=Nat.mul_le_mul_right _ hper;have h2:zb7 L.hex*L.db.length<=4*L.db.length:=Nat.mul_le_mul_right _ hper;have hX:-99999<=goX L/\goX L<=99999:=by unfold goX;split <;> omega
 by_cases h0:L.num=0
 ·rw[(hze h0).1];omega
 ·rw[(hne h0).2.2.1];unfold Lit.ex;omega
theorem zzg {s:List UInt8} {x:Nat×Nat} (h:qp s=some x):x.1=zmd\/x.1=kp false\/x.1=kp true:=by
 have key:∀ (ng:Bool) (k:Nat) (t:List UInt8) (y:Nat×Nat),zd3 ng k t=some y->y.1=kp ng:=by
  intro ng k t y hy;unfold zd3 at hy;split at hy
  ·cases hy;rfl
  ·split at hy
   ·cases hy;rfl
   ·cases hy
 cases s with
 | nil=>cases h
 | cons c r=>
  have hdef:qp (c::r)=if c=43 then zd3 false 1 r else if c=45 then zd3 true 1 r else if c=105\/c=73 then zd3 false 0 (c::r) else if c=110\/c=78 then (if cpL (c::r) [110,97,110]=3 then some (zmd,3) else none) else none:=rfl
  rw[hdef]at h;split at h
  ·exact Or.inr (Or.inl (key _ _ _ _ h))
  ·split at h
   ·exact Or.inr (Or.inr (key _ _ _ _ h))
   ·split at h
    ·exact Or.inr (Or.inl (key _ _ _ _ h))
    ·split at h
     ·split at h
      ·cases h;exact Or.inl rfl
      ·cases h
     ·cases h
theorem zgn {s:List UInt8} (hs:s.length<=4000000) (h:qp s=none) (w:World):Calls Tryz.prog 107 #[.string ⟨s.toArray⟩] w fun e w'=>e=.returned (.tuple #[.float .f64 0,.int .i64 0,.bool false])/\w=w':=by
 have:=zcs s w hs;rw[h]at this;exact this
theorem zgm {s:List UInt8} (hs:s.length<=4000000) {x:Nat×Nat} (h:qp s=some x) (w:World):Calls Tryz.prog 107 #[.string ⟨s.toArray⟩] w fun e w'=>e=.returned (.tuple #[.float .f64 x.1,.int .i64 (x.2:Int),.bool true])/\w=w':=by
 have:=zcs s w hs;rw[h]at this;exact this
theorem zlc {s:List UInt8} (hs:s.length<=4000000) (h:rfP s=none) (w:World):Calls Tryz.prog 108 #[.string ⟨s.toArray⟩] w fun e w'=>
  (∃ (a:Nat) (p:Int) (b c d:Bool) (n:Nat),e=.returned (.tuple #[.int .u64 (a:Int),.int .i64 p,.bool b,.bool c,.bool d,.int .i64 (n:Int),.bool false]))/\w=w':=by
 have:=zae s w hs;unfold RfPost at this;rw[h]at this;exact this
theorem zlb {s:List UInt8} (hs:s.length<=4000000) {R:RR} (h:rfP s=some R) (w:World):Calls Tryz.prog 108 #[.string ⟨s.toArray⟩] w fun e w'=>
  e=.returned (.tuple #[.int .u64 (R.mant:Int),.int .i64 R.exp,.bool R.neg,.bool R.tr,.bool R.hex,.int .i64 (R.n:Int),.bool true])/\w=w':=by
 have:=zae s w hs;unfold RfPost at this;rw[h]at this;exact this
def sgN (sg:Bool):Nat:=if sg then 2147483648 else 0
theorem zx3 (mant:Nat) (E:Nat) (hE:E<=255):bits .or .u64 (((mant%8388608:Nat):Int)) ((E*8388608:Nat):Int)=((mant%8388608+E*8388608:Nat):Int):=by
 have h1:mant%8388608<8388608:=Nat.mod_lt _ zd;generalize mant%8388608=x at *
 have h2:E*8388608<9223372036854775808:=zd;rw[u64_or_nat x (E*8388608) zd zd];congr 1;have h3:=Nat.two_pow_add_eq_or_of_lt (i:=23) (show x<2^23 by omega) E;rw[Nat.or_comm,Nat.mul_comm E];rw[Nat.add_comm];exact h3.symm
theorem zx0 (x:Nat) (hx:x<2147483648):bits .or .u64 (x:Int) 2147483648=((x+2147483648:Nat):Int):=by
 rw[show (2147483648:Int)=((2147483648:Nat):Int) by rfl,u64_or_nat x 2147483648 zd zd];congr 1;have h2:=Nat.two_pow_add_eq_or_of_lt (i:=31) (show x<2^31 by omega) 1;rw[Nat.or_comm,Nat.add_comm];exact h2.symm
theorem zx4 (mant:Nat) (h:mant<18446744073709551616):bits .and .u64 (mant:Int) 8388607=((mant%8388608:Nat):Int):=by
 have h:=u64_and_nat mant 8388607 h zd;have h2:=Nat.and_two_pow_sub_one_eq_mod mant 23;rw[show (2^23-1:Nat)=8388607 by rfl,show (2^23:Nat)=8388608 by rfl]at h2;rw[h2]at h;exact h
theorem zx7 (E:Nat) (hE:E<=255):bits .and .i64 (E:Int) 255=(E:Int):=by
 have h0:(BitVec.ofInt 64 (E:Int)&&&BitVec.ofInt 64 255).toNat=E:=by
  rw[BitVec.toNat_and,BitVec.toNat_ofInt];have h1:(((E:Int))%((2^64:Nat):Int)).toNat=E:=zd;have h2:(BitVec.ofInt 64 255).toNat=2^8-1:=ze;rw[h1,h2,Nat.and_two_pow_sub_one_eq_mod];exact Nat.mod_eq_of_lt zd
 show IntKind.i64.wrap ((BitVec.ofInt 64 (E:Int)&&&BitVec.ofInt 64 255).toNat:Nat)=(E:Int);rw[h0,IntKind.wrap_i64];omega
theorem zy1 (m:Nat) (hm:m<16777216):bits .and .u64 (m:Int) 8388608=if m<8388608 then 0 else 8388608:=by
 rw[show (8388608:Int)=((8388608:Nat):Int) by rfl,u64_and_nat m 8388608 zd zd];have h:=zaj m 23;rw[show (2^23:Nat)=8388608 by rfl]at h;rw[h,Nat.testBit_eq_decide_div_mod_eq,show (2^23:Nat)=8388608 by rfl];by_cases c:m<8388608
 ·rw[if_pos c,if_neg zh];rfl
 ·rw[if_neg c,if_pos zh]
set_option maxRecDepth 100000 in
theorem zx6 (T g A:Nat) (P:Int) (ng:Bool) (w:World) (he:EnvP T w) (hgT:T≤g) (hd:DecT w g A P ng false) (hp1:-1400≤P+yi A) (hp2:P+yi A≤1900):
  Calls Tryz.prog 115 #[.pointer (some ⟨g,0,none⟩),.pointer (some ⟨4,0,none⟩)] w fun r w'=>
   r=.returned (.tuple #[.int .u64 ((sgN ng+zxq (A*10^P.toNat) (10^(-P).toNat):Nat):Int),.bool (decide (zxq (A*10^P.toNat) (10^(-P).toNat)=2139095040))])∧Gr w w' g:=by
 have hA0:=hd.ne0
 have h8:=hd.le
 have hLp:=yfr hA0
 have hb0:10^(-P).toNat≠0:=by have:=p10 (-P).toNat;omega
 obtain⟨nb,hnb⟩:=zX (zxq (A*10^P.toNat) (10^(-P).toNat))
 have hnb2:xh (23:Nat) 127 2139095040 (A*10^P.toNat) (10^(-P).toNat)=nb:=hnb
 have hnbl:nb≤2139095040:=by rw[←hnb2];exact ud 23 127 2139095040 _ _ hb0 zd rfl
 rw[hnb]
 have HNB:=zH hnb2
 have HE:=zH he
 have HD:=zH hd
 have hlt:g<w.heap.size:=by obtain⟨_,_,bs,_,hd⟩:=hd;exact hd.lt
 have d1:w.cell? ⟨g,800,none⟩=some (.int .i64 (yi A:Nat)):=by obtain⟨_,_,bs,_,hd⟩:=hd;exact hd.cnd
 have d2:w.cell? ⟨g,801,none⟩=some (.int .i64 (P+yi A)):=by obtain⟨_,_,bs,_,hd⟩:=hd;exact hd.cdp
 have d4:w.cell? ⟨g,802,none⟩=some (.bool ng):=by obtain⟨_,_,bs,_,hd⟩:=hd;exact hd.cng
 have f1:=he.i32.1
 have f2:=he.i32.2.1
 have f3:=he.i32.2.2
 obtain⟨L,hL⟩:=zX (yi A)
 rw[hL]at d1 d2 hLp hp1 hp2 h8
 have hLz:((L:Int)==0)=false:=zf
 have hLz2:(L==0)=false:=zf
 have HL:=zH hL
 obtain⟨dp,hdp⟩:=zX (P+(L:Int))
 rw[hdp]at d2 hp1 hp2
 have HDP:=zH hdp
 have HA0:=zH hA0
 have HB0:=zH hb0
 clear hd hnb hnb2 he hL hdp hA0 hb0
 refine ye Tryz.func115 rfl (by rw[Tryz.ntmps115];simp) ?_
 intro σ hσ
 rw[Tryz.ntmps115]
 have s0:σ 0=.pointer (some ⟨g,0,none⟩):=hσ 0 zi
 have s1:σ 1=.pointer (some ⟨4,0,none⟩):=hσ 1 zi
 clear hσ
 go_wp2_with fail
 refine zhx 0 1 ze
  (fun s' w'=>∃ (mant:Nat) (E:Nat) (ov:Bool),s' 0=.pointer (some ⟨g,0,none⟩)∧s' 1=.pointer (some ⟨4,0,none⟩)∧s' 5=.bool ov∧s' 6=.int .i64 ((E:Int)-127)∧s' 7=.int .u64 (mant:Int)∧w'.cell? ⟨g,802,none⟩=some (.bool ng)∧Gr w w' g∧mant<16777216∧E≤255∧mant%8388608+E*8388608=nb∧ov=decide (nb=2139095040))
  (fun s' w'=>s' 0=.pointer (some ⟨g,0,none⟩)∧s' 1=.pointer (some ⟨4,0,none⟩)∧w'.cell? ⟨g,802,none⟩=some (.bool ng)∧Gr w w' g∧nb=2139095040)
  rfl rfl ?_ ?_ ?_
 ·intro Q' H0 H1
  by_cases hov:310<dp
  ·have hnear:=zH (show nb=2139095040 by rw[←HNB.out];exact zns 23 127 2139095040 A P HA0.out (by have:=HDP.out;omega) zr zr zd zd)
   (go_wp2_with fail;repeat ((first|refine cZ ?_|refine cW ?_);go_wp2_with fail))
   refine wp_goto ?_
   exact H1.out.out _ _ _ ⟨zb,zb,d4,Gr.refl w g,hnear.out⟩
  have hov2:decide (310<dp)=false:=decide_eq_false hov
  by_cases hun:dp < -330
  ·have hnear:=zH (show nb=0 by rw[←HNB.out];exact zlm 23 127 2139095040 A P HA0.out (by have:=HDP.out;omega) zr zr zd zd zd)
   (go_wp2_with fail;repeat ((first|refine cZ ?_|refine cW ?_);go_wp2_with fail))
   refine wp_goto ?_
   exact H0.out.out _ _ _ ⟨0,0,false,zb,zb,zb,zb,zb,d4,Gr.refl w g,zd,zd,hnear.out.symm,by rw[hnear.out];rfl⟩
  have hun2:decide (dp < -330)=false:=decide_eq_false hun
  have HDPB:=zH (show -330≤dp∧dp≤310 by omega)
  obtain⟨o,ho⟩:=zX (uo (A*10^P.toNat) (10^(-P).toNat))
  obtain⟨E,hE⟩:=zX (yt (23:Nat) 127 (A*10^P.toNat) (10^(-P).toNat))
  obtain⟨ho1,ho2,hEm,hl1,hl2,J,hfb,hJ⟩:=zrk 23 127 P o E A HA0.out (by have:=HDP.out;omega) zr zr zd zd zd ho hE
  have hob:=zj2 A P HA0.out (by have:=HDP.out;omega) zr zr o ho
  have HL1:=zH hl1
  have HL2:=zH hl2
  have HFB0:=zH hfb
  have HJ:=zH hJ
  have HOB:=zH hob.2
  have HEE:=zH hE
  have hEm2:E=max (-149) (o-23):=zd
  clear ho hE hl1 hl2 hfb hJ hob hEm
  (go_upto_block 0 with fail;repeat ((first|refine cZ ?_|refine cW ?_);go_upto_block 0 with fail))
  refine yr (fun s' w'=>∃ (N:Nat) (p:Int) (tr:Bool) (e:Int),s' 0=.pointer (some ⟨g,0,none⟩)∧s' 1=.pointer (some ⟨4,0,none⟩)∧s' 5=.bool false∧s' 6=.int .i64 e∧DecT w' g N p ng tr∧FB A P o J (E-1) e N p tr∧Gr w w' g∧-330≤p+yi N∧p+yi N≤0∧0≤e∧e≤max 0 (o+27)) ?_ ?_
  ·intro R2 K2 HR hK2
   go_wp2_with fail
   refine xx (fun kk s' w'=>∃ (N:Nat) (p:Int) (tr:Bool) (e:Int),kk=(o+1-e).toNat∧s' 0=.pointer (some ⟨g,0,none⟩)∧s' 1=.pointer (some ⟨4,0,none⟩)∧s' 5=.bool false∧s' 6=.int .i64 e∧DecT w' g N p ng tr∧FB A P o J (E-1) e N p tr∧Gr w w' g∧-330≤p+yi N∧p+yi N≤310∧0≤e∧e≤max 0 (o+27)) (o+1-0).toNat
    ⟨A,P,false,0,rfl,zb,zb,zb,zb,HD.out,HFB0.out,Gr.refl w g,zr,zr,zd,zd⟩ ?_
   clear s0 s1 σ d1 d2 d4 f1 f2 f3 hlt HD HFB0 hov2 hun2 hov hun hp1 hp2
   rintro kk σ wk ⟨N,p,tr,e,hkk,s0,s1,s5,s6,hdec,hfb,hgr,hb1,hb2,he1,he2⟩ RK KK HRK hKK
   have HKK:=zH hkk
   have HDEC:=zH hdec
   have HFB:=zH hfb
   have HGR:=zH hgr
   have hN0:=hdec.ne0
   have hN8:=hdec.le
   have hpos:=zwf hfb HOB.out hN0 zd zd zd zd zd
   have hlt:g<wk.heap.size:=by obtain⟨_,_,bs,_,hd⟩:=hdec;exact hd.lt
   have d2:wk.cell? ⟨g,801,none⟩=some (.int .i64 (p+yi N)):=by obtain⟨_,_,bs,_,hd⟩:=hdec;exact hd.cdp
   have henv:=HE.out.grown hgr (fun k e=>zz)
   obtain⟨pb,po,pc,hpbT,hpc,hpt0,hpt⟩:=henv.ptab
   have HENV:=zH henv.env
   obtain⟨dk,hdk⟩:=zX (p+(yi N:Int))
   rw[hdk]at d2 hb1 hb2 hpos
   have HDK:=zH hdk
   clear hkk hdec hfb hgr henv hdk hN0
   by_cases h0:0<dk
   ·have hpos':=hpos h0
    clear hpos
    by_cases h9:9≤dk
    ·clear hpt
     (go_upto_region 13 with fail;repeat ((first|refine cZ ?_|refine cW ?_);go_upto_region 13 with fail))
     go_quiet (fail)
     (go_wp2_with fail;repeat ((first|refine cZ ?_|refine cW ?_);go_wp2_with fail))
     refine (zbf T g N p (-27) ng tr _ (by first | exact HENV.out | exact HENV.out.drewN _ | exact (HENV.out.drewN _).drewN _) hgT (by first | exact HDEC.out | exact HDEC.out.drewN _ | exact (HDEC.out.drewN _).drewN _) zd zd zx zx zx).mono ?_
     rintro r7 w7 ⟨rfl,N7,p7,t7,hd7,hn7,hs7,hb7,hc7,hg7⟩
     have HD7:=zH hd7
     have hbb:=hc7 zd
     rw[HDK.out]at hbb
     have hfb7:FB A P o J (E-1) (e+27) N7 p7 t7:=by
      have b1:Bd o e:=zs
      have b2:Bd (E-1) e:=zs
      have b3:Bd o (e-(-(27))):=zs
      have b4:Bd (E-1) (e-(-(27))):=zs
      have x1:=hs7 A P 1 o e HL1.out b1 b3 HFB.out.a1
      have x2:=hs7 A P J (E-1) e HL2.out b2 b4 HFB.out.a2
      rw[show e-(-(27))=(e+27) by omega]at x1 x2
      exact⟨x1,x2⟩
     have HFB7:=zH hfb7
     clear hd7 hs7 hfb7 hn7
     (go_wp2_with fail;repeat ((first|refine cZ ?_|refine cW ?_);go_wp2_with fail))
     refine wo HRK (o+1-(e+27)).toNat (by have:=HKK.out;omega) ⟨N7,p7,t7,(e+27),rfl,zb,zb,zb,?_,HD7.out,HFB7.out,(by first | exact HGR.out.trans hg7 | exact (HGR.out.drewN _).trans hg7 | exact ((HGR.out.drewN _).drewN _).trans hg7),zd,zd,zd,zd⟩
     simp[yc,yd]
    ·obtain⟨i,hi⟩:∃ i:Nat,dk=i:=⟨dk.toNat,zd⟩
     subst hi
     have hi9:i<9:=zd
     have c1:=hpt i hi9
     have hpv:=zsj i hi9
     have h9':decide (9≤(i:Int))=false:=zh
     have hi9i:(i:Int)<9:=zd
     obtain⟨x,hx⟩:=zX (ptV i)
     rw[hx]at c1 hpv
     have h0n:0<i:=zd
     have h9n:¬9≤i:=zd
     clear hpt hx
     (go_upto_region 13 with fail;repeat ((first|refine cZ ?_|refine cW ?_);go_upto_region 13 with fail))
     go_quiet (fail)
     go_wp2_with fail
     (go_wp2_with fail;repeat ((first|refine cZ ?_|refine cW ?_);go_wp2_with fail))
     go_quiet (fail)
     (go_wp2_with fail;repeat ((first|refine cZ ?_|refine cW ?_);go_wp2_with fail))
     refine (zbf T g N p (-(x:Int)) ng tr _ (by first | exact HENV.out | exact HENV.out.drewN _ | exact (HENV.out.drewN _).drewN _) hgT (by first | exact HDEC.out | exact HDEC.out.drewN _ | exact (HDEC.out.drewN _).drewN _) zd zd zx zx zx).mono ?_
     rintro r7 w7 ⟨rfl,N7,p7,t7,hd7,hn7,hs7,hb7,hc7,hg7⟩
     have HD7:=zH hd7
     have hbb:=hc7 zd
     rw[HDK.out]at hbb
     have hfb7:FB A P o J (E-1) (e+(x:Int)) N7 p7 t7:=by
      have b1:Bd o e:=zs
      have b2:Bd (E-1) e:=zs
      have b3:Bd o (e-(-((x:Int)))):=zs
      have b4:Bd (E-1) (e-(-((x:Int)))):=zs
      have x1:=hs7 A P 1 o e HL1.out b1 b3 HFB.out.a1
      have x2:=hs7 A P J (E-1) e HL2.out b2 b4 HFB.out.a2
      rw[show e-(-((x:Int)))=(e+(x:Int)) by omega]at x1 x2
      exact⟨x1,x2⟩
     have HFB7:=zH hfb7
     clear hd7 hs7 hfb7 hn7
     (go_wp2_with fail;repeat ((first|refine cZ ?_|refine cW ?_);go_wp2_with fail))
     refine wo HRK (o+1-(e+(x:Int))).toNat (by have:=HKK.out;omega) ⟨N7,p7,t7,(e+(x:Int)),rfl,zb,zb,zb,?_,HD7.out,HFB7.out,(by first | exact HGR.out.trans hg7 | exact (HGR.out.drewN _).trans hg7 | exact ((HGR.out.drewN _).drewN _).trans hg7),zd,zd,zd,zd⟩
     simp[yc,yd]
   ·have h0':decide (0<dk)=false:=decide_eq_false h0
    clear hpt hpos
    (go_wp2_with fail;repeat ((first|refine cZ ?_|refine cW ?_);go_wp2_with fail))
    exact got HR ⟨N,p,tr,e,zb,zb,zb,zb,HDEC.out,HFB.out,HGR.out,zx,zx,zd,zd⟩
  clear s0 s1 σ d1 d2 d4 f1 f2 f3 hlt HD HFB0 hov2 hun2 hov hun hp1 hp2
  rintro σ w1 ⟨N,p,tr,e,s0,s1,s5,s6,hdec,hfb,hgr,hb1,hb2,he1,he2⟩
  have HDEC:=zH hdec
  have HFB:=zH hfb
  have HGR:=zH hgr
  clear hdec hfb hgr
  (go_upto_block 2 with fail;repeat ((first|refine cZ ?_|refine cW ?_);go_upto_block 2 with fail))
  refine yr (fun s' w'=>∃ (N:Nat) (p:Int) (tr:Bool),s' 0=.pointer (some ⟨g,0,none⟩)∧s' 1=.pointer (some ⟨4,0,none⟩)∧s' 5=.bool false∧s' 6=.int .i64 (o+1)∧DecT w' g N p ng tr∧FB A P o J (E-1) (o+1) N p tr∧Gr w w' g∧p+yi N=0) ?_ ?_
  ·intro R2 K2 HR hK2
   go_wp2_with fail
   refine xx (fun kk s' w'=>∃ (N:Nat) (p:Int) (tr:Bool) (e:Int),kk=(e-o).toNat∧s' 0=.pointer (some ⟨g,0,none⟩)∧s' 1=.pointer (some ⟨4,0,none⟩)∧s' 5=.bool false∧s' 6=.int .i64 e∧DecT w' g N p ng tr∧FB A P o J (E-1) e N p tr∧Gr w w' g∧-330≤p+yi N∧p+yi N≤0∧min 0 (o-25)≤e∧e≤max 0 (o+27)) (e-o).toNat
    ⟨N,p,tr,e,rfl,zb,zb,zb,zb,HDEC.out,HFB.out,HGR.out,zd,zd,zd,zd⟩ ?_
   clear s0 s1 s5 s6 σ HDEC HFB HGR he1 he2 hb1 hb2
   rintro kk σ wk ⟨N,p,tr,e,hkk,s0,s1,s5,s6,hdec,hfb,hgr,hb1,hb2,he1,he2⟩ RK KK HRK hKK
   have HKK:=zH hkk
   have HDEC:=zH hdec
   have HFB:=zH hfb
   have HGR:=zH hgr
   have hN0:=hdec.ne0
   have hN8:=hdec.le
   have hNp:=yfr hN0
   have hhd:=zlx N p hN0
   have hlt:g<wk.heap.size:=by obtain⟨_,_,bs,_,hd⟩:=hdec;exact hd.lt
   have d2:wk.cell? ⟨g,801,none⟩=some (.int .i64 (p+yi N)):=by obtain⟨_,_,bs,_,hd⟩:=hdec;exact hd.cdp
   have d0:wk.cell? ⟨g,0,none⟩=some (.int .u8 (48+((N / 10^(yi N-1):Nat):Int))):=by
    obtain⟨_,_,bs,hbs,hd⟩:=hdec
    rw[hd.digit 0 zd,uq bs N _ hbs 0 zd,vh,Nat.sub_zero]
    have h1:N / 10^(yi N-1)<10:=by
     rw[Nat.div_lt_iff_lt_mul (p10 _),Nat.mul_comm,←Nat.pow_succ,show (yi N-1).succ=yi N by omega]
     exact xi N
    rw[Nat.mod_eq_of_lt h1]
    rfl
   have henv:=HE.out.grown hgr (fun k e=>zz)
   obtain⟨pb,po,pc,hpbT,hpc,hpt0,hpt⟩:=henv.ptab
   have HENV:=zH henv.env
   have hdphi:=zrs N p (by have:=vs;omega)
   obtain⟨dk,hdk⟩:=zX (p+(yi N:Int))
   rw[hdk]at d2 hb1 hb2 hhd hdphi
   obtain⟨x0,hx0⟩:=zX (N / 10^(yi N-1))
   rw[hx0]at d0 hhd
   have HDK:=zH hdk
   have HHD:=zH hhd
   have HHI:=zH hdphi
   have HX0:=zH hx0
   clear hkk hdec hfb hgr henv hdk hx0 hhd hdphi hNp
   (go_upto_region 18 with fail;repeat ((first|refine cZ ?_|refine cW ?_);go_upto_region 18 with fail))
   refine yr (fun s' w'=>s' 80=.bool (decide (dk<0∨(dk=0∧x0<5)))∧s' 0=.pointer (some ⟨g,0,none⟩)∧s' 1=.pointer (some ⟨4,0,none⟩)∧s' 5=.bool false∧s' 6=.int .i64 e∧DecT w' g N p ng tr∧Gr w w' g) ?_ ?_
   ·intro R3 K3 HR3 hK3
    clear hpt
    by_cases h0:dk<0
    ·have hres:decide (dk<0∨(dk=0∧x0<5))=true:=decide_eq_true (Or.inl h0)
     have h0d:decide (dk<0)=true:=decide_eq_true h0
     go_wp2_with fail
     all_goals exact got HR3 ⟨zαc,zb,zb,zb,zb,HDEC.out,HGR.out⟩
    ·have hz:dk=0:=zd
     subst hz
     by_cases hx5:x0<5
     ·have hres:decide ((0:Int)<0∨((0:Int)=0∧x0<5))=true:=decide_eq_true (Or.inr ⟨rfl,hx5⟩)
      have hx5i:(48:Int)+(x0:Int)<53:=zd
      go_wp2_with fail
      all_goals exact got HR3 ⟨zαc,zb,zb,zb,zb,HDEC.out,HGR.out⟩
     ·have hres:decide ((0:Int)<0∨((0:Int)=0∧x0<5))=false:=decide_eq_false zd
      have hx5i:decide ((48:Int)+(x0:Int)<53)=false:=zh
      go_wp2_with fail
      all_goals exact got HR3 ⟨zαc,zb,zb,zb,zb,HDEC.out,HGR.out⟩
   clear s0 s1 s5 s6 σ HDEC HGR d2 d0 hlt HENV hpt0 hpt hpbT hpc
   rintro σ wk ⟨s80,s0,s1,s5,s6,hdec,hgr⟩
   have HDEC:=zH hdec
   have HGR:=zH hgr
   have hlt:g<wk.heap.size:=by obtain⟨_,_,bs,_,hd⟩:=hdec;exact hd.lt
   have d2:wk.cell? ⟨g,801,none⟩=some (.int .i64 dk):=by rw[←HDK.out];obtain⟨_,_,bs,_,hd⟩:=hdec;exact hd.cdp
   have henv:=HE.out.grown hgr (fun k e=>zz)
   obtain⟨pb,po,pc,hpbT,hpc,hpt0,hpt⟩:=henv.ptab
   have HENV:=zH henv.env
   clear hdec hgr henv
   by_cases hsm:dk<0∨(dk=0∧x0<5)
   ·rw[decide_eq_true hsm]at s80
    have hsmall:sc N p 0<sc 1 0 (-1):=by
     rcases hsm with h | ⟨h,h5⟩
     ·exact Nat.lt_of_lt_of_le HHI.out (Nat.le_trans (vf zd (by have:=vs;omega)) zk4)
     ·exact (HHD.out h (by have:=HDK.out;omega)).1 h5
    have hpos':=zrl HFB.out zd zd zd zd hsmall
    have HSM:=zH hsm
    clear hsm hsmall
    have hwn:IntKind.i64.wrap (-dk)=-dk:=zk
    by_cases h9:9≤-dk
    ·clear hpt
     have h9b:dk≤-9:=zd
     (go_upto_region 20 with fail;repeat ((first|refine cZ ?_|refine cW ?_);go_upto_region 20 with fail))
     go_quiet (fail)
     (go_wp2_with fail;repeat ((first|refine cZ ?_|refine cW ?_);go_wp2_with fail))
     refine (zbf T g N p 27 ng tr _ (by first | exact HENV.out | exact HENV.out.drewN _ | exact (HENV.out.drewN _).drewN _) hgT (by first | exact HDEC.out | exact HDEC.out.drewN _ | exact (HDEC.out.drewN _).drewN _) zd zd zx zx zx).mono ?_
     rintro r7 w7 ⟨rfl,N7,p7,t7,hd7,hn7,hs7,hb7,hc7,hg7⟩
     have HD7:=zH hd7
     have hbb:=hb7 zd
     rw[HDK.out]at hbb
     have hfb7:FB A P o J (E-1) (e-27) N7 p7 t7:=by
      have b1:Bd o e:=zs
      have b2:Bd (E-1) e:=zs
      have b3:Bd o (e-(27)):=zs
      have b4:Bd (E-1) (e-(27)):=zs
      have x1:=hs7 A P 1 o e HL1.out b1 b3 HFB.out.a1
      have x2:=hs7 A P J (E-1) e HL2.out b2 b4 HFB.out.a2
      rw[show e-(27)=(e-27) by omega]at x1 x2
      exact⟨x1,x2⟩
     have HFB7:=zH hfb7
     have htop:p7+yi N7≤0:=by
      have q8:=hd7.le
      have qs:Sh ((27:Nat):Int) N p tr N7 p7 t7:=hs7
      have q1:sc N p 0<sc 1 0 0:=Nat.lt_of_lt_of_le HHI.out (vf zd (by have:=vs;omega))
      have q2:=HDK.out
      exact zsc qs hd7.ne0 zd zd zd q1 (zmy (i:=(-dk).toNat) hN0 zd zd (yao zd))
     clear hd7 hs7 hfb7 hn7
     (go_wp2_with fail;repeat ((first|refine cZ ?_|refine cW ?_);go_wp2_with fail))
     refine wo HRK ((e-27)-o).toNat (by have:=HKK.out;omega) ⟨N7,p7,t7,(e-27),rfl,zb,zb,zb,?_,HD7.out,HFB7.out,(by first | exact HGR.out.trans hg7 | exact (HGR.out.drewN _).trans hg7 | exact ((HGR.out.drewN _).drewN _).trans hg7),zd,zd,zd,zd⟩
     simp[yc,yd]
    ·obtain⟨i,hi⟩:∃ i:Nat,-dk=i:=⟨(-dk).toNat,zd⟩
     have hdki:dk=-(i:Int):=zd
     subst hdki
     have hi9:i<9:=zd
     have c1:=hpt i hi9
     have hpt2:=ztz i hi9
     have hpv:=zsj i hi9
     have h9':decide (9≤(i:Int))=false:=zh
     have hi9i:(i:Int)<9:=zd
     obtain⟨x,hx⟩:=zX (ptV i)
     rw[hx]at c1 hpv hpt2
     have HPT:=zH hpt2
     have h9n:¬9≤i:=zd
     rw[Int.neg_neg]at hi h9 hwn
     clear hpt hx hi hpt2
     (go_upto_region 20 with fail;repeat ((first|refine cZ ?_|refine cW ?_);go_upto_region 20 with fail))
     go_quiet (fail)
     go_wp2_with fail
     (go_wp2_with fail;repeat ((first|refine cZ ?_|refine cW ?_);go_wp2_with fail))
     go_quiet (fail)
     (go_wp2_with fail;repeat ((first|refine cZ ?_|refine cW ?_);go_wp2_with fail))
     refine (zbf T g N p (x:Int) ng tr _ (by first | exact HENV.out | exact HENV.out.drewN _ | exact (HENV.out.drewN _).drewN _) hgT (by first | exact HDEC.out | exact HDEC.out.drewN _ | exact (HDEC.out.drewN _).drewN _) zd zd zx zx zx).mono ?_
     rintro r7 w7 ⟨rfl,N7,p7,t7,hd7,hn7,hs7,hb7,hc7,hg7⟩
     have HD7:=zH hd7
     have hbb:=hb7 zd
     rw[HDK.out]at hbb
     have hfb7:FB A P o J (E-1) (e-(x:Int)) N7 p7 t7:=by
      have b1:Bd o e:=zs
      have b2:Bd (E-1) e:=zs
      have b3:Bd o (e-((x:Int))):=zs
      have b4:Bd (E-1) (e-((x:Int))):=zs
      have x1:=hs7 A P 1 o e HL1.out b1 b3 HFB.out.a1
      have x2:=hs7 A P J (E-1) e HL2.out b2 b4 HFB.out.a2
      rw[show e-((x:Int))=(e-(x:Int)) by omega]at x1 x2
      exact⟨x1,x2⟩
     have HFB7:=zH hfb7
     have htop:p7+yi N7≤0:=by
      have q8:=hd7.le
      have qs:Sh ((x:Nat):Int) N p tr N7 p7 t7:=hs7
      have q1:sc N p 0<sc 1 0 0:=Nat.lt_of_lt_of_le HHI.out (vf zd (by have:=vs;omega))
      have q2:=HDK.out
      refine zsc qs hd7.ne0 zd zd zd q1 ?_
      rcases Nat.eq_zero_or_pos i with q5 | q5
      ·rw[HPT.out.2 q5]
       refine ztq hN0 zd zd ?_
       rw[HX0.out]
       have:=HSM.out
       omega
      ·exact zmy (i:=i) hN0 zd zd (HPT.out.1 q5)
     clear hd7 hs7 hfb7 hn7
     (go_wp2_with fail;repeat ((first|refine cZ ?_|refine cW ?_);go_wp2_with fail))
     refine wo HRK ((e-(x:Int))-o).toNat (by have:=HKK.out;omega) ⟨N7,p7,t7,(e-(x:Int)),rfl,zb,zb,zb,?_,HD7.out,HFB7.out,(by first | exact HGR.out.trans hg7 | exact (HGR.out.drewN _).trans hg7 | exact ((HGR.out.drewN _).drewN _).trans hg7),zd,zd,zd,zd⟩
     simp[yc,yd]
   ·rw[decide_eq_false hsm]at s80
    have hz:dk=0:=zd
    have hx5:5≤x0:=zd
    have h3:=HHD.out hz (by have:=HDK.out;omega)
    have heo:=zuo HFB.out HOB.out zd zd zd zd (h3.2.1 hx5) h3.2.2
    subst heo
    clear hpt
    (go_wp2_with fail;repeat ((first|refine cZ ?_|refine cW ?_);go_wp2_with fail))
    exact got HR ⟨N,p,tr,zb,zb,zb,zb,HDEC.out,HFB.out,HGR.out,by rw[HDK.out];exact hz⟩
  clear s0 s1 s5 s6 σ HDEC HFB HGR he1 he2 hb1 hb2
  rintro σ w2 ⟨N,p,tr,s0,s1,s5,s6,hdec,hfb,hgr,hb1⟩
  have HDEC:=zH hdec
  have HFB:=zH hfb
  have HGR:=zH hgr
  have henv:=HE.out.grown hgr (fun k e=>zz)
  have f1:=henv.i32.1
  have f2:=henv.i32.2.1
  have f3:=henv.i32.2.2
  have HENV:=zH henv
  clear hdec hfb hgr henv
  (go_upto_region 26 with fail;repeat ((first|refine cZ ?_|refine cW ?_);go_upto_region 26 with fail))
  go_wp2_with fail
  refine yr (fun s' w'=>∃ (N:Nat) (p:Int) (tr:Bool),s' 0=.pointer (some ⟨g,0,none⟩)∧s' 1=.pointer (some ⟨4,0,none⟩)∧s' 5=.bool false∧s' 6=.int .i64 (E+23)∧DecT w' g N p ng tr∧Apx A P J (E-1) (E+23+1) N p tr∧Gr w w' g∧-1000≤p+yi N∧p+yi N≤0) ?_ ?_
  ·intro R2 K2 HR hK2
   by_cases hden:o<(-126)
   ·refine jq zb ze ?_
    go_wp2_with fail
    refine (zbf T g N p _ ng tr _ HENV.out.env hgT HDEC.out zd zd zd zd zd).mono ?_
    rintro r7 w7 ⟨rfl,N7,p7,t7,hd7,hn7,hs7,hb7,hc7,hg7⟩
    have HD7:=zH hd7
    have hbb:=hc7 zd
    have hap7:Apx A P J (E-1) (E+23+1) N7 p7 t7:=by
     have x2:=hs7 A P J (E-1) (o+1) HL2.out zs zs HFB.out.a2
     first
      | (rw[show o+1 - -(-127+1-o)=E+23+1 by omega]at x2;exact x2)
      | (rw[show o+1 - -((-126)-o)=E+23+1 by omega]at x2;exact x2)
      | (rw[show o+1-(o-(-126))=E+23+1 by omega]at x2;exact x2)
      | (rw[show o+1-(o+- (-126))=E+23+1 by omega]at x2;exact x2)
    have HAP7:=zH hap7
    clear hd7 hs7 hap7 hn7
    (go_wp2_with fail;repeat ((first|refine cZ ?_|refine cW ?_);go_wp2_with fail))
    refine got HR ⟨N7,p7,t7,zb,zb,zb,?_,HD7.out,HAP7.out,HGR.out.trans hg7,zd,zd⟩
    simp[yc,yd]
    omega
   ·have hden2:decide (o<(-126))=false:=decide_eq_false hden
    refine kj zb ze ?_
    go_wp2_with fail
    refine got HR ⟨N,p,tr,zb,zb,zb,?_,HDEC.out,?_,HGR.out,zd,zd⟩
    ·simp[yc,yd]
     omega
    ·have:=HFB.out.a2
     rw[show o+1=E+23+1 by omega]at this
     exact this
  clear s0 s1 s5 s6 σ HDEC HFB HGR HENV f1 f2 f3 hb1
  rintro σ w3 ⟨N,p,tr,s0,s1,s5,s6,hdec,hap,hgr,hb1,hb2⟩
  have HDEC:=zH hdec
  have HAP:=zH hap
  have HGR:=zH hgr
  have henv:=HE.out.grown hgr (fun k e=>zz)
  have f1:=henv.i32.1
  have f2:=henv.i32.2.1
  have f3:=henv.i32.2.2
  have HENV:=zH henv
  have d4:w3.cell? ⟨g,802,none⟩=some (.bool ng):=by obtain⟨_,_,bs,_,hd⟩:=hdec;exact hd.cng
  clear hdec hap hgr henv
  obtain⟨X,hX⟩:=zX (E+23)
  have hwA:IntKind.i64.wrap 256=256:=ze
  have hwB:IntKind.i64.wrap 255=255:=ze
  rw[hX]at s6
  have hXb:1-127≤X:=zd
  have hXb2:X≤1100:=zd
  have hwC:IntKind.i64.wrap (X+127)=X+127:=zk
  have hwD:IntKind.i64.wrap (X+1+127)=X+1+127:=zk
  have hwE:IntKind.i64.wrap (X+1)=X+1:=zk
  (go_upto_region 30 with fail;repeat ((first|refine cZ ?_|refine cW ?_);go_upto_region 30 with fail))
  go_quiet (fail)
  by_cases hhi:127<X
  ·have hnear:=zH (show nb=2139095040 by rw[←HNB.out,qm 23 127 2139095040 _ _ E HEE.out,if_neg zd])
   have hx1:255≤X+127:=zd
   (go_wp2_with fail;repeat ((first|refine cZ ?_|refine cW ?_);go_wp2_with fail))
   refine wp_goto ?_
   exact H1.out.out _ _ _ ⟨zb,zb,by simpa using d4,HGR.out.drewN _,hnear.out⟩
  have hx1:decide (255≤X+127)=false:=zh
  have hx2:X+127<255:=zd
  (go_wp2_with fail;repeat ((first|refine cZ ?_|refine cW ?_);go_wp2_with fail))
  refine (zbf T g N p 24 ng tr _ (HENV.out.env.drewN _) hgT (HDEC.out.drewN _) zd zd zd zd zd).mono ?_
  rintro r7 w7 ⟨rfl,N7,p7,t7,hd7,hn7,hs7,hb7,hc7,hg7⟩
  have hbb:=hb7 zd
  have hap7:Apx A P J (E-1) E N7 p7 t7:=by
   have x2:=hs7 A P J (E-1) (E+23+1) HL2.out zs zs HAP.out
   first
    | (rw[show E+23+1-24=E by omega]at x2;exact x2)
    | (rw[show E+23+1-(1+23)=E by omega]at x2;exact x2)
  have hN70:=hd7.ne0
  have hN78:=hd7.le
  have hdp7:=yaw hap7 HL2.out hN70 zd zd zd zd zd
  have hrd:=zwg (o:=o) hap7 HJ.out zd zd (by have:=HDP.out;have:=HDPB.out;omega) zd
  have hasm:=zks 23 127 2139095040 _ _ _ E HB0.out zd rfl HEE.out hrd.symm
  rw[HNB.out]at hasm
  have hgr7:=(HGR.out.drewN _).trans hg7
  have henv:=HE.out.grown hgr7 (fun k e=>zz)
  have f1':=henv.i32.1
  have f2':=henv.i32.2.1
  have f3':=henv.i32.2.2
  have d4':w7.cell? ⟨g,802,none⟩=some (.bool ng):=by obtain⟨_,_,bs,_,hd⟩:=hd7;exact hd.cng
  have HRI:=zH (fun W (h:W=w7)=>h ▸ zb6 g N7 p7 ng t7 w7 hd7 (hn7 zd) zd zd)
  have HGR7:=zH hgr7
  obtain⟨R,hR⟩:=zX (rdI N7 p7 t7)
  rw[hR]at hasm HRI
  obtain⟨hnbR,hRle,hElo,hRden⟩:=hasm
  unfold zxg at hnbR
  have e53:(2:Nat)^(23+1)=16777216:=rfl
  have e52:(2:Nat)^23=8388608:=rfl
  rw[e53]at hRle hnbR
  rw[e52]at hRden hnbR
  clear hd7 hn7 hs7 hap7 hb7 hc7 hg7 hrd hR hgr7 henv f1 f2 f3 d4 e53 e52 hdp7 hN70 hN78 HNB
  go_wp2_with fail
  refine (HRI.out _ rfl).mono ?_
  rintro r8 w8 ⟨rfl,rfl⟩
  have hR64:R<18446744073709551616:=zd
  by_cases c1:R=16777216
  ·subst c1
   rw[if_pos rfl]at hnbR
   by_cases c2:127<X+1
   ·have hnear:=zH (show nb=2139095040 by rw[hnbR,if_pos zd])
    have hx3:255≤X+1+127:=zd
    clear hx1
    (go_upto_region 36 with fail;repeat ((first|refine cZ ?_|refine cW ?_);go_upto_region 36 with fail))
    go_quiet (fail)
    (go_wp2_with fail;repeat ((first|refine cZ ?_|refine cW ?_);go_wp2_with fail))
    refine wp_goto ?_
    exact H1.out.out _ _ _ ⟨zb,zb,by simpa using d4',HGR7.out.drewN _,hnear.out⟩
   ·have hx3:decide (255≤X+1+127)=false:=zh
    have htb:=zy1 8388608 zd
    rw[if_neg zd]at htb
    have htb2:bits .and .u64 8388608 8388608=8388608:=htb
    clear htb
    rw[if_neg zd]at hnbR
    have hnbR2:=zH hnbR
    have hnbf:=zH (show decide (nb=2139095040)=false by
     apply decide_eq_false
     have:(E+23+1+127).toNat≤254:=zd
     have:=Nat.mul_le_mul_right 8388608 this
     omega)
    clear hnbR
    (go_upto_region 36 with fail;repeat ((first|refine cZ ?_|refine cW ?_);go_upto_region 36 with fail))
    go_quiet (fail)
    (go_wp2_with fail;repeat ((first|refine cZ ?_|refine cW ?_);go_wp2_with fail))
    refine wp_goto ?_
    refine H0.out.out _ _ _ ⟨8388608,(X+1+127).toNat,false,zb,zb,zb,?_,zb,by simpa using d4',HGR7.out.drewN _,zd,zd,?_,hnbf.out.symm⟩
    ·rw[show (((X+1+127).toNat:Nat):Int)-127=X+1 by omega];simp[ov, *]
    ·rw[hnbR2.out,show E+((23:Nat):Int)+1+127=X+1+127 by omega,Nat.mod_self,Nat.zero_add]
  ·rw[if_neg c1]at hnbR
   have c1i:((R:Int)==16777216)=false:=zf
   have c1j:(R==16777216)=false:=by rw[beq_eq_false_iff_ne];exact c1
   have htb:=zy1 R zd
   by_cases c3:R<8388608
   ·rw[if_pos c3]at hnbR htb
    have hnbR2:=zH hnbR
    have hnbf:=zH (show decide (nb=2139095040)=false by apply decide_eq_false;omega)
    clear hnbR
    (go_wp2_with fail;repeat ((first|refine cZ ?_|refine cW ?_);go_wp2_with fail))
    refine wp_goto ?_
    refine H0.out.out _ _ _ ⟨R,0,false,zb,zb,zb,zb,zb,d4',HGR7.out,zd,zd,?_,hnbf.out.symm⟩
    rw[hnbR2.out,Nat.zero_mul,Nat.add_zero,Nat.mod_eq_of_lt c3]
   ·rw[if_neg c3]at hnbR htb
    rw[if_neg zd]at hnbR
    have hnbR2:=zH hnbR
    have hnbf:=zH (show decide (nb=2139095040)=false by
     apply decide_eq_false
     have:(E+23+127).toNat≤254:=zd
     have:=Nat.mul_le_mul_right 8388608 this
     omega)
    clear hnbR
    (go_wp2_with fail;repeat ((first|refine cZ ?_|refine cW ?_);go_wp2_with fail))
    refine wp_goto ?_
    refine H0.out.out _ _ _ ⟨R,(X+127).toNat,false,zb,zb,zb,?_,zb,d4',HGR7.out,zd,zd,?_,hnbf.out.symm⟩
    ·rw[show (((X+127).toNat:Nat):Int)-127=X by omega];simp[ov, *]
    ·rw[hnbR2.out,show E+((23:Nat):Int)+127=X+127 by omega];omega
 ·rintro σ w' ⟨mant,E,ov',s0,s1,s5,s6,s7,d4,hgr,hm,hE,hval,hov⟩
  have henv:=HE.out.grown hgr (fun k e=>zz)
  have f1:=henv.i32.1
  have f2:=henv.i32.2.1
  have f3:=henv.i32.2.2
  have hlt:g<w'.heap.size:=Nat.lt_of_lt_of_le hlt hgr.size
  have HGR:=zH hgr
  have HV:=zH hval
  have HOV:=zH hov
  clear hgr hval hov henv d1 d2
  have hlow:=zx4 mant zd
  have hexp:=zx7 E hE
  have hor:=zx3 mant E hE
  have hml:mant%8388608<8388608:=Nat.mod_lt _ zd
  obtain⟨lo,hlo⟩:=zX (mant%8388608)
  rw[hlo]at hlow hor hml HV
  have hEs:E*8388608<2147483648:=zd
  have hsh1:IntKind.u64.wrap ((E:Int)*8388608)=((E*8388608:Nat):Int):=zl
  have hsh2:(E:Int)*8388608=((E*8388608:Nat):Int):=zd
  obtain⟨hi',hhi'⟩:=zX (E*8388608)
  rw[hhi']at hor hsh1 hsh2 hEs HV
  have hsg:=zx0 (lo+hi') zd
  obtain⟨bb,hbb⟩:=zX (lo+hi')
  rw[hbb]at hor hsg HV
  have hbl:bb<2147483648:=zd
  have q1:(E:Int)-127 - -127=(E:Int):=zd
  have q2:(E:Int)-127+127=(E:Int):=zd
  have hw64:IntKind.u64.wrap (E:Int)=(E:Int):=zl
  clear hlo hhi' hbb
  (go_upto_region 43 with fail;repeat ((first|refine cZ ?_|refine cW ?_);go_upto_region 43 with fail))
  go_quiet (fail)
  cases ng with
  | false=>
   (go_wp2_with fail;repeat ((first|refine cZ ?_|refine cW ?_);go_wp2_with fail))
   rw[Exit.noGoto_ret]
   refine xc (.int .u64 (bb:Int)) (.bool ov') rfl ze ze zb zb ⟨?_,(by first | exact HGR.out | exact HGR.out.drewN _ | exact (HGR.out.drewN _).drewN _ | exact ((HGR.out.drewN _).drewN _).drewN _)⟩
   rw[←HOV.out,HV.out]
   show _=Ending.returned (.tuple #[.int .u64 ((0+nb:Nat):Int),_])
   rw[Nat.zero_add]
  | true=>
   (go_upto_region 45 with fail;repeat ((first|refine cZ ?_|refine cW ?_);go_upto_region 45 with fail))
   go_quiet (fail)
   (go_wp2_with fail;repeat ((first|refine cZ ?_|refine cW ?_);go_wp2_with fail))
   rw[Exit.noGoto_ret]
   refine xc (.int .u64 ((bb+2147483648:Nat):Int)) (.bool ov') rfl ze ze zb zb ⟨?_,(by first | exact HGR.out | exact HGR.out.drewN _ | exact (HGR.out.drewN _).drewN _ | exact ((HGR.out.drewN _).drewN _).drewN _)⟩
   rw[←HOV.out,HV.out]
   show _=Ending.returned (.tuple #[.int .u64 ((2147483648+nb:Nat):Int),_])
   rw[Nat.add_comm]
 ·rintro σ w' ⟨s0,s1,d4,hgr,hinf⟩
  have henv:=HE.out.grown hgr (fun k e=>zz)
  have f1:=henv.i32.1
  have f2:=henv.i32.2.1
  have f3:=henv.i32.2.2
  have hlt:g<w'.heap.size:=Nat.lt_of_lt_of_le hlt hgr.size
  have HGR:=zH hgr
  obtain⟨mant,hm0⟩:∃ mant:Nat,mant=0:=⟨0,rfl⟩
  obtain⟨E,hEq⟩:∃ E:Nat,E=255:=⟨_,rfl⟩
  have hm:mant<16777216:=zd
  have hE:E≤255:=zd
  have hval:mant%8388608+E*8388608=nb:=by rw[hm0,hEq,hinf]
  have hov:true=decide (nb=2139095040):=by rw[hinf];rfl
  have HV:=zH hval
  have HOV:=zH hov
  have HM0:=zH hm0
  have HEQ:=zH hEq
  clear hgr hval hov henv d1 d2 hinf hm0 hEq
  (go_upto_region 40 with fail;repeat ((first|refine cZ ?_|refine cW ?_);go_upto_region 40 with fail))
  go_quiet (fail)
  go_wp2_with fail
  go_step3
  (go_upto_region 42 with fail;repeat ((first|refine cZ ?_|refine cW ?_);go_upto_region 42 with fail))
  refine zjw (fun s'=>s' 0=.pointer (some ⟨g,0,none⟩)∧s' 1=.pointer (some ⟨4,0,none⟩)∧s' 5=.bool true∧s' 6=.int .i64 ((E:Int)-127)∧s' 7=.int .u64 (mant:Int)) ⟨zb,zb,zb,by rw[HEQ.out];simp[ov, *],by rw[HM0.out];simp[ov, *]⟩ ?_
  clear s0 s1 σ
  rintro σ ⟨s0,s1,s5,s6,s7⟩
  have hlow:=zx4 mant zd
  have hexp:=zx7 E hE
  have hor:=zx3 mant E hE
  have hml:mant%8388608<8388608:=Nat.mod_lt _ zd
  obtain⟨lo,hlo⟩:=zX (mant%8388608)
  rw[hlo]at hlow hor hml HV
  have hEs:E*8388608<2147483648:=zd
  have hsh1:IntKind.u64.wrap ((E:Int)*8388608)=((E*8388608:Nat):Int):=zl
  have hsh2:(E:Int)*8388608=((E*8388608:Nat):Int):=zd
  obtain⟨hi',hhi'⟩:=zX (E*8388608)
  rw[hhi']at hor hsh1 hsh2 hEs HV
  have hsg:=zx0 (lo+hi') zd
  obtain⟨bb,hbb⟩:=zX (lo+hi')
  rw[hbb]at hor hsg HV
  have hbl:bb<2147483648:=zd
  have q1:(E:Int)-127 - -127=(E:Int):=zd
  have q2:(E:Int)-127+127=(E:Int):=zd
  have hw64:IntKind.u64.wrap (E:Int)=(E:Int):=zl
  clear hlo hhi' hbb
  (go_upto_region 43 with fail;repeat ((first|refine cZ ?_|refine cW ?_);go_upto_region 43 with fail))
  go_quiet (fail)
  cases ng with
  | false=>
   (go_wp2_with fail;repeat ((first|refine cZ ?_|refine cW ?_);go_wp2_with fail))
   rw[Exit.noGoto_ret]
   refine xc (.int .u64 (bb:Int)) (.bool true) rfl ze ze zb zb ⟨?_,(by first | exact HGR.out | exact HGR.out.drewN _ | exact (HGR.out.drewN _).drewN _ | exact ((HGR.out.drewN _).drewN _).drewN _)⟩
   rw[←HOV.out,HV.out]
   show _=Ending.returned (.tuple #[.int .u64 ((0+nb:Nat):Int),_])
   rw[Nat.zero_add]
  | true=>
   (go_upto_region 45 with fail;repeat ((first|refine cZ ?_|refine cW ?_);go_upto_region 45 with fail))
   go_quiet (fail)
   (go_wp2_with fail;repeat ((first|refine cZ ?_|refine cW ?_);go_wp2_with fail))
   rw[Exit.noGoto_ret]
   refine xc (.int .u64 ((bb+2147483648:Nat):Int)) (.bool true) rfl ze ze zb zb ⟨?_,(by first | exact HGR.out | exact HGR.out.drewN _ | exact (HGR.out.drewN _).drewN _ | exact ((HGR.out.drewN _).drewN _).drewN _)⟩
   rw[←HOV.out,HV.out]
   show _=Ending.returned (.tuple #[.int .u64 ((2147483648+nb:Nat):Int),_])
   rw[Nat.add_comm]
end Go.Proofs.YtnifedmhgncioaaGreatDoor
