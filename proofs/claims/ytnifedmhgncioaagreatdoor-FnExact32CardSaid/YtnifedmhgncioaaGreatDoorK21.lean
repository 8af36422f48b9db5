/- Lemmas that the claim's top text leans on. No condition of their own. -/
import Derived.Test.YtnifedmhgncioaaGreatDoorK19
import Derived.Laws.ResultCell
namespace Go.Proofs.YtnifedmhgncioaaGreatDoor
open Go.RowKit
set_option linter.unusedSimpArgs false
set_option linter.unusedVariables false
set_option maxHeartbeats 16000000
section
attribute [local go_sem] undef
theorem zez (s:List UInt8) (a n:Nat) (h:a+n<=s.length):(⟨s.toArray⟩:ByteArray).extract a (a+n)=⟨((s.drop a).take n).toArray⟩:=by
 apply ByteArray.ext;simp[ByteArray.data_extract]
theorem ztj (a b:List UInt8):(⟨a.toArray⟩:ByteArray)++⟨b.toArray⟩=⟨(a++b).toArray⟩:=by
 apply ByteArray.ext;simp[ByteArray.data_append]
theorem zkl (lt:UInt8) (s:List UInt8) (x:Int) (h:jc lt s=some x):-1000000000000000<=x/\x<=1000000000000000:=by
 cases s with
 | nil=>simp[jc]at h
 | cons c r=>
  simp only[jc]at h;by_cases hc:c≠lt
  ·rw[if_pos hc]at h;cases h
  ·rw[if_neg hc]at h;unfold zft at h;by_cases h2:(sgL r).2=[]\/jh 10 (sgL r).2≠(sgL r).2.length
   ·rw[if_pos h2]at h;cases h
   ·rw[if_neg h2]at h;have h9:=zrp (dgL 10 (sgL r).2);have:=Option.some.inj h;rw[<-this];split <;> omega
def textZ:List Value:=[.int .i64 0,.bool false,.int .i64 0,.slice none 0 0,.int .i64 0]
def zdu (s:List UInt8) (w:World) (e:Ending) (w':World):Prop:=w.grownBy w' none/\
   match zf8 s with
   | none=>e=.returned (.tuple #[.agg textZ.toArray,.bool false])
   | some x=>∃ v,e=.returned (.tuple #[.agg #[.int .i64 0,.bool false,.int .i64 (wb s:Int),v,.int .i64 x],.bool true])/\OwnI w.heap.size w' v (nDigits s)
theorem zbr {s:List UInt8} {w w':World} (h:zf8 s=none) (hg:w.grownBy w' none):zdu s w (.returned (.tuple #[.agg textZ.toArray,.bool false])) w':=by
 unfold zdu;rw[h];exact⟨hg,rfl⟩
theorem zg3 {s:List UInt8} {w w':World} {x:Int} {v:Value} (h:zf8 s=some x) (hg:w.grownBy w' none) (hr:OwnI w.heap.size w' v (nDigits s)):zdu s w (.returned (.tuple #[.agg #[.int .i64 0,.bool false,.int .i64 (wb s:Int),v,.int .i64 x],.bool true])) w':=by
 unfold zdu;rw[h];exact⟨hg,v,rfl,hr⟩
theorem OwnI.other {T:Nat} {w:World} {v:Value} {xs:List Nat} (h:OwnI T w v xs) {a:Addr} (hne:v.ownBlock≠Option.some a.block) (u:Value):OwnI T (w.setCell a u) v xs:=⟨h.1.setCell_other hne u,h.2⟩
theorem we {P:Program} {fn:Func} {R:Ending->World->Prop} {n:Nat} {env:List (Nat×Value)} {s:Nat->Value} {w:World} {p u:Nat} {ty:TypeId} {B:Nat} (v x:Value) (hr:fn.results=#[.cell p ty,.tmp u]) (hp:p<n) (hu:u<n) (hpv:over env s p=.pointer (Option.some ⟨B,0,Option.none⟩)) (hx:over env s u=x)
  (hl:(loadVar ty ⟨B,0,Option.none⟩).run P w=.ok v w) (hR:R (.returned (.tuple #[v,x])) w):bodyPost P fn R .ret (Fr n env s) w:=by
 refine bodyPost_ret (v:=.tuple #[v,x]) ?_ (vz ..) hR;rw[results_cell_tmp hr,wa n env s p hp,wa n env s u hu,hpv,hx];simp[asAddr,hl,Result.andThen]
set_option maxRecDepth 100000 in
theorem zlk (s:List UInt8) (w:World) (hs:s.length<=2000000):
  Calls Tryz.prog 59 #[.string ⟨s.toArray⟩] w (zdu s w):=by
 have HRN:=zH (fun (i:Nat) (hi:i<=s.length) (W:World)=>zm6 (wb s) (zcc s) s i W zd hi);have HDG:=zH (fun c W=>zaq 16 (Or.inr rfl) c W);refine ye Tryz.func59 rfl (by rw[Tryz.ntmps59];simp) ?_;intro σ hσ;rw[Tryz.ntmps59];have s0:σ 0=.string ⟨s.toArray⟩:=hσ 0 zi;clear hσ;have hsz:(⟨s.toArray⟩:ByteArray).size=s.length:=zm;obtain⟨N,hN⟩:=zX s.length;rw[hN]at hsz hs;have HN:=zH hN;clear hN;obtain⟨w1,hw1⟩:=zX (w.alloc (.cells textZ.toArray 72));have hrB:=Row.new w textZ 72;have hgB:=World.grownBy_alloc w (.cells textZ.toArray 72) none;rw[hw1]at hrB hgB;unfold textZ at hw1;have HRB:=zH hrB;have HGB:=zH hgB;clear hrB hgB;obtain⟨B,hB⟩:=zX w.heap.size;go_upto_region 3 with fail;clear hw1;rw[hB]at HRB;have HB:=zH hB;clear hB;refine yr (fun s' w'=>s' 27=.bool (decide (zd4 s))/\s' 0=.string ⟨s.toArray⟩/\s' 2=.pointer (some ⟨B,0,none⟩)/\s' 4=.int .i64 10/\s' 5=.int .i64 0/\w1=w') ?_ ?_
 ·intro R' K' HR hK';by_cases h1:1<N
  case neg=>
   have hx:decide (zd4 s)=false:=by rw[decide_eq_false_iff_not];unfold zd4;rw[HN.out];exact fun h=>h1 h.1
   have h1':decide ((1:Int)<(N:Int))=false:=zh;have h1'':decide (1<N)=false:=zh;rw[hx]at HR;clear hx;(go_wp2_with fail;repeat ((first|refine cZ ?_|refine cW ?_);go_wp2_with fail));exact got HR zb
  have hidx0:=xu s 0 zt;have hidx1:=xu s 1 zt;have h1':(1:Int)<(N:Int):=zd;have h0':(0:Int)<(N:Int):=zd;have h0'':0<N:=zd;obtain⟨a,ha⟩:=zX (s.getD 0 0);obtain⟨b,hb⟩:=zX (s.getD 1 0);rw[ha]at hidx0;rw[hb]at hidx1;by_cases ha1:a.toNat=48
  case neg=>
   have hx:decide (zd4 s)=false:=by rw[decide_eq_false_iff_not];unfold zd4;rw[ha];rintro⟨_,h,_⟩;exact ha1 zβz
   rw[hx]at HR;have p1:((a.toNat:Int)==48)=false:=zf;have p2:(a.toNat==48)=false:=by rw[beq_eq_false_iff_ne];exact ha1
   clear hx ha hb ha1;(go_wp2_with fail;repeat ((first|refine cZ ?_|refine cW ?_);go_wp2_with fail));exact got HR zb
  have p1:((a.toNat:Int)==48)=true:=zo;have p2:(a.toNat==48)=true:=by rw[beq_iff_eq];exact ha1
  by_cases hb1:b.toNat=120
  case neg=>
   have hx:decide (zd4 s)=false:=by rw[decide_eq_false_iff_not];unfold zd4;rw[hb];rintro⟨_,_,h⟩;exact hb1 zβz
   rw[hx]at HR;have p3:((b.toNat:Int)==120)=false:=zf;have p4:(b.toNat==120)=false:=by rw[beq_eq_false_iff_ne];exact hb1
   clear hx ha hb ha1 hb1;(go_wp2_with fail;repeat ((first|refine cZ ?_|refine cW ?_);go_wp2_with fail));exact got HR zb
  have hx:decide (zd4 s)=true:=by rw[decide_eq_true_iff];unfold zd4;rw[HN.out,ha,hb];exact⟨h1,UInt8.toNat_inj.1 ha1,UInt8.toNat_inj.1 hb1⟩
  rw[hx]at HR;have p3:((b.toNat:Int)==120)=true:=zo;have p4:(b.toNat==120)=true:=by rw[beq_iff_eq];exact hb1
  clear hx ha hb ha1 hb1;(go_wp2_with fail;repeat ((first|refine cZ ?_|refine cW ?_);go_wp2_with fail));exact got HR zb
 clear s0 σ;rintro σ w' ⟨s27,s0,s2,s4,s5,rfl⟩;go_wp2_with fail;refine yr (fun s' w'=>s' 0=.string ⟨s.toArray⟩/\s' 2=.pointer (some ⟨B,0,none⟩)/\s' 4=.int .i64 (wb s:Int)/\s' 5=.int .i64 (vy s:Int)/\w1=w') ?_ ?_
 ·intro R' K' HR hK';refine zb0 _ (by rw[yd,s27]) ze (fun h=>?_) (fun h=>?_)
  case refine_2=>
   have hx:=of_decide_eq_false h;have e1:wb s=10:=by unfold wb;rw[if_neg hx]
   have e2:vy s=0:=by unfold vy;rw[if_neg hx]
   rw[e1,e2]at HR;clear h hx e1 e2;(go_wp2_with fail;repeat ((first|refine cZ ?_|refine cW ?_);go_wp2_with fail));exact got HR zb
  have hx:=of_decide_eq_true h;have e1:wb s=16:=by unfold wb;rw[if_pos hx]
  have e2:vy s=if zp5 s then 3 else 2:=by unfold vy;rw[if_pos hx]
  rw[e1,e2]at HR;have hN2:1<N:=by have:=hx.1;rw[HN.out]at this;exact this
  clear h hx e1 e2 s27;go_upto_region 6 with fail;by_cases h3:3<N
  case neg=>
   rw[if_neg (by unfold zp5;rw[HN.out];exact fun h=>h3 h.1)]at HR;have h3':decide ((3:Int)<(N:Int))=false:=zh;have h3'':decide (3<N)=false:=zh;(go_wp2_with fail;repeat ((first|refine cZ ?_|refine cW ?_);go_wp2_with fail));exact got HR zb
  have hidx2:=xu s 2 zt;have hidx3:=xu s 3 zt;have h3':(3:Int)<(N:Int):=zd;have h2':(2:Int)<(N:Int):=zd;have h2'':2<N:=zd;obtain⟨a,ha⟩:=zX (s.getD 2 0);obtain⟨b,hb⟩:=zX (s.getD 3 0);rw[ha]at hidx2;rw[hb]at hidx3;by_cases ha1:a.toNat=95
  case neg=>
   rw[if_neg (by unfold zp5;rw[ha];rintro⟨_,h,_⟩;exact ha1 zβz)]at HR;have p1:((a.toNat:Int)==95)=false:=zf;have p2:(a.toNat==95)=false:=by rw[beq_eq_false_iff_ne];exact ha1
   clear ha hb ha1;(go_wp2_with fail;repeat ((first|refine cZ ?_|refine cW ?_);go_wp2_with fail));exact got HR zb
  have p1:((a.toNat:Int)==95)=true:=zo;have p2:(a.toNat==95)=true:=by rw[beq_iff_eq];exact ha1
  have hL:=HDG.out b;rw[show ((16:Nat):Int)=16 from rfl]at hL;by_cases hb1:isD 16 b=true
  ·rw[if_pos (by unfold zp5;rw[HN.out,ha,hb];exact⟨h3,UInt8.toNat_inj.1 ha1,hb1⟩)]at HR;have hge:=zdn hb1;have HL:=zH hL;clear hL ha hb ha1 hb1;generalize zfx 16 b=z at *
   (go_wp2_with (first | (refine (HL.out _).mono ?_;rintro e w8 ⟨rfl,rfl⟩));repeat ((first|refine cZ ?_|refine cW ?_);go_wp2_with (first | (refine (HL.out _).mono ?_;rintro e w8 ⟨rfl,rfl⟩))));exact got HR zb
  ·rw[if_neg (by unfold zp5;rw[hb];rintro⟨_,_,h⟩;exact hb1 h)]at HR;rw[zdm (by simpa using hb1)]at hL;have HL:=zH hL;clear hL ha hb ha1 hb1;(go_wp2_with (first | (refine (HL.out _).mono ?_;rintro e w8 ⟨rfl,rfl⟩));repeat ((first|refine cZ ?_|refine cW ?_);go_wp2_with (first | (refine (HL.out _).mono ?_;rintro e w8 ⟨rfl,rfl⟩))));exact got HR zb
 clear s27 s0 s2 s4 s5 σ HDG;rintro σ w' ⟨s0,s2,s4,s5,rfl⟩;have hi0:=zcb s;have hi1:=znv s;have hi01:vy s<=nI1 s:=by unfold nI1;omega
 rw[HN.out]at hi0 hi1;have hc1:(⟨s.toArray⟩:ByteArray).extract (vy s) (nI1 s)=⟨(kl s).toArray⟩:=zez s (vy s) _ (by have:=znv s;unfold nI1 at this;exact this);have hR1:∀ W,Calls Tryz.prog 79 #[.string ⟨s.toArray⟩,.int .i64 (vy s:Int),.int .i64 (wb s:Int)] W fun e w'=>e=.returned (.int .i64 (nI1 s:Int))/\W=w':=by
  intro W;have:=HRN.out (vy s) (zcb s) W;have e:nI1 s=vy s+jh (wb s) (s.drop (vy s)):=rfl;rw[<-e]at this;exact this
 have hR2:nPt s->∀ W,Calls Tryz.prog 79 #[.string ⟨s.toArray⟩,.int .i64 ((nI1 s:Int)+1),.int .i64 (wb s:Int)] W fun e w'=>e=.returned (.int .i64 (nI2 s:Int))/\W=w':=by
  intro hp W;have:=HRN.out (nI1 s+1) hp.1 W;have e:nI2 s=nI1 s+1+jh (wb s) (s.drop (nI1 s+1)):=by unfold nI2;rw[if_pos hp]
  rw[<-e,show ((nI1 s+1:Nat):Int)=(nI1 s:Int)+1 from by omega]at this;exact this
 have hc2:nPt s->(⟨s.toArray⟩:ByteArray).extract (nI1 s+1) (nI2 s)=⟨(xz s).toArray⟩:=by
  intro hp;have e:nI2 s=nI1 s+1+jh (wb s) (s.drop (nI1 s+1)):=by unfold nI2;rw[if_pos hp]
  have e2:xz s=(s.drop (nI1 s+1)).take (jh (wb s) (s.drop (nI1 s+1))):=by unfold xz;rw[if_pos hp]
  rw[e,e2];exact zez s _ _ (by rw[<-e];exact zsk s)
 have hI12:nPt s->nI1 s+1<=nI2 s:=by intro hp;unfold nI2;rw[if_pos hp];omega
 have hI2N:=zsk s;rw[HN.out]at hI2N;have hq1:¬nPt s->nI2 s=nI1 s:=fun h=>by unfold nI2;rw[if_neg h]
 have hq2:¬nPt s->xz s=[]:=fun h=>by unfold xz;rw[if_neg h]
 have hpt:nPt s↔nI1 s<N/\s.getD (nI1 s) 0=46:=by unfold nPt;rw[HN.out]
 clear HRN;obtain⟨i0,e0⟩:=zX (vy s);obtain⟨i1,e1⟩:=zX (nI1 s);obtain⟨i2,e2⟩:=zX (nI2 s);obtain⟨b,eb⟩:=zX (wb s);obtain⟨f1,ef1⟩:=zX (kl s);obtain⟨f2,ef2⟩:=zX (xz s);rw[e0,e1]at hi01;rw[e0]at hi0 s5;rw[e1]at hi1 hpt hI12 hq1;rw[e2]at hI2N hI12 hq1;rw[eb]at s4;rw[e0,e1,ef1]at hc1;rw[e1,e2,ef2]at hc2;rw[ef2]at hq2;rw[e0,e1,eb]at hR1;rw[e1,e2,eb]at hR2;have HR1:=zH hR1;have HR2:=zH hR2;have HC2:=zH hc2;have E0:=zH e0;have E1:=zH e1;have E2:=zH e2;have EB:=zH eb;have EF1:=zH ef1;have EF2:=zH ef2;have HI12:=zH hI12;have HQ1:=zH hq1;have HQ2:=zH hq2;have HPT:=zH hpt;clear e0 e1 e2 eb ef1 ef2 hR1 hR2 hc2 hI12 hq1 hq2 hpt;have j1:(i0:Int)<=(i1:Int):=zd;have j2:(i1:Int)<=(N:Int):=zd;go_wp2_with fail;refine (HR1.out _).mono ?_;rintro e w8 ⟨rfl,rfl⟩;go_upto_region 12 with fail;refine yr (fun s' w'=>s' 68=.bool (decide (nPt s))/\s' 0=.string ⟨s.toArray⟩/\s' 2=.pointer (some ⟨B,0,none⟩)/\s' 4=.int .i64 (b:Int)/\s' 5=.int .i64 (i1:Int)/\s' 7=.string ⟨f1.toArray⟩/\s' 8=.string ⟨#[]⟩/\w1=w') ?_ ?_
 ·intro R' K' HR hK';by_cases h1:i1<N
  case neg=>
   have hx:decide (nPt s)=false:=by rw[decide_eq_false_iff_not,HPT.out];exact fun h=>h1 h.1
   have h1':decide ((i1:Int)<(N:Int))=false:=zh;have h1'':decide (i1<N)=false:=zh;rw[hx]at HR;clear hx;(go_wp2_with fail;repeat ((first|refine cZ ?_|refine cW ?_);go_wp2_with fail));exact got HR zb
  have hidx1:=xu s i1 zt;have h1':(i1:Int)<(N:Int):=zd;obtain⟨a,ha⟩:=zX (s.getD i1 0);rw[ha]at hidx1;by_cases ha1:a.toNat=46
  ·have hx:decide (nPt s)=true:=by rw[decide_eq_true_iff,HPT.out,ha];exact⟨h1,UInt8.toNat_inj.1 ha1⟩
   rw[hx]at HR;have p1:((a.toNat:Int)==46)=true:=zo;have p2:(a.toNat==46)=true:=by rw[beq_iff_eq];exact ha1
   clear hx ha ha1;(go_wp2_with fail;repeat ((first|refine cZ ?_|refine cW ?_);go_wp2_with fail));exact got HR zb
  ·have hx:decide (nPt s)=false:=by rw[decide_eq_false_iff_not,HPT.out,ha];rintro⟨_,h⟩;exact ha1 zβz
   rw[hx]at HR;have p1:((a.toNat:Int)==46)=false:=zf;have p2:(a.toNat==46)=false:=by rw[beq_eq_false_iff_ne];exact ha1
   clear hx ha ha1;(go_wp2_with fail;repeat ((first|refine cZ ?_|refine cW ?_);go_wp2_with fail));exact got HR zb
 clear s0 s2 s4 s5 σ HR1 hc1 j1;rintro σ w' ⟨s68,s0,s2,s4,s5,s7,s8,rfl⟩;go_wp2_with fail;refine yr (fun s' w'=>s' 0=.string ⟨s.toArray⟩/\s' 2=.pointer (some ⟨B,0,none⟩)/\s' 4=.int .i64 (b:Int)/\s' 5=.int .i64 (i2:Int)/\s' 7=.string ⟨f1.toArray⟩/\s' 8=.string ⟨f2.toArray⟩/\w1=w') ?_ ?_
 ·intro R' K' HR hK';refine zb0 _ (by rw[yd,s68]) ze (fun h=>?_) (fun h=>?_)
  ·have hx:=of_decide_eq_true h;have hcut:=HC2.out hx;have h1:=HI12.out hx;have HR2':=zH (HR2.out hx);have k1:(i1:Int)+1<=(i2:Int):=zd;have k2:(i2:Int)<=(N:Int):=zd;clear h hx s68;go_wp2_with fail;refine (HR2'.out _).mono ?_;rintro e w8 ⟨rfl,rfl⟩;(go_wp2_with fail;repeat ((first|refine cZ ?_|refine cW ?_);go_wp2_with fail));exact got HR zb
  ·have hx:=of_decide_eq_false h;have g1:=HQ1.out hx;have g2:=HQ2.out hx;subst g1;subst g2;clear h hx s68;(go_wp2_with fail;repeat ((first|refine cZ ?_|refine cW ?_);go_wp2_with fail));exact got HR zb
 clear s68 s0 s2 s4 s5 s7 s8 σ HR2 HC2 HI12 HQ1 HQ2 HPT hi1 hi0 hi01 j2;rintro σ w' ⟨s0,s2,s4,s5,s7,s8,rfl⟩;by_cases hemp:f1=[]/\f2=[]
 ·obtain⟨rfl,rfl⟩:=hemp;have hne:zf8 s=none:=by unfold zf8;rw[EF1.out,EF2.out,if_pos ⟨rfl,rfl⟩]
  have HNE:=zH hne;clear hne;have k0:=HRB.out.cell 0;have k1:=HRB.out.cell 1;have k2:=HRB.out.cell 2;have k3:=HRB.out.cell 3;have k4:=HRB.out.cell 4;have t0:=HRB.out.frozen 0;have t1:=HRB.out.frozen 1;have t2:=HRB.out.frozen 2;have t3:=HRB.out.frozen 3;have t4:=HRB.out.frozen 4;unfold textZ at k0 k1 k2 k3 k4;simp only[List.getElem?_cons_zero,List.getElem?_cons_succ]at k0 k1 k2 k3 k4;(go_wp2_with fail;repeat ((first|refine cZ ?_|refine cW ?_);go_wp2_with fail));have hrow:=((((HRB.out.setCell 0 (.int .i64 0)).setCell 1 (.bool false)).setCell 2 (.int .i64 0)).setCell 3 (.slice none 0 0)).setCell 4 (.int .i64 0);obtain⟨ty,hrow⟩:=hrow;refine we (B:=B) (.agg textZ.toArray) (.bool false) rfl ze ze zb zb ?_ (zbr HNE.out ?_)
  ·exact run_loadVar_row (P:=Tryz.prog) _ B ty 72 _ (0,0) _ hrow Tryz.underlying72 rfl zg
  ·have hBw:=HB.out;exact yb (yb (yb (yb (yb HGB.out _ (by show w.heap.size<=B;omega)) _ (by show w.heap.size<=B;omega)) _ (by show w.heap.size<=B;omega)) _ (by show w.heap.size<=B;omega)) _ (by show w.heap.size<=B;omega)
 have hemp1:(f1.isEmpty&&f2.isEmpty)=false:=by
  cases f1 with
  | nil=>
   cases f2 with
   | nil=>exact absurd ⟨rfl,rfl⟩ hemp
   | cons a r=>rfl
  | cons a r=>rfl
 have hcat:=ztj f1 f2;have hfl:(f1++f2).length<=4000000:=by
  have h1:(kl s).length<=s.length:=zJ;have h2:(xz s).length<=s.length:=zA;rw[EF1.out,HN.out]at h1;rw[EF2.out,HN.out]at h2;rw[List.length_append];omega
 have hbo:b=10\/b=16:=by rw[<-EB.out];exact zcc s
 obtain⟨ff,hff⟩:=zX (f1++f2);rw[hff]at hcat hfl;have HFF:=zH hff;clear hff;have HDO:=zH (zbz b hbo ff w1 hfl);have hlen:=zf0 b ff;obtain⟨l,hl⟩:=zX (dgL b ff);rw[hl]at HDO hlen;have HLD:=zH hl;have hll:l.length<=4000000:=zd;have HEM:=zH hemp;clear hl hlen hfl hemp;go_upto_region 16 with fail;refine yr (fun s' w'=>s' 84=.bool false/\s' 0=.string ⟨s.toArray⟩/\s' 2=.pointer (some ⟨B,0,none⟩)/\s' 4=.int .i64 (b:Int)/\s' 5=.int .i64 (i2:Int)/\s' 7=.string ⟨f1.toArray⟩/\s' 8=.string ⟨f2.toArray⟩/\w1=w') ?_ ?_
 ·intro R' K' HR hK';clear hcat;by_cases h1:f1.isEmpty=true
  ·have h2:f2.isEmpty=false:=by rw[h1]at hemp1;simpa using hemp1
   clear hemp1;(go_wp2_with fail;repeat ((first|refine cZ ?_|refine cW ?_);go_wp2_with fail));exact got HR zb
  ·have h1':f1.isEmpty=false:=by simpa using h1
   clear hemp1 h1;(go_wp2_with fail;repeat ((first|refine cZ ?_|refine cW ?_);go_wp2_with fail));exact got HR zb
 clear s0 s2 s4 s5 s7 s8 σ hemp1;rintro σ w' ⟨s84,s0,s2,s4,s5,s7,s8,rfl⟩;go_wp2_with fail;refine kj (by rw[yd,s84]) ze ?_;clear s84;have zf1:(⟨f1.toArray⟩:ByteArray).size=f1.length:=zm;have zf2:(⟨f2.toArray⟩:ByteArray).size=f2.length:=zm;have hzz:f1.length+f2.length<=4000000:=by
  have h1:(kl s).length<=s.length:=zJ;have h2:(xz s).length<=s.length:=zA;rw[EF1.out,HN.out]at h1;rw[EF2.out,HN.out]at h2;omega
 have HCO:=zH (fun W=>zi7 b hbo f2 W zd);obtain⟨cn,hcn⟩:=zX (zkq b f2);have hcl:cn<=4000000:=by have:=zpe b f2;omega
 rw[hcn]at HCO;have HCN:=zH hcn;clear hcn;generalize f1.length=lf1 at *
 generalize f2.length=lf2 at *
 go_wp2_with fail;refine HDO.out.mono ?_;rintro e w2 ⟨v2,rfl,ho2,hg2⟩;obtain⟨g,c,hv2,hg3,hg4,hg5,hg6⟩:=ho2.block;obtain⟨L,hL⟩:=zX l.length;rw[hL]at hv2 hll hg5;subst hv2;obtain⟨D,hD⟩:=zX w2.heap.size;obtain⟨w3,hw3⟩:=zX (w2.alloc (.cells #[.int .i64 0,.bool false,.int .i64 (b:Int),.slice (some ⟨g,0,none⟩) L c,.int .i64 0] 72));have hrD:=Row.new w2 [.int .i64 0,.bool false,.int .i64 (b:Int),.slice (some ⟨g,0,none⟩) L c,.int .i64 0] 72;have hgD:=World.grownBy_alloc w2 (.cells #[.int .i64 0,.bool false,.int .i64 (b:Int),.slice (some ⟨g,0,none⟩) L c,.int .i64 0] 72) none;have ho3:=ho2.alloc (.cells #[.int .i64 0,.bool false,.int .i64 (b:Int),.slice (some ⟨g,0,none⟩) L c,.int .i64 0] 72);have hrB3:=(HRB.out.grown hg2 zi).grown hgD zi;have hrD':Row (w2.alloc (.cells #[.int .i64 0,.bool false,.int .i64 (b:Int),.slice (some ⟨g,0,none⟩) L c,.int .i64 0] 72)) w2.heap.size [.int .i64 0,.bool false,.int .i64 (b:Int),.slice (some ⟨g,0,none⟩) L c,.int .i64 0]:=hrD;rw[hw3]at hrD' hgD ho3 hrB3;rw[hD]at hrD' hg4;have hBlt:=HRB.out.lt;have HRB3:=zH hrB3;have HRD:=zH hrD';have HO3:=zH ho3;have HG3:=zH (ya HGB.out (ya hg2 hgD));have hgB:¬(g=B):=zd;have hgD2:¬(g=D):=zd;have hBD:¬(B=D):=by have:=HRB.out.lt;have:=hg2.size;omega
 have HW3:=zH hw3;have HDD:=zH hD;have hDB:w.heap.size<=D:=by rw[<-hD];exact Nat.le_trans HGB.out.size hg2.size
 have HL:=zH hL;clear hw3 hD hrD hrD' hgD ho2 ho3 hrB3 hL hg2 hg3 hg4 hg5 hg6 hBlt HDO;go_wp2_with fail;rw[HW3.out,HDD.out];obtain⟨lt,hlt⟩:=zX (za2 s);obtain⟨per,hper⟩:=zX (zpy s);have hlt':lt=if b=16 then 112 else 101:=by rw[<-hlt];unfold za2;rw[EB.out]
 have hper':per=if b=16 then 4 else 1:=by rw[<-hper];unfold zpy;rw[EB.out]
 have hp4:per<=4:=by rw[hper'];split <;> omega
 have HLT:=zH hlt;have HPER:=zH hper;clear hlt hper HDD;refine yr (fun s' w'=>s' 0=.string ⟨s.toArray⟩/\s' 2=.pointer (some ⟨B,0,none⟩)/\s' 4=.int .i64 (b:Int)/\s' 5=.int .i64 (i2:Int)/\s' 8=.string ⟨f2.toArray⟩/\s' 10=.pointer (some ⟨D,0,none⟩)/\s' 11=.int .u8 (lt.toNat:Int)/\s' 12=.int .i64 (per:Int)/\w3=w') ?_ ?_
 ·intro R' K' HR hK';rcases hbo with rfl | rfl
  ·rw[if_neg ze]at hlt' hper';subst hlt';subst hper';(go_wp2_with fail;repeat ((first|refine cZ ?_|refine cW ?_);go_wp2_with fail));exact got HR ⟨zb,zb,zb,zb,zb,zb,zb,zb,rfl⟩
  ·rw[if_pos rfl]at hlt' hper';subst hlt';subst hper';(go_wp2_with fail;repeat ((first|refine cZ ?_|refine cW ?_);go_wp2_with fail));exact got HR ⟨zb,zb,zb,zb,zb,zb,zj,zj,rfl⟩
 clear s0 s2 s4 s5 s7 s8 σ hlt' hper';rintro σ w' ⟨s0,s2,s4,s5,s8,s10,s11,s12,rfl⟩;go_upto_region 24 with fail;refine yr (fun s' w'=>s' 102=.bool (decide (i2<N\/b=16))/\s' 0=.string ⟨s.toArray⟩/\s' 2=.pointer (some ⟨B,0,none⟩)/\s' 4=.int .i64 (b:Int)/\s' 5=.int .i64 (i2:Int)/\s' 8=.string ⟨f2.toArray⟩/\s' 10=.pointer (some ⟨D,0,none⟩)/\s' 11=.int .u8 (lt.toNat:Int)/\s' 12=.int .i64 (per:Int)/\w3=w') ?_ ?_
 ·intro R' K' HR hK';by_cases h1:i2<N
  ·have h1':(i2:Int)<(N:Int):=zd;have hx:decide (i2<N\/b=16)=true:=decide_eq_true (Or.inl h1);rw[hx]at HR;clear hx;(go_wp2_with fail;repeat ((first|refine cZ ?_|refine cW ?_);go_wp2_with fail));exact got HR ⟨zb,zb,zb,zb,zb,zb,zb,zb,zb,rfl⟩
  ·have h1':decide ((i2:Int)<(N:Int))=false:=zh;have h1'':decide (i2<N)=false:=zh;rcases hbo with rfl | rfl
   ·have hx:decide (i2<N\/10=16)=false:=decide_eq_false zd;rw[hx]at HR;clear hx;(go_wp2_with fail;repeat ((first|refine cZ ?_|refine cW ?_);go_wp2_with fail));exact got HR ⟨zb,zb,zb,zb,zb,zb,zb,zb,zb,rfl⟩
   ·have hx:decide (i2<N\/16=16)=true:=decide_eq_true (Or.inr rfl);rw[hx]at HR;clear hx;(go_wp2_with fail;repeat ((first|refine cZ ?_|refine cW ?_);go_wp2_with fail));exact got HR ⟨zb,zb,zb,zb,zb,zb,zb,zb,zb,rfl⟩
 clear s0 s2 s4 s5 s8 s10 s11 s12 σ;rintro σ w' ⟨s102,s0,s2,s4,s5,s8,s10,s11,s12,rfl⟩;have hexpo:zpz s=if i2<N\/b=16 then jc lt (s.drop i2) else some 0:=by unfold zpz;rw[E2.out,EB.out,HN.out,HLT.out]
 have hcutE:(⟨s.toArray⟩:ByteArray).extract i2 N=⟨(s.drop i2).toArray⟩:=by
  have:=zez s i2 (N-i2) zt;rw[show i2+(N-i2)=N by omega]at this;rw[this,List.take_of_length_le zαb]
 have HEX:=zH (fun W=>zhg lt (s.drop i2) W zαb);have HXP:=zH hexpo;clear hexpo;have hTw:w.heap.size<=w1.heap.size:=HGB.out.size;have HO4:Hid (OwnI w.heap.size w3 (.slice (some ⟨g,0,none⟩) L c) l):=zH ⟨HO3.out.1,fun k hk=>by have:=HO3.out.2 k hk;omega⟩;have HBw:=HB.out;clear HO3 hTw;go_wp2_with fail;refine yr (fun s' w'=>∃ x,zpz s=some x/\s' 0=.string ⟨s.toArray⟩/\s' 2=.pointer (some ⟨B,0,none⟩)/\s' 4=.int .i64 (b:Int)/\s' 8=.string ⟨f2.toArray⟩/\s' 10=.pointer (some ⟨D,0,none⟩)/\s' 12=.int .i64 (per:Int)/\Row w' B textZ/\Row w' D [.int .i64 0,.bool false,.int .i64 (b:Int),.slice (some ⟨g,0,none⟩) L c,.int .i64 x]/\OwnI w.heap.size w' (.slice (some ⟨g,0,none⟩) L c) l/\w.grownBy w' none) ?_ ?_
 ·intro R' K' HR hK';refine zb0 _ (by rw[yd,s102]) ze (fun h=>?_) (fun h=>?_)
  case refine_2=>
   have hx:=HXP.out;rw[if_neg (of_decide_eq_false h)]at hx;clear h s102;(go_wp2_with fail;repeat ((first|refine cZ ?_|refine cW ?_);go_wp2_with fail));exact got HR ⟨0,hx,zb,zb,zb,zb,zb,zb,HRB3.out,HRD.out,HO4.out,HG3.out⟩
  have hx:=HXP.out;rw[if_pos (of_decide_eq_true h)]at hx;have HX:=zH hx;clear h s102 hx;have hi2N:(i2:Int)<=(N:Int):=zd;go_wp2_with fail;refine (HEX.out _).mono ?_;rintro e w5 ⟨rfl,hg5⟩;have HRB5:=zH (HRB3.out.grown hg5 zi);have HRD5:=zH (HRD.out.grown hg5 zi);have HO5:=zH (HO4.out.grown0 hg5);have HG5:=zH (ya HG3.out hg5);clear hg5;cases hE:jc lt (s.drop i2) with
  | none=>
   have hne:zf8 s=none:=by unfold zf8;rw[HX.out,hE];split <;> rfl
   have HNE:=zH hne;clear hne hE;have k0:=HRB5.out.cell 0;have k1:=HRB5.out.cell 1;have k2:=HRB5.out.cell 2;have k3:=HRB5.out.cell 3;have k4:=HRB5.out.cell 4;have t0:=HRB5.out.frozen 0;have t1:=HRB5.out.frozen 1;have t2:=HRB5.out.frozen 2;have t3:=HRB5.out.frozen 3;have t4:=HRB5.out.frozen 4;unfold textZ at k0 k1 k2 k3 k4;simp only[List.getElem?_cons_zero,List.getElem?_cons_succ]at k0 k1 k2 k3 k4;unfold optI;simp only[Option.getD_none,Option.isSome_none];(go_wp2_with fail;repeat ((first|refine cZ ?_|refine cW ?_);go_wp2_with fail));obtain⟨ty,hrow⟩:=((((HRB5.out.setCell 0 (.int .i64 0)).setCell 1 (.bool false)).setCell 2 (.int .i64 0)).setCell 3 (.slice none 0 0)).setCell 4 (.int .i64 0);refine we (B:=B) (.agg textZ.toArray) (.bool false) rfl ze ze zb zb ?_ (zbr HNE.out ?_)
   ·exact run_loadVar_row (P:=Tryz.prog) _ B ty 72 _ (0,0) _ hrow Tryz.underlying72 rfl zg
   ·exact yb (yb (yb (yb (yb HG5.out _ (by show w.heap.size<=B;omega)) _ (by show w.heap.size<=B;omega)) _ (by show w.heap.size<=B;omega)) _ (by show w.heap.size<=B;omega)) _ (by show w.heap.size<=B;omega)
  | some x=>
   have HX2:=zH (HX.out.trans hE);clear hE;have m4:=HRD5.out.cell 4;have g4:=HRD5.out.frozen 4;simp only[List.getElem?_cons_zero,List.getElem?_cons_succ]at m4;unfold optI;simp only[Option.getD_some,Option.isSome_some];(go_wp2_with fail;repeat ((first|refine cZ ?_|refine cW ?_);go_wp2_with fail));refine got HR ⟨x,HX2.out,zb,zb,zb,zb,zb,zb,HRB5.out.setCell_other (a:=⟨D,4,none⟩) hBD _,HRD5.out.setCell 4 (.int .i64 x),HO5.out.other (a:=⟨D,4,none⟩) (by intro e;simp[Value.ownBlock]at e;exact hgD2 e) _,yb HG5.out _ hDB⟩
 clear s102 s0 s2 s4 s5 s8 s10 s11 s12 σ HXP HEX hcutE HRB3 HRD HG3 HO4;rintro σ w4 ⟨x,hx,s0,s2,s4,s8,s10,s12,hrB,hrD,ho,hg⟩;have hxb:-1000000000000000<=x/\x<=1000000000000000:=by
  unfold zpz at hx;split at hx
  ·exact zkl _ _ _ hx
  ·have:=Option.some.inj hx;omega
 have HX:=zH hx;have HRB:=zH hrB;have HRD:=zH hrD;have HO:=zH ho;have HG:=zH hg;have m4:=HRD.out.cell 4;have g4:=HRD.out.frozen 4;simp only[List.getElem?_cons_zero,List.getElem?_cons_succ]at m4;clear hx hrB hrD ho hg;obtain⟨q,hq⟩:=zX (per*cn);have hq1:q<=16000000:=by rw[<-hq];exact Nat.le_trans (Nat.mul_le_mul hp4 hcl) ze
 have hqi:(per:Int)*(cn:Int)=(q:Int):=by rw[<-hq];exact (Int.natCast_mul per cn).symm
 have HQ:=zH hq;clear hq;go_upto_region 29 with fail;refine yr (fun s' w'=>s' 2=.pointer (some ⟨B,0,none⟩)/\s' 10=.pointer (some ⟨D,0,none⟩)/\Row w' B textZ/\Row w' D [.int .i64 0,.bool false,.int .i64 (b:Int),.slice (some ⟨g,0,none⟩) L c,.int .i64 (x-(q:Int))]/\OwnI w.heap.size w' (.slice (some ⟨g,0,none⟩) L c) l/\w.grownBy w' none) ?_ ?_
 ·intro R' K' HR hK';have hw1:IntKind.i64.wrap (q:Int)=(q:Int):=vt q zd;have hw2:IntKind.i64.wrap (x-(q:Int))=x-(q:Int):=zk;refine wp_region_noPanic ?_;refine wp_region_held_drew (S:=fun _=>True) zg trivial (fun hHeld=>?_);(refine yg 0 116 ?_;refine yg 2 118 ?_;refine yg 3 119 ?_;refine yg 4 120 ?_);(refine ztg 1 5 (oi:=?_) (oj:=?_) ?_ ?_ zg ?_ ?_ ?_ ?_;rotate_left 2;(focus ((simp only[List.getElem?_toArray,List.getElem?_cons_succ,List.getElem?_cons_zero]);rfl));(focus ((simp only[List.getElem?_toArray,List.getElem?_cons_succ,List.getElem?_cons_zero]);rfl));(focus (first | rfl | go_simp));(focus (first | rfl | go_simp)))
  ·(intro K hK;go_simp;(skip);go_wp2_with fail;replace hHeld:=trivial;refine hK.out _ _ hHeld ?_;clear hK K);(refine zO 5 ?_;intro K hK;go_simp;(refine (HCO.out _).mono ?_;rintro e w9 ⟨rfl,rfl⟩);go_wp2_with fail;replace hHeld:=trivial;refine hK.out _ _ hHeld ?_;clear hK K);(refine yg 6 122 ?_;refine yg 7 123 ?_;refine yg 8 124 ?_);(refine zO 9 ?_;intro K hK;go_simp;(skip);go_wp2_with fail;replace hHeld:=trivial;refine hK.out _ _ hHeld ?_;clear hK K);refine wpAnyH_done zg ?_ _;refine NoPanic.normal ?_;exact hK' _ _ _ (got HR ⟨zb,zb,(HRB.out.setCell_other (a:=⟨D,4,none⟩) hBD _).drew,(HRD.out.setCell 4 (.int .i64 (x-(q:Int)))).drew,(HO.out.other (a:=⟨D,4,none⟩) (by intro e;simp[Value.ownBlock]at e;exact hgD2 e) _).drew,ya (yb HG.out _ hDB) (yh _ 1 none)⟩)
  ·(intro K hK;go_simp;(refine (HCO.out _).mono ?_;rintro e w9 ⟨rfl,rfl⟩);go_wp2_with fail;replace hHeld:=trivial;refine hK.out _ _ hHeld ?_;clear hK K);(refine yg 6 122 ?_);(refine zO 1 ?_;intro K hK;go_simp;(skip);go_wp2_with fail;replace hHeld:=trivial;refine hK.out _ _ hHeld ?_;clear hK K);(refine yg 7 123 ?_;refine yg 8 124 ?_);(refine zO 9 ?_;intro K hK;go_simp;(skip);go_wp2_with fail;replace hHeld:=trivial;refine hK.out _ _ hHeld ?_;clear hK K);refine wpAnyH_done zg ?_ _;refine NoPanic.normal ?_;exact hK' _ _ _ (got HR ⟨zb,zb,(HRB.out.setCell_other (a:=⟨D,4,none⟩) hBD _).drew,(HRD.out.setCell 4 (.int .i64 (x-(q:Int)))).drew,(HO.out.other (a:=⟨D,4,none⟩) (by intro e;simp[Value.ownBlock]at e;exact hgD2 e) _).drew,ya (yb HG.out _ hDB) (yh _ 1 none)⟩)
 clear s0 s2 s4 s8 s10 s12 σ m4 g4 HRB HRD HO HG;rintro σ w5 ⟨s2,s10,hrB,hrD,ho,hg⟩;have hnum:zf8 s=some (x-(q:Int)):=by
  unfold zf8;rw[EF1.out,EF2.out,if_neg HEM.out,HX.out,EB.out,HPER.out,HCN.out,HQ.out];rfl
 have hdig:nDigits s=l:=by unfold nDigits;rw[EF1.out,EF2.out,EB.out,HFF.out,HLD.out]
 have HNUM:=zH hnum;have HDIG:=zH hdig;have HRB:=zH hrB;have HRD:=zH hrD;have HO:=zH ho;have HG:=zH hg;have k0:=HRB.out.cell 0;have k1:=HRB.out.cell 1;have k2:=HRB.out.cell 2;have k3:=HRB.out.cell 3;have k4:=HRB.out.cell 4;have t0:=HRB.out.frozen 0;have t1:=HRB.out.frozen 1;have t2:=HRB.out.frozen 2;have t3:=HRB.out.frozen 3;have t4:=HRB.out.frozen 4;have m0:=HRD.out.cell 0;have m1:=HRD.out.cell 1;have m2:=HRD.out.cell 2;have m3:=HRD.out.cell 3;have m4:=HRD.out.cell 4;unfold textZ at k0 k1 k2 k3 k4;simp only[List.getElem?_cons_zero,List.getElem?_cons_succ]at k0 k1 k2 k3 k4 m0 m1 m2 m3 m4;clear hnum hdig hrB hrD ho hg;obtain⟨y,hy⟩:=zX (x-(q:Int));rw[hy]at HNUM m4;clear hy HX HRD HCO HCN HQ hqi hxb;(go_wp2_with fail;repeat ((first|refine cZ ?_|refine cW ?_);go_wp2_with fail));obtain⟨ty,hrow⟩:=((((HRB.out.setCell 0 (.int .i64 0)).setCell 1 (.bool false)).setCell 2 (.int .i64 (b:Int))).setCell 3 (.slice (some ⟨g,0,none⟩) L c)).setCell 4 (.int .i64 y);refine we (B:=B) (.agg #[.int .i64 0,.bool false,.int .i64 (b:Int),.slice (some ⟨g,0,none⟩) L c,.int .i64 y]) (.bool true) rfl ze ze zb zb ?_ ?_
 ·exact run_loadVar_row (P:=Tryz.prog) _ B ty 72 _ (0,0) _ hrow Tryz.underlying72 rfl zg
 ·have hne:∀ k:Nat,(Value.slice (some ⟨g,0,none⟩) L c).ownBlock≠some (⟨B,k,none⟩:Addr).block:=by intro k e;simp[Value.ownBlock]at e;exact hgB e
  have:=zg3 (w:=w) HNUM.out (yb (yb (yb (yb (yb HG.out (a:=⟨B,0,none⟩) (.int .i64 0) (by show w.heap.size<=B;omega)) (a:=⟨B,1,none⟩) (.bool false) (by show w.heap.size<=B;omega)) (a:=⟨B,2,none⟩) (.int .i64 (b:Int)) (by show w.heap.size<=B;omega)) (a:=⟨B,3,none⟩) (.slice (some ⟨g,0,none⟩) L c) (by show w.heap.size<=B;omega)) (a:=⟨B,4,none⟩) (.int .i64 y) (by show w.heap.size<=B;omega))
   (v:=.slice (some ⟨g,0,none⟩) L c) (by rw[HDIG.out];exact ((((HO.out.other (hne 0) _).other (hne 1) _).other (hne 2) _).other (hne 3) _).other (hne 4) _)
  rw[EB.out]at this;exact this
end
section
attribute [local go_sem] undef
def RdN (T:Nat) (w:World) (v:Value) (xs:List Nat):Prop:=RdI w v xs/\∀ k,v.ownBlock=some k->T<=k
theorem RdI.setc {w:World} {v:Value} {xs:List Nat} (h:RdI w v xs) (a:Addr) (u:Value) (hne:∀ k,v.ownBlock=some k->k≠a.block):RdI (w.setCell a u) v xs:=by
 rcases h with h | ⟨g,c,rfl,h2,h3,h4⟩
 ·exact Or.inl h
 ·refine Or.inr ⟨g,c,rfl,h2,h3,fun j u' hu=>?_⟩;rw[World.cell?_of_block (Below.heap_setCell w a u g (hne g rfl))];exact h4 j u' hu
theorem RdN.grown {T:Nat} {w w':World} {v:Value} {xs:List Nat} (h:RdN T w v xs) (hg:w.grownBy w' none):RdN T w' v xs:=⟨h.1.grown hg,h.2⟩
theorem RdN.nil (T:Nat) (w:World):RdN T w (.slice none 0 0) []:=⟨Or.inl ⟨rfl,rfl⟩,fun k hk=>by cases hk⟩
theorem RdN.of_own {T:Nat} {w:World} {v:Value} {xs:List Nat} (h:OwnI T w v xs):RdN T w v xs:=⟨RdI.of_own h,h.2⟩
def zat (s:List UInt8) (w:World) (e:Ending) (w':World):Prop:=w.grownBy w' none/\
 match ul s with
 | none=>e=.returned (.tuple #[.agg textZ.toArray,.bool false])
 | some r=>∃ v,e=.returned (.tuple #[.agg #[.int .i64 r.kind,.bool r.neg,.int .i64 (r.base:Int),v,.int .i64 r.exp],.bool true])/\RdN w.heap.size w' v r.digits
theorem ze8 {s:List UInt8} {w w':World} (h:ul s=none) (hg:w.grownBy w' none):zat s w (.returned (.tuple #[.agg textZ.toArray,.bool false])) w':=by
 unfold zat;rw[h];exact⟨hg,rfl⟩
theorem kc {s:List UInt8} {w w':World} {r:Txt} {v:Value} (h:ul s=some r) (hg:w.grownBy w' none) (hr:RdN w.heap.size w' v r.digits):zat s w (.returned (.tuple #[.agg #[.int .i64 r.kind,.bool r.neg,.int .i64 (r.base:Int),v,.int .i64 r.exp],.bool true])) w':=by
 unfold zat;rw[h];exact⟨hg,v,rfl,hr⟩
theorem jm {w w1:World} (h:w.grownBy w1 none) {B:Nat} (hB:w.heap.size<=B) (u0 u1 u2 u3 u4:Value):
  w.grownBy (((((w1.setCell ⟨B,0,none⟩ u0).setCell ⟨B,1,none⟩ u1).setCell ⟨B,2,none⟩ u2).setCell ⟨B,3,none⟩ u3).setCell ⟨B,4,none⟩ u4) none:=
 yb (yb (yb (yb (yb h _ hB) _ hB) _ hB) _ hB) _ hB
set_option maxRecDepth 100000 in
theorem zbo (s:List UInt8) (w:World) (hs:s.length<=2000000):
  Calls Tryz.prog 38 #[.string ⟨s.toArray⟩] w (zat s w):=by
 have HLO:=zH (fun W=>zc8 s W zd);have HNU:=zH (fun (u:List UInt8) (hu:u.length<=2000000) W=>zlk u W hu);have hTl:(xf s).length<=2000000:=by unfold xf;rw[List.length_map];exact hs
 have hrd:ul s=if xf s=[110,97,110] then some ⟨2,false,0,[],0⟩ else zna (sgL (xf s)).1 (sgL (xf s)).2:=rfl
 obtain⟨T,hT⟩:=zX (xf s);rw[hT]at HLO hTl hrd;have HRDL:=zH hrd;clear hT hrd hs;refine ye Tryz.func38 rfl (by rw[Tryz.ntmps38];simp) ?_;intro σ hσ;rw[Tryz.ntmps38];have s0:σ 0=.string ⟨s.toArray⟩:=hσ 0 zi;clear hσ;obtain⟨w1,hw1⟩:=zX (w.alloc (.cells textZ.toArray 72));have hrB:=Row.new w textZ 72;have hgB:=World.grownBy_alloc w (.cells textZ.toArray 72) none;rw[hw1]at hrB hgB;unfold textZ at hw1;have HRB:=zH hrB;have HGB:=zH hgB;clear hrB hgB;obtain⟨B,hB⟩:=zX w.heap.size;go_wp2_with fail;clear hw1;rw[hB]at HRB;have HB:=zH hB;clear hB;refine (HLO.out _).mono ?_;rintro e w2 ⟨rfl,hg2⟩;have HRB2:=zH (HRB.out.grown hg2 zi);have HG2:=zH (ya HGB.out hg2);have hBlt:B<w2.heap.size:=HRB2.out.lt;clear hg2 HRB HGB HLO;have hBw:w.heap.size<=B:=by have:=HB.out;omega
 by_cases hnan:T=[110,97,110]
 ·subst hnan;have hr:=HRDL.out;rw[if_pos rfl]at hr;have HR:=zH hr;have k0:=HRB2.out.cell 0;have k1:=HRB2.out.cell 1;have k2:=HRB2.out.cell 2;have k3:=HRB2.out.cell 3;have k4:=HRB2.out.cell 4;have t0:=HRB2.out.frozen 0;have t1:=HRB2.out.frozen 1;have t2:=HRB2.out.frozen 2;have t3:=HRB2.out.frozen 3;have t4:=HRB2.out.frozen 4;unfold textZ at k0 k1 k2 k3 k4;simp only[List.getElem?_cons_zero,List.getElem?_cons_succ]at k0 k1 k2 k3 k4;clear hr;(go_wp2_with fail;repeat ((first|refine cZ ?_|refine cW ?_);go_wp2_with fail));obtain⟨ty,hrow⟩:=((((HRB2.out.setCell 0 (.int .i64 2)).setCell 1 (.bool false)).setCell 2 (.int .i64 0)).setCell 3 (.slice none 0 0)).setCell 4 (.int .i64 0);refine we (B:=B) (.agg #[.int .i64 2,.bool false,.int .i64 0,.slice none 0 0,.int .i64 0]) (.bool true) rfl ze ze zb zb ?_ (kc HR.out (jm HG2.out hBw _ _ _ _ _) (RdN.nil _ _));exact run_loadVar_row (P:=Tryz.prog) _ B ty 72 _ (0,0) _ hrow Tryz.underlying72 rfl zg
 have hr:=HRDL.out;rw[if_neg hnan]at hr;have hnan':(T==[110,97,110])=false:=by rw[beq_eq_false_iff_ne];exact hnan
 obtain⟨neg,u,hsg⟩:∃ neg u,sgL T=(neg,u):=⟨_,_,rfl⟩;rw[hsg]at hr;have hul:u.length<=2000000:=by
  cases T with
  | nil=>simp only[sgL]at hsg;cases hsg;simp
  | cons c r=>
   simp only[sgL]at hsg;rw[List.length_cons]at hTl;split at hsg
   ·cases hsg;omega
   ·split at hsg
    ·cases hsg;omega
    ·cases hsg;rw[List.length_cons];omega
 have HR:=zH hr;have HSG:=zH hsg;clear hr hsg HRDL hnan;go_wp2_with fail;refine kj zb ze ?_;go_upto_region 5 with fail;refine yr (fun s' w'=>s' 24=.bool (sgS T)/\s' 2=.pointer (some ⟨B,0,none⟩)/\s' 4=.string ⟨T.toArray⟩/\s' 5=.bool false/\w2=w') ?_ ?_
 ·intro R' K' HR hK';cases T with
  | nil=>
   have hb:sgS []=false:=rfl;rw[hb]at HR;clear hb hnan';(go_wp2_with fail;repeat ((first|refine cZ ?_|refine cW ?_);go_wp2_with fail));exact got HR ⟨zb,zb,zb,zb,rfl⟩
  | cons c r=>
   have hidx0:=xu (c::r) 0 zi;have hg0:(c::r).getD 0 0=c:=rfl;rw[hg0]at hidx0;have hsz:(⟨(c::r).toArray⟩:ByteArray).size=r.length+1:=zm;clear hg0 hnan';by_cases h1:c=43
   ·subst h1;have hb:sgS (43::r)=true:=rfl;rw[hb]at HR;clear hb;(go_wp2_with fail;repeat ((first|refine cZ ?_|refine cW ?_);go_wp2_with fail));exact got HR ⟨zb,zb,zb,zb,rfl⟩
   ·by_cases h2:c=45
    ·subst h2;have hb:sgS (45::r)=true:=rfl;rw[hb]at HR;clear hb h1;(go_wp2_with fail;repeat ((first|refine cZ ?_|refine cW ?_);go_wp2_with fail));exact got HR ⟨zb,zb,zb,zb,rfl⟩
    ·have hb:sgS (c::r)=false:=by simp[sgS,h1,h2]
     rw[hb]at HR;have p2:((c.toNat:Int)==43)=false:=by rw[beq_eq_false_iff_ne];intro e;exact h1 (UInt8.toNat_inj.1 (show c.toNat=43 by omega))
     have p3:(c.toNat==43)=false:=by rw[beq_eq_false_iff_ne];intro e;exact h1 (UInt8.toNat_inj.1 e)
     have q2:((c.toNat:Int)==45)=false:=by rw[beq_eq_false_iff_ne];intro e;exact h2 (UInt8.toNat_inj.1 (show c.toNat=45 by omega))
     have q3:(c.toNat==45)=false:=by rw[beq_eq_false_iff_ne];intro e;exact h2 (UInt8.toNat_inj.1 e)
     clear hb h1 h2;(go_wp2_with fail;repeat ((first|refine cZ ?_|refine cW ?_);go_wp2_with fail));exact got HR ⟨zb,zb,zb,zb,rfl⟩
 clear s0 σ hnan';rintro σ w' ⟨s24,s2,s4,s5,rfl⟩;go_wp2_with fail;refine yr (fun s' w'=>s' 2=.pointer (some ⟨B,0,none⟩)/\s' 4=.string ⟨u.toArray⟩/\s' 5=.bool neg/\w2=w') ?_ ?_
 ·intro R' K' HR hK';refine zb0 _ (by rw[yd,s24]) ze (fun h=>?_) (fun h=>?_)
  case refine_2=>
   have hu:neg=false/\u=T:=by
    have:=HSG.out;cases T with
    | nil=>simp only[sgL]at this;cases this;exact⟨rfl,rfl⟩
    | cons c r=>
     simp only[sgS,Bool.or_eq_false_iff,beq_eq_false_iff_ne]at h;simp only[sgL,if_neg h.1,if_neg h.2]at this;cases this;exact⟨rfl,rfl⟩
   obtain⟨rfl,rfl⟩:=hu;clear s24 h;(go_wp2_with fail;repeat ((first|refine cZ ?_|refine cW ?_);go_wp2_with fail));exact got HR ⟨zb,zb,zb,rfl⟩
  cases T with
  | nil=>simp[sgS]at h
  | cons c r=>
   have hsg:=HSG.out;have hidx0:=xu (c::r) 0 zi;have hg0:(c::r).getD 0 0=c:=rfl;rw[hg0]at hidx0;have hsz:(⟨(c::r).toArray⟩:ByteArray).size=r.length+1:=zm;have hcut:(⟨(c::r).toArray⟩:ByteArray).extract 1 (r.length+1)=⟨r.toArray⟩:=by
    have:=zez (c::r) 1 r.length zh;rw[Nat.add_comm 1]at this;rw[this];simp
   have hrl:r.length+1<=2000000:=by simpa using hTl
   simp only[sgS,Bool.or_eq_true,beq_iff_eq]at h;generalize r.length=rl at *
   rcases h with rfl | rfl
   ·have h9:sgL (43::r)=(false,r):=by simp[sgL]
    rw[h9]at hsg;cases hsg;clear h9;clear s24 hg0;(go_wp2_with fail;repeat ((first|refine cZ ?_|refine cW ?_);go_wp2_with fail));exact got HR ⟨zb,zb,zj,rfl⟩
   ·have h9:sgL (45::r)=(true,r):=by simp[sgL]
    rw[h9]at hsg;cases hsg;clear h9;clear s24 hg0;(go_wp2_with fail;repeat ((first|refine cZ ?_|refine cW ?_);go_wp2_with fail));exact got HR ⟨zb,zb,zj,rfl⟩
 clear s24 s2 s4 s5 σ HSG hTl T;rintro σ w' ⟨s2,s4,s5,rfl⟩;have hrU:zna neg u=if u=[105,110,102]\/u=[105,110,102,105,110,105,116,121] then some ⟨1,neg,0,[],0⟩ else (zf8 u).map (fun x=>⟨0,neg,wb u,nDigits u,x⟩):=rfl
 have k0:=HRB2.out.cell 0;have k1:=HRB2.out.cell 1;have k2:=HRB2.out.cell 2;have k3:=HRB2.out.cell 3;have k4:=HRB2.out.cell 4;have t0:=HRB2.out.frozen 0;have t1:=HRB2.out.frozen 1;have t2:=HRB2.out.frozen 2;have t3:=HRB2.out.frozen 3;have t4:=HRB2.out.frozen 4;unfold textZ at k0 k1 k2 k3 k4;simp only[List.getElem?_cons_zero,List.getElem?_cons_succ]at k0 k1 k2 k3 k4;by_cases hinf:u=[105,110,102]\/u=[105,110,102,105,110,105,116,121]
 ·rw[if_pos hinf]at hrU;have HRR:=zH (HR.out.trans hrU);clear hrU;rcases hinf with rfl | rfl;all_goals
   (go_wp2_with fail;repeat ((first|refine cZ ?_|refine cW ?_);go_wp2_with fail));obtain⟨ty,hrow⟩:=((((HRB2.out.setCell 0 (.int .i64 1)).setCell 1 (.bool neg)).setCell 2 (.int .i64 0)).setCell 3 (.slice none 0 0)).setCell 4 (.int .i64 0);refine we (B:=B) (.agg #[.int .i64 1,.bool neg,.int .i64 0,.slice none 0 0,.int .i64 0]) (.bool true) rfl ze ze zb zb ?_ (kc HRR.out (jm HG2.out hBw _ _ _ _ _) (RdN.nil _ _));exact run_loadVar_row (P:=Tryz.prog) _ B ty 72 _ (0,0) _ hrow Tryz.underlying72 rfl zg
 rw[if_neg hinf]at hrU;have HRR:=zH (HR.out.trans hrU);have hi1:(u==[105,110,102])=false:=by rw[beq_eq_false_iff_ne];exact fun h=>hinf (Or.inl h)
 have hi2:(u==[105,110,102,105,110,105,116,121])=false:=by rw[beq_eq_false_iff_ne];exact fun h=>hinf (Or.inr h)
 have HNB:=zH (HNU.out u hul);clear hrU hinf HNU k0 k1 k2 k3 k4 t0 t1 t2 t3 t4;(go_wp2_with fail;repeat ((first|refine cZ ?_|refine cW ?_);go_wp2_with fail));refine (HNB.out _).mono ?_;rintro e w3 ⟨hg3,hnp⟩;have HRB3:=zH (HRB2.out.grown hg3 zi);have HG3:=zH (ya HG2.out hg3);have hBlt3:B<w3.heap.size:=HRB3.out.lt;obtain⟨D,hD⟩:=zX w3.heap.size;have hDw:w.heap.size<=D:=zd;cases hnE:zf8 u with
 | none=>
  rw[hnE]at hnp;dsimp only at hnp;have hno:ul s=none:=by rw[HRR.out,hnE];rfl
  have HNO:=zH hno;subst hnp;obtain⟨w4,hw4⟩:=zX (w3.alloc (.cells #[.int .i64 0,.bool false,.int .i64 0,.slice none 0 0,.int .i64 0] 72));have hgD:=World.grownBy_alloc w3 (.cells #[.int .i64 0,.bool false,.int .i64 0,.slice none 0 0,.int .i64 0] 72) none;have hrB4:=HRB3.out.grown hgD zi;have hrD:Row (w3.alloc (.cells #[.int .i64 0,.bool false,.int .i64 0,.slice none 0 0,.int .i64 0] 72)) D textZ:=by rw[<-hD];exact Row.new w3 textZ _
  rw[hw4]at hgD hrB4 hrD;have HW4:=zH hw4;have HRB4:=zH hrB4;have HG4:=zH (ya HG3.out hgD);have HRD:=zH hrD;have HDD:=zH hD;have hBD:¬(B=D):=zd;clear hno hnE hw4 hgD hrB4 hrD hD;unfold textZ;go_upto_region 11 with fail;rw[HW4.out,HDD.out];have m1:=HRD.out.cell 1;have f1:=HRD.out.frozen 1;unfold textZ at m1;simp only[List.getElem?_cons_zero,List.getElem?_cons_succ]at m1;have HRB5:=zH (HRB4.out.setCell_other (a:=⟨D,1,none⟩) hBD (.bool neg));have k0:=HRB5.out.cell 0;have k1:=HRB5.out.cell 1;have k2:=HRB5.out.cell 2;have k3:=HRB5.out.cell 3;have k4:=HRB5.out.cell 4;have t0:=HRB5.out.frozen 0;have t1:=HRB5.out.frozen 1;have t2:=HRB5.out.frozen 2;have t3:=HRB5.out.frozen 3;have t4:=HRB5.out.frozen 4;unfold textZ at k0 k1 k2 k3 k4;simp only[List.getElem?_cons_zero,List.getElem?_cons_succ]at k0 k1 k2 k3 k4;obtain⟨w5,hw5⟩:=zX (w4.setCell ⟨D,1,none⟩ (.bool neg));go_upto_region 12 with fail;rw[hw5]at HRB5 k0 k1 k2 k3 k4 t0 t1 t2 t3 t4;have HG5:=zH (yb HG4.out (a:=⟨D,1,none⟩) (.bool neg) (by show w.heap.size<=D;omega));rw[hw5]at HG5;clear hw5 m1 f1;(go_wp2_with fail;repeat ((first|refine cZ ?_|refine cW ?_);go_wp2_with fail));obtain⟨ty,hrow⟩:=((((HRB5.out.setCell 0 (.int .i64 0)).setCell 1 (.bool false)).setCell 2 (.int .i64 0)).setCell 3 (.slice none 0 0)).setCell 4 (.int .i64 0);refine we (B:=B) (.agg textZ.toArray) (.bool false) rfl ze ze zb zb ?_ (ze8 HNO.out (jm HG5.out hBw _ _ _ _ _));exact run_loadVar_row (P:=Tryz.prog) _ B ty 72 _ (0,0) _ hrow Tryz.underlying72 rfl zg
 | some x=>
  rw[hnE]at hnp;dsimp only at hnp;obtain⟨v,rfl,hov⟩:=hnp;obtain⟨g,c,hv,hg4,hg5,hg6,hg7⟩:=hov.block;have hyes:ul s=some ⟨0,neg,wb u,nDigits u,x⟩:=by rw[HRR.out,hnE];rfl
  have HYES:=zH hyes;obtain⟨L,hL⟩:=zX ((nDigits u).length);rw[hL]at hv;subst hv;have hrdn:RdN w2.heap.size w3 (.slice (some ⟨g,0,none⟩) L c) (nDigits u):=RdN.of_own hov;obtain⟨b,hb⟩:=zX (wb u);simp only[hb];obtain⟨w4,hw4⟩:=zX (w3.alloc (.cells #[.int .i64 0,.bool false,.int .i64 (b:Int),.slice (some ⟨g,0,none⟩) L c,.int .i64 x] 72));have hgD:=World.grownBy_alloc w3 (.cells #[.int .i64 0,.bool false,.int .i64 (b:Int),.slice (some ⟨g,0,none⟩) L c,.int .i64 x] 72) none;have hrB4:=HRB3.out.grown hgD zi;have hrD:Row (w3.alloc (.cells #[.int .i64 0,.bool false,.int .i64 (b:Int),.slice (some ⟨g,0,none⟩) L c,.int .i64 x] 72)) D [.int .i64 0,.bool false,.int .i64 (b:Int),.slice (some ⟨g,0,none⟩) L c,.int .i64 x]:=by rw[<-hD];exact Row.new w3 _ _
  rw[hw4]at hgD hrB4 hrD;have HW4:=zH hw4;have HRB4:=zH hrB4;have HG4:=zH (ya HG3.out hgD);have HRD:=zH hrD;have HDD:=zH hD;have HRN:=zH (hrdn.grown hgD);have HBB:=zH hb;have hBD:¬(B=D):=zd;have hgD2:g≠D:=zd;have hgB2:g≠B:=zd;clear hyes hnE hw4 hgD hrB4 hrD hD hrdn hov hL hb;go_upto_region 11 with fail;rw[HW4.out,HDD.out];have m1:=HRD.out.cell 1;have f1:=HRD.out.frozen 1;simp only[List.getElem?_cons_zero,List.getElem?_cons_succ]at m1;obtain⟨w5,hw5⟩:=zX (w4.setCell ⟨D,1,none⟩ (.bool neg));have HRB5:=zH (HRB4.out.setCell_other (a:=⟨D,1,none⟩) hBD (.bool neg));have HRD5:=zH (HRD.out.setCell 1 (.bool neg));have HG5:=zH (yb HG4.out (a:=⟨D,1,none⟩) (.bool neg) (by show w.heap.size<=D;omega));have HRN5:Hid (RdI (w4.setCell ⟨D,1,none⟩ (.bool neg)) (.slice (some ⟨g,0,none⟩) L c) (nDigits u)):=zH (HRN.out.1.setc _ _ (fun k hk=>by simp[Value.ownBlock]at hk;show k≠D;omega));rw[hw5]at HRB5 HRD5 HG5 HRN5;go_upto_region 12 with fail;clear hw5 m1 f1;have k0:=HRB5.out.cell 0;have k1:=HRB5.out.cell 1;have k2:=HRB5.out.cell 2;have k3:=HRB5.out.cell 3;have k4:=HRB5.out.cell 4;have t0:=HRB5.out.frozen 0;have t1:=HRB5.out.frozen 1;have t2:=HRB5.out.frozen 2;have t3:=HRB5.out.frozen 3;have t4:=HRB5.out.frozen 4;have m0:=HRD5.out.cell 0;have m1:=HRD5.out.cell 1;have m2:=HRD5.out.cell 2;have m3:=HRD5.out.cell 3;have m4:=HRD5.out.cell 4;unfold textZ at k0 k1 k2 k3 k4;simp only[List.getElem?_cons_zero,List.getElem?_cons_succ,List.set_cons_zero,List.set_cons_succ]at k0 k1 k2 k3 k4 m0 m1 m2 m3 m4;(go_wp2_with fail;repeat ((first|refine cZ ?_|refine cW ?_);go_wp2_with fail));obtain⟨ty,hrow⟩:=((((HRB5.out.setCell 0 (.int .i64 0)).setCell 1 (.bool neg)).setCell 2 (.int .i64 (b:Int))).setCell 3 (.slice (some ⟨g,0,none⟩) L c)).setCell 4 (.int .i64 x);have hne:∀ (k:Nat),∀ j,(Value.slice (some ⟨g,0,none⟩) L c).ownBlock=some j->j≠(⟨B,k,none⟩:Addr).block:=fun k j hj=>by simp[Value.ownBlock]at hj;show j≠B;omega
  refine we (B:=B) (.agg #[.int .i64 0,.bool neg,.int .i64 (b:Int),.slice (some ⟨g,0,none⟩) L c,.int .i64 x]) (.bool true) rfl ze ze zb zb ?_ ?_
  ·exact run_loadVar_row (P:=Tryz.prog) _ B ty 72 _ (0,0) _ hrow Tryz.underlying72 rfl zg
  ·have hps:=kc HYES.out (jm HG5.out hBw (.int .i64 0) (.bool neg) (.int .i64 (b:Int)) (.slice (some ⟨g,0,none⟩) L c) (.int .i64 x)) (v:=.slice (some ⟨g,0,none⟩) L c)
    ⟨((((HRN5.out.setc _ _ (hne 0)).setc _ _ (hne 1)).setc _ _ (hne 2)).setc _ _ (hne 3)).setc _ _ (hne 4),fun k hk=>by have:=HRN.out.2 k hk;omega⟩
   simp only[HBB.out]at hps;exact hps
end
section
attribute [local go_sem] undef
def jy (b:Nat) (l:List Nat):Nat:=l.foldl (fun n d=>n*b+d) 0
theorem zmm (b:Nat) (l:List Nat) (i:Nat) (h:i<l.length):jy b (l.take (i+1))=jy b (l.take i)*b+l.getD i 0:=by
 unfold jy;rw[zgj l i h,List.foldl_append];rfl
theorem zmn (b:Nat) (hb:0<b) (l:List Nat) (h:∀ d ∈ l,d<b):jy b l<b^l.length:=by
 have key:∀ (l:List Nat) (n k:Nat),(∀ d ∈ l,d<b)->n<b^k->l.foldl (fun n d=>n*b+d) n<b^(k+l.length):=by
  intro l;induction l with
  | nil=>intro n k _ h;exact h
  | cons d r ih=>
   intro n k hd hn;rw[List.foldl_cons,List.length_cons,show k+(r.length+1)=(k+1)+r.length by omega];refine ih _ _ (fun x hx=>hd x (by simp[hx])) ?_;rw[Nat.pow_succ];have h1:=hd d zi;have h2:(n+1)*b<=b^k*b:=Nat.mul_le_mul_right _ hn;rw[Nat.add_mul]at h2;omega
 have:=key l 0 0 h zi;simpa[jy]using this
theorem zjh (b:Nat) (hb:b<=16) (hb0:0<b) (l:List Nat) (h:∀ d ∈ l,d<b) (k:Nat) (hk:l.length<=7*k):(yf (jy b l)).length<=k:=by
 refine yv ?_;refine Nat.lt_of_lt_of_le (zmn b hb0 l h) ?_;have h1:b^l.length<=16^l.length:=Nat.pow_le_pow_left hb _;have h2:16^l.length<=16^(7*k):=Nat.pow_le_pow_right zd hk;refine Nat.le_trans h1 (Nat.le_trans h2 ?_);rw[Nat.pow_mul];exact Nat.pow_le_pow_left ze _
set_option maxRecDepth 100000 in
theorem zfw (b:Nat) (hb:b=10\/b=16) (v:Value) (l:List Nat) (w:World) (hr:RdI w v l) (hd:∀ d ∈ l,d<b) (hl:l.length<=1200000):
  Calls Tryz.prog 60 #[v,.int .i64 (b:Int)] w fun e w'=>∃ v',e=.returned v'/\NatV w' v' (jy b l)/\w.grownBy w' none:=by
 have hlen:∀ i,(yf (jy b (l.take i))).length<=180000:=fun i=>zjh b zd zd _ (fun d hd'=>hd d (List.mem_of_mem_take hd')) _ zN
 have HLN:=zH hlen;have HB:=zH (fun W=>ww b W zd);have hnb:(yf b).length<=1000000:=Nat.le_trans (yv (k:=1) zd) zd;have HMU:=zH (fun i v1 v2 W h1 h2=>vc v1 v2 (jy b (l.take i)) b W h1 h2 (by have:=hlen i;omega) hnb);have hml:∀ i,(yf (jy b (l.take i)*b)).length<=1000000:=fun i=>by
  have h1:=hlen i;have h2:jy b (l.take i)*b<1073741824^((yf (jy b (l.take i))).length+1):=by
   rw[Nat.pow_succ];exact Nat.mul_lt_mul_of_lt_of_le (wu _) zd zd
  have:=yv h2;omega
 have HAD:=zH (fun i x (hx:x<16) v1 v2 W h1 h2=>zbe v1 v2 (jy b (l.take i)*b) x W h1 h2 (hml i) (Nat.le_trans (yv (k:=1) zd) zd));obtain⟨a,c,rfl⟩:=hr.len;obtain⟨N,hN⟩:=zX l.length;simp only[hN]at hr ⊢;rw[hN]at hl;have HN:=zH hN;have HR:=zH hr;have HD:=zH hd;clear hr hN hnb hml hd hlen;refine ye Tryz.func60 rfl (by rw[Tryz.ntmps60];simp) ?_;intro σ hσ;rw[Tryz.ntmps60];have s0:σ 0=.slice a N c:=hσ 0 zi;have s1:σ 1=.int .i64 (b:Int):=hσ 1 zi;clear hσ;have HO0:Hid (NatV (w.alloc (.cells #[] 3)) (.slice (some ⟨w.heap.size,0,none⟩) 0 0) 0):=zH (by
  have:=RdI.of_own (OwnI.fresh0 (T:=w.heap.size) (w:=w) (Nat.le_refl _) 3);unfold NatV;rw[xm];exact this)
 have HG0:=zH (World.grownBy_alloc w (.cells #[] 3) none);(go_wp2_with fail;repeat ((first|refine cZ ?_|refine cW ?_);go_wp2_with fail));refine xx (fun kk s' w'=>∃ (i:Nat) (vo:Value),i<=N/\kk=N-i/\s' 1=.int .i64 (b:Int)/\s' 5=vo/\s' 9=.slice a N c/\s' 10=.int .i64 (N:Int)/\s' 11=.int .i64 (i:Int)/\NatV w' vo (jy b (l.take i))/\w.grownBy w' none) N
  ⟨0,.slice (some ⟨w.heap.size,0,none⟩) 0 0,Nat.zero_le _,rfl,zb,zb,zb,zb,zb,HO0.out,HG0.out⟩ ?_
 clear s0 s1 σ HO0 HG0;rintro kk σ wk ⟨i,vo,hi,hkk,s1,s5,s9,s10,s11,hv,hg⟩ RK KK HRK hKK;have HKK:=zH hkk;have HV:=zH hv;have HG:=zH hg;clear hkk hv hg;by_cases hiN:i=N
 ·subst hiN;have hall:l.take i=l:=List.take_of_length_le zR;rw[hall]at HV;clear hall;(go_wp2_with fail;repeat ((first|refine cZ ?_|refine cW ?_);go_wp2_with fail));exact yl vo rfl ze zb ⟨vo,rfl,HV.out,HG.out⟩
 ·have hlt:i<N:=zd;have hlt':(i:Int)<(N:Int):=zd;have hil:i<l.length:=by rw[HN.out];exact hlt
  obtain⟨x,hx⟩:=zX (l.getD i 0);have hx?:l[i]?=some x:=by rw[<-hx,List.getD_eq_getElem?_getD,List.getElem?_eq_getElem hil];rfl
  have hx16:x<16:=by have:=HD.out x (List.mem_of_getElem? hx?);omega
  obtain⟨g,rfl,hz1,hz2,hz3,hcells⟩:=(HR.out.grown HG.out).at (by intro h;rw[h]at hil;simp at hil);have hc:=hcells i x hx?;unfold qd at hc;have hsn:=zmm b l i hil;rw[hx]at hsn;have HSN:=zH hsn;have HX:=zH (fun W=>ww x W zd);clear hz1 hz2 hz3 hcells hx? hx hil hsn;(go_wp2_with fail;repeat ((first|refine cZ ?_|refine cW ?_);go_wp2_with fail));refine (HB.out _).mono ?_;rintro e w2 ⟨v2,rfl,hv2,hg2⟩;have HV2:=zH hv2;have HVo:=zH (HV.out.grown hg2);have HG2:=zH (ya HG.out hg2);clear hv2 hg2;go_wp2_with fail;refine (HMU.out i _ _ _ HVo.out HV2.out).mono ?_;rintro e w3 ⟨v3,rfl,hv3,hg3⟩;have HV3:=zH hv3;have HG3:=zH (ya HG2.out hg3);clear hv3 hg3;go_wp2_with fail;refine (HX.out _).mono ?_;rintro e w4 ⟨v4,rfl,hv4,hg4⟩;have HV4:=zH hv4;have HV34:=zH (HV3.out.grown hg4);have HG4:=zH (ya HG3.out hg4);clear hv4 hg4;go_wp2_with fail;refine (HAD.out i x hx16 _ _ _ HV34.out HV4.out).mono ?_;rintro e w5 ⟨v5,rfl,hv5,hg5⟩;have HV5:=zH hv5;have HG5:=zH (ya HG4.out hg5);clear hv5 hg5;(go_wp2_with fail;repeat ((first|refine cZ ?_|refine cW ?_);go_wp2_with fail));exact wo HRK (N-(i+1)) (by have:=HKK.out;omega) ⟨i+1,v5,zd,rfl,zb,zb,zb,zb,zj,by rw[HSN.out];exact HV5.out,HG5.out⟩
def zb8 (b:Nat) (l:List Nat) (x:Int):Int:=
 if l=[] then -1
 else if b=16 then (if 1600<4*((l.length:Int)-1)+x then 1 else if 4*((l.length:Int)-1)+x < -1600 then -1 else 0)
 else (if 400<(l.length:Int)-1+x then 1 else if (l.length:Int)-1+x < -400 then -1 else 0)
def zp9 (r:Txt) (v:Value):Value:=.agg #[.int .i64 r.kind,.bool r.neg,.int .i64 (r.base:Int),v,.int .i64 r.exp]
set_option maxRecDepth 100000 in
theorem zg0 (r:Txt) (v:Value) (w:World) (hb:r.base=10\/r.base=16) (hr:RdI w v r.digits) (hl:r.digits.length<=4000000) (hx1:-2000000000000000<=r.exp) (hx2:r.exp<=2000000000000000):
  Calls Tryz.prog 40 #[zp9 r v] w fun e w'=>e=.returned (.int .i64 (zb8 r.base r.digits r.exp))/\w.grownBy w' none:=by
 obtain⟨kind,neg,b,l,x⟩:=r;dsimp only at hb hr hl hx1 hx2 ⊢;unfold zp9;dsimp only;obtain⟨a,c,rfl⟩:=hr.len;obtain⟨N,hN⟩:=zX l.length;have hord:zb8 b l x=if N=0 then -1
   else if b=16 then (if 1600<4*((N:Int)-1)+x then 1 else if 4*((N:Int)-1)+x < -1600 then -1 else 0)
   else (if 400<(N:Int)-1+x then 1 else if (N:Int)-1+x < -400 then -1 else 0):=by
  unfold zb8;rw[hN];by_cases h:l=[]
  ·rw[if_pos h,if_pos (show N=0 from by rw[<-hN,h];rfl)]
  ·rw[if_neg h,if_neg (show ¬N=0 from by rw[<-hN];exact fun e=>h (List.length_eq_zero_iff.1 e))]
 rw[hord];clear hord;simp only[hN];rw[hN]at hl;have HG:=zH (fun o=>World.grownBy_alloc w o none);clear hr hN;refine ye Tryz.func40 rfl (by rw[Tryz.ntmps40];simp) ?_;intro σ hσ;rw[Tryz.ntmps40];have s0:σ 0=.agg #[.int .i64 kind,.bool neg,.int .i64 (b:Int),.slice a N c,.int .i64 x]:=hσ 0 zi;clear hσ;by_cases h0:N=0
 ·subst h0;rw[if_pos rfl];(go_wp2_with fail;repeat ((first|refine cZ ?_|refine cW ?_);go_wp2_with fail));exact yl (.int .i64 (-1)) rfl ze zb ⟨rfl,HG.out _⟩
 rw[if_neg h0];have e1:((N:Int)==0)=false:=zf;have e2:(N==0)=false:=zf;rcases hb with rfl | rfl
 ·rw[if_neg ze];by_cases h1:400<(N:Int)-1+x
  ·rw[if_pos h1];(go_wp2_with fail;repeat ((first|refine cZ ?_|refine cW ?_);go_wp2_with fail));exact yl (.int .i64 1) rfl ze zb ⟨rfl,HG.out _⟩
  ·rw[if_neg h1];have d1:decide (400<(N:Int)-1+x)=false:=zh;by_cases h2:(N:Int)-1+x < -400
   ·rw[if_pos h2];(go_wp2_with fail;repeat ((first|refine cZ ?_|refine cW ?_);go_wp2_with fail));exact yl (.int .i64 (-1)) rfl ze zb ⟨rfl,HG.out _⟩
   ·rw[if_neg h2];have d2:decide ((N:Int)-1+x < -400)=false:=zh;(go_wp2_with fail;repeat ((first|refine cZ ?_|refine cW ?_);go_wp2_with fail));exact yl (.int .i64 0) rfl ze zb ⟨rfl,HG.out _⟩
 ·rw[if_pos rfl];by_cases h1:1600<4*((N:Int)-1)+x
  ·rw[if_pos h1];(go_wp2_with fail;repeat ((first|refine cZ ?_|refine cW ?_);go_wp2_with fail));exact yl (.int .i64 1) rfl ze zb ⟨rfl,HG.out _⟩
  ·rw[if_neg h1];have d1:decide (1600<4*((N:Int)-1)+x)=false:=zh;by_cases h2:4*((N:Int)-1)+x < -1600
   ·rw[if_pos h2];(go_wp2_with fail;repeat ((first|refine cZ ?_|refine cW ?_);go_wp2_with fail));exact yl (.int .i64 (-1)) rfl ze zb ⟨rfl,HG.out _⟩
   ·rw[if_neg h2];have d2:decide (4*((N:Int)-1)+x < -1600)=false:=zh;(go_wp2_with fail;repeat ((first|refine cZ ?_|refine cW ?_);go_wp2_with fail));exact yl (.int .i64 0) rfl ze zb ⟨rfl,HG.out _⟩
end
section
attribute [local go_sem] undef
def qk (b:Nat):Nat:=if b=16 then 2 else 10
set_option maxRecDepth 100000 in
theorem zbp (r:Txt) (v:Value) (w:World) (hb:r.base=10\/r.base=16) (hr:RdI w v r.digits) (hd:∀ d ∈ r.digits,d<r.base) (hl:r.digits.length<=1200000) (hx1:-5000000<=r.exp) (hx2:r.exp<=5000000):
  Calls Tryz.prog 41 #[zp9 r v] w fun e w'=>∃ vr,e=.returned vr/\zpu w' vr r.neg (jy r.base r.digits*qk r.base^r.exp.toNat) (qk r.base^(-r.exp).toNat)/\w.grownBy w' none:=by
 obtain⟨kind,neg,b,l,x⟩:=r;dsimp only at hb hr hd hl hx1 hx2 ⊢;unfold zp9;dsimp only;obtain⟨t,ht⟩:=zX (qk b);have ht':t=if b=16 then 2 else 10:=ht.symm
 have ht1:1<=t/\t<=10:=by rw[ht'];split <;> omega
 rw[ht];clear ht;have hnl:(yf (jy b l)).length<=200000:=zjh b zd zd l hd 200000 zd;have HDN:=zH (fun W (h:w.grownBy W none)=>zfw b hb v l W (hr.grown h) hd zd);have HSC:=zH (fun V W h=>jg V (jy b l) t x W h hnl ht1.1 zd hx1 hx2);obtain⟨a,c,rfl⟩:=hr.len;obtain⟨N,hN⟩:=zX l.length;simp only[hN]at HDN ⊢;have HG0:=zH (fun o=>World.grownBy_alloc w o none);obtain⟨w1,hw1⟩:=zX ((w.alloc (.cells #[.int .i64 kind,.bool neg,.int .i64 (b:Int),.slice a N c,.int .i64 x] 72)).alloc (.cells ratZ.toArray 41));obtain⟨B,hB⟩:=zX w.heap.size;have hrT:Row w1 B [.int .i64 kind,.bool neg,.int .i64 (b:Int),.slice a N c,.int .i64 x]:=zV;have hrR:Row w1 (B+1) ratZ:=by
  rw[<-hw1,<-hB];have:=Row.new (w.alloc (.cells #[.int .i64 kind,.bool neg,.int .i64 (b:Int),.slice a N c,.int .i64 x] 72)) ratZ 41;have e:(w.alloc (.cells #[.int .i64 kind,.bool neg,.int .i64 (b:Int),.slice a N c,.int .i64 x] 72)).heap.size=w.heap.size+1:=by show (w.heap.push _).size=_;simp
  rw[e]at this;exact this
 have hg1:w.grownBy w1 none:=zy;have hsz1:w1.heap.size=B+2:=by rw[<-hw1,<-hB];show ((w.heap.push _).push _).size=_;simp
 unfold ratZ at hw1;have HRT:=zH hrT;have HRR:=zH hrR;have HG1:=zH hg1;have HW1:=zH hw1;have HB:=zH hB;clear hr hN hrT hrR hg1 hw1 hd hnl;refine ye Tryz.func41 rfl (by rw[Tryz.ntmps41];simp) ?_;intro σ hσ;rw[Tryz.ntmps41];have s0:σ 0=.agg #[.int .i64 kind,.bool neg,.int .i64 (b:Int),.slice a N c,.int .i64 x]:=hσ 0 zi;clear hσ;go_upto_region 2 with fail;rw[HW1.out];have m2:=HRT.out.cell 2;simp only[List.getElem?_cons_zero,List.getElem?_cons_succ]at m2;go_wp2_with fail;refine yr (fun s' w'=>s' 1=.pointer (some ⟨B,0,none⟩)/\s' 2=.pointer (some ⟨B+1,0,none⟩)/\s' 3=.int .u64 (t:Int)/\w1=w') ?_ ?_
 ·intro R' K' HR hK';rcases hb with rfl | rfl
  ·rw[if_neg ze]at ht';subst ht';(go_wp2_with fail;repeat ((first|refine cZ ?_|refine cW ?_);go_wp2_with fail));exact got HR ⟨zb,zb,zb,rfl⟩
  ·rw[if_pos rfl]at ht';subst ht';(go_wp2_with fail;repeat ((first|refine cZ ?_|refine cW ?_);go_wp2_with fail));exact got HR ⟨zb,zb,zj,rfl⟩
 clear s0 σ m2 ht';rintro σ w' ⟨s1,s2,s3,rfl⟩;have hcell3:∀ W,w1.grownBy W none->W.cell? ⟨B,3,none⟩=some (.slice a N c):=fun W h=>(HRT.out.grown h zi).cell 3
 have hcell2:∀ W,w1.grownBy W none->W.cell? ⟨B,2,none⟩=some (.int .i64 (b:Int)):=fun W h=>(HRT.out.grown h zi).cell 2
 have hcell4:∀ W,w1.grownBy W none->W.cell? ⟨B,4,none⟩=some (.int .i64 x):=fun W h=>(HRT.out.grown h zi).cell 4
 have HC2:=zH hcell2;have HC3:=zH hcell3;have HC4:=zH hcell4;clear hcell2 hcell3 hcell4;go_upto_region 4 with fail;refine yr (fun s' w'=>s' 1=.pointer (some ⟨B,0,none⟩)/\s' 2=.pointer (some ⟨B+1,0,none⟩)/\∃ D,s' 4=.pointer (some ⟨D,0,none⟩)/\B+2<=D/\RatR w' D false (jy b l*t^x.toNat) (t^(-x).toNat)/\w1.grownBy w' none) ?_ ?_
 ·intro R' K' HR hK';refine wp_region_noPanic ?_;refine wp_region_held_drew (S:=fun W=>w1.grownBy W none) zg (yh w1 1 none) (fun hHeld=>?_);(refine yg 0 8 ?_);(refine xg 1 9 (oi:=?_) (v:=?_) ?_ ?_ zg zg zg (fun _ _ _ _ _ h=>h) ?_ zq ?_ ?_;rotate_left 2;(focus ((simp only[List.getElem?_toArray,List.getElem?_cons_succ,List.getElem?_cons_zero]);rfl));(focus rfl);(focus (first | rfl | (simp only[Region.wanted,yielded,List.getElem?_toArray,List.getElem?_cons_succ,List.getElem?_cons_zero,Option.bind_some,Option.map_some,Fr_get?,yc,yd];rfl) | go_simp));(focus (intro W hS;have hc:=HC3.out W hS;go_simp;try with_reducible rfl)));(refine yg 2 10 ?_);(refine xg 3 11 (oi:=?_) (v:=?_) ?_ ?_ zg zg zg (fun _ _ _ _ _ h=>h) ?_ zq ?_ ?_;rotate_left 2;(focus ((simp only[List.getElem?_toArray,List.getElem?_cons_succ,List.getElem?_cons_zero]);rfl));(focus rfl);(focus (first | rfl | (simp only[Region.wanted,yielded,List.getElem?_toArray,List.getElem?_cons_succ,List.getElem?_cons_zero,Option.bind_some,Option.map_some,Fr_get?,yc,yd];rfl) | go_simp));(focus (intro W hS;have hc:=HC2.out W hS;go_simp;try with_reducible rfl)));(refine yg 5 13 ?_;refine yg 6 14 ?_);(refine xg 7 15 (oi:=?_) (v:=?_) ?_ ?_ zg zg zg (fun _ _ _ _ _ h=>h) ?_ zq ?_ ?_;rotate_left 2;(focus ((simp only[List.getElem?_toArray,List.getElem?_cons_succ,List.getElem?_cons_zero]);rfl));(focus rfl);(focus (first | rfl | (simp only[Region.wanted,yielded,List.getElem?_toArray,List.getElem?_cons_succ,List.getElem?_cons_zero,Option.bind_some,Option.map_some,Fr_get?,yc,yd];rfl) | go_simp));(focus (intro W hS;have hc:=HC4.out W hS;go_simp;try with_reducible rfl)));(refine ztg 4 9 (oi:=?_) (oj:=?_) ?_ ?_ zg ?_ ?_ ?_ ?_;rotate_left 2;(focus ((simp only[List.getElem?_toArray,List.getElem?_cons_succ,List.getElem?_cons_zero]);rfl));(focus ((simp only[List.getElem?_toArray,List.getElem?_cons_succ,List.getElem?_cons_zero]);rfl));(focus (first | rfl | go_simp));(focus (first | rfl | go_simp)))
  ·(intro K hK;go_simp;(refine (HDN.out _ (ya HG1.out hHeld)).mono ?_;rintro e w9 ⟨v9,rfl,hn9,hg9⟩);go_wp2_with fail;replace hHeld:=ya hHeld hg9;refine hK.out _ _ hHeld ?_;clear hK K);clear hg9;(refine ztg 8 9 (oi:=?_) (oj:=?_) ?_ ?_ zg ?_ ?_ ?_ ?_;rotate_left 2;(focus ((simp only[List.getElem?_toArray,List.getElem?_cons_succ,List.getElem?_cons_zero]);rfl));(focus ((simp only[List.getElem?_toArray,List.getElem?_cons_succ,List.getElem?_cons_zero]);rfl));(focus (first | rfl | go_simp));(focus (first | rfl | go_simp)))
   ·(intro K hK;go_simp;(refine (HSC.out _ _ hn9).mono ?_;rintro e wA ⟨vn,vd,rfl,hvn,hvd,hgA⟩);go_wp2_with fail;replace hHeld:=ya hHeld hgA;refine hK.out _ _ hHeld ?_;clear hK K);have hOld:=hHeld;(refine zO 9 ?_;intro K hK;go_simp;(skip);go_wp2_with fail;replace hHeld:=ya hHeld (World.grownBy_alloc wA (.cells #[.bool false,.slice none 0 0,.slice none 0 0] 41) none);refine hK.out _ _ hHeld ?_;clear hK K);have hrD:Row (World.alloc wA (.cells #[.bool false,.slice none 0 0,.slice none 0 0] 41)) (World.heap wA).size ratZ:=Row.new wA ratZ _;obtain⟨wD,hwD⟩:=zX (World.alloc wA (.cells #[.bool false,.slice none 0 0,.slice none 0 0] 41));obtain⟨D,hD⟩:=zX ((World.heap wA).size);have hDge:B+2<=D:=by rw[<-hD,<-hsz1];exact hOld.size
    replace hvn:=hvn.grown (World.grownBy_alloc wA (.cells #[.bool false,.slice none 0 0,.slice none 0 0] 41) none);replace hvd:=hvd.grown (World.grownBy_alloc wA (.cells #[.bool false,.slice none 0 0,.slice none 0 0] 41) none);rw[hwD]at hrD hHeld hvn hvd;rw[hD]at hrD;simp only[hwD,hD];clear hwD hD hOld;have k0:=hrD.cell 0;have k1:=hrD.cell 1;have k2:=hrD.cell 2;have t0:=hrD.frozen 0;have t1:=hrD.frozen 1;have t2:=hrD.frozen 2;unfold ratZ at k0 k1 k2;simp only[List.getElem?_cons_zero,List.getElem?_cons_succ]at k0 k1 k2;obtain⟨an,cn,rfl⟩:=hvn.len;obtain⟨ad,cd,rfl⟩:=hvd.len;generalize (yf (jy b l*t^x.toNat)).length=Ln at *
    generalize (yf (t^(-x).toNat)).length=Ld at *
    (refine zO 10 ?_;intro K hK;go_simp;(skip);go_wp2_with fail;replace hHeld:=xk hHeld (by rw[hsz1];exact hDge) (.bool false) (.slice an Ln cn) (.slice ad Ld cd);refine hK.out _ _ hHeld ?_;clear hK K);refine wpAnyH_done zg ?_ _;refine NoPanic.normal ?_;exact hK' _ _ _ (got HR ⟨zb,zb,D,zb,hDge,⟨_,_,wp hrD _ _ _,yz hrD hvn _ _ _,yz hrD hvd _ _ _⟩,hHeld⟩)
   ·have hOld:=hHeld;(intro K hK;go_simp;(skip);go_wp2_with fail;replace hHeld:=ya hHeld (World.grownBy_alloc w9 (.cells #[.bool false,.slice none 0 0,.slice none 0 0] 41) none);refine hK.out _ _ hHeld ?_;clear hK K);have hrD:Row (World.alloc w9 (.cells #[.bool false,.slice none 0 0,.slice none 0 0] 41)) (World.heap w9).size ratZ:=Row.new w9 ratZ _;obtain⟨wD,hwD⟩:=zX (World.alloc w9 (.cells #[.bool false,.slice none 0 0,.slice none 0 0] 41));obtain⟨D,hD⟩:=zX ((World.heap w9).size);have hDge:B+2<=D:=by rw[<-hD,<-hsz1];exact hOld.size
    replace hn9:=hn9.grown (World.grownBy_alloc w9 (.cells #[.bool false,.slice none 0 0,.slice none 0 0] 41) none);rw[hwD]at hrD hHeld hn9;rw[hD]at hrD;simp only[hwD,hD];clear hwD hD hOld;(refine zO 8 ?_;intro K hK;go_simp;(refine (HSC.out _ _ hn9).mono ?_;rintro e wA ⟨vn,vd,rfl,hvn,hvd,hgA⟩);go_wp2_with fail;replace hHeld:=ya hHeld hgA;refine hK.out _ _ hHeld ?_;clear hK K);replace hrD:=hrD.grown hgA zi;clear hgA hn9;have k0:=hrD.cell 0;have k1:=hrD.cell 1;have k2:=hrD.cell 2;have t0:=hrD.frozen 0;have t1:=hrD.frozen 1;have t2:=hrD.frozen 2;unfold ratZ at k0 k1 k2;simp only[List.getElem?_cons_zero,List.getElem?_cons_succ]at k0 k1 k2;obtain⟨an,cn,rfl⟩:=hvn.len;obtain⟨ad,cd,rfl⟩:=hvd.len;generalize (yf (jy b l*t^x.toNat)).length=Ln at *
    generalize (yf (t^(-x).toNat)).length=Ld at *
    (refine zO 10 ?_;intro K hK;go_simp;(skip);go_wp2_with fail;replace hHeld:=xk hHeld (by rw[hsz1];exact hDge) (.bool false) (.slice an Ln cn) (.slice ad Ld cd);refine hK.out _ _ hHeld ?_;clear hK K);refine wpAnyH_done zg ?_ _;refine NoPanic.normal ?_;exact hK' _ _ _ (got HR ⟨zb,zb,D,zb,hDge,⟨_,_,wp hrD _ _ _,yz hrD hvn _ _ _,yz hrD hvd _ _ _⟩,hHeld⟩)
  ·have hOld:=hHeld;(intro K hK;go_simp;(skip);go_wp2_with fail;replace hHeld:=ya (World.grownBy_alloc w1 (.cells #[.bool false,.slice none 0 0,.slice none 0 0] 41) none) (yh (World.alloc w1 (.cells #[.bool false,.slice none 0 0,.slice none 0 0] 41)) 1 none);refine hK.out _ _ hHeld ?_;clear hK K);have hrD:Row (World.alloc w1 (.cells #[.bool false,.slice none 0 0,.slice none 0 0] 41)).drew (World.heap w1).size ratZ:=(Row.new w1 ratZ _).drew;obtain⟨wD,hwD⟩:=zX ((World.alloc w1 (.cells #[.bool false,.slice none 0 0,.slice none 0 0] 41)).drew);obtain⟨D,hD⟩:=zX (B+2);have hDge:B+2<=D:=zd;replace hHeld:w1.grownBy (World.alloc w1 (.cells #[.bool false,.slice none 0 0,.slice none 0 0] 41)).drew none:=hHeld;rw[hwD]at hrD hHeld;rw[hsz1,hD]at hrD;simp only[hwD,hD];clear hwD hD hOld;(refine zO 4 ?_;intro K hK;go_simp;(refine (HDN.out _ (ya HG1.out hHeld)).mono ?_;rintro e w9 ⟨v9,rfl,hn9,hg9⟩);go_wp2_with fail;replace hHeld:=ya hHeld hg9;refine hK.out _ _ hHeld ?_;clear hK K);replace hrD:=hrD.grown hg9 zi;clear hg9;(refine zO 8 ?_;intro K hK;go_simp;(refine (HSC.out _ _ hn9).mono ?_;rintro e wA ⟨vn,vd,rfl,hvn,hvd,hgA⟩);go_wp2_with fail;replace hHeld:=ya hHeld hgA;refine hK.out _ _ hHeld ?_;clear hK K);replace hrD:=hrD.grown hgA zi;clear hgA hn9;have k0:=hrD.cell 0;have k1:=hrD.cell 1;have k2:=hrD.cell 2;have t0:=hrD.frozen 0;have t1:=hrD.frozen 1;have t2:=hrD.frozen 2;unfold ratZ at k0 k1 k2;simp only[List.getElem?_cons_zero,List.getElem?_cons_succ]at k0 k1 k2;obtain⟨an,cn,rfl⟩:=hvn.len;obtain⟨ad,cd,rfl⟩:=hvd.len;generalize (yf (jy b l*t^x.toNat)).length=Ln at *
   generalize (yf (t^(-x).toNat)).length=Ld at *
   (refine zO 10 ?_;intro K hK;go_simp;(skip);go_wp2_with fail;replace hHeld:=xk hHeld (by rw[hsz1];exact hDge) (.bool false) (.slice an Ln cn) (.slice ad Ld cd);refine hK.out _ _ hHeld ?_;clear hK K);refine wpAnyH_done zg ?_ _;refine NoPanic.normal ?_;exact hK' _ _ _ (got HR ⟨zb,zb,D,zb,hDge,⟨_,_,wp hrD _ _ _,yz hrD hvn _ _ _,yz hrD hvd _ _ _⟩,hHeld⟩)
 clear s1 s2 s3 σ HDN HSC HC2 HC3 HC4;rintro σ w2 ⟨s1,s2,D,s4,hDge,⟨vn,vd,hrD,hvn,hvd⟩,hg2⟩;have hrT2:=HRT.out.grown hg2 zi;have hrR2:=HRR.out.grown hg2 zi;have n1:=hrT2.cell 1;have m0:=hrD.cell 0;have f0:=hrD.frozen 0;obtain⟨an,cn,rfl⟩:=hvn.len;obtain⟨ad,cd,rfl⟩:=hvd.len;generalize (yf (jy b l*t^x.toNat)).length=Ln at *
 generalize (yf (t^(-x).toNat)).length=Ld at *
 simp only[List.getElem?_cons_zero,List.getElem?_cons_succ]at n1 m0;have hBD:¬(B+1=D):=zd;have hBD2:B+1≠D:=hBD;obtain⟨w3,hw3⟩:=zX (w2.setCell ⟨D,0,none⟩ (.bool neg));have hrD3:=hrD.setCell 0 (.bool neg);have hrR3:=hrR2.setCell_other (a:=⟨D,0,none⟩) hBD2 (.bool neg);have hvn3:=NatV.setB (u:=.bool neg) (k:=0) hvn m0;have hvd3:=NatV.setB (u:=.bool neg) (k:=0) hvd m0;have hg3:=yb (ya HG1.out hg2) (a:=⟨D,0,none⟩) (.bool neg) (by show w.heap.size<=D;have:=HB.out;omega);rw[hw3]at hrD3 hrR3 hvn3 hvd3 hg3;simp only[List.set_cons_zero]at hrD3;have HRD3:=zH hrD3;have HRR3:=zH hrR3;have HVN3:=zH hvn3;have HVD3:=zH hvd3;have HG3:=zH hg3;clear hrT2 hrR2 hrD hvn hvd hrD3 hrR3 hvn3 hvd3 hg3 hg2;go_upto_region 6 with fail;clear hw3 n1 m0 f0;have m0:=HRD3.out.cell 0;have m1:=HRD3.out.cell 1;have m2:=HRD3.out.cell 2;have k0:=HRR3.out.cell 0;have k1:=HRR3.out.cell 1;have k2:=HRR3.out.cell 2;have t0:=HRR3.out.frozen 0;have t1:=HRR3.out.frozen 1;have t2:=HRR3.out.frozen 2;unfold ratZ at k0 k1 k2;simp only[List.getElem?_cons_zero,List.getElem?_cons_succ]at m0 m1 m2 k0 k1 k2;(go_wp2_with fail;repeat ((first|refine cZ ?_|refine cW ?_);go_wp2_with fail));obtain⟨ty,hrow⟩:=wp HRR3.out (.bool neg) (.slice an Ln cn) (.slice ad Ld cd);refine bodyPost_ret (v:=.agg #[.bool neg,.slice an Ln cn,.slice ad Ld cd]) (results_cell_row rfl _ _ (B+1) ty _ (0,0) _ (by rw[wa 21 _ σ 2 ze];simp[ov, *]) hrow Tryz.underlying41 rfl zg) (vz ..) ⟨_,rfl,⟨_,_,rfl,yz HRR3.out HVN3.out _ _ _,yz HRR3.out HVD3.out _ _ _⟩,xk HG3.out (by have:=HB.out;omega) _ _ _⟩
end
end Go.Proofs.YtnifedmhgncioaaGreatDoor
