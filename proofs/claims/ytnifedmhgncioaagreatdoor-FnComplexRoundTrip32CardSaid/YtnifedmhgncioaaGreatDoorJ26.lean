/- Lemmas that the claim's top text leans on. No condition of their own. -/
import Derived.Test.YtnifedmhgncioaaGreatDoorJ22
import Derived.WalkMore
import Derived.Deep.CutBlock
namespace Go.Proofs.YtnifedmhgncioaaGreatDoor
open Go.RowKit
set_option linter.unusedSimpArgs false
set_option linter.unusedVariables false
set_option maxHeartbeats 16000000
section
attribute [local go_sem] undef
theorem zbn {P:Program} {fn:Func} {R:Ending->World->Prop} {n:Nat} {env:List (Nat×Value)} {s:Nat->Value} {w:World} {t1 t2 t3 t4 t5 t6 t7:Nat} (v1 v2 v3 v4 v5 v6 v7:Value) (hr:fn.results=#[.tmp t1,.tmp t2,.tmp t3,.tmp t4,.tmp t5,.tmp t6,.tmp t7])
  (ht:t1<n/\t2<n/\t3<n/\t4<n/\t5<n/\t6<n/\t7<n) (h1:over env s t1=v1) (h2:over env s t2=v2) (h3:over env s t3=v3) (h4:over env s t4=v4) (h5:over env s t5=v5) (h6:over env s t6=v6) (h7:over env s t7=v7)
  (hR:R (.returned (.tuple #[v1,v2,v3,v4,v5,v6,v7])) w):bodyPost P fn R .ret (Fr n env s) w:=by
 refine bodyPost_ret (v:=.tuple #[v1,v2,v3,v4,v5,v6,v7]) ?_ (vz ..) hR;obtain⟨a1,a2,a3,a4,a5,a6,a7⟩:=ht;have:(results fn (Fr n env s).tmps).run P w=.ok (.tuple #[(Fr n env s).tmps.getD t1 undef,(Fr n env s).tmps.getD t2 undef,(Fr n env s).tmps.getD t3 undef,(Fr n env s).tmps.getD t4 undef,(Fr n env s).tmps.getD t5 undef,(Fr n env s).tmps.getD t6 undef,(Fr n env s).tmps.getD t7 undef]) w:=by simp[results,hr]
 rw[this,wa n env s t1 a1,wa n env s t2 a2,wa n env s t3 a3,wa n env s t4 a4,wa n env s t5 a5,wa n env s t6 a6,wa n env s t7 a7,h1,h2,h3,h4,h5,h6,h7]
def RfPost (s:List UInt8) (e:Ending):Prop:=match rfP s with
 | some R=>e=.returned (.tuple #[.int .u64 (R.mant:Int),.int .i64 R.exp,.bool R.neg,.bool R.tr,.bool R.hex,.int .i64 (R.n:Int),.bool true])
 | none=>∃ (a:Nat) (p:Int) (b c d:Bool) (n:Nat),e=.returned (.tuple #[.int .u64 (a:Int),.int .i64 p,.bool b,.bool c,.bool d,.int .i64 (n:Int),.bool false])
theorem RfPost.no {s:List UInt8} (h:rfP s=none) (a:Nat) (p:Int) (b c d:Bool) (n:Nat):RfPost s (.returned (.tuple #[.int .u64 (a:Int),.int .i64 p,.bool b,.bool c,.bool d,.int .i64 (n:Int),.bool false])):=by
 unfold RfPost;rw[h];exact⟨a,p,b,c,d,n,rfl⟩
structure RFok (hex:Bool) (i:Nat) (st:RF):Prop where
 mant:st.mant<xj hex^st.nm
 nm:st.nm<=ju hex
 nd:st.nd<=i
 d1:-(i:Int)<=st.dp
 d2:st.dp<=i
theorem zr4 (hex:Bool) (k:Nat) (h:k<=ju hex):xj hex^k<=18446744073709551616:=by
 have h1:xj hex^k<=xj hex^ju hex:=Nat.pow_le_pow_right (by unfold xj;split <;> omega) h;refine Nat.le_trans h1 ?_;cases hex <;> decide
def zsb (s:List UInt8):Nat:=if zwc s then 1 else 0
theorem zcr (s:List UInt8):(sgn s).2=s.drop (zsb s):=by
 rw[zjs];unfold zsb;split <;> simp
theorem ztm (s:List UInt8):zsb s<=s.length:=by
 unfold zsb;cases s with
 | nil=>simp[zwc]
 | cons c r=>split <;> simp
def zhv (s:List UInt8):Nat:=zsb s+if yo (sgn s).2 then 2 else 0
theorem zrh {u:List UInt8} (h:yo u=true):3<=u.length:=by
 match u with
 | _::_::_::_=>simp
theorem ztl (s:List UInt8):zhv s<=s.length:=by
 have h:=ztm s;have h2:=congrArg List.length (zcr s);rw[List.length_drop]at h2;unfold zhv;split
 ·rename_i h3;have:=zrh h3;omega
 ·omega
theorem zmt (s:List UInt8):yj s=s.drop (zhv s):=by
 unfold yj zhv;rw[zcr];split
 ·rw[List.drop_drop]
 ·rfl
theorem zvw (s:List UInt8) (hs:s≠[]):rfP s=if (scF (yo (sgn s).2) (s.drop (zhv s)) RF.init).1.dig=false then none
  else zf9 s (sgn s).1 (yo (sgn s).2) (scF (yo (sgn s).2) (s.drop (zhv s)) RF.init).1 ((if (scF (yo (sgn s).2) (s.drop (zhv s)) RF.init).1.dot then (scF (yo (sgn s).2) (s.drop (zhv s)) RF.init).1.dp else ((scF (yo (sgn s).2) (s.drop (zhv s)) RF.init).1.nd:Int))*(if yo (sgn s).2 then 4 else 1)) ((scF (yo (sgn s).2) (s.drop (zhv s)) RF.init).1.nm*(if yo (sgn s).2 then 4 else 1)) (scF (yo (sgn s).2) (s.drop (zhv s)) RF.init).2:=by
 rw[<-zmt];unfold rfP;rw[if_neg hs];rfl
theorem zuj (s:List UInt8) (i:Nat):yo (s.drop i)=decide (i+2<s.length/\(s.getD i 0).toNat=48/\wc (s.getD (i+1) 0)=120):=by
 have h1:∀ u:List UInt8,yo u=decide (2<u.length/\(u.getD 0 0).toNat=48/\wc (u.getD 1 0)=120):=by
  intro u;match u with
  | []=>simp[yo]
  | [_]=>simp[yo]
  | [_,_]=>simp[yo]
  | c::x::y::r=>
   show decide (c=48/\wc x=120)=_;rw[decide_eq_decide];constructor
   ·rintro⟨h,h2⟩;exact⟨zi,by rw[show ((c::x::y::r).getD 0 0)=c from rfl,h];rfl,h2⟩
   ·rintro⟨-,h,h2⟩;exact⟨UInt8.toNat_inj.1 h,h2⟩
 rw[h1,List.length_drop];have e0:(s.drop i).getD 0 0=s.getD i 0:=by simp[List.getD_eq_getElem?_getD,List.getElem?_drop]
 have e1:(s.drop i).getD 1 0=s.getD (i+1) 0:=by simp[List.getD_eq_getElem?_getD,List.getElem?_drop]
 rw[e0,e1,decide_eq_decide];constructor
 ·rintro⟨h,h2⟩;exact⟨zd,h2⟩
 ·rintro⟨h,h2⟩;exact⟨zd,h2⟩
theorem RFok.mk' {hex:Bool} {i:Nat} {us dot dig tr:Bool} {nd nm mant:Nat} {dp:Int} (h1:mant<xj hex^nm) (h2:nm<=ju hex) (h3:nd<=i) (h4:-(i:Int)<=dp) (h5:dp<=i):RFok hex i ⟨us,dot,dig,nd,nm,dp,mant,tr⟩:=⟨h1,h2,h3,h4,h5⟩
theorem zg9 {m B k d:Nat} (h:m<B^k) (hd:d<B):m*B+d<B^(k+1):=by
 rw[Nat.pow_succ];have h1:(m+1)*B<=B^k*B:=Nat.mul_le_mul_right _ h;rw[Nat.succ_mul]at h1;omega
theorem uw {c d:UInt8} (h:c.toNat≠d.toNat):c≠d:=fun e=>h (by rw[e])
theorem sc95 {hex:Bool} {c:UInt8} {r:List UInt8} {st:RF} (h:c.toNat=95):scF hex (c::r) st=scF hex r { st with us:=true }:=by
 rw[scF,if_pos (UInt8.toNat_inj.1 h)]
theorem sc46n {hex:Bool} {c:UInt8} {r:List UInt8} {st:RF} (h:c.toNat=46) (hd:st.dot=false):scF hex (c::r) st=scF hex r { st with dot:=true,dp:=st.nd }:=by
 rw[scF,if_neg (uw (by rw[h];decide)),if_pos (UInt8.toNat_inj.1 h),if_neg (by rw[hd];decide)]
theorem sc46y {hex:Bool} {c:UInt8} {r:List UInt8} {st:RF} (h:c.toNat=46) (hd:st.dot=true):scF hex (c::r) st=(st,c::r):=by
 rw[scF,if_neg (uw (by rw[h];decide)),if_pos (UInt8.toNat_inj.1 h),if_pos hd]
theorem scD {hex:Bool} {c:UInt8} {r:List UInt8} {st:RF} (h:48<=c.toNat/\c.toNat<=57):scF hex (c::r) st=scF hex r (dgS hex st (c.toNat-48)):=by
 rw[scF,if_neg (uw (by show ¬c.toNat=95;omega)),if_neg (uw (by show ¬c.toNat=46;omega))];have e:dgV hex c=some (c.toNat-48):=by unfold dgV;rw[if_pos h]
 rw[e]
theorem scH {c:UInt8} {r:List UInt8} {st:RF} (h1:¬(48<=c.toNat/\c.toNat<=57)) (h2:c.toNat≠95) (h3:c.toNat≠46) (h:97<=wc c/\wc c<=102):scF true (c::r) st=scF true r (dgS true st (wc c-87)):=by
 rw[scF,if_neg (uw h2),if_neg (uw h3)];have e:dgV true c=some (wc c-87):=by unfold dgV;rw[if_neg h1,if_pos ⟨rfl,h⟩]
 rw[e]
theorem scN {hex:Bool} {c:UInt8} {r:List UInt8} {st:RF} (h1:¬(48<=c.toNat/\c.toNat<=57)) (h2:c.toNat≠95) (h3:c.toNat≠46) (h:(hex&&decide (97<=wc c/\wc c<=102))=false):scF hex (c::r) st=(st,c::r):=by
 rw[scF,if_neg (uw h2),if_neg (uw h3)];have e:dgV hex c=none:=by
  unfold dgV;rw[if_neg h1,if_neg];rintro⟨rfl,h4⟩;rw[decide_eq_true h4]at h;cases h
 rw[e]
theorem dgS_0 {hex us dot dig tr:Bool} {nm mant:Nat} {dp:Int}:dgS hex ⟨us,dot,dig,0,nm,dp,mant,tr⟩ 0=⟨us,dot,true,0,nm,dp-1,mant,tr⟩:=by
 unfold dgS;rw[if_pos ⟨rfl,rfl⟩]
theorem zwu {hex us dot dig tr:Bool} {nd nm mant d:Nat} {dp:Int} (h:¬(d=0/\nd=0)) (h2:nm<ju hex):dgS hex ⟨us,dot,dig,nd,nm,dp,mant,tr⟩ d=⟨us,dot,true,nd+1,nm+1,dp,mant*xj hex+d,tr⟩:=by
 unfold dgS;rw[if_neg h,if_pos h2]
theorem zwt {hex us dot dig tr:Bool} {nd nm mant d:Nat} {dp:Int} (h:¬(d=0/\nd=0)) (h2:¬nm<ju hex):dgS hex ⟨us,dot,dig,nd,nm,dp,mant,tr⟩ d=⟨us,dot,true,nd+1,nm,dp,mant,tr || decide (d≠0)⟩:=by
 unfold dgS;rw[if_neg h,if_neg h2]
theorem zox {s:List UInt8} {neg hx:Bool} {st:RF} {dp:Int} {nm i:Nat} (h:¬(i<s.length/\wc (s.getD i 0)=if hx=true then 112 else 101)):zf9 s neg hx st dp nm (s.drop i)=if hx=true then none else zdv s neg hx st dp nm st.us (s.drop i):=by
 by_cases hi:i<s.length
 ·rw[ua s i hi];unfold zf9;simp only;rw[if_neg (fun h2=>h ⟨hi,h2⟩)]
 ·rw[List.drop_eq_nil_of_le zd];rfl
def zsp (s:List UInt8) (neg hx:Bool) (st:RF) (dp:Int) (nm:Nat) (eneg:Bool) (u:List UInt8):Option RR:=
 match u with
 | []=>none
 | d::r2=>if 48<=d.toNat/\d.toNat<=57 then zdv s neg hx st (dp+(if eneg then -((scE (d::r2) st.us 0).2.1:Int) else ((scE (d::r2) st.us 0).2.1:Int))) nm (scE (d::r2) st.us 0).1 (scE (d::r2) st.us 0).2.2 else none
theorem zrq {s:List UInt8} {neg hx:Bool} {st:RF} {dp:Int} {nm i:Nat} (hi:i<s.length) (h:wc (s.getD i 0)=if hx=true then 112 else 101):zf9 s neg hx st dp nm (s.drop i)=zsp s neg hx st dp nm (sgn (s.drop (i+1))).1 (sgn (s.drop (i+1))).2:=by
 rw[ua s i hi];unfold zf9;simp only;rw[if_pos h];unfold zsp;cases (sgn (s.drop (i+1))).2 <;> rfl
theorem zuq {s:List UInt8} {neg hx:Bool} {st:RF} {dp:Int} {nm i:Nat} {eneg:Bool} (hi:i<s.length) (h:48<=(s.getD i 0).toNat/\(s.getD i 0).toNat<=57):zsp s neg hx st dp nm eneg (s.drop i)=zdv s neg hx st (dp+(if eneg then -((scE (s.drop i) st.us 0).2.1:Int) else ((scE (s.drop i) st.us 0).2.1:Int))) nm (scE (s.drop i) st.us 0).1 (scE (s.drop i) st.us 0).2.2:=by
 have e:=ua s i hi;generalize s.getD i 0=c at *
 rw[e];unfold zsp;simp only;rw[if_pos h]
theorem zow {s:List UInt8} {neg hx:Bool} {st:RF} {dp:Int} {nm i:Nat} {eneg:Bool} (h:¬(i<s.length/\48<=(s.getD i 0).toNat/\(s.getD i 0).toNat<=57)):zsp s neg hx st dp nm eneg (s.drop i)=none:=by
 by_cases hi:i<s.length
 ·rw[ua s i hi];unfold zsp;simp only;rw[if_neg (fun h2=>h ⟨hi,h2⟩)]
 ·rw[List.drop_eq_nil_of_le zd];rfl
theorem zvu {c:UInt8} {r:List UInt8} {us:Bool} {e:Nat} (h:48<=c.toNat/\c.toNat<=57):scE (c::r) us e=scE r us (if e<10000 then e*10+(c.toNat-48) else e):=by
 rw[scE,if_pos h]
theorem zvs {c:UInt8} {r:List UInt8} {us:Bool} {e:Nat} (h:c.toNat=95):scE (c::r) us e=scE r true e:=by
 rw[scE,if_neg zd,if_pos (UInt8.toNat_inj.1 h)]
theorem zvt {c:UInt8} {r:List UInt8} {us:Bool} {e:Nat} (h:¬(48<=c.toNat/\c.toNat<=57)) (h2:c.toNat≠95):scE (c::r) us e=(us,e,c::r):=by
 rw[scE,if_neg h,if_neg (uw h2)]
theorem zmz {s:List UInt8} {i:Nat} (hi:i<s.length):sgn (s.drop i)=((decide ((s.getD i 0).toNat=45)),s.drop (i+if (s.getD i 0).toNat=43\/(s.getD i 0).toNat=45 then 1 else 0)):=by
 have e:=ua s i hi;generalize s.getD i 0=c at *
 have hce:∀ x:UInt8,c=x↔c.toNat=x.toNat:=fun x=>⟨fun h=>by rw[h],fun h=>UInt8.toNat_inj.1 h⟩
 rw[e,xq];by_cases h1:c.toNat=43
 ·rw[if_pos ((hce 43).2 h1),if_pos (Or.inl h1),decide_eq_false zd]
 ·rw[if_neg (fun h=>h1 ((hce 43).1 h))];by_cases h2:c.toNat=45
  ·rw[if_pos ((hce 45).2 h2),if_pos (Or.inr h2),decide_eq_true h2]
  ·rw[if_neg (fun h=>h2 ((hce 45).1 h)),if_neg zd,decide_eq_false h2];show (false,c::_)=(false,s.drop i);rw[e]
set_option maxRecDepth 100000 in
theorem zae (s:List UInt8) (w:World) (hs:s.length≤4000000):
  Calls Tryz.prog 108 #[.string ⟨s.toArray⟩] w fun e w'=>RfPost s e∧w=w':=by
 have HLOW:=Lib.hid (fun (c:UInt8) W=>za5 c W)
 have HUND:=Lib.hid (fun (t:List UInt8) W (h:t.length≤4000000)=>zb3 t W h)
 refine ye Tryz.func108 rfl (by rw[Tryz.ntmps108];simp) ?_
 intro σ hσ
 rw[Tryz.ntmps108]
 have s0:σ 0=.string ⟨s.toArray⟩:=hσ 0 (by simp)
 clear hσ
 go_wp2_with fail
 refine wp_scope_straight (Q:=bodyPost _ _ fun e w'=>RfPost s e∧w=w') ?_
 have hsz:(⟨s.toArray⟩:ByteArray).size=s.length:=by simp[ByteArray.size]
 have HIDX:=Lib.hid (fun i h=>xu s i h)
 obtain⟨N,hN⟩:∃ N,s.length=N:=⟨_,rfl⟩
 rw[hN]at hsz hs HIDX
 have HN:=Lib.hid hN
 clear hN
 by_cases hN0:N=0
 ·have e:s=[]:=List.length_eq_zero_iff.1 (by rw[HN.out];exact hN0)
  subst hN0 e
  ((repeat (go_wp2_with fail;first | (refine cdY ?_ ?_;focus (simp[ov, *];done)) | (refine cdN ?_ ?_;focus (simp[ov, *];done))));go_wp2_with fail)
  rw[Exit.noGoto_ret]
  exact zbn (.int .u64 0) (.int .i64 0) (.bool false) (.bool false) (.bool false) (.int .i64 0) (.bool false) rfl (by decide) (by simp[ov, *]) (by simp[ov, *]) (by simp[ov, *]) (by simp[ov, *]) (by simp[ov, *]) (by simp[ov, *]) (by simp[ov, *]) ⟨RfPost.no (by unfold rfP;rw[if_pos rfl]) 0 0 false false false 0,rfl⟩
 have hne:s≠[]:=fun e=>hN0 (by rw[←HN.out,e];rfl)
 have HRF:=Lib.hid (zvw s hne)
 have n1:(0:Int)<(N:Int):=by omega
 have n2:0<N:=by omega
 have n3:decide ((N:Int)≤0)=false:=by simp;omega
 have n4:decide (N≤0)=false:=by simp;omega
 have hidx0:=HIDX.out 0 (by omega)
 have hsg:(sgn s).1=decide (s.getD 0 0=45)∧zsb s=if s.getD 0 0=43∨s.getD 0 0=45 then 1 else 0:=by
  cases s with
  | nil=>exact absurd rfl hne
  | cons c r=>
   show (sgn (c::r)).1=decide (c=45)∧(if decide (c=43∨c=45)=true then 1 else 0)=_
   refine⟨?_,by simp⟩
   rw[xq]
   by_cases h1:c=43
   ·rw[if_pos h1,h1];rfl
   ·rw[if_neg h1]
    by_cases h2:c=45
    ·rw[if_pos h2,decide_eq_true h2]
    ·rw[if_neg h2,decide_eq_false h2]
 have hce:∀ x:UInt8,s.getD 0 0=x↔(s.getD 0 0).toNat=x.toNat:=fun x=>⟨fun h=>by rw[h],fun h=>UInt8.toNat_inj.1 h⟩
 simp only[hce]at hsg
 clear hce
 generalize s.getD 0 0=c at hsg hidx0
 obtain⟨n,hn⟩:∃ n,c.toNat=n:=⟨_,rfl⟩
 rw[hn]at hsg
 obtain⟨neg,hneg⟩:∃ b,(sgn s).1=b:=⟨_,rfl⟩
 obtain⟨i0,hi0⟩:∃ i,zsb s=i:=⟨_,rfl⟩
 rw[hneg,hi0]at hsg
 have HG1:=Lib.hid hsg.1
 have HG2:=Lib.hid hsg.2
 have HNEG:=Lib.hid hneg
 have HI0:=Lib.hid hi0
 clear hsg hneg hi0
 ((repeat (go_upto_block 0 with fail;first | (refine cdY ?_ ?_;focus (simp[ov, *];done)) | (refine cdN ?_ ?_;focus (simp[ov, *];done))));go_upto_block 0 with fail)
 refine yr (fun s' w'=>s' 0=.string ⟨s.toArray⟩∧s' 2=.int .u64 0∧s' 3=.int .i64 0∧s' 4=.bool neg∧s' 5=.bool false∧s' 6=.bool false∧s' 7=.int .i64 (i0:Int)∧s' 8=.bool false∧s' 9=.bool false∧w=w') ?_ ?_
 ·intro R' K' HR hK'
  by_cases h43:n=43
  ·subst h43
   have e1:neg=false:=HG1.out
   have e2:i0=1:=HG2.out
   subst e1 e2
   ((repeat (go_wp2_with fail;first | (refine cdY ?_ ?_;focus (simp[ov, *];done)) | (refine cdN ?_ ?_;focus (simp[ov, *];done))));go_wp2_with fail)
   exact got HR ⟨by simp[ov, *],by simp[ov, *],by simp[ov, *],by simp[ov, *],by simp[ov, *],by simp[ov, *],by simp[ov, *],by simp[ov, *],by simp[ov, *],rfl⟩
  ·obtain⟨a1,a2,a3⟩:=yq (z:=43) rfl h43
   by_cases h45:n=45
   ·subst h45
    have e1:neg=true:=HG1.out
    have e2:i0=1:=HG2.out
    subst e1 e2
    clear h43 a1 a2 a3
    ((repeat (go_wp2_with fail;first | (refine cdY ?_ ?_;focus (simp[ov, *];done)) | (refine cdN ?_ ?_;focus (simp[ov, *];done))));go_wp2_with fail)
    exact got HR ⟨by simp[ov, *],by simp[ov, *],by simp[ov, *],by simp[ov, *],by simp[ov, *],by simp[ov, *],by simp[ov, *],by simp[ov, *],by simp[ov, *],rfl⟩
   ·obtain⟨b1,b2,b3⟩:=yq (z:=45) rfl h45
    have e1:neg=false:=by rw[HG1.out];exact decide_eq_false h45
    have e2:i0=0:=by rw[HG2.out];exact if_neg (fun h=>h.elim h43 h45)
    subst e1 e2
    clear h43 h45
    ((repeat (go_wp2_with fail;first | (refine cdY ?_ ?_;focus (simp[ov, *];done)) | (refine cdN ?_ ?_;focus (simp[ov, *];done))));go_wp2_with fail)
    exact got HR ⟨by simp[ov, *],by simp[ov, *],by simp[ov, *],by simp[ov, *],by simp[ov, *],by simp[ov, *],by simp[ov, *],by simp[ov, *],by simp[ov, *],rfl⟩
 clear s0 σ hidx0 HG1 HG2 hn n c hN0
 rintro σ w1 ⟨s0,s2,s3,s4,s5,s6,s7,s8,s9,rfl⟩
 obtain⟨hx,hhx⟩:∃ b,yo (sgn s).2=b:=⟨_,rfl⟩
 have hi1:zhv s=i0+if hx=true then 2 else 0:=by unfold zhv;rw[HI0.out,hhx]
 have HX:=Lib.hid (show decide (i0+2<N∧(s.getD i0 0).toNat=48∧wc (s.getD (i0+1) 0)=120)=hx by rw[←hhx,zcr,HI0.out,zuj,HN.out])
 have hi0N:i0≤1:=by rw[←HI0.out];unfold zsb;split <;> omega
 rw[hhx,HNEG.out]at HRF
 clear hhx
 ((repeat (go_upto_region 12 with fail;first | (refine cdY ?_ ?_;focus (simp[ov, *];done)) | (refine cdN ?_ ?_;focus (simp[ov, *];done))));go_upto_region 12 with fail)
 refine yr (fun s' w'=>s' 0=.string ⟨s.toArray⟩∧s' 2=.int .u64 0∧s' 3=.int .i64 0∧s' 4=.bool neg∧s' 5=.bool false∧s' 6=.bool false∧s' 7=.int .i64 (i0:Int)∧s' 8=.bool false∧s' 9=.bool false∧s' 10=.int .u64 10∧s' 11=.int .i64 19∧s' 12=.int .u8 101∧s' 54=.bool hx∧w=w') ?_ ?_
 ·intro R' K' HR hK'
  by_cases h2:i0+2<N
  ·have g1:(i0:Int)+2<(N:Int):=by omega
   have g2:(i0:Int)+1<(N:Int):=by omega
   have g3:(i0:Int)<(N:Int):=by omega
   have g4:i0+1<N:=by omega
   have g5:i0<N:=by omega
   have hidx0:=HIDX.out i0 (by omega)
   have hidx1:=HIDX.out (i0+1) (by omega)
   generalize s.getD i0 0=c at *
   generalize s.getD (i0+1) 0=x at *
   have HL:=Lib.hid (HLOW.out x)
   obtain⟨n,hn⟩:∃ n,c.toNat=n:=⟨_,rfl⟩
   obtain⟨l,hl⟩:∃ l,wc x=l:=⟨_,rfl⟩
   rw[hl]at HL HX
   rw[hn]at HX
   clear hl
   by_cases h48:n=48
   ·by_cases h120:l=120
    ·have e:hx=true:=by rw[←HX.out];exact decide_eq_true ⟨h2,h48,h120⟩
     subst h48 h120 e
     ((repeat (go_wp2_with fail;first | (refine cdY ?_ ?_;focus (simp[ov, *];done)) | (refine cdN ?_ ?_;focus (simp[ov, *];done))));go_wp2_with fail)
     refine (HL.out _).mono ?_
     rintro e w1 ⟨rfl,rfl⟩
     ((repeat (go_wp2_with fail;first | (refine cdY ?_ ?_;focus (simp[ov, *];done)) | (refine cdN ?_ ?_;focus (simp[ov, *];done))));go_wp2_with fail)
     exact got HR ⟨by simp[ov, *],by simp[ov, *],by simp[ov, *],by simp[ov, *],by simp[ov, *],by simp[ov, *],by simp[ov, *],by simp[ov, *],by simp[ov, *],by simp[ov, *],by simp[ov, *],by simp[ov, *],by simp[ov, *],rfl⟩
    ·obtain⟨a1,a2,a3⟩:=yq (z:=120) rfl h120
     have e:hx=false:=by rw[←HX.out];exact decide_eq_false (fun h=>h120 h.2.2)
     subst h48 e
     ((repeat (go_wp2_with fail;first | (refine cdY ?_ ?_;focus (simp[ov, *];done)) | (refine cdN ?_ ?_;focus (simp[ov, *];done))));go_wp2_with fail)
     refine (HL.out _).mono ?_
     rintro e w1 ⟨rfl,rfl⟩
     ((repeat (go_wp2_with fail;first | (refine cdY ?_ ?_;focus (simp[ov, *];done)) | (refine cdN ?_ ?_;focus (simp[ov, *];done))));go_wp2_with fail)
     exact got HR ⟨by simp[ov, *],by simp[ov, *],by simp[ov, *],by simp[ov, *],by simp[ov, *],by simp[ov, *],by simp[ov, *],by simp[ov, *],by simp[ov, *],by simp[ov, *],by simp[ov, *],by simp[ov, *],by simp[ov, *],rfl⟩
   ·obtain⟨a1,a2,a3⟩:=yq (z:=48) rfl h48
    have e:hx=false:=by rw[←HX.out];exact decide_eq_false (fun h=>h48 h.2.1)
    subst e
    ((repeat (go_wp2_with fail;first | (refine cdY ?_ ?_;focus (simp[ov, *];done)) | (refine cdN ?_ ?_;focus (simp[ov, *];done))));go_wp2_with fail)
    exact got HR ⟨by simp[ov, *],by simp[ov, *],by simp[ov, *],by simp[ov, *],by simp[ov, *],by simp[ov, *],by simp[ov, *],by simp[ov, *],by simp[ov, *],by simp[ov, *],by simp[ov, *],by simp[ov, *],by simp[ov, *],rfl⟩
  ·have e:hx=false:=by rw[←HX.out];exact decide_eq_false (fun h=>h2 h.1)
   have g1:decide ((i0:Int)+2<(N:Int))=false:=by simp;omega
   have g2:¬((i0:Int)+2<(N:Int)):=by omega
   subst e
   ((repeat (go_wp2_with fail;first | (refine cdY ?_ ?_;focus (simp[ov, *];done)) | (refine cdN ?_ ?_;focus (simp[ov, *];done))));go_wp2_with fail)
   exact got HR ⟨by simp[ov, *],by simp[ov, *],by simp[ov, *],by simp[ov, *],by simp[ov, *],by simp[ov, *],by simp[ov, *],by simp[ov, *],by simp[ov, *],by simp[ov, *],by simp[ov, *],by simp[ov, *],by simp[ov, *],rfl⟩
 have hi1N:i0+(if hx=true then 2 else 0)≤N:=by rw[←hi1,←HN.out];exact ztl s
 clear s0 s2 s3 s4 s5 s6 s7 s8 s9 σ HX
 rintro σ w1 ⟨s0,s2,s3,s4,s5,s6,s7,s8,s9,s10,s11,s12,s54,rfl⟩
 go_wp2_with fail
 refine yr (fun s' w'=>s' 0=.string ⟨s.toArray⟩∧s' 2=.int .u64 0∧s' 3=.int .i64 0∧s' 4=.bool neg∧s' 5=.bool false∧s' 6=.bool hx∧s' 7=.int .i64 ((i0+if hx=true then 2 else 0:Nat):Int)∧s' 8=.bool false∧s' 9=.bool false∧s' 10=.int .u64 (xj hx:Int)∧s' 11=.int .i64 (ju hx:Int)∧s' 12=.int .u8 (if hx=true then 112 else 101)∧w=w') ?_ ?_
 ·intro R' K' HR hK'
  cases hx
  ·((repeat (go_wp2_with fail;first | (refine cdY ?_ ?_;focus (simp[ov, *];done)) | (refine cdN ?_ ?_;focus (simp[ov, *];done))));go_wp2_with fail)
   exact got HR ⟨by simp[ov, *],by simp[ov, *],by simp[ov, *],by simp[ov, *],by simp[ov, *],by simp[ov, *],by simp[ov, *],by simp[ov, *],by simp[ov, *],by simp[ov,xj, *],by simp[ov,ju, *],by simp[ov, *],rfl⟩
  ·have g1:(i0:Int)+2<9223372036854775808:=by omega
   ((repeat (go_wp2_with fail;first | (refine cdY ?_ ?_;focus (simp[ov, *];done)) | (refine cdN ?_ ?_;focus (simp[ov, *];done))));go_wp2_with fail)
   exact got HR ⟨by simp[ov, *],by simp[ov, *],by simp[ov, *],by simp[ov, *],by simp[ov, *],by simp[ov, *],by simp[ov, *],by simp[ov, *],by simp[ov, *],by simp[ov,xj, *],by simp[ov,ju, *],by simp[ov, *],rfl⟩
 clear s0 s2 s3 s4 s5 s6 s7 s8 s9 s10 s11 s12 s54 σ
 rw[←hi1]
 rw[←hi1]at hi1N
 clear hi1 hi0N HI0 i0
 rintro σ w1 ⟨s0,s2,s3,s4,s5,s6,s7,s8,s9,s10,s11,s12,rfl⟩
 obtain⟨T,hT⟩:∃ T,scF hx (s.drop (zhv s)) RF.init=T:=⟨_,rfl⟩
 obtain⟨i1,hi1e⟩:∃ i,zhv s=i:=⟨_,rfl⟩
 rw[hT]at HRF
 rw[hi1e]at hT hi1N s7
 clear hi1e
 obtain⟨ec,hec⟩:∃ z:Int,(if hx=true then 112 else 101)=z:=⟨_,rfl⟩
 rw[hec]at s12
 have HEC:=Lib.hid hec
 obtain⟨B,hB⟩:∃ z,xj hx=z:=⟨_,rfl⟩
 obtain⟨M,hM⟩:∃ z,ju hx=z:=⟨_,rfl⟩
 rw[hB]at s10
 rw[hM]at s11
 have HB:=Lib.hid hB
 have HM:=Lib.hid hM
 have HT:=Lib.hid hT
 have hM2:M≤19:=by rw[←hM];unfold ju;split <;> omega
 clear hT hB hM hec
 go_wp2_with fail
 go_step3
 go_upto_block 1 with fail
 refine yr (fun s' w'=>∃ (i:Nat) (st:RF),i≤N∧T=(st,s.drop i)∧RFok hx i st∧s' 0=.string ⟨s.toArray⟩∧s' 2=.int .u64 (st.mant:Int)∧s' 3=.int .i64 0∧s' 4=.bool neg∧s' 5=.bool st.tr∧s' 6=.bool hx∧s' 7=.int .i64 (i:Int)∧s' 8=.bool false∧s' 9=.bool st.us∧s' 10=.int .u64 (B:Int)∧s' 12=.int .u8 ec∧s' 13=.bool st.dot∧s' 14=.bool st.dig∧s' 15=.int .i64 (st.nd:Int)∧s' 16=.int .i64 (st.nm:Int)∧s' 17=.int .i64 st.dp∧w=w') ?_ ?_
 ·intro R' K' HR hK'
  ((repeat (go_wp2_with fail;first | (refine cdY ?_ ?_;focus (simp[ov, *];done)) | (refine cdN ?_ ?_;focus (simp[ov, *];done))));go_wp2_with fail)
  refine xx (fun kk s' w'=>∃ (i:Nat) (us dot dig:Bool) (nd nm:Nat) (dp:Int) (mant:Nat) (tr:Bool),i≤N∧kk=N-i∧scF hx (s.drop i) ⟨us,dot,dig,nd,nm,dp,mant,tr⟩=T∧mant<B^nm∧nm≤M∧nd≤i∧-(i:Int)≤dp∧dp≤i∧s' 0=.string ⟨s.toArray⟩∧s' 2=.int .u64 (mant:Int)∧s' 3=.int .i64 0∧s' 4=.bool neg∧s' 5=.bool tr∧s' 6=.bool hx∧s' 7=.int .i64 (i:Int)∧s' 8=.bool false∧s' 9=.bool us∧s' 10=.int .u64 (B:Int)∧s' 11=.int .i64 (M:Int)∧s' 12=.int .u8 ec∧s' 13=.bool dot∧s' 14=.bool dig∧s' 15=.int .i64 (nd:Int)∧s' 16=.int .i64 (nm:Int)∧s' 17=.int .i64 dp∧w=w') (N-i1)
   ⟨i1,false,false,false,0,0,0,0,false,hi1N,rfl,HT.out,by simp,by omega,by omega,by omega,by omega,by simp[ov, *],by simp[ov, *],by simp[ov, *],by simp[ov, *],by simp[ov, *],by simp[ov, *],by simp[ov, *],by simp[ov, *],by simp[ov, *],by simp[ov, *],by simp[ov, *],by simp[ov, *],by simp[ov, *],by simp[ov, *],by simp[ov, *],by simp[ov, *],by simp[ov, *],rfl⟩ ?_
  clear s0 s2 s3 s4 s5 s6 s7 s8 s9 s10 s11 s12 σ HT hi1N i1
  rintro kk σ wk ⟨i,us,dot,dig,nd,nm,dp,mant,tr,hi,hkk,hsc,o1,o2,o3,o4,o5,s0,s2,s3,s4,s5,s6,s7,s8,s9,s10,s11,s12,s13,s14,s15,s16,s17,rfl⟩ RK KK HRK hKK
  have HKK:=Lib.hid hkk
  have HSC:=Lib.hid hsc
  have HO1:=Lib.hid o1
  have hi8:(i:Int)≤4000000:=by omega
  clear hkk hsc o1
  have HRF0:=Lib.hid (fun us dot dig tr=>(RFok.mk' (us:=us) (dot:=dot) (dig:=dig) (tr:=tr) (by rw[HB.out];exact HO1.out) (by rw[HM.out];exact o2) o3 o4 o5:RFok hx i ⟨us,dot,dig,nd,nm,dp,mant,tr⟩))
  by_cases hiN:i<N
  ·have hidx:=HIDX.out i hiN
   have hiN':(i:Int)<(N:Int):=by omega
   have hw:IntKind.i64.wrap ((i:Int)+1)=(i:Int)+1:=by rw[IntKind.wrap_i64];omega
   have hdr:=ua s i (by rw[HN.out];exact hiN)
   have hsc:=HSC.out
   rw[hdr]at hsc
   have HDR:=Lib.hid hdr
   generalize s.getD i 0=c at *
   have HL:=Lib.hid (HLOW.out c)
   obtain⟨n,hn⟩:∃ n,c.toNat=n:=⟨_,rfl⟩
   have HNN:=Lib.hid hn
   simp only[hn]at HL
   have HS2:=Lib.hid hsc
   clear hdr hsc HSC
   by_cases h95:n=95
   ·have HF:=Lib.hid ((sc95 (HNN.out.trans h95)).symm.trans HS2.out)
    subst h95
    ((repeat (go_wp2_with fail;first | (refine cdY ?_ ?_;focus (simp[ov, *];done)) | (refine cdN ?_ ?_;focus (simp[ov, *];done))));go_wp2_with fail)
    exact wo HRK (N-(i+1)) (by have:=HKK.out;omega) ⟨i+1,true,dot,dig,nd,nm,dp,mant,tr,by omega,rfl,HF.out,HO1.out,o2,by omega,by omega,by omega,by simp[ov, *],by simp[ov, *],by simp[ov, *],by simp[ov, *],by simp[ov, *],by simp[ov, *],by simp[ov, *],by simp[ov, *],by simp[ov, *],by simp[ov, *],by simp[ov, *],by simp[ov, *],by simp[ov, *],by simp[ov, *],by simp[ov, *],by simp[ov, *],by simp[ov, *],rfl⟩
   ·obtain⟨a1,a2,a3⟩:=yq (z:=95) rfl h95
    have H95:=Lib.hid h95
    clear h95
    by_cases h46:n=46
    ·subst h46
     cases dot
     ·have HF:=Lib.hid ((sc46n HNN.out rfl).symm.trans HS2.out)
      ((repeat (go_wp2_with fail;first | (refine cdY ?_ ?_;focus (simp[ov, *];done)) | (refine cdN ?_ ?_;focus (simp[ov, *];done))));go_wp2_with fail)
      exact wo HRK (N-(i+1)) (by have:=HKK.out;omega) ⟨i+1,us,true,dig,nd,nm,(nd:Int),mant,tr,by omega,rfl,HF.out,HO1.out,o2,by omega,by omega,by omega,by simp[ov, *],by simp[ov, *],by simp[ov, *],by simp[ov, *],by simp[ov, *],by simp[ov, *],by simp[ov, *],by simp[ov, *],by simp[ov, *],by simp[ov, *],by simp[ov, *],by simp[ov, *],by simp[ov, *],by simp[ov, *],by simp[ov, *],by simp[ov, *],by simp[ov, *],rfl⟩
     ·have HF:=Lib.hid (show T=(⟨us,true,dig,nd,nm,dp,mant,tr⟩,s.drop i) by rw[HDR.out,←HS2.out];exact sc46y HNN.out rfl)
      ((repeat (go_wp2_with fail;first | (refine cdY ?_ ?_;focus (simp[ov, *];done)) | (refine cdN ?_ ?_;focus (simp[ov, *];done))));go_wp2_with fail)
      exact got HR ⟨i,⟨us,true,dig,nd,nm,dp,mant,tr⟩,hi,HF.out,HRF0.out _ _ _ _,by simp[ov, *],by simp[ov, *],by simp[ov, *],by simp[ov, *],by simp[ov, *],by simp[ov, *],by simp[ov, *],by simp[ov, *],by simp[ov, *],by simp[ov, *],by simp[ov, *],by simp[ov, *],by simp[ov, *],by simp[ov, *],by simp[ov, *],by simp[ov, *],rfl⟩
    ·obtain⟨b1,b2,b3⟩:=yq (z:=46) rfl h46
     have H46:=Lib.hid h46
     clear h46
     obtain⟨dd,hdd⟩:∃ b,decide (48≤n∧n≤57)=b:=⟨_,rfl⟩
     have HDD:=Lib.hid hdd
     clear hdd
     ((repeat (go_upto_region 32 with fail;first | (refine cdY ?_ ?_;focus (simp[ov, *];done)) | (refine cdN ?_ ?_;focus (simp[ov, *];done))));go_upto_region 32 with fail)
     refine yr (fun s' w'=>s' 0=.string ⟨s.toArray⟩∧s' 2=.int .u64 (mant:Int)∧s' 3=.int .i64 0∧s' 4=.bool neg∧s' 5=.bool tr∧s' 6=.bool hx∧s' 7=.int .i64 (i:Int)∧s' 8=.bool false∧s' 9=.bool us∧s' 10=.int .u64 (B:Int)∧s' 11=.int .i64 (M:Int)∧s' 12=.int .u8 ec∧s' 13=.bool dot∧s' 14=.bool dig∧s' 15=.int .i64 (nd:Int)∧s' 16=.int .i64 (nm:Int)∧s' 17=.int .i64 dp∧s' 18=.int .u8 (n:Int)∧s' 76=.bool dd∧w=w') ?_ ?_
     ·intro R2 K2 HR2 hK2
      by_cases h1:48≤n
      ·have k1:(48:Int)≤(n:Int):=by omega
       by_cases h2:n≤57
       ·have k2:(n:Int)≤57:=by omega
        have e:dd=true:=by rw[←HDD.out];exact decide_eq_true ⟨h1,h2⟩
        subst e
        ((repeat (go_wp2_with fail;first | (refine cdY ?_ ?_;focus (simp[ov, *];done)) | (refine cdN ?_ ?_;focus (simp[ov, *];done))));go_wp2_with fail)
        exact got HR2 ⟨by simp[ov, *],by simp[ov, *],by simp[ov, *],by simp[ov, *],by simp[ov, *],by simp[ov, *],by simp[ov, *],by simp[ov, *],by simp[ov, *],by simp[ov, *],by simp[ov, *],by simp[ov, *],by simp[ov, *],by simp[ov, *],by simp[ov, *],by simp[ov, *],by simp[ov, *],by simp[ov, *],by simp[ov, *],rfl⟩
       ·have e:dd=false:=by rw[←HDD.out];exact decide_eq_false (fun h=>h2 h.2)
        have k2:decide ((n:Int)≤57)=false:=by simp;omega
        have k3:decide (n≤57)=false:=by simp;omega
        subst e
        clear h2
        ((repeat (go_wp2_with fail;first | (refine cdY ?_ ?_;focus (simp[ov, *];done)) | (refine cdN ?_ ?_;focus (simp[ov, *];done))));go_wp2_with fail)
        exact got HR2 ⟨by simp[ov, *],by simp[ov, *],by simp[ov, *],by simp[ov, *],by simp[ov, *],by simp[ov, *],by simp[ov, *],by simp[ov, *],by simp[ov, *],by simp[ov, *],by simp[ov, *],by simp[ov, *],by simp[ov, *],by simp[ov, *],by simp[ov, *],by simp[ov, *],by simp[ov, *],by simp[ov, *],by simp[ov, *],rfl⟩
      ·have e:dd=false:=by rw[←HDD.out];exact decide_eq_false (fun h=>h1 h.1)
       have k2:decide (48≤(n:Int))=false:=by simp;omega
       have k3:decide (48≤n)=false:=by simp;omega
       subst e
       clear h1
       ((repeat (go_wp2_with fail;first | (refine cdY ?_ ?_;focus (simp[ov, *];done)) | (refine cdN ?_ ?_;focus (simp[ov, *];done))));go_wp2_with fail)
       exact got HR2 ⟨by simp[ov, *],by simp[ov, *],by simp[ov, *],by simp[ov, *],by simp[ov, *],by simp[ov, *],by simp[ov, *],by simp[ov, *],by simp[ov, *],by simp[ov, *],by simp[ov, *],by simp[ov, *],by simp[ov, *],by simp[ov, *],by simp[ov, *],by simp[ov, *],by simp[ov, *],by simp[ov, *],by simp[ov, *],rfl⟩
     clear s0 s2 s3 s4 s5 s6 s7 s8 s9 s10 s11 s12 s13 s14 s15 s16 s17 σ
     rintro σ w2 ⟨s0,s2,s3,s4,s5,s6,s7,s8,s9,s10,s11,s12,s13,s14,s15,s16,s17,s18,s76,rfl⟩
     have hwd:IntKind.i64.wrap ((nd:Int)+1)=(nd:Int)+1:=by rw[IntKind.wrap_i64];omega
     have hwm:IntKind.i64.wrap ((nm:Int)+1)=(nm:Int)+1:=by rw[IntKind.wrap_i64];omega
     have hwp:IntKind.i64.wrap (dp-1)=dp-1:=by rw[IntKind.wrap_i64];omega
     have HBS:=Lib.hid (fun k (h:k≤M)=>(by have:=zr4 hx k (by rw[HM.out];exact h);rw[HB.out]at this;exact this:B^k≤18446744073709551616))
     cases dd
     ·obtain⟨l,hl⟩:∃ l,wc c=l:=⟨_,rfl⟩
      rw[hl]at HL
      obtain⟨hd,hhd⟩:∃ b,(hx&&decide (97≤l∧l≤102))=b:=⟨_,rfl⟩
      have HHD:=Lib.hid hhd
      have HLL:=Lib.hid hl
      clear hhd hl
      ((repeat (go_upto_region 43 with fail;first | (refine cdY ?_ ?_;focus (simp[ov, *];done)) | (refine cdN ?_ ?_;focus (simp[ov, *];done))));go_upto_region 43 with fail)
      refine yr (fun s' w'=>s' 0=.string ⟨s.toArray⟩∧s' 2=.int .u64 (mant:Int)∧s' 3=.int .i64 0∧s' 4=.bool neg∧s' 5=.bool tr∧s' 6=.bool hx∧s' 7=.int .i64 (i:Int)∧s' 8=.bool false∧s' 9=.bool us∧s' 10=.int .u64 (B:Int)∧s' 11=.int .i64 (M:Int)∧s' 12=.int .u8 ec∧s' 13=.bool dot∧s' 14=.bool dig∧s' 15=.int .i64 (nd:Int)∧s' 16=.int .i64 (nm:Int)∧s' 17=.int .i64 dp∧s' 18=.int .u8 (n:Int)∧s' 109=.bool hd∧w=w') ?_ ?_
      ·intro R2 K2 HR2 hK2
       cases hx
       ·have e:hd=false:=by rw[←HHD.out];rfl
        have eB:B=10:=by rw[←HB.out];rfl
        subst e eB
        ((repeat (go_wp2_with fail;first | (refine cdY ?_ ?_;focus (simp[ov, *];done)) | (refine cdN ?_ ?_;focus (simp[ov, *];done))));go_wp2_with fail)
        exact got HR2 ⟨by simp[ov, *],by simp[ov, *],by simp[ov, *],by simp[ov, *],by simp[ov, *],by simp[ov, *],by simp[ov, *],by simp[ov, *],by simp[ov, *],by simp[ov, *],by simp[ov, *],by simp[ov, *],by simp[ov, *],by simp[ov, *],by simp[ov, *],by simp[ov, *],by simp[ov, *],by simp[ov, *],by simp[ov, *],rfl⟩
       ·have eB:B=16:=by rw[←HB.out];rfl
        subst eB
        by_cases h97:97≤l
        ·have m1:(97:Int)≤(l:Int):=by omega
         by_cases h102:l≤102
         ·have e:hd=true:=by rw[←HHD.out,decide_eq_true ⟨h97,h102⟩];rfl
          subst e
          have m2:(l:Int)≤102:=by omega
          ((repeat (go_wp2_with fail;first | (refine cdY ?_ ?_;focus (simp[ov, *];done)) | (refine cdN ?_ ?_;focus (simp[ov, *];done))));go_wp2_with fail)
          refine (HL.out _).mono ?_
          rintro e w1 ⟨rfl,rfl⟩
          ((repeat (go_wp2_with fail;first | (refine cdY ?_ ?_;focus (simp[ov, *];done)) | (refine cdN ?_ ?_;focus (simp[ov, *];done))));go_wp2_with fail)
          refine (HL.out _).mono ?_
          rintro e w1 ⟨rfl,rfl⟩
          ((repeat (go_wp2_with fail;first | (refine cdY ?_ ?_;focus (simp[ov, *];done)) | (refine cdN ?_ ?_;focus (simp[ov, *];done))));go_wp2_with fail)
          exact got HR2 ⟨by simp[ov, *],by simp[ov, *],by simp[ov, *],by simp[ov, *],by simp[ov, *],by simp[ov, *],by simp[ov, *],by simp[ov, *],by simp[ov, *],by simp[ov, *],by simp[ov, *],by simp[ov, *],by simp[ov, *],by simp[ov, *],by simp[ov, *],by simp[ov, *],by simp[ov, *],by simp[ov, *],by simp[ov, *],rfl⟩
         ·have e:hd=false:=by rw[←HHD.out,decide_eq_false (fun h=>h102 h.2)];rfl
          subst e
          have m2:decide ((l:Int)≤102)=false:=by simp;omega
          have m3:decide (l≤102)=false:=by simp;omega
          clear h102
          ((repeat (go_wp2_with fail;first | (refine cdY ?_ ?_;focus (simp[ov, *];done)) | (refine cdN ?_ ?_;focus (simp[ov, *];done))));go_wp2_with fail)
          refine (HL.out _).mono ?_
          rintro e w1 ⟨rfl,rfl⟩
          ((repeat (go_wp2_with fail;first | (refine cdY ?_ ?_;focus (simp[ov, *];done)) | (refine cdN ?_ ?_;focus (simp[ov, *];done))));go_wp2_with fail)
          refine (HL.out _).mono ?_
          rintro e w1 ⟨rfl,rfl⟩
          ((repeat (go_wp2_with fail;first | (refine cdY ?_ ?_;focus (simp[ov, *];done)) | (refine cdN ?_ ?_;focus (simp[ov, *];done))));go_wp2_with fail)
          exact got HR2 ⟨by simp[ov, *],by simp[ov, *],by simp[ov, *],by simp[ov, *],by simp[ov, *],by simp[ov, *],by simp[ov, *],by simp[ov, *],by simp[ov, *],by simp[ov, *],by simp[ov, *],by simp[ov, *],by simp[ov, *],by simp[ov, *],by simp[ov, *],by simp[ov, *],by simp[ov, *],by simp[ov, *],by simp[ov, *],rfl⟩
        ·have e:hd=false:=by rw[←HHD.out,decide_eq_false (fun h=>h97 h.1)];rfl
         subst e
         have m2:decide ((97:Int)≤(l:Int))=false:=by simp;omega
         have m3:decide (97≤l)=false:=by simp;omega
         clear h97
         ((repeat (go_wp2_with fail;first | (refine cdY ?_ ?_;focus (simp[ov, *];done)) | (refine cdN ?_ ?_;focus (simp[ov, *];done))));go_wp2_with fail)
         refine (HL.out _).mono ?_
         rintro e w1 ⟨rfl,rfl⟩
         ((repeat (go_wp2_with fail;first | (refine cdY ?_ ?_;focus (simp[ov, *];done)) | (refine cdN ?_ ?_;focus (simp[ov, *];done))));go_wp2_with fail)
         exact got HR2 ⟨by simp[ov, *],by simp[ov, *],by simp[ov, *],by simp[ov, *],by simp[ov, *],by simp[ov, *],by simp[ov, *],by simp[ov, *],by simp[ov, *],by simp[ov, *],by simp[ov, *],by simp[ov, *],by simp[ov, *],by simp[ov, *],by simp[ov, *],by simp[ov, *],by simp[ov, *],by simp[ov, *],by simp[ov, *],rfl⟩
      clear s0 s2 s3 s4 s5 s6 s7 s8 s9 s10 s11 s12 s13 s14 s15 s16 s17 s18 s76 σ
      rintro σ w2 ⟨s0,s2,s3,s4,s5,s6,s7,s8,s9,s10,s11,s12,s13,s14,s15,s16,s17,s18,s109,rfl⟩
      have HN9:=Lib.hid (of_decide_eq_false HDD.out)
      cases hd
      ·have HF:=Lib.hid (show T=(⟨us,dot,dig,nd,nm,dp,mant,tr⟩,s.drop i) by rw[HDR.out,←HS2.out];exact scN (by rw[HNN.out];exact HN9.out) (by rw[HNN.out];exact H95.out) (by rw[HNN.out];exact H46.out) (by rw[HLL.out];exact HHD.out))
       ((repeat (go_wp2_with fail;first | (refine cdY ?_ ?_;focus (simp[ov, *];done)) | (refine cdN ?_ ?_;focus (simp[ov, *];done))));go_wp2_with fail)
       exact got HR ⟨i,⟨us,dot,dig,nd,nm,dp,mant,tr⟩,hi,HF.out,HRF0.out _ _ _ _,by simp[ov, *],by simp[ov, *],by simp[ov, *],by simp[ov, *],by simp[ov, *],by simp[ov, *],by simp[ov, *],by simp[ov, *],by simp[ov, *],by simp[ov, *],by simp[ov, *],by simp[ov, *],by simp[ov, *],by simp[ov, *],by simp[ov, *],by simp[ov, *],rfl⟩
      ·cases hx
       ·exact absurd HHD.out (by simp)
       ·have hll:97≤l∧l≤102:=of_decide_eq_true HHD.out
        obtain⟨d,hd⟩:∃ d,l-87=d:=⟨_,rfl⟩
        have HD:=Lib.hid (show 10≤d∧d<16 by omega)
        have eB:B=16:=by rw[←HB.out];rfl
        have HF0:=Lib.hid (show scF true (s.drop (i+1)) (dgS true ⟨us,dot,dig,nd,nm,dp,mant,tr⟩ d)=T by rw[←HS2.out,scH (by rw[HNN.out];exact HN9.out) (by rw[HNN.out];exact H95.out) (by rw[HNN.out];exact H46.out) (by rw[HLL.out];exact hll),HLL.out,hd])
        have HZ2:=Lib.hid (show ¬(d=0∧nd=0) from fun h=>by have:=HD.out;omega)
        by_cases hm:nm<M
        ·have hm':(nm:Int)<(M:Int):=by omega
         obtain⟨P,hP⟩:∃ P,mant*B=P:=⟨_,rfl⟩
         have hQ:P+d<B^(nm+1):=by rw[←hP];exact zg9 HO1.out (by have:=HD.out;omega)
         have hQ2:P+d<18446744073709551616:=Nat.lt_of_lt_of_le hQ (HBS.out _ hm)
         have hp1:IntKind.u64.wrap ((mant:Int)*16)=(P:Int):=by
          have h:(mant:Int)*16=(P:Int):=by rw[←hP,eB];rfl
          rw[h,IntKind.wrap_u64];omega
         have hp2:IntKind.u64.wrap ((P:Int)+(d:Int))=(P:Int)+(d:Int):=by rw[IntKind.wrap_u64];omega
         have hp3:IntKind.u64.wrap (d:Int)=(d:Int):=by rw[IntKind.wrap_u64];omega
         have hs1:IntKind.u8.wrap ((l:Int)-97)=(l:Int)-97:=by rw[IntKind.wrap_u8];omega
         have hs2:IntKind.u8.wrap ((l:Int)-97+10)=(d:Int):=by rw[IntKind.wrap_u8];omega
         have HQ:=Lib.hid hQ
         have HF:=Lib.hid (show scF true (s.drop (i+1)) ⟨us,dot,true,nd+1,nm+1,dp,P+d,tr⟩=T by rw[←HF0.out,zwu HZ2.out (by rw[HM.out];exact hm),HB.out,hP])
         clear hP hQ hd hll eB
         ((repeat (go_wp2_with fail;first | (refine cdY ?_ ?_;focus (simp[ov, *];done)) | (refine cdN ?_ ?_;focus (simp[ov, *];done))));go_wp2_with fail)
         refine (HL.out _).mono ?_
         rintro e w1 ⟨rfl,rfl⟩
         ((repeat (go_wp2_with fail;first | (refine cdY ?_ ?_;focus (simp[ov, *];done)) | (refine cdN ?_ ?_;focus (simp[ov, *];done))));go_wp2_with fail)
         exact wo HRK (N-(i+1)) (by have:=HKK.out;omega) ⟨i+1,us,dot,true,nd+1,nm+1,dp,P+d,tr,by omega,rfl,HF.out,HQ.out,hm,by omega,by omega,by omega,by simp[ov, *],by simp[ov, *],by simp[ov, *],by simp[ov, *],by simp[ov, *],by simp[ov, *],by simp[ov, *],by simp[ov, *],by simp[ov, *],by simp[ov, *],by simp[ov, *],by simp[ov, *],by simp[ov, *],by simp[ov, *],by simp[ov, *],by simp[ov, *],by simp[ov, *],rfl⟩
        ·have g1:decide ((nm:Int)<(M:Int))=false:=by simp;omega
         have g2:decide (nm<M)=false:=by simp;omega
         have HF:=Lib.hid (show scF true (s.drop (i+1)) ⟨us,dot,true,nd+1,nm,dp,mant,true⟩=T by rw[←HF0.out,zwt HZ2.out (by rw[HM.out];exact hm),decide_eq_true (show d≠0 by have:=HD.out;omega),Bool.or_true])
         clear hm hd hll eB
         ((repeat (go_wp2_with fail;first | (refine cdY ?_ ?_;focus (simp[ov, *];done)) | (refine cdN ?_ ?_;focus (simp[ov, *];done))));go_wp2_with fail)
         exact wo HRK (N-(i+1)) (by have:=HKK.out;omega) ⟨i+1,us,dot,true,nd+1,nm,dp,mant,true,by omega,rfl,HF.out,HO1.out,o2,by omega,by omega,by omega,by simp[ov, *],by simp[ov, *],by simp[ov, *],by simp[ov, *],by simp[ov, *],by simp[ov, *],by simp[ov, *],by simp[ov, *],by simp[ov, *],by simp[ov, *],by simp[ov, *],by simp[ov, *],by simp[ov, *],by simp[ov, *],by simp[ov, *],by simp[ov, *],by simp[ov, *],rfl⟩
     ·have hnn:48≤n∧n≤57:=of_decide_eq_true HDD.out
      obtain⟨d,hd⟩:∃ d,n-48=d:=⟨_,rfl⟩
      have HD:=Lib.hid hd
      have hB10:10≤B:=by rw[←HB.out];unfold xj;split <;> omega
      have HF0:=Lib.hid (show scF hx (s.drop (i+1)) (dgS hx ⟨us,dot,dig,nd,nm,dp,mant,tr⟩ d)=T by rw[←HS2.out,scD (by rw[HNN.out];exact hnn),HNN.out,HD.out])
      have hsb:IntKind.u8.wrap ((n:Int)-48)=(d:Int):=by
       have h:((n:Int)-48)=(d:Int):=by omega
       rw[h]
       rw[IntKind.wrap_u8];omega
      clear hnn hd HL
      obtain⟨z,hz⟩:∃ b,decide (n=48∧nd=0)=b:=⟨_,rfl⟩
      have HZ:=Lib.hid hz
      clear hz
      ((repeat (go_upto_region 34 with fail;first | (refine cdY ?_ ?_;focus (simp[ov, *];done)) | (refine cdN ?_ ?_;focus (simp[ov, *];done))));go_upto_region 34 with fail)
      refine yr (fun s' w'=>s' 0=.string ⟨s.toArray⟩∧s' 2=.int .u64 (mant:Int)∧s' 3=.int .i64 0∧s' 4=.bool neg∧s' 5=.bool tr∧s' 6=.bool hx∧s' 7=.int .i64 (i:Int)∧s' 8=.bool false∧s' 9=.bool us∧s' 10=.int .u64 (B:Int)∧s' 11=.int .i64 (M:Int)∧s' 12=.int .u8 ec∧s' 13=.bool dot∧s' 14=.bool true∧s' 15=.int .i64 (nd:Int)∧s' 16=.int .i64 (nm:Int)∧s' 17=.int .i64 dp∧s' 18=.int .u8 (n:Int)∧s' 89=.bool z∧w=w') ?_ ?_
      ·intro R2 K2 HR2 hK2
       by_cases h1:n=48
       ·by_cases h2:nd=0
        ·have e:z=true:=by rw[←HZ.out];exact decide_eq_true ⟨h1,h2⟩
         subst h1 h2 e
         ((repeat (go_wp2_with fail;first | (refine cdY ?_ ?_;focus (simp[ov, *];done)) | (refine cdN ?_ ?_;focus (simp[ov, *];done))));go_wp2_with fail)
         exact got HR2 ⟨by simp[ov, *],by simp[ov, *],by simp[ov, *],by simp[ov, *],by simp[ov, *],by simp[ov, *],by simp[ov, *],by simp[ov, *],by simp[ov, *],by simp[ov, *],by simp[ov, *],by simp[ov, *],by simp[ov, *],by simp[ov, *],by simp[ov, *],by simp[ov, *],by simp[ov, *],by simp[ov, *],by simp[ov, *],rfl⟩
        ·obtain⟨c1,c2,c3⟩:=yq (z:=0) rfl h2
         have e:z=false:=by rw[←HZ.out];exact decide_eq_false (fun h=>h2 h.2)
         subst h1 e
         ((repeat (go_wp2_with fail;first | (refine cdY ?_ ?_;focus (simp[ov, *];done)) | (refine cdN ?_ ?_;focus (simp[ov, *];done))));go_wp2_with fail)
         exact got HR2 ⟨by simp[ov, *],by simp[ov, *],by simp[ov, *],by simp[ov, *],by simp[ov, *],by simp[ov, *],by simp[ov, *],by simp[ov, *],by simp[ov, *],by simp[ov, *],by simp[ov, *],by simp[ov, *],by simp[ov, *],by simp[ov, *],by simp[ov, *],by simp[ov, *],by simp[ov, *],by simp[ov, *],by simp[ov, *],rfl⟩
       ·obtain⟨c1,c2,c3⟩:=yq (z:=48) rfl h1
        have e:z=false:=by rw[←HZ.out];exact decide_eq_false (fun h=>h1 h.1)
        subst e
        ((repeat (go_wp2_with fail;first | (refine cdY ?_ ?_;focus (simp[ov, *];done)) | (refine cdN ?_ ?_;focus (simp[ov, *];done))));go_wp2_with fail)
        exact got HR2 ⟨by simp[ov, *],by simp[ov, *],by simp[ov, *],by simp[ov, *],by simp[ov, *],by simp[ov, *],by simp[ov, *],by simp[ov, *],by simp[ov, *],by simp[ov, *],by simp[ov, *],by simp[ov, *],by simp[ov, *],by simp[ov, *],by simp[ov, *],by simp[ov, *],by simp[ov, *],by simp[ov, *],by simp[ov, *],rfl⟩
      clear s0 s2 s3 s4 s5 s6 s7 s8 s9 s10 s11 s12 s13 s14 s15 s16 s17 s18 s76 σ
      rintro σ w2 ⟨s0,s2,s3,s4,s5,s6,s7,s8,s9,s10,s11,s12,s13,s14,s15,s16,s17,s18,s89,rfl⟩
      cases z
      ·have HZ2:=Lib.hid (show ¬(d=0∧nd=0) from fun h=>by have h2:=of_decide_eq_false HZ.out;have h3:=HD.out;have h4:=(of_decide_eq_true HDD.out);exact h2 ⟨by omega,h.2⟩)
       by_cases hm:nm<M
       ·have hm':(nm:Int)<(M:Int):=by omega
        obtain⟨P,hP⟩:∃ P,mant*B=P:=⟨_,rfl⟩
        have hQ:P+d<B^(nm+1):=by rw[←hP];exact zg9 HO1.out (by have:=HD.out;have:=(of_decide_eq_true HDD.out);omega)
        have hQ2:P+d<18446744073709551616:=Nat.lt_of_lt_of_le hQ (HBS.out _ hm)
        have hp1:IntKind.u64.wrap ((mant:Int)*(B:Int))=(P:Int):=by
         rw[←Int.natCast_mul,hP,IntKind.wrap_u64];omega
        have hp2:IntKind.u64.wrap ((P:Int)+(d:Int))=(P:Int)+(d:Int):=by rw[IntKind.wrap_u64];omega
        have hp3:IntKind.u64.wrap (d:Int)=(d:Int):=by rw[IntKind.wrap_u64];omega
        have HQ:=Lib.hid hQ
        have HF:=Lib.hid (show scF hx (s.drop (i+1)) ⟨us,dot,true,nd+1,nm+1,dp,P+d,tr⟩=T by rw[←HF0.out,zwu HZ2.out (by rw[HM.out];exact hm),HB.out,hP])
        clear hP hQ
        ((repeat (go_wp2_with fail;first | (refine cdY ?_ ?_;focus (simp[ov, *];done)) | (refine cdN ?_ ?_;focus (simp[ov, *];done))));go_wp2_with fail)
        exact wo HRK (N-(i+1)) (by have:=HKK.out;omega) ⟨i+1,us,dot,true,nd+1,nm+1,dp,P+d,tr,by omega,rfl,HF.out,HQ.out,hm,by omega,by omega,by omega,by simp[ov, *],by simp[ov, *],by simp[ov, *],by simp[ov, *],by simp[ov, *],by simp[ov, *],by simp[ov, *],by simp[ov, *],by simp[ov, *],by simp[ov, *],by simp[ov, *],by simp[ov, *],by simp[ov, *],by simp[ov, *],by simp[ov, *],by simp[ov, *],by simp[ov, *],rfl⟩
       ·have g1:decide ((nm:Int)<(M:Int))=false:=by simp;omega
        have g2:decide (nm<M)=false:=by simp;omega
        have HF:=Lib.hid (show scF hx (s.drop (i+1)) ⟨us,dot,true,nd+1,nm,dp,mant,tr || decide (d≠0)⟩=T by rw[←HF0.out,zwt HZ2.out (by rw[HM.out];exact hm)])
        by_cases h1:n=48
        ·have e:d=0:=by have:=HD.out;omega
         have HF2:=Lib.hid (show scF hx (s.drop (i+1)) ⟨us,dot,true,nd+1,nm,dp,mant,tr⟩=T by rw[←HF.out,e];simp)
         subst h1
         clear hm e HF
         ((repeat (go_wp2_with fail;first | (refine cdY ?_ ?_;focus (simp[ov, *];done)) | (refine cdN ?_ ?_;focus (simp[ov, *];done))));go_wp2_with fail)
         exact wo HRK (N-(i+1)) (by have:=HKK.out;omega) ⟨i+1,us,dot,true,nd+1,nm,dp,mant,tr,by omega,rfl,HF2.out,HO1.out,o2,by omega,by omega,by omega,by simp[ov, *],by simp[ov, *],by simp[ov, *],by simp[ov, *],by simp[ov, *],by simp[ov, *],by simp[ov, *],by simp[ov, *],by simp[ov, *],by simp[ov, *],by simp[ov, *],by simp[ov, *],by simp[ov, *],by simp[ov, *],by simp[ov, *],by simp[ov, *],by simp[ov, *],rfl⟩
        ·obtain⟨c1,c2,c3⟩:=yq (z:=48) rfl h1
         have e:d≠0:=by have:=HD.out;have:=(of_decide_eq_true HDD.out);omega
         have HF2:=Lib.hid (show scF hx (s.drop (i+1)) ⟨us,dot,true,nd+1,nm,dp,mant,true⟩=T by rw[←HF.out,decide_eq_true e,Bool.or_true])
         have c4:((n:Int) != 48)=true:=by rw[bne,c1];rfl
         clear hm e HF h1
         ((repeat (go_wp2_with fail;first | (refine cdY ?_ ?_;focus (simp[ov, *];done)) | (refine cdN ?_ ?_;focus (simp[ov, *];done))));go_wp2_with fail)
         exact wo HRK (N-(i+1)) (by have:=HKK.out;omega) ⟨i+1,us,dot,true,nd+1,nm,dp,mant,true,by omega,rfl,HF2.out,HO1.out,o2,by omega,by omega,by omega,by simp[ov, *],by simp[ov, *],by simp[ov, *],by simp[ov, *],by simp[ov, *],by simp[ov, *],by simp[ov, *],by simp[ov, *],by simp[ov, *],by simp[ov, *],by simp[ov, *],by simp[ov, *],by simp[ov, *],by simp[ov, *],by simp[ov, *],by simp[ov, *],by simp[ov, *],rfl⟩
      ·obtain⟨h1,h2⟩:=of_decide_eq_true HZ.out
       have e:d=0:=by have:=HD.out;omega
       have HF:=Lib.hid (show scF hx (s.drop (i+1)) ⟨us,dot,true,0,nm,dp-1,mant,tr⟩=T by rw[←HF0.out,e,h2,dgS_0])
       subst h1 h2
       ((repeat (go_wp2_with fail;first | (refine cdY ?_ ?_;focus (simp[ov, *];done)) | (refine cdN ?_ ?_;focus (simp[ov, *];done))));go_wp2_with fail)
       exact wo HRK (N-(i+1)) (by have:=HKK.out;omega) ⟨i+1,us,dot,true,0,nm,dp-1,mant,tr,by omega,rfl,HF.out,HO1.out,o2,by omega,by omega,by omega,by simp[ov, *],by simp[ov, *],by simp[ov, *],by simp[ov, *],by simp[ov, *],by simp[ov, *],by simp[ov, *],by simp[ov, *],by simp[ov, *],by simp[ov, *],by simp[ov, *],by simp[ov, *],by simp[ov, *],by simp[ov, *],by simp[ov, *],by simp[ov, *],by simp[ov, *],rfl⟩
  ·have eN:i=N:=by omega
   have HF:=Lib.hid (show T=(⟨us,dot,dig,nd,nm,dp,mant,tr⟩,s.drop i) by rw[←HSC.out,List.drop_eq_nil_of_le (by rw[HN.out];omega)];rfl)
   have g1:decide ((i:Int)<(N:Int))=false:=by simp;omega
   have g2:decide (i<N)=false:=by simp;omega
   have g3:¬((i:Int)<(N:Int)):=by omega
   ((repeat (go_wp2_with fail;first | (refine cdY ?_ ?_;focus (simp[ov, *];done)) | (refine cdN ?_ ?_;focus (simp[ov, *];done))));go_wp2_with fail)
   exact got HR ⟨i,⟨us,dot,dig,nd,nm,dp,mant,tr⟩,hi,HF.out,HRF0.out _ _ _ _,by simp[ov, *],by simp[ov, *],by simp[ov, *],by simp[ov, *],by simp[ov, *],by simp[ov, *],by simp[ov, *],by simp[ov, *],by simp[ov, *],by simp[ov, *],by simp[ov, *],by simp[ov, *],by simp[ov, *],by simp[ov, *],by simp[ov, *],by simp[ov, *],rfl⟩
 clear hM2 HT hi1N i1 s0 s2 s3 s4 s5 s6 s7 s8 s9 s10 s11 s12 σ
 rintro σ w1 ⟨i,⟨us,dot,dig,nd,nm,dp,mant,tr⟩,hi,hT,hok,s0,s2,s3,s4,s5,s6,s7,s8,s9,s10,s12,s13,s14,s15,s16,s17,rfl⟩
 subst hT
 obtain⟨o1,o2,o3,o4,o5⟩:=hok
 dsimp only at HRF s2 s5 s9 s13 s14 s15 s16 s17 o1 o2 o3 o4 o5
 have hnm19:nm≤19:=Nat.le_trans o2 (by unfold ju;split <;> omega)
 clear o1 o2
 have hi8:(i:Int)≤4000000:=by omega
 cases dig
 ·have HF:=Lib.hid (show rfP s=none by rw[HRF,if_pos rfl])
  clear HRF
  ((repeat (go_wp2_with fail;first | (refine cdY ?_ ?_;focus (simp[ov, *];done)) | (refine cdN ?_ ?_;focus (simp[ov, *];done))));go_wp2_with fail)
  rw[Exit.noGoto_ret]
  exact zbn (.int .u64 (mant:Int)) (.int .i64 0) (.bool neg) (.bool tr) (.bool hx) (.int .i64 (i:Int)) (.bool false) rfl (by decide) (by simp[ov, *]) (by simp[ov, *]) (by simp[ov, *]) (by simp[ov, *]) (by simp[ov, *]) (by simp[ov, *]) (by simp[ov, *]) ⟨RfPost.no HF.out mant 0 neg tr hx i,rfl⟩
 rw[if_neg (by simp)]at HRF
 obtain⟨dp1,hdp1⟩:∃ z:Int,(if dot=true then dp else (nd:Int))=z:=⟨_,rfl⟩
 rw[hdp1]at HRF
 have HDP:=Lib.hid hdp1
 have hdpa:-(i:Int)≤dp1:=by rw[←hdp1];split <;> omega
 have hdpb:dp1≤i:=by rw[←hdp1];split <;> omega
 have HR1:=Lib.hid HRF
 clear hdp1 HRF
 ((repeat (go_upto_region 52 with fail;first | (refine cdY ?_ ?_;focus (simp[ov, *];done)) | (refine cdN ?_ ?_;focus (simp[ov, *];done))));go_upto_region 52 with fail)
 go_wp2_with fail
 refine yr (fun s' w'=>s' 0=.string ⟨s.toArray⟩∧s' 2=.int .u64 (mant:Int)∧s' 3=.int .i64 0∧s' 4=.bool neg∧s' 5=.bool tr∧s' 6=.bool hx∧s' 7=.int .i64 (i:Int)∧s' 8=.bool false∧s' 9=.bool us∧s' 10=.int .u64 (B:Int)∧s' 12=.int .u8 ec∧s' 16=.int .i64 (nm:Int)∧s' 17=.int .i64 dp1∧w=w') ?_ ?_
 ·intro R' K' HR hK'
  cases dot
  ·have e:dp1=(nd:Int):=HDP.out.symm
   subst e
   ((repeat (go_wp2_with fail;first | (refine cdY ?_ ?_;focus (simp[ov, *];done)) | (refine cdN ?_ ?_;focus (simp[ov, *];done))));go_wp2_with fail)
   exact got HR ⟨by simp[ov, *],by simp[ov, *],by simp[ov, *],by simp[ov, *],by simp[ov, *],by simp[ov, *],by simp[ov, *],by simp[ov, *],by simp[ov, *],by simp[ov, *],by simp[ov, *],by simp[ov, *],by simp[ov, *],rfl⟩
  ·have e:dp1=dp:=HDP.out.symm
   subst e
   ((repeat (go_wp2_with fail;first | (refine cdY ?_ ?_;focus (simp[ov, *];done)) | (refine cdN ?_ ?_;focus (simp[ov, *];done))));go_wp2_with fail)
   exact got HR ⟨by simp[ov, *],by simp[ov, *],by simp[ov, *],by simp[ov, *],by simp[ov, *],by simp[ov, *],by simp[ov, *],by simp[ov, *],by simp[ov, *],by simp[ov, *],by simp[ov, *],by simp[ov, *],by simp[ov, *],rfl⟩
 clear HDP s0 s2 s3 s4 s5 s6 s7 s8 s9 s10 s12 s13 s14 s15 s16 s17 σ o3 o4 o5
 rintro σ w1 ⟨s0,s2,s3,s4,s5,s6,s7,s8,s9,s10,s12,s16,s17,rfl⟩
 obtain⟨dp2,hdp2⟩:∃ z:Int,dp1*(if hx=true then 4 else 1)=z:=⟨_,rfl⟩
 obtain⟨nm2,hnm2⟩:∃ z:Nat,nm*(if hx=true then 4 else 1)=z:=⟨_,rfl⟩
 have HDP:=Lib.hid hdp2
 have HNM:=Lib.hid hnm2
 have HR2:=Lib.hid (show rfP s=zf9 s neg hx ⟨us,dot,true,nd,nm,dp,mant,tr⟩ dp2 nm2 (s.drop i) by rw[HR1.out,hdp2,hnm2])
 have hd2a:-16000000≤dp2:=by rw[←hdp2];split <;> omega
 have hd2b:dp2≤16000000:=by rw[←hdp2];split <;> omega
 have hn2b:nm2≤76:=by rw[←hnm2];split <;> omega
 clear hdp2 hnm2 HR1
 go_wp2_with fail
 refine yr (fun s' w'=>s' 0=.string ⟨s.toArray⟩∧s' 2=.int .u64 (mant:Int)∧s' 3=.int .i64 0∧s' 4=.bool neg∧s' 5=.bool tr∧s' 6=.bool hx∧s' 7=.int .i64 (i:Int)∧s' 8=.bool false∧s' 9=.bool us∧s' 10=.int .u64 (B:Int)∧s' 12=.int .u8 ec∧s' 16=.int .i64 (nm2:Int)∧s' 17=.int .i64 dp2∧w=w') ?_ ?_
 ·intro R' K' HR hK'
  cases hx
  ·have e:dp1=dp2:=by rw[←HDP.out];simp
   have e2:nm=nm2:=by rw[←HNM.out];simp
   have eB:B=10:=by rw[←HB.out];rfl
   subst e e2 eB
   ((repeat (go_wp2_with fail;first | (refine cdY ?_ ?_;focus (simp[ov, *];done)) | (refine cdN ?_ ?_;focus (simp[ov, *];done))));go_wp2_with fail)
   exact got HR ⟨by simp[ov, *],by simp[ov, *],by simp[ov, *],by simp[ov, *],by simp[ov, *],by simp[ov, *],by simp[ov, *],by simp[ov, *],by simp[ov, *],by simp[ov, *],by simp[ov, *],by simp[ov, *],by simp[ov, *],rfl⟩
  ·have e:dp1*4=dp2:=by rw[←HDP.out];simp
   have e2:nm*4=nm2:=by rw[←HNM.out];simp
   have eB:B=16:=by rw[←HB.out];rfl
   have hw1:IntKind.i64.wrap (dp1*4)=dp2:=by rw[IntKind.wrap_i64];omega
   have hw2:IntKind.i64.wrap ((nm:Int)*4)=(nm2:Int):=by rw[IntKind.wrap_i64];omega
   subst eB
   clear e e2
   ((repeat (go_wp2_with fail;first | (refine cdY ?_ ?_;focus (simp[ov, *];done)) | (refine cdN ?_ ?_;focus (simp[ov, *];done))));go_wp2_with fail)
   exact got HR ⟨by simp[ov, *],by simp[ov, *],by simp[ov, *],by simp[ov, *],by simp[ov, *],by simp[ov, *],by simp[ov, *],by simp[ov, *],by simp[ov, *],by simp[ov, *],by simp[ov, *],by simp[ov, *],by simp[ov, *],rfl⟩
 clear HDP HNM s0 s2 s3 s4 s5 s6 s7 s8 s9 s10 s12 s16 s17 σ hdpa hdpb hnm19 dp1
 rintro σ w1 ⟨s0,s2,s3,s4,s5,s6,s7,s8,s9,s10,s12,s16,s17,rfl⟩
 obtain⟨he,hhe⟩:∃ b,decide (i<N∧(wc (s.getD i 0):Int)=ec)=b:=⟨_,rfl⟩
 have HHE:=Lib.hid hhe
 clear hhe
 ((repeat (go_upto_region 57 with fail;first | (refine cdY ?_ ?_;focus (simp[ov, *];done)) | (refine cdN ?_ ?_;focus (simp[ov, *];done))));go_upto_region 57 with fail)
 refine yr (fun s' w'=>s' 0=.string ⟨s.toArray⟩∧s' 2=.int .u64 (mant:Int)∧s' 3=.int .i64 0∧s' 4=.bool neg∧s' 5=.bool tr∧s' 6=.bool hx∧s' 7=.int .i64 (i:Int)∧s' 8=.bool false∧s' 9=.bool us∧s' 10=.int .u64 (B:Int)∧s' 12=.int .u8 ec∧s' 16=.int .i64 (nm2:Int)∧s' 17=.int .i64 dp2∧s' 161=.bool he∧w=w') ?_ ?_
 ·intro R' K' HR hK'
  by_cases hiN:i<N
  ·have hidx:=HIDX.out i hiN
   have hiN':(i:Int)<(N:Int):=by omega
   generalize s.getD i 0=c at *
   have HL:=Lib.hid (HLOW.out c)
   obtain⟨n,hn⟩:∃ n,c.toNat=n:=⟨_,rfl⟩
   simp only[hn]at HL
   obtain⟨l,hl⟩:∃ l,wc c=l:=⟨_,rfl⟩
   rw[hl]at HL HHE
   clear hl
   by_cases h1:(l:Int)=ec
   ·have e:he=true:=by rw[←HHE.out];exact decide_eq_true ⟨hiN,h1⟩
    subst e h1
    ((repeat (go_wp2_with fail;first | (refine cdY ?_ ?_;focus (simp[ov, *];done)) | (refine cdN ?_ ?_;focus (simp[ov, *];done))));go_wp2_with fail)
    refine (HL.out _).mono ?_
    rintro e w1 ⟨rfl,rfl⟩
    ((repeat (go_wp2_with fail;first | (refine cdY ?_ ?_;focus (simp[ov, *];done)) | (refine cdN ?_ ?_;focus (simp[ov, *];done))));go_wp2_with fail)
    exact got HR ⟨by simp[ov, *],by simp[ov, *],by simp[ov, *],by simp[ov, *],by simp[ov, *],by simp[ov, *],by simp[ov, *],by simp[ov, *],by simp[ov, *],by simp[ov, *],by simp[ov, *],by simp[ov, *],by simp[ov, *],by simp[ov, *],rfl⟩
   ·have e:he=false:=by rw[←HHE.out];exact decide_eq_false (fun h=>h1 h.2)
    have h2:((l:Int)==ec)=false:=by rw[beq_eq_false_iff_ne];exact h1
    subst e
    ((repeat (go_wp2_with fail;first | (refine cdY ?_ ?_;focus (simp[ov, *];done)) | (refine cdN ?_ ?_;focus (simp[ov, *];done))));go_wp2_with fail)
    refine (HL.out _).mono ?_
    rintro e w1 ⟨rfl,rfl⟩
    ((repeat (go_wp2_with fail;first | (refine cdY ?_ ?_;focus (simp[ov, *];done)) | (refine cdN ?_ ?_;focus (simp[ov, *];done))));go_wp2_with fail)
    exact got HR ⟨by simp[ov, *],by simp[ov, *],by simp[ov, *],by simp[ov, *],by simp[ov, *],by simp[ov, *],by simp[ov, *],by simp[ov, *],by simp[ov, *],by simp[ov, *],by simp[ov, *],by simp[ov, *],by simp[ov, *],by simp[ov, *],rfl⟩
  ·have e:he=false:=by rw[←HHE.out];exact decide_eq_false (fun h=>hiN h.1)
   have g1:decide ((i:Int)<(N:Int))=false:=by simp;omega
   have g2:decide (i<N)=false:=by simp;omega
   have g3:¬((i:Int)<(N:Int)):=by omega
   subst e
   ((repeat (go_wp2_with fail;first | (refine cdY ?_ ?_;focus (simp[ov, *];done)) | (refine cdN ?_ ?_;focus (simp[ov, *];done))));go_wp2_with fail)
   exact got HR ⟨by simp[ov, *],by simp[ov, *],by simp[ov, *],by simp[ov, *],by simp[ov, *],by simp[ov, *],by simp[ov, *],by simp[ov, *],by simp[ov, *],by simp[ov, *],by simp[ov, *],by simp[ov, *],by simp[ov, *],by simp[ov, *],rfl⟩
 clear s0 s2 s3 s4 s5 s6 s7 s8 s9 s10 s12 s16 s17 σ
 rintro σ w1 ⟨s0,s2,s3,s4,s5,s6,s7,s8,s9,s10,s12,s16,s17,s161,rfl⟩
 go_wp2_with fail
 refine yr (fun s' w'=>∃ (i3:Nat) (dp3:Int) (us3:Bool),i3≤N∧rfP s=zdv s neg hx ⟨us,dot,true,nd,nm,dp,mant,tr⟩ dp3 nm2 us3 (s.drop i3)∧-100000000≤dp3∧dp3≤100000000∧s' 0=.string ⟨s.toArray⟩∧s' 2=.int .u64 (mant:Int)∧s' 3=.int .i64 0∧s' 4=.bool neg∧s' 5=.bool tr∧s' 6=.bool hx∧s' 7=.int .i64 (i3:Int)∧s' 8=.bool false∧s' 9=.bool us3∧s' 16=.int .i64 (nm2:Int)∧s' 17=.int .i64 dp3∧w=w') ?_ ?_
 ·intro R' K' HR hK'
  cases he
  ·have HE1:=Lib.hid (show ¬(i<s.length∧wc (s.getD i 0)=if hx=true then 112 else 101) from fun h=>by
    have h1:=of_decide_eq_false HHE.out
    apply h1
    refine⟨by have:=HN.out;omega,?_⟩
    rw[h.2,←HEC.out];split <;> rfl)
   cases hx
   ·have eB:B=10:=by rw[←HB.out];rfl
    have HF:=Lib.hid (show rfP s=zdv s neg false ⟨us,dot,true,nd,nm,dp,mant,tr⟩ dp2 nm2 us (s.drop i) by rw[HR2.out,zox HE1.out];rfl)
    subst eB
    ((repeat (go_wp2_with fail;first | (refine cdY ?_ ?_;focus (simp[ov, *];done)) | (refine cdN ?_ ?_;focus (simp[ov, *];done))));go_wp2_with fail)
    exact got HR ⟨i,dp2,us,hi,HF.out,by omega,by omega,by simp[ov, *],by simp[ov, *],by simp[ov, *],by simp[ov, *],by simp[ov, *],by simp[ov, *],by simp[ov, *],by simp[ov, *],by simp[ov, *],by simp[ov, *],by simp[ov, *],rfl⟩
   ·have eB:B=16:=by rw[←HB.out];rfl
    have HF:=Lib.hid (show rfP s=none by rw[HR2.out,zox HE1.out];rfl)
    subst eB
    ((repeat (go_wp2_with fail;first | (refine cdY ?_ ?_;focus (simp[ov, *];done)) | (refine cdN ?_ ?_;focus (simp[ov, *];done))));go_wp2_with fail)
    rw[Exit.noGoto_ret]
    exact zbn (.int .u64 (mant:Int)) (.int .i64 0) (.bool neg) (.bool tr) (.bool true) (.int .i64 (i:Int)) (.bool false) rfl (by decide) (by simp[ov, *]) (by simp[ov, *]) (by simp[ov, *]) (by simp[ov, *]) (by simp[ov, *]) (by simp[ov, *]) (by simp[ov, *]) ⟨RfPost.no HF.out mant 0 neg tr true i,rfl⟩
  ·obtain⟨hiN,hle⟩:=of_decide_eq_true HHE.out
   have HE1:=Lib.hid (show zf9 s neg hx ⟨us,dot,true,nd,nm,dp,mant,tr⟩ dp2 nm2 (s.drop i)=zsp s neg hx ⟨us,dot,true,nd,nm,dp,mant,tr⟩ dp2 nm2 (sgn (s.drop (i+1))).1 (sgn (s.drop (i+1))).2 from zrq (by rw[HN.out];exact hiN) (by
    have h1:(wc (s.getD i 0):Int)=((if hx=true then 112 else 101:Nat):Int):=by rw[hle,←HEC.out];split <;> rfl
    exact Int.ofNat.inj h1))
   clear hle
   have hw:IntKind.i64.wrap ((i:Int)+1)=(i:Int)+1:=by rw[IntKind.wrap_i64];omega
   by_cases hi2:N≤i+1
   ·have g1:(N:Int)≤(i:Int)+1:=by omega
    have HF:=Lib.hid (show rfP s=none by rw[HR2.out,HE1.out,List.drop_eq_nil_of_le (by rw[HN.out];exact hi2)];rfl)
    ((repeat (go_wp2_with fail;first | (refine cdY ?_ ?_;focus (simp[ov, *];done)) | (refine cdN ?_ ?_;focus (simp[ov, *];done))));go_wp2_with fail)
    rw[Exit.noGoto_ret]
    exact zbn (.int .u64 (mant:Int)) (.int .i64 0) (.bool neg) (.bool tr) (.bool hx) (.int .i64 ((i:Int)+1)) (.bool false) rfl (by decide) (by simp[ov, *]) (by simp[ov, *]) (by simp[ov, *]) (by simp[ov, *]) (by simp[ov, *]) (by simp[ov, *]) (by simp[ov, *]) ⟨RfPost.no HF.out mant 0 neg tr hx (i+1),rfl⟩
   have g1:decide ((N:Int)≤(i:Int)+1)=false:=by simp;omega
   have g2:decide (N≤i+1)=false:=by simp;omega
   have g3:¬((N:Int)≤(i:Int)+1):=by omega
   have g4:i+1<N:=by omega
   have g5:(i:Int)+1<(N:Int):=by omega
   have hidx1:=HIDX.out (i+1) g4
   have HSA:=Lib.hid (zmz (s:=s) (i:=i+1) (by rw[HN.out];exact g4))
   obtain⟨c,hc⟩:∃ c,s.getD (i+1) 0=c:=⟨_,rfl⟩
   rw[hc]at hidx1 HSA
   clear hc
   obtain⟨n,hn⟩:∃ n,c.toNat=n:=⟨_,rfl⟩
   simp only[hn]at HSA
   obtain⟨i2,hi2e⟩:∃ k,i+1+(if n=43∨n=45 then 1 else 0)=k:=⟨_,rfl⟩
   rw[hi2e]at HSA
   have hi2N:i2≤N:=by rw[←hi2e];split <;> omega
   have HI2:=Lib.hid hi2e
   obtain⟨eneg,heneg⟩:∃ b,decide (n=45)=b:=⟨_,rfl⟩
   rw[heneg]at HSA
   have HEN:=Lib.hid heneg
   obtain⟨es,hes⟩:∃ z:Int,(if eneg=true then -1 else 1)=z:=⟨_,rfl⟩
   have HES:=Lib.hid hes
   have HE2:=Lib.hid (show rfP s=zsp s neg hx ⟨us,dot,true,nd,nm,dp,mant,tr⟩ dp2 nm2 eneg (s.drop i2) by rw[HR2.out,HE1.out,HSA.out])
   have hw2:IntKind.i64.wrap ((i:Int)+1+1)=(i:Int)+1+1:=by rw[IntKind.wrap_i64];omega
   clear hi2e heneg hes HE1 HSA HR2
   ((repeat (go_upto_block 4 with fail;first | (refine cdY ?_ ?_;focus (simp[ov, *];done)) | (refine cdN ?_ ?_;focus (simp[ov, *];done))));go_upto_block 4 with fail)
   refine yr (fun s' w'=>s' 0=.string ⟨s.toArray⟩∧s' 2=.int .u64 (mant:Int)∧s' 3=.int .i64 0∧s' 4=.bool neg∧s' 5=.bool tr∧s' 6=.bool hx∧s' 7=.int .i64 (i2:Int)∧s' 8=.bool false∧s' 9=.bool us∧s' 16=.int .i64 (nm2:Int)∧s' 17=.int .i64 dp2∧s' 19=.int .i64 es∧w=w') ?_ ?_
   ·intro R2 K2 HR2 hK2
    by_cases h43:n=43
    ·subst h43
     have e1:eneg=false:=by rw[←HEN.out];rfl
     subst e1
     have e2:es=1:=by rw[←HES.out];rfl
     have e3:i2=i+1+1:=by rw[←HI2.out];rfl
     subst e2 e3
     ((repeat (go_wp2_with fail;first | (refine cdY ?_ ?_;focus (simp[ov, *];done)) | (refine cdN ?_ ?_;focus (simp[ov, *];done))));go_wp2_with fail)
     exact got HR2 ⟨by simp[ov, *],by simp[ov, *],by simp[ov, *],by simp[ov, *],by simp[ov, *],by simp[ov, *],by simp[ov, *],by simp[ov, *],by simp[ov, *],by simp[ov, *],by simp[ov, *],by simp[ov, *],rfl⟩
    ·obtain⟨a1,a2,a3⟩:=yq (z:=43) rfl h43
     by_cases h45:n=45
     ·subst h45
      have e1:eneg=true:=by rw[←HEN.out];rfl
      subst e1
      have e2:es=-1:=by rw[←HES.out];rfl
      have e3:i2=i+1+1:=by rw[←HI2.out];rfl
      subst e2 e3
      clear h43 a1 a2 a3
      ((repeat (go_wp2_with fail;first | (refine cdY ?_ ?_;focus (simp[ov, *];done)) | (refine cdN ?_ ?_;focus (simp[ov, *];done))));go_wp2_with fail)
      exact got HR2 ⟨by simp[ov, *],by simp[ov, *],by simp[ov, *],by simp[ov, *],by simp[ov, *],by simp[ov, *],by simp[ov, *],by simp[ov, *],by simp[ov, *],by simp[ov, *],by simp[ov, *],by simp[ov, *],rfl⟩
     ·obtain⟨b1,b2,b3⟩:=yq (z:=45) rfl h45
      have e1:eneg=false:=by rw[←HEN.out];exact decide_eq_false h45
      subst e1
      have e2:es=1:=by rw[←HES.out];rfl
      have e3:i2=i+1:=by rw[←HI2.out,if_neg (fun h=>h.elim h43 h45)]
      subst e2 e3
      clear h43 h45
      ((repeat (go_wp2_with fail;first | (refine cdY ?_ ?_;focus (simp[ov, *];done)) | (refine cdN ?_ ?_;focus (simp[ov, *];done))));go_wp2_with fail)
      exact got HR2 ⟨by simp[ov, *],by simp[ov, *],by simp[ov, *],by simp[ov, *],by simp[ov, *],by simp[ov, *],by simp[ov, *],by simp[ov, *],by simp[ov, *],by simp[ov, *],by simp[ov, *],by simp[ov, *],rfl⟩
   clear s0 s2 s3 s4 s5 s6 s7 s8 s9 s16 s17 s10 s12 s161 σ hidx1 HI2 HEN hn n c g1 g2 g3 g4 g5 hi2 hw hw2
   rintro σ w2 ⟨s0,s2,s3,s4,s5,s6,s7,s8,s9,s16,s17,s19,rfl⟩
   obtain⟨bad,hbad⟩:∃ b,(!decide (i2<N∧48≤(s.getD i2 0).toNat∧(s.getD i2 0).toNat≤57))=b:=⟨_,rfl⟩
   have HBAD:=Lib.hid hbad
   clear hbad
   ((repeat (go_upto_region 67 with fail;first | (refine cdY ?_ ?_;focus (simp[ov, *];done)) | (refine cdN ?_ ?_;focus (simp[ov, *];done))));go_upto_region 67 with fail)
   refine yr (fun s' w'=>s' 0=.string ⟨s.toArray⟩∧s' 2=.int .u64 (mant:Int)∧s' 3=.int .i64 0∧s' 4=.bool neg∧s' 5=.bool tr∧s' 6=.bool hx∧s' 7=.int .i64 (i2:Int)∧s' 8=.bool false∧s' 9=.bool us∧s' 16=.int .i64 (nm2:Int)∧s' 17=.int .i64 dp2∧s' 19=.int .i64 es∧s' 194=.bool bad∧w=w') ?_ ?_
   ·intro R2 K2 HR2 hK2
    by_cases h1:i2<N
    ·have g1:decide ((N:Int)≤(i2:Int))=false:=by simp;omega
     have g2:decide (N≤i2)=false:=by simp;omega
     have g3:¬((N:Int)≤(i2:Int)):=by omega
     have g5:(i2:Int)<(N:Int):=by omega
     have hidx2:=HIDX.out i2 h1
     generalize s.getD i2 0=c at *
     obtain⟨n,hn⟩:∃ n,c.toNat=n:=⟨_,rfl⟩
     simp only[hn]at HBAD
     by_cases h2:48≤n
     ·have k1:decide ((n:Int)<48)=false:=by simp;omega
      have k2:decide (n<48)=false:=by simp;omega
      have k3:¬((n:Int)<48):=by omega
      by_cases h3:n≤57
      ·have e:bad=false:=by rw[←HBAD.out,decide_eq_true ⟨h1,h2,h3⟩];rfl
       have k4:decide ((57:Int)<(n:Int))=false:=by simp;omega
       have k5:decide (57<n)=false:=by simp;omega
       have k6:¬((57:Int)<(n:Int)):=by omega
       subst e
       ((repeat (go_wp2_with fail;first | (refine cdY ?_ ?_;focus (simp[ov, *];done)) | (refine cdN ?_ ?_;focus (simp[ov, *];done))));go_wp2_with fail)
       exact got HR2 ⟨by simp[ov, *],by simp[ov, *],by simp[ov, *],by simp[ov, *],by simp[ov, *],by simp[ov, *],by simp[ov, *],by simp[ov, *],by simp[ov, *],by simp[ov, *],by simp[ov, *],by simp[ov, *],by simp[ov, *],rfl⟩
      ·have e:bad=true:=by rw[←HBAD.out,decide_eq_false (fun h=>h3 h.2.2)];rfl
       have k4:(57:Int)<(n:Int):=by omega
       have k5:57<n:=by omega
       subst e
       clear h3
       ((repeat (go_wp2_with fail;first | (refine cdY ?_ ?_;focus (simp[ov, *];done)) | (refine cdN ?_ ?_;focus (simp[ov, *];done))));go_wp2_with fail)
       exact got HR2 ⟨by simp[ov, *],by simp[ov, *],by simp[ov, *],by simp[ov, *],by simp[ov, *],by simp[ov, *],by simp[ov, *],by simp[ov, *],by simp[ov, *],by simp[ov, *],by simp[ov, *],by simp[ov, *],by simp[ov, *],rfl⟩
     ·have e:bad=true:=by rw[←HBAD.out,decide_eq_false (fun h=>h2 h.2.1)];rfl
      have k4:(n:Int)<48:=by omega
      have k5:n<48:=by omega
      subst e
      clear h2
      ((repeat (go_wp2_with fail;first | (refine cdY ?_ ?_;focus (simp[ov, *];done)) | (refine cdN ?_ ?_;focus (simp[ov, *];done))));go_wp2_with fail)
      exact got HR2 ⟨by simp[ov, *],by simp[ov, *],by simp[ov, *],by simp[ov, *],by simp[ov, *],by simp[ov, *],by simp[ov, *],by simp[ov, *],by simp[ov, *],by simp[ov, *],by simp[ov, *],by simp[ov, *],by simp[ov, *],rfl⟩
    ·have e:bad=true:=by rw[←HBAD.out,decide_eq_false (fun h=>h1 h.1)];rfl
     have g1:(N:Int)≤(i2:Int):=by omega
     have g2:N≤i2:=by omega
     subst e
     clear h1
     ((repeat (go_wp2_with fail;first | (refine cdY ?_ ?_;focus (simp[ov, *];done)) | (refine cdN ?_ ?_;focus (simp[ov, *];done))));go_wp2_with fail)
     exact got HR2 ⟨by simp[ov, *],by simp[ov, *],by simp[ov, *],by simp[ov, *],by simp[ov, *],by simp[ov, *],by simp[ov, *],by simp[ov, *],by simp[ov, *],by simp[ov, *],by simp[ov, *],by simp[ov, *],by simp[ov, *],rfl⟩
   clear s0 s2 s3 s4 s5 s6 s7 s8 s9 s16 s17 s19 σ
   rintro σ w2 ⟨s0,s2,s3,s4,s5,s6,s7,s8,s9,s16,s17,s19,s194,rfl⟩
   cases bad
   rotate_left 1
   ·have HF:=Lib.hid (show rfP s=none by
     rw[HE2.out]
     refine zow (fun h=>?_)
     rw[HN.out]at h
     have h2:=HBAD.out
     rw[decide_eq_true h]at h2
     cases h2)
    ((repeat (go_wp2_with fail;first | (refine cdY ?_ ?_;focus (simp[ov, *];done)) | (refine cdN ?_ ?_;focus (simp[ov, *];done))));go_wp2_with fail)
    rw[Exit.noGoto_ret]
    exact zbn (.int .u64 (mant:Int)) (.int .i64 0) (.bool neg) (.bool tr) (.bool hx) (.int .i64 (i2:Int)) (.bool false) rfl (by decide) (by simp[ov, *]) (by simp[ov, *]) (by simp[ov, *]) (by simp[ov, *]) (by simp[ov, *]) (by simp[ov, *]) (by simp[ov, *]) ⟨RfPost.no HF.out mant 0 neg tr hx i2,rfl⟩
   have hok2:i2<N∧48≤(s.getD i2 0).toNat∧(s.getD i2 0).toNat≤57:=by
    have h2:=HBAD.out
    by_cases h:i2<N∧48≤(s.getD i2 0).toNat∧(s.getD i2 0).toNat≤57
    ·exact h
    ·rw[decide_eq_false h]at h2;cases h2
   obtain⟨X,hX⟩:∃ X,scE (s.drop i2) us 0=X:=⟨_,rfl⟩
   have HE3:=Lib.hid (show rfP s=zdv s neg hx ⟨us,dot,true,nd,nm,dp,mant,tr⟩ (dp2+(if eneg then -(X.2.1:Int) else (X.2.1:Int))) nm2 X.1 X.2.2 by
    rw[HE2.out,zuq (by rw[HN.out];exact hok2.1) hok2.2,hX])
   have HX:=Lib.hid hX
   clear hX hok2 HBAD HE2
   ((repeat (go_upto_block 5 with fail;first | (refine cdY ?_ ?_;focus (simp[ov, *];done)) | (refine cdN ?_ ?_;focus (simp[ov, *];done))));go_upto_block 5 with fail)
   refine yr (fun s' w'=>∃ (i3 e:Nat) (us3:Bool),i3≤N∧e≤99999∧X=(us3,e,s.drop i3)∧s' 0=.string ⟨s.toArray⟩∧s' 2=.int .u64 (mant:Int)∧s' 3=.int .i64 0∧s' 4=.bool neg∧s' 5=.bool tr∧s' 6=.bool hx∧s' 7=.int .i64 (i3:Int)∧s' 8=.bool false∧s' 9=.bool us3∧s' 16=.int .i64 (nm2:Int)∧s' 17=.int .i64 dp2∧s' 19=.int .i64 es∧s' 20=.int .i64 (e:Int)∧w=w') ?_ ?_
   ·intro R2 K2 HR2 hK2
    ((repeat (go_wp2_with fail;first | (refine cdY ?_ ?_;focus (simp[ov, *];done)) | (refine cdN ?_ ?_;focus (simp[ov, *];done))));go_wp2_with fail)
    refine xx (fun kk s' w'=>∃ (i4 e:Nat) (u:Bool),i4≤N∧kk=N-i4∧e≤99999∧scE (s.drop i4) u e=X∧s' 0=.string ⟨s.toArray⟩∧s' 2=.int .u64 (mant:Int)∧s' 3=.int .i64 0∧s' 4=.bool neg∧s' 5=.bool tr∧s' 6=.bool hx∧s' 7=.int .i64 (i4:Int)∧s' 8=.bool false∧s' 9=.bool u∧s' 16=.int .i64 (nm2:Int)∧s' 17=.int .i64 dp2∧s' 19=.int .i64 es∧s' 20=.int .i64 (e:Int)∧w=w') (N-i2)
     ⟨i2,0,us,hi2N,rfl,by omega,HX.out,by simp[ov, *],by simp[ov, *],by simp[ov, *],by simp[ov, *],by simp[ov, *],by simp[ov, *],by simp[ov, *],by simp[ov, *],by simp[ov, *],by simp[ov, *],by simp[ov, *],by simp[ov, *],by simp[ov, *],rfl⟩ ?_
    clear s0 s2 s3 s4 s5 s6 s7 s8 s9 s16 s17 s19 s194 σ HX hi2N i2
    rintro kk σ wk ⟨i4,e,u,hi4,hkk,he9,hX4,s0,s2,s3,s4,s5,s6,s7,s8,s9,s16,s17,s19,s20,rfl⟩ RK KK HRK hKK
    have HKK:=Lib.hid hkk
    have HX4:=Lib.hid hX4
    clear hkk hX4
    obtain⟨go,hgo⟩:∃ b,decide (i4<N∧((48≤(s.getD i4 0).toNat∧(s.getD i4 0).toNat≤57)∨(s.getD i4 0).toNat=95))=b:=⟨_,rfl⟩
    have HGO:=Lib.hid hgo
    clear hgo
    ((repeat (go_upto_region 69 with fail;first | (refine cdY ?_ ?_;focus (simp[ov, *];done)) | (refine cdN ?_ ?_;focus (simp[ov, *];done))));go_upto_region 69 with fail)
    refine yr (fun s' w'=>s' 0=.string ⟨s.toArray⟩∧s' 2=.int .u64 (mant:Int)∧s' 3=.int .i64 0∧s' 4=.bool neg∧s' 5=.bool tr∧s' 6=.bool hx∧s' 7=.int .i64 (i4:Int)∧s' 8=.bool false∧s' 9=.bool u∧s' 16=.int .i64 (nm2:Int)∧s' 17=.int .i64 dp2∧s' 19=.int .i64 es∧s' 20=.int .i64 (e:Int)∧s' 216=.bool go∧w=w') ?_ ?_
    ·intro R3 K3 HR3 hK3
     by_cases h1:i4<N
     ·have g5:(i4:Int)<(N:Int):=by omega
      have hidx4:=HIDX.out i4 h1
      generalize s.getD i4 0=c at *
      obtain⟨n,hn⟩:∃ n,c.toNat=n:=⟨_,rfl⟩
      simp only[hn]at HGO
      by_cases h2:48≤n
      ·have k1:(48:Int)≤(n:Int):=by omega
       by_cases h3:n≤57
       ·have hg:go=true:=by rw[←HGO.out];exact decide_eq_true ⟨h1,Or.inl ⟨h2,h3⟩⟩
        have k2:(n:Int)≤57:=by omega
        subst hg
        ((repeat (go_wp2_with fail;first | (refine cdY ?_ ?_;focus (simp[ov, *];done)) | (refine cdN ?_ ?_;focus (simp[ov, *];done))));go_wp2_with fail)
        exact got HR3 ⟨by simp[ov, *],by simp[ov, *],by simp[ov, *],by simp[ov, *],by simp[ov, *],by simp[ov, *],by simp[ov, *],by simp[ov, *],by simp[ov, *],by simp[ov, *],by simp[ov, *],by simp[ov, *],by simp[ov, *],by simp[ov, *],rfl⟩
       ·have k2:decide ((n:Int)≤57)=false:=by simp;omega
        have k3:decide (n≤57)=false:=by simp;omega
        by_cases h95:n=95
        ·have hg:go=true:=by rw[←HGO.out];exact decide_eq_true ⟨h1,Or.inr h95⟩
         subst h95 hg
         clear h2 h3 k1 k2 k3
         ((repeat (go_wp2_with fail;first | (refine cdY ?_ ?_;focus (simp[ov, *];done)) | (refine cdN ?_ ?_;focus (simp[ov, *];done))));go_wp2_with fail)
         exact got HR3 ⟨by simp[ov, *],by simp[ov, *],by simp[ov, *],by simp[ov, *],by simp[ov, *],by simp[ov, *],by simp[ov, *],by simp[ov, *],by simp[ov, *],by simp[ov, *],by simp[ov, *],by simp[ov, *],by simp[ov, *],by simp[ov, *],rfl⟩
        ·obtain⟨a1,a2,a3⟩:=yq (z:=95) rfl h95
         have hg:go=false:=by rw[←HGO.out];exact decide_eq_false (fun h=>h.2.elim (fun h=>h3 h.2) h95)
         subst hg
         clear h3 h95
         ((repeat (go_wp2_with fail;first | (refine cdY ?_ ?_;focus (simp[ov, *];done)) | (refine cdN ?_ ?_;focus (simp[ov, *];done))));go_wp2_with fail)
         exact got HR3 ⟨by simp[ov, *],by simp[ov, *],by simp[ov, *],by simp[ov, *],by simp[ov, *],by simp[ov, *],by simp[ov, *],by simp[ov, *],by simp[ov, *],by simp[ov, *],by simp[ov, *],by simp[ov, *],by simp[ov, *],by simp[ov, *],rfl⟩
      ·have k2:decide ((48:Int)≤(n:Int))=false:=by simp;omega
       have k3:decide (48≤n)=false:=by simp;omega
       have h95:n≠95:=by omega
       obtain⟨a1,a2,a3⟩:=yq (z:=95) rfl h95
       have hg:go=false:=by rw[←HGO.out];exact decide_eq_false (fun h=>h.2.elim (fun h=>h2 h.1) h95)
       subst hg
       clear h2 h95
       ((repeat (go_wp2_with fail;first | (refine cdY ?_ ?_;focus (simp[ov, *];done)) | (refine cdN ?_ ?_;focus (simp[ov, *];done))));go_wp2_with fail)
       exact got HR3 ⟨by simp[ov, *],by simp[ov, *],by simp[ov, *],by simp[ov, *],by simp[ov, *],by simp[ov, *],by simp[ov, *],by simp[ov, *],by simp[ov, *],by simp[ov, *],by simp[ov, *],by simp[ov, *],by simp[ov, *],by simp[ov, *],rfl⟩
     ·have hg:go=false:=by rw[←HGO.out];exact decide_eq_false (fun h=>h1 h.1)
      have g1:decide ((i4:Int)<(N:Int))=false:=by simp;omega
      have g2:decide (i4<N)=false:=by simp;omega
      have g3:¬((i4:Int)<(N:Int)):=by omega
      subst hg
      ((repeat (go_wp2_with fail;first | (refine cdY ?_ ?_;focus (simp[ov, *];done)) | (refine cdN ?_ ?_;focus (simp[ov, *];done))));go_wp2_with fail)
      exact got HR3 ⟨by simp[ov, *],by simp[ov, *],by simp[ov, *],by simp[ov, *],by simp[ov, *],by simp[ov, *],by simp[ov, *],by simp[ov, *],by simp[ov, *],by simp[ov, *],by simp[ov, *],by simp[ov, *],by simp[ov, *],by simp[ov, *],rfl⟩
    clear s0 s2 s3 s4 s5 s6 s7 s8 s9 s16 s17 s19 s20 σ
    rintro σ w3 ⟨s0,s2,s3,s4,s5,s6,s7,s8,s9,s16,s17,s19,s20,s216,rfl⟩
    cases go
    ·have HF:=Lib.hid (show X=(u,e,s.drop i4) by
      rw[←HX4.out]
      by_cases h1:i4<N
      ·have h2:=of_decide_eq_false HGO.out
       rw[ua s i4 (by rw[HN.out];exact h1)]
       exact zvt (fun h=>h2 ⟨h1,Or.inl h⟩) (fun h=>h2 ⟨h1,Or.inr h⟩)
      ·rw[List.drop_eq_nil_of_le (by rw[HN.out];omega)];rfl)
     ((repeat (go_wp2_with fail;first | (refine cdY ?_ ?_;focus (simp[ov, *];done)) | (refine cdN ?_ ?_;focus (simp[ov, *];done))));go_wp2_with fail)
     exact got HR2 ⟨i4,e,u,hi4,he9,HF.out,by simp[ov, *],by simp[ov, *],by simp[ov, *],by simp[ov, *],by simp[ov, *],by simp[ov, *],by simp[ov, *],by simp[ov, *],by simp[ov, *],by simp[ov, *],by simp[ov, *],by simp[ov, *],by simp[ov, *],rfl⟩
    ·obtain⟨h1,h2⟩:=of_decide_eq_true HGO.out
     have g5:(i4:Int)<(N:Int):=by omega
     have hidx4:=HIDX.out i4 h1
     have hdr:=ua s i4 (by rw[HN.out];exact h1)
     have hX4:=HX4.out
     rw[hdr]at hX4
     clear hdr HX4 HGO
     generalize s.getD i4 0=c at *
     obtain⟨n,hn⟩:∃ n,c.toNat=n:=⟨_,rfl⟩
     rw[hn]at h2
     have hw:IntKind.i64.wrap ((i4:Int)+1)=(i4:Int)+1:=by rw[IntKind.wrap_i64];omega
     by_cases h95:n=95
     ·have HF:=Lib.hid ((zvs (hn.trans h95)).symm.trans hX4)
      subst h95
      clear hX4 h2
      ((repeat (go_wp2_with fail;first | (refine cdY ?_ ?_;focus (simp[ov, *];done)) | (refine cdN ?_ ?_;focus (simp[ov, *];done))));go_wp2_with fail)
      exact wo HRK (N-(i4+1)) (by have:=HKK.out;omega) ⟨i4+1,e,true,by omega,rfl,he9,HF.out,by simp[ov, *],by simp[ov, *],by simp[ov, *],by simp[ov, *],by simp[ov, *],by simp[ov, *],by simp[ov, *],by simp[ov, *],by simp[ov, *],by simp[ov, *],by simp[ov, *],by simp[ov, *],by simp[ov, *],rfl⟩
     ·obtain⟨a1,a2,a3⟩:=yq (z:=95) rfl h95
      have h3:48≤n∧n≤57:=h2.resolve_right h95
      have hX5:=(zvu (by rw[hn];exact h3)).symm.trans hX4
      rw[hn]at hX5
      have h3a:=h3.1
      have h3b:=h3.2
      clear hX4 h2 h3 h95
      by_cases h6:e<10000
      ·rw[if_pos h6]at hX5
       have HF:=Lib.hid hX5
       clear hX5
       have g6:(e:Int)<10000:=by omega
       have hw1:IntKind.i64.wrap ((e:Int)*10)=(e:Int)*10:=by rw[IntKind.wrap_i64];omega
       have hw2:IntKind.i64.wrap (n:Int)=(n:Int):=by rw[IntKind.wrap_i64];omega
       have hw3:IntKind.i64.wrap ((e:Int)*10+(n:Int))=(e:Int)*10+(n:Int):=by rw[IntKind.wrap_i64];omega
       have hw4:IntKind.i64.wrap ((e:Int)*10+(n:Int)-48)=((e*10+(n-48):Nat):Int):=by rw[IntKind.wrap_i64];omega
       obtain⟨e',he'⟩:∃ k,e*10+(n-48)=k:=⟨_,rfl⟩
       rw[he']at hw4 HF
       have he9':e'≤99999:=by omega
       clear he'
       ((repeat (go_wp2_with fail;first | (refine cdY ?_ ?_;focus (simp[ov, *];done)) | (refine cdN ?_ ?_;focus (simp[ov, *];done))));go_wp2_with fail)
       exact wo HRK (N-(i4+1)) (by have:=HKK.out;omega) ⟨i4+1,e',u,by omega,rfl,he9',HF.out,by simp[ov, *],by simp[ov, *],by simp[ov, *],by simp[ov, *],by simp[ov, *],by simp[ov, *],by simp[ov, *],by simp[ov, *],by simp[ov, *],by simp[ov, *],by simp[ov, *],by simp[ov, *],by simp[ov, *],rfl⟩
      ·rw[if_neg h6]at hX5
       have HF:=Lib.hid hX5
       have g1:decide ((e:Int)<10000)=false:=by simp;omega
       have g2:decide (e<10000)=false:=by simp;omega
       clear hX5
       ((repeat (go_wp2_with fail;first | (refine cdY ?_ ?_;focus (simp[ov, *];done)) | (refine cdN ?_ ?_;focus (simp[ov, *];done))));go_wp2_with fail)
       exact wo HRK (N-(i4+1)) (by have:=HKK.out;omega) ⟨i4+1,e,u,by omega,rfl,he9,HF.out,by simp[ov, *],by simp[ov, *],by simp[ov, *],by simp[ov, *],by simp[ov, *],by simp[ov, *],by simp[ov, *],by simp[ov, *],by simp[ov, *],by simp[ov, *],by simp[ov, *],by simp[ov, *],by simp[ov, *],rfl⟩
   clear s0 s2 s3 s4 s5 s6 s7 s8 s9 s16 s17 s19 s194 σ HX hi2N i2
   rintro σ w2 ⟨i3,e,us3,hi3,he9,hX,s0,s2,s3,s4,s5,s6,s7,s8,s9,s16,s17,s19,s20,rfl⟩
   subst hX
   dsimp only at HE3
   cases eneg
   ·have e2:es=1:=by rw[←HES.out];rfl
    subst e2
    have HF:=Lib.hid (show rfP s=zdv s neg hx ⟨us,dot,true,nd,nm,dp,mant,tr⟩ (dp2+(e:Int)) nm2 us3 (s.drop i3) by rw[HE3.out,if_neg (by simp)])
    have hw1:IntKind.i64.wrap ((e:Int)*1)=(e:Int):=by rw[IntKind.wrap_i64];omega
    have hw2:IntKind.i64.wrap (e:Int)=(e:Int):=by rw[IntKind.wrap_i64];omega
    have hw3:IntKind.i64.wrap (dp2+(e:Int))=dp2+(e:Int):=by rw[IntKind.wrap_i64];omega
    ((repeat (go_wp2_with fail;first | (refine cdY ?_ ?_;focus (simp[ov, *];done)) | (refine cdN ?_ ?_;focus (simp[ov, *];done))));go_wp2_with fail)
    exact got HR ⟨i3,dp2+(e:Int),us3,hi3,HF.out,by omega,by omega,by simp[ov, *],by simp[ov, *],by simp[ov, *],by simp[ov, *],by simp[ov, *],by simp[ov, *],by simp[ov, *],by simp[ov, *],by simp[ov, *],by simp[ov, *],by simp[ov, *],rfl⟩
   ·have e2:es=-1:=by rw[←HES.out];rfl
    subst e2
    have HF:=Lib.hid (show rfP s=zdv s neg hx ⟨us,dot,true,nd,nm,dp,mant,tr⟩ (dp2+-(e:Int)) nm2 us3 (s.drop i3) by rw[HE3.out,if_pos rfl])
    have hw1:IntKind.i64.wrap ((e:Int)*(-1))=-(e:Int):=by rw[IntKind.wrap_i64];omega
    have hw2:IntKind.i64.wrap (-(e:Int))=-(e:Int):=by rw[IntKind.wrap_i64];omega
    have hw3:IntKind.i64.wrap (dp2+-(e:Int))=dp2+-(e:Int):=by rw[IntKind.wrap_i64];omega
    ((repeat (go_wp2_with fail;first | (refine cdY ?_ ?_;focus (simp[ov, *];done)) | (refine cdN ?_ ?_;focus (simp[ov, *];done))));go_wp2_with fail)
    exact got HR ⟨i3,dp2+-(e:Int),us3,hi3,HF.out,by omega,by omega,by simp[ov, *],by simp[ov, *],by simp[ov, *],by simp[ov, *],by simp[ov, *],by simp[ov, *],by simp[ov, *],by simp[ov, *],by simp[ov, *],by simp[ov, *],by simp[ov, *],rfl⟩
 clear s0 s2 s3 s4 s5 s6 s7 s8 s9 s10 s12 s16 s17 s161 σ HHE HR2 hi hd2a hd2b HEC HB hi8
 rintro σ w1 ⟨i3,dp3,us3,hi3,hrf,hd3a,hd3b,s0,s2,s3,s4,s5,s6,s7,s8,s9,s16,s17,rfl⟩
 have hcut:(⟨s.toArray⟩:ByteArray).extract 0 i3=⟨(s.take i3).toArray⟩:=by
  apply ByteArray.ext
  simp[ByteArray.data_extract]
 have HUN:=Lib.hid (fun W=>HUND.out (s.take i3) W (by rw[List.length_take];omega))
 have hlen:s.length-(s.drop i3).length=i3:=by rw[List.length_drop,HN.out];omega
 obtain⟨ok,hok⟩:∃ b,zk0 (s.take i3)=b:=⟨_,rfl⟩
 have hfin:rfP s=if (us3&&!ok)=true then none else some ⟨mant,if mant≠0 then dp3-nm2 else 0,neg,tr,hx,i3⟩:=by
  rw[hrf];unfold zdv;rw[hlen,hok]
 rw[hok]at HUN
 have HFIN:=Lib.hid hfin
 clear hfin hrf hlen hok
 obtain⟨xp,hxp⟩:∃ z:Int,(if mant≠0 then dp3-nm2 else 0)=z:=⟨_,rfl⟩
 rw[hxp]at HFIN
 have HXP:=Lib.hid hxp
 clear hxp
 ((repeat (go_upto_region 77 with fail;first | (refine cdY ?_ ?_;focus (simp[ov, *];done)) | (refine cdN ?_ ?_;focus (simp[ov, *];done))));go_upto_region 77 with fail)
 go_wp2_with fail
 refine yr (fun s' w'=>s' 0=.string ⟨s.toArray⟩∧s' 2=.int .u64 (mant:Int)∧s' 3=.int .i64 xp∧s' 4=.bool neg∧s' 5=.bool tr∧s' 6=.bool hx∧s' 7=.int .i64 (i3:Int)∧s' 8=.bool false∧s' 9=.bool us3∧w=w') ?_ ?_
 ·intro R' K' HR hK'
  by_cases hm:mant=0
  ·have e:xp=0:=by rw[←HXP.out,if_neg (fun h=>h hm)]
   subst hm e
   ((repeat (go_wp2_with fail;first | (refine cdY ?_ ?_;focus (simp[ov, *];done)) | (refine cdN ?_ ?_;focus (simp[ov, *];done))));go_wp2_with fail)
   exact got HR ⟨by simp[ov, *],by simp[ov, *],by simp[ov, *],by simp[ov, *],by simp[ov, *],by simp[ov, *],by simp[ov, *],by simp[ov, *],by simp[ov, *],rfl⟩
  ·have e:dp3-(nm2:Int)=xp:=by rw[←HXP.out,if_pos hm]
   obtain⟨a1,a2,a3⟩:=yq (z:=0) rfl hm
   have a4:((mant:Int) != 0)=true:=by rw[bne,a1];rfl
   have hw:IntKind.i64.wrap (dp3-(nm2:Int))=xp:=by rw[IntKind.wrap_i64];omega
   clear e
   ((repeat (go_wp2_with fail;first | (refine cdY ?_ ?_;focus (simp[ov, *];done)) | (refine cdN ?_ ?_;focus (simp[ov, *];done))));go_wp2_with fail)
   exact got HR ⟨by simp[ov, *],by simp[ov, *],by simp[ov, *],by simp[ov, *],by simp[ov, *],by simp[ov, *],by simp[ov, *],by simp[ov, *],by simp[ov, *],rfl⟩
 clear s0 s2 s3 s4 s5 s6 s7 s8 s9 s16 s17 σ HXP
 rintro σ w1 ⟨s0,s2,s3,s4,s5,s6,s7,s8,s9,rfl⟩
 have g1:(i3:Int)≤(N:Int):=by omega
 cases us3
 ·have HF:=Lib.hid (show rfP s=some ⟨mant,xp,neg,tr,hx,i3⟩ by rw[HFIN.out];simp)
  ((repeat (go_wp2_with fail;first | (refine cdY ?_ ?_;focus (simp[ov, *];done)) | (refine cdN ?_ ?_;focus (simp[ov, *];done))));go_wp2_with fail)
  rw[Exit.noGoto_ret]
  exact zbn (.int .u64 (mant:Int)) (.int .i64 xp) (.bool neg) (.bool tr) (.bool hx) (.int .i64 (i3:Int)) (.bool true) rfl (by decide) (by simp[ov, *]) (by simp[ov, *]) (by simp[ov, *]) (by simp[ov, *]) (by simp[ov, *]) (by simp[ov, *]) (by simp[ov, *]) ⟨by unfold RfPost;rw[HF.out],rfl⟩
 ·((repeat (go_wp2_with fail;first | (refine cdY ?_ ?_;focus (simp[ov, *];done)) | (refine cdN ?_ ?_;focus (simp[ov, *];done))));go_wp2_with fail)
  refine (HUN.out _).mono ?_
  rintro e w1 ⟨rfl,rfl⟩
  cases ok
  ·have HF:=Lib.hid (show rfP s=none by rw[HFIN.out];rfl)
   ((repeat (go_wp2_with fail;first | (refine cdY ?_ ?_;focus (simp[ov, *];done)) | (refine cdN ?_ ?_;focus (simp[ov, *];done))));go_wp2_with fail)
   rw[Exit.noGoto_ret]
   exact zbn (.int .u64 (mant:Int)) (.int .i64 xp) (.bool neg) (.bool tr) (.bool hx) (.int .i64 (i3:Int)) (.bool false) rfl (by decide) (by simp[ov, *]) (by simp[ov, *]) (by simp[ov, *]) (by simp[ov, *]) (by simp[ov, *]) (by simp[ov, *]) (by simp[ov, *]) ⟨RfPost.no HF.out mant xp neg tr hx i3,rfl⟩
  ·have HF:=Lib.hid (show rfP s=some ⟨mant,xp,neg,tr,hx,i3⟩ by rw[HFIN.out];rfl)
   ((repeat (go_wp2_with fail;first | (refine cdY ?_ ?_;focus (simp[ov, *];done)) | (refine cdN ?_ ?_;focus (simp[ov, *];done))));go_wp2_with fail)
   rw[Exit.noGoto_ret]
   exact zbn (.int .u64 (mant:Int)) (.int .i64 xp) (.bool neg) (.bool tr) (.bool hx) (.int .i64 (i3:Int)) (.bool true) rfl (by decide) (by simp[ov, *]) (by simp[ov, *]) (by simp[ov, *]) (by simp[ov, *]) (by simp[ov, *]) (by simp[ov, *]) (by simp[ov, *]) ⟨by unfold RfPost;rw[HF.out],rfl⟩
end
end Go.Proofs.YtnifedmhgncioaaGreatDoor
