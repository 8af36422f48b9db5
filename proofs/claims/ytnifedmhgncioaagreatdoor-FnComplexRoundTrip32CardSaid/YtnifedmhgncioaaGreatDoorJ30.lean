/- Lemmas that the claim's top text leans on. No condition of their own. -/
import Derived.Test.YtnifedmhgncioaaGreatDoorJ28
import Derived.Lib.BufferOwn
import Derived.Test.YtnifedmhgncioaaGreatDoorJ24
namespace Go.Proofs.YtnifedmhgncioaaGreatDoor
open Go.RowKit
set_option linter.unusedSimpArgs false
set_option linter.unusedVariables false
set_option maxHeartbeats 16000000
section
attribute [local go_sem] undef
abbrev yf0:ByteArray:={ data:=#[80,97,114,115,101,67,111,109,112,108,101,120] }
def ErrNf (nm:ByteArray) (w:World) (s:List UInt8) (k N:Nat):Prop:=∃ x,w.cell? ⟨if k=1 then 1 else 2,0,none⟩=some x/\
 w.heap[N]?=some (.cells #[.string nm,.string ⟨s.toArray⟩,x] 89 (0,0))
def yfx (nm:ByteArray) (w:World) (s:List UInt8) (k:Nat) (ev:Value):Prop:=(k=0/\ev=.nilIface)\/((k=1\/k=2)/\∃ N,ev=.iface 86 (.pointer (some ⟨N,0,none⟩))/\ErrNf nm w s k N)
theorem yj0 {T k:Nat} {s:List UInt8} {w:World} (nm:ByteArray) (bs:Int) (hk:k=1\/k=2) (he:EnvP T w) (hs:s.length<=800):
  Calls Tryz.prog 47 #[.string nm,.string ⟨s.toArray⟩,.int .i64 0,.int .i64 bs,erK k] w fun e w'=>
   (∃ N,e=.returned (.iface 86 (.pointer (some ⟨N,0,none⟩)))/\ErrNf nm w' s k N)/\w.grownBy w' none:=by
 have hsz:(⟨s.toArray⟩:ByteArray).size<=281474976710656:=by
  have:(⟨s.toArray⟩:ByteArray).size=s.length:=zm;omega
 obtain⟨aS,aR,cS,cR,tS,tR,h1,h2,-,h3,h4,-,-⟩:=he.errs;have hg1:=he.glob.2.2.2.2.2.1;have hg2:=he.glob.2.2.2.2.2.2;have hT:=he.env.size;rcases hk with rfl | rfl
 ·refine (Tryz.strconv_toError_syntax nm ⟨s.toArray⟩ 0 bs _ w hsz h3 (Or.inr ⟨_,_,rfl⟩)).mono ?_;rintro e w1 ⟨N,rfl,-,hb,hbel⟩;have hg:=Lib.grownBy_below (World.grownBy.refl w none) hbel;refine⟨⟨N,rfl,_,?_,hb⟩,hg⟩;rw[if_pos rfl];exact hg.cell h3 zi
 ·refine (Tryz.strconv_toError_range nm ⟨s.toArray⟩ 0 bs _ w hsz h4 (Or.inr ⟨_,_,rfl⟩)).mono ?_;rintro e w1 ⟨N,rfl,-,hb,hbel⟩;have hg:=Lib.grownBy_below (World.grownBy.refl w none) hbel;refine⟨⟨N,rfl,_,?_,hb⟩,hg⟩;rw[if_neg ze];exact hg.cell h4 zi
theorem za0 {s:List UInt8} {t:Txt} (h:ul s=some t):t.kind=0\/t.kind=1\/t.kind=2:=by
 refine zco s _ (fun _ hr=>?_) (fun ng _ hr=>?_) (fun _ hr=>?_)
 ·rw[h]at hr;cases hr;exact Or.inr (Or.inr rfl)
 ·rw[h]at hr;cases hr;exact Or.inr (Or.inl rfl)
 ·rw[h]at hr;cases hl:zau s with
  | none=>rw[hl]at hr;cases hr
  | some L=>rw[hl]at hr;cases hr;exact Or.inl rfl
end
theorem yho {t:List UInt8} {c:UInt8} {r:List UInt8} {x:Txt} {v n:Nat} {ev:Value} (hs:StpQ c r) (h:ul t=some x) (hl:t.length<=800) (ha:AtQ32 (t++c::r) v n ev):
  n=t.length/\∃ k,ev=erK k/\PaQ32 t v k:=by
 have key:n=t.length/\AtQ32 t v n ev:=by
  unfold AtQ32 at ha ⊢;rcases ygl hs h with⟨y,h1,h2⟩ | ⟨h1,h2,R,L,h3,h4,h5,h6⟩
  ·rw[h1]at ha;rw[h2];exact⟨ha.1,ha⟩
  ·rw[h1]at ha;rw[h2];dsimp only at ha ⊢;rw[h3]at ha;rw[h4];dsimp only at ha ⊢;rw[h5,List.take_left']at ha
   ·rw[h5,List.take_length];exact⟨ha.1,ha⟩
   ·rfl
 exact⟨key.1,(zzv key.2 hl).1 key.1⟩
theorem yh2 {s:List UInt8} {v n:Nat} {ev:Value} (ha:AtQ32 s v n ev) (hl:s.length<=800):
  (v=0/\ev=erK 1)\/(n<=s.length/\0<n/\(∃ x,ul (s.take n)=some x)/\∃ k,k≠1/\ev=erK k/\PaQ32 (s.take n) v k):=by
 have key:(v=0/\ev=erK 1)\/(n<=s.length/\0<n/\(∃ x,ul (s.take n)=some x)/\AtQ32 (s.take n) v n ev):=by
  unfold AtQ32 at ha ⊢;cases hsp:qp s with
  | some x=>
   rw[hsp]at ha;obtain⟨rfl,rfl,hq⟩:=ha;obtain⟨h1,h2,h3,h4⟩:=yhf hsp;refine Or.inr ⟨h1,h2,h4,?_⟩;rw[h3];exact⟨rfl,rfl,hq⟩
  | none=>
   rw[hsp]at ha;dsimp only at ha;cases hrf:rfP s with
   | none=>rw[hrf]at ha;exact Or.inl ha
   | some R=>
    rw[hrf]at ha;obtain⟨rfl,L,hL,h5,h6⟩:=ha;obtain⟨h1,h2,h3,-⟩:=yhp hrf;obtain⟨g1,g2⟩:=yhs hL;refine Or.inr ⟨h1,h2,⟨_,g2⟩,?_⟩;rw[g1];dsimp only;rw[h3];exact⟨rfl,L,by rw[List.take_take,Nat.min_self];exact hL,h5,h6⟩
 rcases key with h | ⟨h1,h2,⟨x,h3⟩,h4⟩
 ·exact Or.inl h
 ·refine Or.inr ⟨h1,h2,⟨x,h3⟩,?_⟩;obtain⟨k,e1,e2⟩:=(zzv h4 zN).1 zN;refine⟨k,?_,e1,e2⟩;rintro rfl;unfold PaQ32 at e2;rw[h3]at e2;rcases za0 h3 with e | e | e
  ·have:=(e2.2.2 e).2;split at this <;> omega
  ·have:=(e2.2.1 e).2;omega
  ·have:=(e2.1 e).2;omega
theorem yhi:ul [48]=some ⟨0,false,10,[],0⟩:=by rfl
def yij (s:List UInt8) (r n:Nat) (ev:Value):Prop:=∃ v,AtQ32 s v n ev/\yak v r
theorem yga {t:List UInt8} {x:Txt} {v k:Nat} (h:ul t=some x) (hp:PaQ32 t v k):k=0\/k=2:=by
 unfold PaQ32 at hp;rw[h]at hp;rcases za0 h with e | e | e
 ·have:=(hp.2.2 e).2;split at this <;> omega
 ·have:=(hp.2.1 e).2;omega
 ·have:=(hp.1 e).2;omega
theorem wid_0 {r:Nat} (h:yak 0 r):r=0:=by
 rcases h with⟨⟨-,h⟩,-⟩ | ⟨-,-,-,h⟩
 ·exact absurd h ze
 ·have:floatToFloatBits .f32 0 .f64=some 0:=zp;rw[this]at h;exact (Option.some.inj h).symm
theorem frOK32:FrOK yij yxs where
 front:=fun hs h hl ha=>by
  obtain⟨v,ha,hw⟩:=ha
  obtain⟨h1,k,h2,h3⟩:=yho hs h hl ha
  exact⟨h1,k,h2,v,h3,hw⟩
 back:=fun ha hl=>by
  obtain⟨v,ha,hw⟩:=ha
  rcases yh2 ha hl with⟨rfl,h⟩ | ⟨h1,h2,⟨x,h3⟩,k,-,h5,h6⟩
  ·exact Or.inl ⟨wid_0 hw,h⟩
  ·exact Or.inr ⟨h1,h2,⟨x,h3⟩,k,yga h3 h6,h5,v,h6,hw⟩
 whole:=fun {t x v n ev} h hl ha=>by
  obtain⟨v,ha,hw⟩:=ha
  obtain⟨h1,h2⟩:=zzv ha hl
  by_cases hn:n=t.length
  ·obtain⟨k,e1,e2⟩:=h1 hn
   exact⟨hn,k,e1,v,e2,hw⟩
  ·have:=yga h (h2 hn)
   omega
 kind:=fun h hp=>by
  obtain⟨v,hp,-⟩:=hp
  exact yga h hp
 ext:=fun {s t v k} h hp=>by
  obtain⟨v,hp,hw⟩:=hp
  refine⟨v,?_,hw⟩
  unfold PaQ32 at hp ⊢;rw[<-h];exact hp
 zero:=by
  refine⟨0,?_,zze⟩;unfold PaQ32;rw[yhi];have e:spB 23 127 2139095040 ⟨0,false,10,[],0⟩=0:=by
   unfold spB spN;rw[if_pos (by unfold zq0;rw[if_pos rfl])]
  refine⟨fun h=>absurd h (by show ¬(0:Int)=2;decide),fun h=>absurd h (by show ¬(0:Int)=1;decide),fun _=>?_⟩;rw[e];exact⟨rfl,rfl⟩
theorem yh0 {s:List UInt8} {v n:Nat} {ev:Value} (h:yij s v n ev):v<18446744073709551616:=by
 obtain⟨u,-,⟨-,h⟩ | ⟨-,-,h,-⟩⟩:=h
 ·exact h.1
 ·exact h
theorem yf8 {A:List UInt8->Nat->Nat->Value->Prop} (hA:∀ s v n ev,A s v n ev->v<18446744073709551616) {u:List UInt8} {x y k:Nat} (h:yim A u x y k):x<18446744073709551616/\y<18446744073709551616/\k<=2:=by
 obtain⟨v,n,ev,h1,h⟩:=h;have hv:=hA _ _ _ _ h1;rcases h with⟨-,rfl,rfl,rfl⟩ | ⟨k1,hk1,-,-,h⟩
 ·omega
 ·rcases h with⟨-,rfl,rfl,rfl⟩ | ⟨-,rfl,rfl,rfl⟩ | ⟨c,r,-,-,-,-,rfl,rfl,rfl⟩ | ⟨c,r,-,-,v2,n2,ev2,h2,h⟩
  ·omega
  ·omega
  ·omega
  ·have hv2:=hA _ _ _ _ h2;rcases h with⟨-,rfl,rfl,rfl⟩ | ⟨k2,hk2,-,-,⟨-,rfl,rfl,rfl⟩ | ⟨-,rfl,rfl,rfl⟩⟩
   ·omega
   ·omega
   ·split <;> omega
section
attribute [local go_sem] undef
set_option maxRecDepth 100000 in
theorem ygj (T:Nat) (s:List UInt8) (bs:Int) (w:World) (P:Nat->Nat->Nat->Prop) (he:EnvP T w) (hs:s.length<=800) (hP:∀ x y k,P x y k->k<=2)
  (HAT:Calls Tryz.prog 52 #[.string ⟨s.toArray⟩,.int .i64 bs] w fun e w'=>(∃ x y k:Nat,e=.returned (.tuple #[.complex .f64 x y,erK k])/\P x y k)/\w.grownBy w' none):
  Calls Tryz.prog 33 #[.string ⟨s.toArray⟩,.int .i64 bs] w fun e w'=>(∃ (x y k:Nat) (ev:Value),e=.returned (.tuple #[.complex .f64 x y,ev])/\P x y k/\yfx yf0 w' s k ev)/\w.grownBy w' none:=by
 have HAT:=zH HAT;have HE:=zH he;clear he;refine ye Tryz.func33 rfl (by rw[Tryz.ntmps33];simp) ?_;intro σ hσ;rw[Tryz.ntmps33];have s0:σ 0=.string ⟨s.toArray⟩:=hσ 0 zi;have s1:σ 1=.int .i64 bs:=hσ 1 zi;clear hσ;(go_wp2_with fail;repeat ((first|refine cZ ?_|refine cW ?_);go_wp2_with fail));refine HAT.out.mono ?_;rintro e w1 ⟨⟨x,y,k,rfl,hp⟩,hg⟩;have hk:=hP x y k hp;have HP:=zH hp;have HG:=zH hg;have HT:=zH (fun hk=>yj0 (k:=k) (s:=s) (w:=w1) yf0 bs hk (HE.out.grown hg (fun _ e=>zL)) hs);clear hp hg hP;rcases (show k=0\/k=1\/k=2 by omega) with rfl | rfl | rfl
 ·rw[show erK 0=.nilIface from rfl];(go_wp2_with fail;repeat ((first|refine cZ ?_|refine cW ?_);go_wp2_with fail));exact xc (.complex .f64 x y) .nilIface rfl ze ze zb zb ⟨⟨x,y,0,.nilIface,rfl,HP.out,Or.inl ⟨rfl,rfl⟩⟩,HG.out⟩
 ·have HT2:=zH (HT.out (Or.inl rfl));clear HT;rw[show erK 1=.iface 101 (.int .i64 2) from rfl]at *
  (go_wp2_with fail;repeat ((first|refine cZ ?_|refine cW ?_);go_wp2_with fail));refine HT2.out.mono ?_;rintro e w2 ⟨⟨N,rfl,hn⟩,hg2⟩;have HN:=zH hn;clear hn;(go_wp2_with fail;repeat ((first|refine cZ ?_|refine cW ?_);go_wp2_with fail));exact xc (.complex .f64 x y) (.iface 86 (.pointer (some ⟨N,0,none⟩))) rfl ze ze zb zb ⟨⟨x,y,1,_,rfl,HP.out,Or.inr ⟨Or.inl rfl,N,rfl,HN.out⟩⟩,ym HG.out hg2⟩
 ·have HT2:=zH (HT.out (Or.inr rfl));clear HT;rw[show erK 2=.iface 101 (.int .i64 1) from rfl]at *
  (go_wp2_with fail;repeat ((first|refine cZ ?_|refine cW ?_);go_wp2_with fail));refine HT2.out.mono ?_;rintro e w2 ⟨⟨N,rfl,hn⟩,hg2⟩;have HN:=zH hn;clear hn;(go_wp2_with fail;repeat ((first|refine cZ ?_|refine cW ?_);go_wp2_with fail));exact xc (.complex .f64 x y) (.iface 86 (.pointer (some ⟨N,0,none⟩))) rfl ze ze zb zb ⟨⟨x,y,2,_,rfl,HP.out,Or.inr ⟨Or.inr rfl,N,rfl,HN.out⟩⟩,ym HG.out hg2⟩
end
end Go.Proofs.YtnifedmhgncioaaGreatDoor
