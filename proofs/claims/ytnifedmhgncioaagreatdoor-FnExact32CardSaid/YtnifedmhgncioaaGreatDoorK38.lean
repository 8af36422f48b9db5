/- Lemmas that the claim's top text leans on. No condition of their own. -/
import Derived.Test.YtnifedmhgncioaaGreatDoorK36
import Derived.Lib.BufferOwn
namespace Go.Proofs.YtnifedmhgncioaaGreatDoor
open Go.RowKit
set_option linter.unusedSimpArgs false
set_option linter.unusedVariables false
set_option maxHeartbeats 16000000
section
attribute [local go_sem] undef
abbrev wn:ByteArray:={ data:=#[80,97,114,115,101,70,108,111,97,116] }
def ErrNf (nm:ByteArray) (w:World) (s:List UInt8) (k N:Nat):Prop:=∃ x,w.cell? ⟨if k=1 then 1 else 2,0,none⟩=some x/\
 w.heap[N]?=some (.cells #[.string nm,.string ⟨s.toArray⟩,x] 89 (0,0))
def yfx (nm:ByteArray) (w:World) (s:List UInt8) (k:Nat) (ev:Value):Prop:=(k=0/\ev=.nilIface)\/((k=1\/k=2)/\∃ N,ev=.iface 86 (.pointer (some ⟨N,0,none⟩))/\ErrNf nm w s k N)
theorem yj0 {T k:Nat} {s:List UInt8} {w:World} (nm:ByteArray) (bs:Int) (hk:k=1\/k=2) (he:EnvP T w) (hs:s.length<=800):
  Calls Tryz.prog 47 #[.string nm,.string ⟨s.toArray⟩,.int .i64 0,.int .i64 bs,erK k] w fun e w'=>
   (∃ N,e=.returned (.iface 86 (.pointer (some ⟨N,0,none⟩)))/\ErrNf nm w' s k N)/\w.grownBy w' none:=by
 have hsz:(⟨s.toArray⟩:ByteArray).size<=281474976710656:=by
  have:(⟨s.toArray⟩:ByteArray).size=s.length:=zm;omega
 obtain⟨aS,aR,cS,cR,tS,tR,h1,h2,-,h3,h4,-,-⟩:=he.errs;have hg1:=he.glob.2.2.2.2.2.1;have hg2:=he.glob.2.2.2.2.2.2;have hT:=he.env.size;rcases hk with rfl | rfl
 ·refine (Tryz.strconv_toError_syntax nm ⟨s.toArray⟩ 0 bs _ w hsz h3 (Or.inr ⟨_,_,rfl⟩)).mono ?_;rintro e w1 ⟨N,rfl,-,hb,hbel⟩;have hg:=Lib.grownBy_below (World.grownBy.refl w none) hbel;refine⟨⟨N,rfl,_,?_,hb⟩,hg⟩;rw[if_pos rfl];exact hg.cell h3 zi
 ·refine (Tryz.strconv_toError_range nm ⟨s.toArray⟩ 0 bs _ w hsz h4 (Or.inr ⟨_,_,rfl⟩)).mono ?_;rintro e w1 ⟨N,rfl,-,hb,hbel⟩;have hg:=Lib.grownBy_below (World.grownBy.refl w none) hbel;refine⟨⟨N,rfl,_,?_,hb⟩,hg⟩;rw[if_neg ze];exact hg.cell h4 zi
set_option maxRecDepth 100000 in
theorem zm5 (T:Nat) (s:List UInt8) (bs:Int) (w:World) (P:Nat->Nat->Prop) (he:EnvP T w) (hs:s.length<=800) (hP:∀ v k,P v k->k<=2)
  (HAT:Calls Tryz.prog 46 #[.string ⟨s.toArray⟩,.int .i64 bs] w fun e w'=>(∃ v k:Nat,e=.returned (.tuple #[.float .f64 v,erK k])/\P v k)/\w.grownBy w' none):
  Calls Tryz.prog 25 #[.string ⟨s.toArray⟩,.int .i64 bs] w fun e w'=>(∃ (v k:Nat) (ev:Value),e=.returned (.tuple #[.float .f64 v,ev])/\P v k/\yfx wn w' s k ev)/\w.grownBy w' none:=by
 have HAT:=zH HAT;have HE:=zH he;clear he;refine ye Tryz.func25 rfl (by rw[Tryz.ntmps25];simp) ?_;intro σ hσ;rw[Tryz.ntmps25];have s0:σ 0=.string ⟨s.toArray⟩:=hσ 0 zi;have s1:σ 1=.int .i64 bs:=hσ 1 zi;clear hσ;(go_wp2_with fail;repeat ((first|refine cZ ?_|refine cW ?_);go_wp2_with fail));refine HAT.out.mono ?_;rintro e w1 ⟨⟨v,k,rfl,hp⟩,hg⟩;have hk:=hP v k hp;have HP:=zH hp;have HG:=zH hg;have HT:=zH (fun hk=>yj0 (k:=k) (s:=s) (w:=w1) wn bs hk (HE.out.grown hg (fun _ e=>zL)) hs);clear hp hg hP;rcases (show k=0\/k=1\/k=2 by omega) with rfl | rfl | rfl
 ·rw[show erK 0=.nilIface from rfl];(go_wp2_with fail;repeat ((first|refine cZ ?_|refine cW ?_);go_wp2_with fail));exact xc (.float .f64 v) .nilIface rfl ze ze zb zb ⟨⟨v,0,.nilIface,rfl,HP.out,Or.inl ⟨rfl,rfl⟩⟩,HG.out⟩
 ·have HT2:=zH (HT.out (Or.inl rfl));clear HT;rw[show erK 1=.iface 101 (.int .i64 2) from rfl]at *
  (go_wp2_with fail;repeat ((first|refine cZ ?_|refine cW ?_);go_wp2_with fail));refine HT2.out.mono ?_;rintro e w2 ⟨⟨N,rfl,hn⟩,hg2⟩;have HN:=zH hn;clear hn;(go_wp2_with fail;repeat ((first|refine cZ ?_|refine cW ?_);go_wp2_with fail));exact xc (.float .f64 v) (.iface 86 (.pointer (some ⟨N,0,none⟩))) rfl ze ze zb zb ⟨⟨v,1,_,rfl,HP.out,Or.inr ⟨Or.inl rfl,N,rfl,HN.out⟩⟩,ym HG.out hg2⟩
 ·have HT2:=zH (HT.out (Or.inr rfl));clear HT;rw[show erK 2=.iface 101 (.int .i64 1) from rfl]at *
  (go_wp2_with fail;repeat ((first|refine cZ ?_|refine cW ?_);go_wp2_with fail));refine HT2.out.mono ?_;rintro e w2 ⟨⟨N,rfl,hn⟩,hg2⟩;have HN:=zH hn;clear hn;(go_wp2_with fail;repeat ((first|refine cZ ?_|refine cW ?_);go_wp2_with fail));exact xc (.float .f64 v) (.iface 86 (.pointer (some ⟨N,0,none⟩))) rfl ze ze zb zb ⟨⟨v,2,_,rfl,HP.out,Or.inr ⟨Or.inr rfl,N,rfl,HN.out⟩⟩,ym HG.out hg2⟩
theorem za0 {s:List UInt8} {t:Txt} (h:ul s=some t):t.kind=0\/t.kind=1\/t.kind=2:=by
 refine zco s _ (fun _ hr=>?_) (fun ng _ hr=>?_) (fun _ hr=>?_)
 ·rw[h]at hr;cases hr;exact Or.inr (Or.inr rfl)
 ·rw[h]at hr;cases hr;exact Or.inr (Or.inl rfl)
 ·rw[h]at hr;cases hl:zau s with
  | none=>rw[hl]at hr;cases hr
  | some L=>rw[hl]at hr;cases hr;exact Or.inl rfl
theorem PaQ64.le {s:List UInt8} {v k:Nat} (h:PaQ64 s v k):k<=2:=by
 unfold PaQ64 at h;split at h
 ·omega
 ·rename_i t ht;obtain⟨h0,h1,h2⟩:=h;have hkd:t.kind=0\/t.kind=1\/t.kind=2:=za0 ht;rcases hkd with e | e | e
  ·have:=(h2 e).2;split at this <;> omega
  ·have:=(h1 e).2;omega
  ·have:=(h0 e).2;omega
theorem zgr (T:Nat) (s:List UInt8) (w:World) (he:EnvP T w) (hs:s.length<=800):
  Calls Tryz.prog 25 #[.string ⟨s.toArray⟩,.int .i64 64] w fun e w'=>(∃ (v k:Nat) (ev:Value),e=.returned (.tuple #[.float .f64 v,ev])/\PaQ64 s v k/\yfx wn w' s k ev)/\w.grownBy w' none:=
 zm5 T s 64 w (PaQ64 s) he hs (fun v k h=>h.le) (zfo T s w he hs)
end
end Go.Proofs.YtnifedmhgncioaaGreatDoor
