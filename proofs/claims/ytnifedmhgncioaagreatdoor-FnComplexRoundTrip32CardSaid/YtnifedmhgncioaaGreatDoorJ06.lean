/- Lemmas that the claim's top text leans on. No condition of their own. -/
import Derived.Test.YtnifedmhgncioaaGreatDoorJM
import Derived.WalkKit
import Derived.WalkSpells
import Derived.Deep.Cut
import Derived.Deep.LoopGhost
namespace Go.Proofs.YtnifedmhgncioaaGreatDoor
open Go.RowKit
set_option linter.unusedSimpArgs false
set_option linter.unusedVariables false
set_option maxHeartbeats 16000000
section
def over:List (Nat×Value)->(Nat->Value)->Nat->Value
 | [],s,k=>s k
 | (j,v)::r,s,k=>if k=j then v else over r s k
def lst (env:List (Nat×Value)) (s:Nat->Value):Nat->Nat->List Value
 | 0,_=>[]
 | m+1,k=>over env s k::lst env s m (k+1)
theorem qv (env:List (Nat×Value)) (s:Nat->Value):∀ m k,(lst env s m k).length=m
 | 0,_=>rfl
 | m+1,k=>by rw[lst,List.length_cons,qv env s m (k+1)]
theorem zfh (env:List (Nat×Value)) (s:Nat->Value):∀ m k i,i<m->(lst env s m k)[i]?=some (over env s (k+i))
 | 0,_,_,h=>by omega
 | m+1,k,0,_=>rfl
 | m+1,k,i+1,h=>by rw[lst,List.getElem?_cons_succ,zfh env s m (k+1) i zd];congr 2;omega
def Fr (n:Nat) (env:List (Nat×Value)) (s:Nat->Value):Act:=⟨⟨lst env s n 0⟩,[]⟩
theorem zpv (n:Nat) (env:List (Nat×Value)) (s:Nat->Value):(Fr n env s).tmps.size=n:=by
 show (lst env s n 0).length=n;exact qv ..
theorem Fr_get? (n:Nat) (env:List (Nat×Value)) (s:Nat->Value) (k:Nat) (h:k<n):(Fr n env s).tmps[k]?=some (over env s k):=by
 show (lst env s n 0).toArray[k]?=_;rw[List.getElem?_toArray,zfh _ _ _ _ _ h,Nat.zero_add]
theorem wa (n:Nat) (env:List (Nat×Value)) (s:Nat->Value) (k:Nat) (h:k<n):(Fr n env s).tmps.getD k undef=over env s k:=by
 rw[Array.getD_eq_getD_getElem?,Fr_get? n env s k h];rfl
theorem jd (n:Nat) (env:List (Nat×Value)) (s:Nat->Value) (k:Nat) (h:k<n):(Fr n env s).eval (.tmp k)=over env s k:=wa n env s k h
theorem yc (j:Nat) (v:Value) (r:List (Nat×Value)) (s:Nat->Value) (k:Nat):over ((j,v)::r) s k=if k=j then v else over r s k:=rfl
theorem yd (s:Nat->Value) (k:Nat):over [] s k=s k:=rfl
theorem zkt (n:Nat) (env:List (Nat×Value)) (s:Nat->Value) (d:Nat) (v:Value):(Fr n env s).put (some d) v=Fr n ((d,v)::env) s:=by
 show (⟨(lst env s n 0).toArray.setIfInBounds d v,[]⟩:Act)=⟨(lst ((d,v)::env) s n 0).toArray,[]⟩;congr 1;apply Array.ext_getElem?;intro i;rw[Array.getElem?_setIfInBounds];simp only[List.size_toArray,qv,List.getElem?_toArray];rcases Nat.lt_or_ge i n with hi | hi
 ·rw[zfh _ _ _ _ _ hi,zfh _ _ _ _ _ hi,Nat.zero_add,yc];by_cases h:d=i
  ·subst h;simp[hi]
  ·rw[if_neg h,if_neg (fun e=>h e.symm)]
 ·rw[List.getElem?_eq_none (by rw[qv];exact hi),List.getElem?_eq_none (by rw[qv];exact hi)];by_cases h:d=i
  ·subst h;rw[if_pos rfl,if_neg zd]
  ·rw[if_neg h]
theorem zxl (n:Nat) (env:List (Nat×Value)) (s:Nat->Value) (v:Value):(Fr n env s).put none v=Fr n env s:=rfl
theorem zj7 (env:List (Nat×Value)) (s:Nat->Value):∀ m k,lst env s m k=lst [] (over env s) m k
 | 0,_=>rfl
 | m+1,k=>by rw[lst,lst,zj7 env s m (k+1),yd]
theorem zbg (n:Nat) (env:List (Nat×Value)) (s:Nat->Value):Fr n env s=Fr n [] (over env s):=by
 show (⟨⟨lst env s n 0⟩,[]⟩:Act)=⟨⟨lst [] (over env s) n 0⟩,[]⟩;rw[zj7]
theorem zxh (n:Nat) (env:List (Nat×Value)) (s:Nat->Value) (d:Nat) (v:Value):(Fr n env s).tmps.setIfInBounds d v=(Fr n ((d,v)::env) s).tmps:=congrArg Act.tmps (zkt n env s d v)
theorem vz (n:Nat) (env:List (Nat×Value)) (s:Nat->Value):(Fr n env s).defers=[]:=rfl
theorem ys7 (n:Nat) (env:List (Nat×Value)) (s:Nat->Value):Act.mk (Fr n env s).tmps []=Fr n env s:=rfl
attribute [go_sem ↓] zxh vz ys7 zpv Fr_get?
attribute [go_sem ↓] jd wa zkt zxl
attribute [go_sem] yc yd
theorem ov:(∀ (j:Nat) (v:Value) (r:List (Nat×Value)) (s:Nat->Value) (k:Nat),over ((j,v)::r) s k=if k=j then v else over r s k)/\∀ (s:Nat->Value) (k:Nat),over [] s k=s k:=⟨yc,yd⟩
theorem ye {P:Program} {f:FuncId} {fn:Func} {c:Code} {args:Array Value} {w:World} {R:Ending->World->Prop} (hf:P.funcs[f]?=some fn) (hb:fn.body=some c) (hn:args.size<=fn.ntmps)
  (h:∀ s:Nat->Value,(∀ k,k<args.size->s k=args.getD k undef)->c.wp P (bodyPost P fn R) (Fr fn.ntmps [] s) w):Calls P f args w R:=by
 refine calls_of_wp hf hb ?_;have e:(⟨args++Array.replicate (fn.ntmps-args.size) undef,[]⟩:Act)=Fr fn.ntmps [] (fun k=>args.getD k undef):=by
  show _=(⟨(Fr fn.ntmps [] (fun k=>args.getD k undef)).tmps,[]⟩:Act);congr 1;apply Array.ext_getElem?;intro i;rcases Nat.lt_or_ge i fn.ntmps with hi | hi
  ·rw[Fr_get? _ _ _ _ hi,yd,Array.getElem?_append];by_cases h:i<args.size
   ·rw[if_pos h];simp[Array.getD,h]
   ·rw[if_neg h,Array.getElem?_replicate,if_pos zd];simp[Array.getD,h]
  ·rw[Array.getElem?_eq_none zh,Array.getElem?_eq_none (by rw[zpv];exact hi)]
 rw[e];exact h _ (fun _ _=>rfl)
structure Got (R:(Nat->Value)->World->Prop) (env:List (Nat×Value)) (s:Nat->Value) (w:World):Prop where
 out:R (over env s) w
structure Gotk (R:Nat->(Nat->Value)->World->Prop) (k:Nat) (env:List (Nat×Value)) (s:Nat->Value) (w:World):Prop where
 out:∃ k',k'<k/\R k' (over env s) w
theorem got {R R':(Nat->Value)->World->Prop} (H:Hid (∀ s w,R s w->R' s w)) {env:List (Nat×Value)} {s:Nat->Value} {w:World} (h:R (over env s) w):Got R' env s w:=⟨H.out _ _ h⟩
theorem wo {R R':Nat->(Nat->Value)->World->Prop} (H:Hid (∀ k s w,R k s w->R' k s w)) {k:Nat} {env:List (Nat×Value)} {s:Nat->Value} {w:World} (k':Nat) (hk:k'<k) (h:R k' (over env s) w):Gotk R' k env s w:=⟨k',hk,H.out _ _ _ h⟩
section
variable {P : Program} {n : Nat} {env : List (Nat × Value)} {s : Nat → Value} {w : World} {Q : Exit → Act → World → Prop}
theorem zb0 {t:Nat} {c1 c2:Code} (b:Bool) (hb:over env s t=.bool b) (ht:t<n)
  (h1:b=true->c1.wp P Q (Fr n env s) w) (h2:b=false->c2.wp P Q (Fr n env s) w):(Code.cond (.tmp t) c1 c2).wp P Q (Fr n env s) w:=by
 have e:(Fr n env s).eval (.tmp t)=.bool b:=(jd n env s t ht).trans hb;cases b
 ·exact wp_cond_split e (fun h=>zF) (fun _=>h2 rfl)
 ·exact wp_cond_split e (fun _=>h1 rfl) (fun h=>zF)
theorem jq {t:Nat} {c1 c2:Code} (hb:over env s t=.bool true) (ht:t<n) (h1:c1.wp P Q (Fr n env s) w):(Code.cond (.tmp t) c1 c2).wp P Q (Fr n env s) w:=
 zb0 true hb ht (fun _=>h1) (fun h=>zF)
theorem kj {t:Nat} {c1 c2:Code} (hb:over env s t=.bool false) (ht:t<n) (h2:c2.wp P Q (Fr n env s) w):(Code.cond (.tmp t) c1 c2).wp P Q (Fr n env s) w:=
 zb0 false hb ht (fun h=>zF) (fun _=>h2)
theorem cdY {t:Nat} {c1 c2:Code} (hb:over env s t=.bool true) (h1:c1.wp P Q (Fr n env s) w) (ht:t<n:=by decide):(Code.cond (.tmp t) c1 c2).wp P Q (Fr n env s) w:=jq hb ht h1
theorem cdN {t:Nat} {c1 c2:Code} (hb:over env s t=.bool false) (h2:c2.wp P Q (Fr n env s) w) (ht:t<n:=by decide):(Code.cond (.tmp t) c1 c2).wp P Q (Fr n env s) w:=kj hb ht h2
theorem cZ {t:Nat} {c1 c2:Code} (h1:c1.wp P Q (Fr n env s) w) (hb:over env s t=.bool true:=by first | (simp[ov, *];done) | fail) (ht:t<n:=by decide):(Code.cond (.tmp t) c1 c2).wp P Q (Fr n env s) w:=jq hb ht h1
theorem cW {t:Nat} {c1 c2:Code} (h2:c2.wp P Q (Fr n env s) w) (hb:over env s t=.bool false:=by first | (simp[ov, *];done) | fail) (ht:t<n:=by decide):(Code.cond (.tmp t) c1 c2).wp P Q (Fr n env s) w:=kj hb ht h2
theorem yr {c:Code} {K:Act->World->Prop} (R:(Nat->Value)->World->Prop)
  (first:∀ (R':(Nat->Value)->World->Prop) (K':Act->World->Prop),Hid (∀ s w,R s w->R' s w)->(∀ env' s' w',Got R' env' s' w'->K' (Fr n env' s') w')->c.wp P (Exit.then K' Q) (Fr n env s) w)
  (rest:∀ s' w',R s' w'->K (Fr n [] s') w'):c.wp P (Exit.then K Q) (Fr n env s) w:=
 first R K (fun _ _ h=>h) (fun env' s' w' h=>by rw[zbg];exact rest _ _ h.out)
theorem xx {c:Code} (R:Nat->(Nat->Value)->World->Prop) (k0:Nat) (h0:R k0 (over env s) w)
  (round:∀ k s' w',R k s' w'->∀ (R':Nat->(Nat->Value)->World->Prop) (K':Act->World->Prop),Hid (∀ k s w,R k s w->R' k s w)->(∀ env' s'' w'',Gotk R' k env' s'' w''->K' (Fr n env' s'') w'')->c.wp P (Exit.then K' Q) (Fr n [] s') w'):(Code.loop c).wp P Q (Fr n env s) w:=by
 refine wp_loop_ghost (fun k a w=>∃ s',a=Fr n [] s'/\R k s' w) k0 ⟨over env s,zbg ..,h0⟩ ?_;rintro k a w ⟨s',rfl,hR⟩;refine round k s' w hR R _ (fun _ _ _ h=>h) ?_;rintro env' s'' w'' ⟨k',hk,hR'⟩;exact⟨k',hk,over env' s'',zbg ..,hR'⟩
theorem yl {fn:Func} {R:Ending->World->Prop} {t:Nat} (v:Value) (hr:fn.results=#[.tmp t]) (ht:t<n) (hv:over env s t=v) (hR:R (.returned v) w):bodyPost P fn R .ret (Fr n env s) w:=by
 refine bodyPost_ret (v:=v) ?_ rfl hR;rw[results_tmp hr,wa n env s t ht,hv]
theorem xc {fn:Func} {R:Ending->World->Prop} {t u:Nat} (v x:Value) (hr:fn.results=#[.tmp t,.tmp u]) (ht:t<n) (hu:u<n) (hv:over env s t=v) (hx:over env s u=x) (hR:R (.returned (.tuple #[v,x])) w):bodyPost P fn R .ret (Fr n env s) w:=by
 refine bodyPost_ret (v:=.tuple #[v,x]) ?_ rfl hR;rw[results_tmp2 hr,wa n env s t ht,wa n env s u hu,hv,hx]
theorem zi2 {fn:Func} {R:Ending->World->Prop} (hr:fn.results=#[]) (hR:R (.returned (.tuple #[])) w):bodyPost P fn R .normal (Fr n env s) w:=
 bodyPost_end (results_none hr _ _ _) rfl hR
theorem ymd {fn:Func} {R:Ending->World->Prop} (hr:fn.results=#[]) (hR:R (.returned (.tuple #[])) w):bodyPost P fn R .ret (Fr n env s) w:=
 bodyPost_ret (results_none hr _ _ _) rfl hR
end
attribute [irreducible] Fr over
end
end Go.Proofs.YtnifedmhgncioaaGreatDoor
