/- Lemmas that the claim's top text leans on. No condition of their own. -/
import Derived.Test.YtnifedmhgncioaaGreatDoorJ01
import Derived.Test.YtnifedmhgncioaaGreatDoorRows
namespace Go.Proofs.YtnifedmhgncioaaGreatDoor
open Go.RowKit
set_option linter.unusedSimpArgs false
set_option linter.unusedVariables false
set_option maxHeartbeats 16000000
def zmc (i:Nat):Nat:=(Go.Pinned.pow10Rows.getD i (0,0)).1
def zmb (i:Nat):Nat:=(Go.Pinned.pow10Rows.getD i (0,0)).2
def chN (i:Nat):Nat:=(Go.Pinned.cheatRows.getD i (0,[])).1
def chS (i:Nat):List UInt8:=(Go.Pinned.cheatRows.getD i (0,[])).2
theorem zqu (i:Nat):zmc i<18446744073709551616/\zmb i<18446744073709551616:=by
 unfold zmc zmb;rcases Nat.lt_or_ge i 696 with h | h
 ·have key:Go.Pinned.pow10Rows.all (fun x=>x.1<18446744073709551616&&x.2<18446744073709551616)=true:=zp;rw[List.all_eq_true]at key;have hl:Go.Pinned.pow10Rows.length=696:=zp;have hm:=key (Go.Pinned.pow10Rows[i]'(by rw[hl];exact h)) (List.getElem_mem _);rw[List.getD_eq_getElem?_getD,List.getElem?_eq_getElem (by rw[hl];exact h)];simpa using hm
 ·have hl:Go.Pinned.pow10Rows.length=696:=zp;rw[List.getD_eq_getElem?_getD,List.getElem?_eq_none (by rw[hl];exact h)];simp
structure Env (T:Nat) (w:World):Prop where
 size:T<=w.heap.size
 glob:3<T/\6<T/\10<T/\11<T/\13<T
 p10:∀ i,i<20->w.cell? ⟨6,i,none⟩=some (.int .u64 ((10^i:Nat):Int))
 tab:∀ i,i<696->w.cell? ⟨10,i*2,none⟩=some (.int .u64 (zmc i:Int))/\w.cell? ⟨10,i*2+1,none⟩=some (.int .u64 (zmb i:Int))
 opt:w.cell? ⟨3,0,none⟩=some (.bool true)
 cheats:∃ b o c,b<T/\61<=c/\w.cell? ⟨11,0,none⟩=some (.slice (some ⟨b,o,none⟩) 61 c)/\∀ i,i<61->w.cell? ⟨b,o+i*2,none⟩=some (.int .i64 (chN i:Int))/\w.cell? ⟨b,o+i*2+1,none⟩=some (.string ⟨(chS i).toArray⟩)
theorem Env.kept {T:Nat} {w w':World} (h:Env T w) (hs:w.heap.size<=w'.heap.size) (hb:∀ k,k<T->w'.heap[k]?=w.heap[k]?):Env T w':=by
 have hg:=h.glob;have hc:∀ a:Addr,a.block<T->w'.cell? a=w.cell? a:=fun a ha=>World.cell?_of_block (w:=w) (hb a.block ha)
 refine⟨Nat.le_trans h.size hs,hg,fun i hi=>(hc _ zw).trans (h.p10 i hi),fun i hi=>⟨(hc _ zw).trans (h.tab i hi).1,(hc _ zw).trans (h.tab i hi).2⟩,
  (hc _ zw).trans h.opt,?_⟩
 obtain⟨b,o,c,hbT,hcc,h1,h2⟩:=h.cheats;exact⟨b,o,c,hbT,hcc,(hc _ zw).trans h1,fun i hi=>⟨(hc _ hbT).trans (h2 i hi).1,(hc _ hbT).trans (h2 i hi).2⟩⟩
theorem Env.grown {T:Nat} {w w':World} {row:Option Nat} (h:Env T w) (hg:w.grownBy w' row) (hr:∀ k,row=some k->T<=k):Env T w':=
 h.kept hg.size fun k hk=>hg.block k (Nat.lt_of_lt_of_le hk h.size) (fun e=>by have:=hr k e.symm;omega)
theorem Env.alloc {T:Nat} {w:World} (h:Env T w) (o:Obj):Env T (w.alloc o):=
 h.grown (World.grownBy_alloc w o none) (fun _ e=>zL)
theorem Env.drewN {T:Nat} {w:World} (h:Env T w) (n:Nat):Env T (w.drewN n):=
 h.grown (yh w n none) (fun _ e=>zL)
theorem wq (w:World) (a:Addr) (u:Value):w.grownBy (w.setCell a u) (some a.block):=
 ⟨rfl,rfl,rfl,by simp[World.setCell],fun k _ hne=>Below.heap_setCell w a u k (fun e=>hne (by rw[e]))⟩
theorem zxn {w w':World} {row:Option Nat} (h:w.grownBy w' none):w.grownBy w' row:=
 ⟨h.os,h.tape,h.output,h.size,fun k hk _=>h.block k hk zi⟩
theorem ym {w w1 w2:World} (h:w.grownBy w1 none) (k:w1.grownBy w2 none):w.grownBy w2 none:=
 yx h k (fun _ e=>zL)
theorem zhe {w w1 w2:World} {g:Nat} (h:w.grownBy w1 none) (k:w1.grownBy w2 (some g)) (hg:w.heap.size<=g):w.grownBy w2 none:=
 yx h k (fun j e hj=>by cases e;omega)
theorem zoh (n:Int):bits .and .i64 n 63=n%64:=by
 have h63:(BitVec.ofInt 64 63).toNat=2^6-1:=ze;have key:(BitVec.ofInt 64 n&&&BitVec.ofInt 64 63).toNat=(n%((2^64:Nat):Int)).toNat%2^6:=by
  rw[BitVec.toNat_and,BitVec.toNat_ofInt,h63,Nat.and_two_pow_sub_one_eq_mod]
 show IntKind.i64.wrap ((BitVec.ofInt 64 n&&&BitVec.ofInt 64 63).toNat:Nat)=n%64;rw[key,IntKind.wrap_i64];omega
theorem ync (n:Int):bits .and .i64 n 1=n%2:=by
 have h1:(BitVec.ofInt 64 1).toNat=2^1-1:=ze;have key:(BitVec.ofInt 64 n&&&BitVec.ofInt 64 1).toNat=(n%((2^64:Nat):Int)).toNat%2^1:=by
  rw[BitVec.toNat_and,BitVec.toNat_ofInt,h1,Nat.and_two_pow_sub_one_eq_mod]
 show IntKind.i64.wrap ((BitVec.ofInt 64 n&&&BitVec.ofInt 64 1).toNat:Nat)=n%2;rw[key,IntKind.wrap_i64];omega
theorem zjg (a:Nat) (ha:a<18446744073709551616):bits .and .u64 (a:Int) 1=((a%2:Nat):Int):=by
 have h:=u64_and_nat a 1 ha zd;rw[Nat.and_one_is_mod]at h;exact h
def b2n (b:Bool):Nat:=if b then 1 else 0
theorem zpq (b:Bool):b2n b<=1:=by cases b <;> decide
def ptV (i:Nat):Nat:=[1,3,6,9,13,16,19,23,26].getD i 0
def zso (i:Nat):Nat:=[4607182418800017408,4621819117588971520,4636737291354636288,4652007308841189376,4666723172467343360,4681608360884174848,4696837146684686336,4711630319722168320,4726483295884279808,4741671816366391296,4756540486875873280,4771362005757984768,4786511204640096256,4801453603149578240,4816244402031689728,4831355200913801216,4846369599423283200,4861130398305394688,4876203697187506176,4891288408196988160,4906019910204099648,4921056587992461136,4936209963552724370].getD i 0
def yad (i:Nat):Nat:=[1065353216,1092616192,1120403456,1148846080,1176256512,1203982336,1232348160,1259902592,1287568416,1315859240,1343554297].getD i 0
structure EnvP (T:Nat) (w:World):Prop where
 env:Env T w
 glob:4<T/\5<T/\8<T/\9<T/\7<T/\1<T/\2<T
 i32:w.cell? ⟨4,0,none⟩=some (.int .u64 23)/\w.cell? ⟨4,1,none⟩=some (.int .u64 8)/\w.cell? ⟨4,2,none⟩=some (.int .i64 (-127))
 i64:w.cell? ⟨5,0,none⟩=some (.int .u64 52)/\w.cell? ⟨5,1,none⟩=some (.int .u64 11)/\w.cell? ⟨5,2,none⟩=some (.int .i64 (-1023))
 ptab:∃ b o c,b<T/\9<=c/\w.cell? ⟨8,0,none⟩=some (.slice (some ⟨b,o,none⟩) 9 c)/\∀ i,i<9->w.cell? ⟨b,o+i,none⟩=some (.int .i64 (ptV i:Int))
 t64:∃ b o c,b<T/\23<=c/\w.cell? ⟨9,0,none⟩=some (.slice (some ⟨b,o,none⟩) 23 c)/\∀ i,i<23->w.cell? ⟨b,o+i,none⟩=some (.float .f64 (zso i))
 t32:∃ b o c,b<T/\11<=c/\w.cell? ⟨7,0,none⟩=some (.slice (some ⟨b,o,none⟩) 11 c)/\∀ i,i<11->w.cell? ⟨b,o+i,none⟩=some (.float .f32 (yad i))
 b32:∃ c t,w.heap[4]?=some (.cells c t (0,0))
 b64:∃ c t,w.heap[5]?=some (.cells c t (0,0))
 errs:∃ (aS aR:Addr) (cS cR:Array Value) (tS tR:TypeId),aS.block<T/\aR.block<T/\aS≠aR/\w.cell? ⟨1,0,none⟩=some (.iface 176 (.pointer (some aS)))/\w.cell? ⟨2,0,none⟩=some (.iface 176 (.pointer (some aR)))/\
  w.heap[aS.block]?=some (.cells cS tS (0,0))/\w.heap[aR.block]?=some (.cells cR tR (0,0))
theorem EnvP.kept {T:Nat} {w w':World} (h:EnvP T w) (hs:w.heap.size<=w'.heap.size) (hb:∀ k,k<T->w'.heap[k]?=w.heap[k]?):EnvP T w':=by
 have hg:=h.glob;have hc:∀ a:Addr,a.block<T->w'.cell? a=w.cell? a:=fun a ha=>World.cell?_of_block (w:=w) (hb a.block ha)
 refine⟨h.env.kept hs hb,hg,⟨(hc _ zw).trans h.i32.1,(hc _ zw).trans h.i32.2.1,(hc _ zw).trans h.i32.2.2⟩,⟨(hc _ zw).trans h.i64.1,(hc _ zw).trans h.i64.2.1,(hc _ zw).trans h.i64.2.2⟩,?_,?_,?_,?_,?_,?_⟩
 ·obtain⟨b,o,c,hbT,hcc,h1,h2⟩:=h.ptab;exact⟨b,o,c,hbT,hcc,(hc _ zw).trans h1,fun i hi=>(hc _ hbT).trans (h2 i hi)⟩
 ·obtain⟨b,o,c,hbT,hcc,h1,h2⟩:=h.t64;exact⟨b,o,c,hbT,hcc,(hc _ zw).trans h1,fun i hi=>(hc _ hbT).trans (h2 i hi)⟩
 ·obtain⟨b,o,c,hbT,hcc,h1,h2⟩:=h.t32;exact⟨b,o,c,hbT,hcc,(hc _ zw).trans h1,fun i hi=>(hc _ hbT).trans (h2 i hi)⟩
 ·obtain⟨c,t,h1⟩:=h.b32;exact⟨c,t,(hb _ zd).trans h1⟩
 ·obtain⟨c,t,h1⟩:=h.b64;exact⟨c,t,(hb _ zd).trans h1⟩
 ·obtain⟨aS,aR,cS,cR,tS,tR,h1,h2,h3,h4,h5,h6,h7⟩:=h.errs;exact⟨aS,aR,cS,cR,tS,tR,h1,h2,h3,(hc _ zw).trans h4,(hc _ zw).trans h5,(hb _ h1).trans h6,(hb _ h2).trans h7⟩
theorem EnvP.grown {T:Nat} {w w':World} {row:Option Nat} (h:EnvP T w) (hg:w.grownBy w' row) (hr:∀ k,row=some k->T<=k):EnvP T w':=
 h.kept hg.size fun k hk=>hg.block k (Nat.lt_of_lt_of_le hk h.env.size) (fun e=>by have:=hr k e.symm;omega)
theorem EnvP.alloc {T:Nat} {w:World} (h:EnvP T w) (o:Obj):EnvP T (w.alloc o):=
 h.grown (World.grownBy_alloc w o none) (fun _ e=>zL)
end Go.Proofs.YtnifedmhgncioaaGreatDoor
