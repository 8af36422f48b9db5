/- Lemmas that the claim's top text leans on. No condition of their own. -/
import Derived.Test.YtnifedmhgncioaaGreatDoorJ40
import Derived.LaidLaws
namespace Go.Proofs.YtnifedmhgncioaaGreatDoor
open Go.RowKit
set_option linter.unusedSimpArgs false
set_option linter.unusedVariables false
set_option maxHeartbeats 16000000
section
open Go.ChangeShapes Go.WideShapes Go.ChangeAt Go.RowKit
def zlg {α:Type}:List Bool->List α->List α
 | true::m,x::r=>x::zlg m r
 | false::m,_::r=>zlg m r
 | _,_=>[]
theorem kh (P:Program) (w:World):∀ (m:List Bool) (l:List (String×DataW Unit)) (ps:List MemPlace),DataW.LaidVars P w l ps->∃ ps',ps'.Sublist ps/\DataW.LaidVars P w (zlg m l) ps'
 | [],l,ps,_=>⟨[],List.nil_sublist _,rfl⟩
 | true::m,[],ps,_=>⟨[],List.nil_sublist _,rfl⟩
 | false::m,[],ps,_=>⟨[],List.nil_sublist _,rfl⟩
 | true::m,(n,d)::r,ps,h=>by
  obtain⟨g,t,cs,fuel,p,q,h1,h2,h3,h4,h5,rfl⟩:=h
  obtain⟨q',hq,hl⟩:=kh P w m r q h5
  exact⟨_,List.Sublist.append (List.Sublist.refl _) hq,g,t,cs,fuel,p,q',h1,h2,h3,h4,hl,rfl⟩
 | false::m,(n,d)::r,ps,h=>by
  obtain⟨g,t,cs,fuel,p,q,h1,h2,h3,h4,h5,rfl⟩:=h
  obtain⟨q',hq,hl⟩:=kh P w m r q h5
  exact⟨q',hq.trans (List.sublist_append_right _ _),hl⟩
theorem zbu {P:Program} {w:World} {l:List (String×DataW Unit)} (m:List Bool) (h:laidMet P l w):laidMet P (zlg m l) w:=by
 obtain⟨ps,h1,h2,h3⟩:=h;obtain⟨ps',hs,hl⟩:=kh P w m l ps h1;exact⟨ps',hl,hs.nodup h2,fun b off hb=>h3 b off (hs.subset hb)⟩
def zip : List (String × DataW Unit) := [("math/bits.deBruijn32tab", Rows.laid_math_bits_deBruijn32tab), ("math/bits.deBruijn64tab", Rows.laid_math_bits_deBruijn64tab), ("internal/strconv.float32info", Rows.laid_internal_strconv_float32info), ("internal/strconv.float64info", Rows.laid_internal_strconv_float64info), ("internal/strconv.optimize", Rows.laid_internal_strconv_optimize), ("internal/strconv.powtab", Rows.laid_internal_strconv_powtab), ("internal/strconv.float64pow10", Rows.laid_internal_strconv_float64pow10), ("internal/strconv.float32pow10", Rows.laid_internal_strconv_float32pow10), ("internal/strconv.uint64pow10", Rows.laid_internal_strconv_uint64pow10), ("strconv.ErrRange", Rows.laid_strconv_ErrRange), ("strconv.ErrSyntax", Rows.laid_strconv_ErrSyntax), ("internal/strconv.leftcheats", Rows.laid_internal_strconv_leftcheats), ("internal/strconv.pow10Tab", Rows.laid_internal_strconv_pow10Tab)]
def laidQ : List (String × DataW Unit) := [("internal/strconv.float32info", Rows.laid_internal_strconv_float32info), ("internal/strconv.float64info", Rows.laid_internal_strconv_float64info), ("internal/strconv.powtab", Rows.laid_internal_strconv_powtab), ("internal/strconv.float64pow10", Rows.laid_internal_strconv_float64pow10), ("internal/strconv.float32pow10", Rows.laid_internal_strconv_float32pow10), ("strconv.ErrRange", Rows.laid_strconv_ErrRange), ("strconv.ErrSyntax", Rows.laid_strconv_ErrSyntax)]
theorem zqv:zlg [true,true,false,false,true,false,false,false,true,false,false,true,true] zip=zn7:=rfl
theorem zqw:zlg [false,false,true,true,false,true,true,true,false,true,true] zip=laidQ:=rfl
theorem gI32 : Tryz.prog.globalNamed "internal/strconv.float32info" = some 4 := by kernel_rfl
theorem gI64 : Tryz.prog.globalNamed "internal/strconv.float64info" = some 5 := by kernel_rfl
theorem gPt : Tryz.prog.globalNamed "internal/strconv.powtab" = some 8 := by kernel_rfl
theorem gT64 : Tryz.prog.globalNamed "internal/strconv.float64pow10" = some 9 := by kernel_rfl
theorem gT32 : Tryz.prog.globalNamed "internal/strconv.float32pow10" = some 7 := by kernel_rfl
theorem gER : Tryz.prog.globalNamed "strconv.ErrRange" = some 2 := by kernel_rfl
theorem gES : Tryz.prog.globalNamed "strconv.ErrSyntax" = some 1 := by kernel_rfl
theorem yI32:(Tryz.prog.globals[4]?).map (·.type)=some 163:=by kernel_rfl
theorem yI64:(Tryz.prog.globals[5]?).map (·.type)=some 163:=by kernel_rfl
theorem yPt:(Tryz.prog.globals[8]?).map (·.type)=some 39:=by kernel_rfl
theorem yT64:(Tryz.prog.globals[9]?).map (·.type)=some 201:=by kernel_rfl
theorem yT32:(Tryz.prog.globals[7]?).map (·.type)=some 199:=by kernel_rfl
theorem yER:(Tryz.prog.globals[2]?).map (·.type)=some 53:=by kernel_rfl
theorem yES:(Tryz.prog.globals[1]?).map (·.type)=some 53:=by kernel_rfl
theorem zw2:Tryz.prog.cellsOf 48=1:=by kernel_rfl
theorem cF64:Tryz.prog.cellsOf 51=1:=by kernel_rfl
theorem cF32:Tryz.prog.cellsOf 60=1:=by kernel_rfl
theorem cEs:Tryz.prog.cellsOf 178=1:=by kernel_rfl
theorem cFi:Tryz.prog.cellsOf 163=3:=by kernel_rfl
theorem uFi:∃ f0 f1 f2:Field,Tryz.prog.underlying 163=some (.struct #[f0,f1,f2])/\f0.type=48/\f0.offset=0/\f1.type=48/\f1.offset=1/\f2.type=3/\f2.offset=2:=⟨_,_,_,Tryz.underlying163,rfl,rfl,rfl,rfl,rfl,rfl⟩
theorem zmr : "*" ++ "errors.errorString" = "*errors.errorString" := by decide
theorem zse (u : TypeId) (h : Tryz.prog.typeName? 3 u = some "*errors.errorString") : u = 176 :=
 typeName_ptr_named (nm := "errors.errorString") (by rw [zmr]; kernel_rfl) zg ze u (by rw [zmr]; exact h)
section
variable {P : Program} {H : Type} {enc : TypeId × Value → H} {w : World} {base : Nat} {spare : Nat → Bool} {held : Bool} {fuel : Nat} {t : TypeId} {cs : List Value} {x : DataW H × List MemPlace}
theorem zk2 {k:FloatKind} (ht:P.underlying t=some (.float k)) (h:DataW.trod enc P w base spare held fuel t cs=some x):∃ n,cs=[.float k n]/\x=(.lit (.float k n),[])/\(Lit.float k n).wf=true:=by
 cases fuel with
 | zero=>simp[DataW.trod]at h
 | succ n=>
  unfold DataW.trod at h;rw[ht]at h;split at h <;> simp_all
theorem zgh {f0 f1 f2:Field} (ht:P.underlying t=some (.struct #[f0,f1,f2])) (h:DataW.trod enc P w base spare held fuel t cs=some x):
  ∃ y0 y1 y2 n,x.1=.agg [y0.1,y1.1,y2.1]/\cs.length=P.cellsOf t/\DataW.trod enc P w base spare held n f0.type ((cs.drop f0.offset).take (P.cellsOf f0.type))=some y0/\
   DataW.trod enc P w base spare held n f1.type ((cs.drop f1.offset).take (P.cellsOf f1.type))=some y1/\DataW.trod enc P w base spare held n f2.type ((cs.drop f2.offset).take (P.cellsOf f2.type))=some y2:=by
 obtain⟨xs,n,_,rfl,hl,hlen,hf⟩:=DataW.trod_struct ht h;match xs,hlen with
 | [y0,y1,y2],_=>exact⟨y0,y1,y2,n,zi,hl,by simpa using hf 0 f0 rfl,by simpa using hf 1 f1 rfl,by simpa using hf 2 f2 rfl⟩
end
theorem zci {W:World} {P:Program} {n:String} {g:Nat} {cs:Array Value} (hg:P.globalNamed n=some g) (hv:W.var? P n=some cs):g<W.heap.size:=by
 simp only[World.var?,hg,Option.bind_some]at hv;split at hv
 ·rename_i hh;exact (Array.getElem?_eq_some_iff.1 hh).1
 ·cases hv
theorem zog {W:World} {n:String} {g:Nat} {cs:Array Value} {fuel:Nat} {p:List MemPlace} {a b c:Int} (hg:Tryz.prog.globalNamed n=some g) (hv:W.var? Tryz.prog n=some cs)
  (hd:DataW.trod (fun _=>()) Tryz.prog W 0 (fun _=>true) false fuel 163 cs.toList=some (.agg [.lit (.int .u64 a),.lit (.int .u64 b),.lit (.int .i64 c)],p)):
  (W.cell? ⟨g,0,none⟩=some (.int .u64 a)/\W.cell? ⟨g,1,none⟩=some (.int .u64 b)/\W.cell? ⟨g,2,none⟩=some (.int .i64 c))/\cs.size=3:=by
 obtain⟨F0,F1,F2,hu,hF0,hO0,hF1,hO1,hF2,hO2⟩:=uFi;obtain⟨y0,y1,y2,m,hx,hl,h0,h1,h2⟩:=zgh hu hd;rw[cFi]at hl;rw[hF0,hO0,zw2]at h0;rw[hF1,hO1,zw2]at h1;rw[hF2,hO2,zxk]at h2;obtain⟨x0,e0,e0',_⟩:=DataW.trod_int Tryz.underlying48 h0;obtain⟨x1,e1,e1',_⟩:=DataW.trod_int Tryz.underlying48 h1;obtain⟨x2,e2,e2',_⟩:=DataW.trod_int Tryz.underlying3 h2;simp only[e0',e1',e2',DataW.agg.injEq,List.cons.injEq,DataW.lit.injEq,Lit.int.injEq,true_and,and_true]at hx;obtain⟨rfl,rfl,rfl⟩:=hx;have hc:∀ (i:Nat) (v:Value),(cs.toList.drop i).take 1=[v]->W.cell? ⟨g,i,none⟩=some v:=by
  intro i v he;rw[World.var?_cell hg hv i,<-Array.getElem?_toList];have:=congrArg (fun l=>l[0]?) he;simpa[List.getElem?_take,List.getElem?_drop]using this
 exact⟨⟨hc 0 _ e0,hc 1 _ e1,hc 2 _ e2⟩,by simpa using hl⟩
theorem ze1 {W:World} {n:String} {g:Nat} {cs:Array Value} {fuel:Nat} {p:List MemPlace} {ts te:TypeId} {l:List (DataW Unit)} (vals:Nat->Value) (hg:Tryz.prog.globalNamed n=some g) (hv:W.var? Tryz.prog n=some cs)
  (hu:Tryz.prog.underlying ts=some (.slice te)) (hce:Tryz.prog.cellsOf te=1) (hl1:1<=l.length)
  (hd:DataW.trod (fun _=>()) Tryz.prog W 0 (fun _=>true) false fuel ts cs.toList=some (.slice l [],p))
  (hel:∀ (m i:Nat) (cs':List Value) (y:DataW Unit×List MemPlace),i<l.length->DataW.trod (fun _=>()) Tryz.prog W 0 (fun _=>true) false m te cs'=some y->l[i]?=some y.1->cs'=[vals i]):
  ∃ b o c,b<W.heap.size/\l.length<=c/\W.cell? ⟨g,0,none⟩=some (.slice (some ⟨b,o,none⟩) l.length c)/\∀ i,i<l.length->W.cell? ⟨b,o+i,none⟩=some (vals i):=by
 rcases DataW.trod_slice hu hd with⟨_,hx⟩ | ⟨a,len,cap,elems,rest,m,_,hcs,hx,hbk,hlc,hm,hlen,hel2,hsp,_⟩
 ·have:=congrArg Prod.fst hx;simp at this
 have hx1:=congrArg Prod.fst hx;simp only[DataW.slice.injEq]at hx1;have hll:l.length=len:=by rw[hx1.1,List.length_map,hlen]
 have each:∀ i,i<len->W.cell? (a.add i)=some (vals i):=by
  intro i hi;have h1:=hel2 i hi;have hxi:i<elems.length:=zd;rw[hce,List.getElem?_eq_getElem hxi,Option.bind_eq_some_iff]at h1;obtain⟨cs',hcs',hy⟩:=h1;have hli:l[i]?=some (elems[i]).1:=by rw[hx1.1,List.getElem?_map,List.getElem?_eq_getElem hxi];rfl
  have he:=hel m i cs' _ zd hy hli;have h3:=World.cells?_some hcs';have h0:=h3.2.2 0 zd;rw[he]at h0;simpa[Addr.add]using h0
 obtain⟨b,o,sp⟩:=a;have h00:=each 0 zd;have hspot:sp=none:=by simpa[Addr.add]using World.cell?_spot h00
 subst hspot;have hadd:=zf6 b o;have hbW:b<W.heap.size:=by
  have:=World.block_lt_of_cell? W _ h00;rw[hadd]at this;exact this
 refine⟨b,o,cap,hbW,zd,?_,fun i hi=>?_⟩
 ·have h5:=World.var?_cell hg hv 0;have h6:cs[0]?=some (.slice (some ⟨b,o,none⟩) len cap):=by
   rw[<-Array.getElem?_toList,hcs];rfl
  rw[hll];exact h5.trans h6
 ·have:=each i zd;rw[hadd]at this;exact this
end
section
open Go.ChangeShapes Go.WideShapes Go.ChangeAt Go.RowKit
theorem zem {k:FloatKind} {te:TypeId} (hu:Tryz.prog.underlying te=some (.float k)) (fs:List Nat) (W:World) (m i:Nat) (cs':List Value) (y:DataW Unit×List MemPlace)
  (h:DataW.trod (fun _=>()) Tryz.prog W 0 (fun _=>true) false m te cs'=some y) (hl:(fs.map fun b=>(.lit (.float k b):DataW Unit))[i]?=some y.1):cs'=[.float k (fs.getD i 0)]:=by
 obtain⟨n,h1,h2,-⟩:=zk2 hu h;rw[List.getElem?_map,h2]at hl;cases hf:fs[i]? with
 | none=>rw[hf]at hl;cases hl
 | some b=>
  rw[hf]at hl;simp only[Option.map_some,Option.some.injEq,DataW.lit.injEq,Lit.float.injEq,true_and]at hl;rw[h1,List.getD_eq_getElem?_getD,hf,<-hl];rfl
theorem zre {te:TypeId} (hu:Tryz.prog.underlying te=some (.int .i64)) (fs:List Nat) (W:World) (m i:Nat) (cs':List Value) (y:DataW Unit×List MemPlace)
  (h:DataW.trod (fun _=>()) Tryz.prog W 0 (fun _=>true) false m te cs'=some y) (hl:(fs.map fun b:Nat=>(.lit (.int .i64 (b:Int)):DataW Unit))[i]?=some y.1):cs'=[.int .i64 (fs.getD i 0:Nat)]:=by
 obtain⟨n,h1,h2,-⟩:=DataW.trod_int hu h;rw[List.getElem?_map,h2]at hl;cases hf:fs[i]? with
 | none=>rw[hf]at hl;cases hl
 | some b=>
  rw[hf]at hl;simp only[Option.map_some,Option.some.injEq,DataW.lit.injEq,Lit.int.injEq,true_and]at hl;rw[h1,List.getD_eq_getElem?_getD,hf,<-hl];rfl
def pwtL:List Nat:=[1,3,6,9,13,16,19,23,26]
def pw64L:List Nat:=[4607182418800017408,4621819117588971520,4636737291354636288,4652007308841189376,4666723172467343360,4681608360884174848,4696837146684686336,4711630319722168320,4726483295884279808,4741671816366391296,4756540486875873280,4771362005757984768,4786511204640096256,4801453603149578240,4816244402031689728,4831355200913801216,4846369599423283200,4861130398305394688,4876203697187506176,4891288408196988160,4906019910204099648,4921056587992461136,4936209963552724370]
def pw32L:List Nat:=[1065353216,1092616192,1120403456,1148846080,1176256512,1203982336,1232348160,1259902592,1287568416,1315859240,1343554297]
theorem zty:(Rows.laid_internal_strconv_powtab:DataW Unit)=.slice (pwtL.map fun b:Nat=>(.lit (.int .i64 (b:Int)):DataW Unit)) []:=rfl
theorem zrm:(Rows.laid_internal_strconv_float64pow10:DataW Unit)=.slice (pw64L.map fun b=>(.lit (.float .f64 b):DataW Unit)) []:=rfl
theorem zrn:(Rows.laid_internal_strconv_float32pow10:DataW Unit)=.slice (pw32L.map fun b=>(.lit (.float .f32 b):DataW Unit)) []:=rfl
theorem zfd (a:Addr):MemPlace.cell a.block a.off ∈ MemPlace.row a 1:=by unfold MemPlace.row;exact List.mem_map.2 ⟨0,zi,rfl⟩
set_option maxRecDepth 20000 in
theorem zhh {W:World} (h0:laidMet Tryz.prog zip W):EnvP W.heap.size W:=by
 have hE:=zi1 (by have:=zbu [true,true,false,false,true,false,false,false,true,false,false,true,true] h0;rw[zqv]at this;exact this);have h:=zbu [false,false,true,true,false,true,true,true,false,true,true] h0;rw[zqw]at h;clear h0;obtain⟨ps,⟨g0,t0,cs0,f0,p0,q0,hg0,ht0,hv0,hd0,⟨g1,t1,cs1,f1,p1,q1,hg1,ht1,hv1,hd1,⟨g2,t2,cs2,f2,p2,q2,hg2,ht2,hv2,hd2,⟨g3,t3,cs3,f3,p3,q3,hg3,ht3,hv3,hd3,⟨g4,t4,cs4,f4,p4,q4,hg4,ht4,hv4,hd4,⟨g5,t5,cs5,f5,p5,q5,hg5,ht5,hv5,hd5,⟨g6,t6,cs6,f6,p6,q6,hg6,ht6,hv6,hd6,hq6,e6⟩,e5⟩,e4⟩,e3⟩,e2⟩,e1⟩,e0⟩,hnd,hrows⟩:=h;obtain rfl:=Option.some.inj (gI32.symm.trans hg0);obtain rfl:=Option.some.inj (gI64.symm.trans hg1);obtain rfl:=Option.some.inj (gPt.symm.trans hg2);obtain rfl:=Option.some.inj (gT64.symm.trans hg3);obtain rfl:=Option.some.inj (gT32.symm.trans hg4);obtain rfl:=Option.some.inj (gER.symm.trans hg5);obtain rfl:=Option.some.inj (gES.symm.trans hg6);obtain rfl:=Option.some.inj (yI32.symm.trans ht0);obtain rfl:=Option.some.inj (yI64.symm.trans ht1);obtain rfl:=Option.some.inj (yPt.symm.trans ht2);obtain rfl:=Option.some.inj (yT64.symm.trans ht3);obtain rfl:=Option.some.inj (yT32.symm.trans ht4);obtain rfl:=Option.some.inj (yER.symm.trans ht5);obtain rfl:=Option.some.inj (yES.symm.trans ht6);have hq6':q6=[]:=hq6;subst hq6';subst e6;subst e5;subst e4;subst e3;subst e2;subst e1;subst e0;obtain⟨i32,z0⟩:=zog hg0 hv0 hd0;obtain⟨i64,z1⟩:=zog hg1 hv1 hd1;have hin0:MemPlace.cell 4 0 ∈ MemPlace.row ⟨4,0,none⟩ cs0.size:=by rw[z0,MemPlace.row];simp
 have hin1:MemPlace.cell 5 0 ∈ MemPlace.row ⟨5,0,none⟩ cs1.size:=by rw[z1,MemPlace.row];simp
 obtain⟨l5⟩:=cs5;obtain⟨l6⟩:=cs6;have ok5:∀ u v,l5=[.iface u v]->Value.okWide Tryz.prog W .any 0 u v:=fun u v e=>by
  subst e;exact (hrows 2 0 (by simp[MemPlace.row])).2 u v (by simpa using World.var?_cell hg5 hv5 0)
 have ok6:∀ u v,l6=[.iface u v]->Value.okWide Tryz.prog W .any 0 u v:=fun u v e=>by
  subst e;exact (hrows 1 0 (by simp[MemPlace.row])).2 u v (by simpa using World.var?_cell hg6 hv6 0)
 obtain⟨aR,sR,rfl,hcR,-,-,rfl⟩:=errorString_of_trod Tryz.underlying53 zse Tryz.underlying176 Tryz.underlying178 rfl rfl Tryz.underlying9 cEs zxj hd5 ok5;obtain⟨aS,sS,rfl,hcS,-,-,rfl⟩:=errorString_of_trod Tryz.underlying53 zse Tryz.underlying176 Tryz.underlying178 rfl rfl Tryz.underlying9 cEs zxj hd6 ok6;obtain⟨cR,tR,hbR⟩:=(hrows aR.block aR.off (by simp only[List.mem_append];exact Or.inr (Or.inr (Or.inr (Or.inr (Or.inr (Or.inl (Or.inr (zfd aR))))))))).1;obtain⟨cS,tS,hbS⟩:=(hrows aS.block aS.off (by simp only[List.mem_append];exact Or.inr (Or.inr (Or.inr (Or.inr (Or.inr (Or.inr (Or.inl (Or.inr (zfd aS)))))))))).1;have hne:aS≠aR:=by
  rintro rfl;have h2:=(List.nodup_append.1 (List.nodup_append.1 (List.nodup_append.1 (List.nodup_append.1 (List.nodup_append.1 hnd).2.1).2.1).2.1).2.1).2.1;have h3:=(List.nodup_append.1 h2).2.2 _ (List.mem_append_right _ (zfd aS)) _ (List.mem_append_left _ (List.mem_append_right _ (zfd aS)));exact h3 rfl
 rw[zty]at hd2;rw[zrm]at hd3;rw[zrn]at hd4;have hpt:=ze1 (fun i=>.int .i64 (pwtL.getD i 0:Nat)) hg2 hv2 Tryz.underlying39 zxk ze hd2 (fun m i cs' y _ h hl=>zre Tryz.underlying3 pwtL W m i cs' y h hl);have ht64:=ze1 (fun i=>.float .f64 (pw64L.getD i 0)) hg3 hv3 Tryz.underlying201 cF64 ze hd3 (fun m i cs' y _ h hl=>zem Tryz.underlying51 pw64L W m i cs' y h hl);have ht32:=ze1 (fun i=>.float .f32 (pw32L.getD i 0)) hg4 hv4 Tryz.underlying199 cF32 ze hd4 (fun m i cs' y _ h hl=>zem Tryz.underlying60 pw32L W m i cs' y h hl);refine⟨hE,⟨zci hg0 hv0,zci hg1 hv1,zci hg2 hv2,zci hg3 hv3,zci hg4 hv4,zci hg6 hv6,zci hg5 hv5⟩,i32,i64,hpt,ht64,ht32,?_,?_,?_⟩
 ·exact (hrows _ 0 (by simp only[List.mem_append];exact Or.inl (Or.inl hin0))).1
 ·exact (hrows _ 0 (by simp only[List.mem_append];exact Or.inr (Or.inl (Or.inl hin1)))).1
 ·exact⟨aS,aR,cS,cR,tS,tR,World.block_lt_of_cell? W _ hcS,World.block_lt_of_cell? W _ hcR,hne,by simpa using World.var?_cell hg6 hv6 0,by simpa using World.var?_cell hg5 hv5 0,hbS,hbR⟩
theorem zfu {W:World} (h:laidMetH Tryz.prog zip W):EnvP W.heap.size W:=by
 rw[MakeChecks.laidMetH_plain _ _ _ zg]at h;exact zhh h
end
section
open Go.ChangeShapes Go.WideShapes Go.ChangeAt Go.RowKit
abbrev zsh:ByteArray:={ data:=#[118,97,108,117,101,32,111,117,116,32,111,102,32,114,97,110,103,101] }
abbrev zmp:ByteArray:={ data:=#[105,110,118,97,108,105,100,32,115,121,110,116,97,120] }
noncomputable def laidWorldP (os:Os):World:=
 { baseW os with heap:=(((((((((((((((((((((((((((((((((baseW os).heap).modify 12 (putCells (yin Rows.laid_math_bits_deBruijn32tab).toArray))).modify 13 (putCells (yin Rows.laid_math_bits_deBruijn64tab).toArray))).modify 4 (putCells #[.int .u64 23,.int .u64 8,.int .i64 (-127)]))).modify 5 (putCells #[.int .u64 52,.int .u64 11,.int .i64 (-1023)]))).modify 3 (putCells #[.bool true]))).modify 8 (putCells #[.slice (some ⟨20,0,none⟩) 9 9]))).modify 9 (putCells #[.slice (some ⟨21,0,none⟩) 23 23]))).modify 7 (putCells #[.slice (some ⟨22,0,none⟩) 11 11]))).modify 6 (putCells (yin Rows.laid_internal_strconv_uint64pow10).toArray))).modify 2 (putCells #[.iface 176 (.pointer (some ⟨23,0,none⟩))]))).modify 1 (putCells #[.iface 176 (.pointer (some ⟨24,0,none⟩))]))).modify 11 (putCells #[.slice (some ⟨19,0,none⟩) 61 61]))).modify 10 (putCells pow10Cells))).push (.cells cheatCells 213 (0,0))).push (.cells (pwtL.map fun b:Nat=>Value.int .i64 (b:Int)).toArray 3 (0,0))).push (.cells (pw64L.map fun b=>Value.float .f64 b).toArray 51 (0,0))).push (.cells (pw32L.map fun b=>Value.float .f32 b).toArray 60 (0,0))).push (.cells #[.string zsh] 178 (0,0))).push (.cells #[.string zmp] 178 (0,0)) }
def tabRowsP:List (Nat×Nat):=[(12,32),(13,64),(4,3),(5,3),(3,1),(8,1),(20,9),(9,1),(21,23),(7,1),(22,11),(6,20),(2,1),(23,1),(1,1),(24,1),(11,1),(19,122),(10,1392)]
section
variable (os : Os) (args : Array Value)
theorem zs8 : ((laidWorldP os).forCall (fun _ _ => 0) ⟨#[], args, []⟩).memory.var? Tryz.prog "math/bits.deBruijn32tab" = some (yin Rows.laid_math_bits_deBruijn32tab).toArray := by kernel_rfl
theorem zu4:∃ t,((laidWorldP os).forCall (fun _ _=>0) ⟨#[],args,[]⟩).memory.heap[12]?=some (.cells (yin Rows.laid_math_bits_deBruijn32tab).toArray t (0,0)):=⟨142,zg⟩
theorem zs7 : ((laidWorldP os).forCall (fun _ _ => 0) ⟨#[], args, []⟩).memory.var? Tryz.prog "math/bits.deBruijn64tab" = some (yin Rows.laid_math_bits_deBruijn64tab).toArray := by kernel_rfl
theorem zu3:∃ t,((laidWorldP os).forCall (fun _ _=>0) ⟨#[],args,[]⟩).memory.heap[13]?=some (.cells (yin Rows.laid_math_bits_deBruijn64tab).toArray t (0,0)):=⟨111,zg⟩
theorem zvj : ((laidWorldP os).forCall (fun _ _ => 0) ⟨#[], args, []⟩).memory.var? Tryz.prog "internal/strconv.float32info" = some #[.int .u64 23, .int .u64 8, .int .i64 (-127)] := by kernel_rfl
theorem zxe:∃ t,((laidWorldP os).forCall (fun _ _=>0) ⟨#[],args,[]⟩).memory.heap[4]?=some (.cells #[.int .u64 23,.int .u64 8,.int .i64 (-127)] t (0,0)):=⟨163,zg⟩
theorem zvi : ((laidWorldP os).forCall (fun _ _ => 0) ⟨#[], args, []⟩).memory.var? Tryz.prog "internal/strconv.float64info" = some #[.int .u64 52, .int .u64 11, .int .i64 (-1023)] := by kernel_rfl
theorem zxd:∃ t,((laidWorldP os).forCall (fun _ _=>0) ⟨#[],args,[]⟩).memory.heap[5]?=some (.cells #[.int .u64 52,.int .u64 11,.int .i64 (-1023)] t (0,0)):=⟨163,zg⟩
theorem zvh : ((laidWorldP os).forCall (fun _ _ => 0) ⟨#[], args, []⟩).memory.var? Tryz.prog "internal/strconv.optimize" = some #[.bool true] := by kernel_rfl
theorem zxc:∃ t,((laidWorldP os).forCall (fun _ _=>0) ⟨#[],args,[]⟩).memory.heap[3]?=some (.cells #[.bool true] t (0,0)):=⟨4,zg⟩
theorem vP_pt : ((laidWorldP os).forCall (fun _ _ => 0) ⟨#[], args, []⟩).memory.var? Tryz.prog "internal/strconv.powtab" = some #[.slice (some ⟨20, 0, none⟩) 9 9] := by kernel_rfl
theorem bP_pt:∃ t,((laidWorldP os).forCall (fun _ _=>0) ⟨#[],args,[]⟩).memory.heap[8]?=some (.cells #[.slice (some ⟨20,0,none⟩) 9 9] t (0,0)):=⟨39,zg⟩
theorem dP_pt:DataW.trod (fun _=>()) Tryz.prog ((laidWorldP os).forCall (fun _ _=>0) ⟨#[],args,[]⟩).memory 0 (fun _=>true) false 8 39 (#[.slice (some ⟨20,0,none⟩) 9 9]:Array Value).toList=some (Rows.laid_internal_strconv_powtab,MemPlace.row ⟨20,0,none⟩ 9):=by kernel_rfl
theorem zve : ((laidWorldP os).forCall (fun _ _ => 0) ⟨#[], args, []⟩).memory.var? Tryz.prog "internal/strconv.float64pow10" = some #[.slice (some ⟨21, 0, none⟩) 23 23] := by kernel_rfl
theorem zw9:∃ t,((laidWorldP os).forCall (fun _ _=>0) ⟨#[],args,[]⟩).memory.heap[9]?=some (.cells #[.slice (some ⟨21,0,none⟩) 23 23] t (0,0)):=⟨201,zg⟩
theorem zwy:DataW.trod (fun _=>()) Tryz.prog ((laidWorldP os).forCall (fun _ _=>0) ⟨#[],args,[]⟩).memory 0 (fun _=>true) false 8 201 (#[.slice (some ⟨21,0,none⟩) 23 23]:Array Value).toList=some (Rows.laid_internal_strconv_float64pow10,MemPlace.row ⟨21,0,none⟩ 23):=by kernel_rfl
theorem zvf : ((laidWorldP os).forCall (fun _ _ => 0) ⟨#[], args, []⟩).memory.var? Tryz.prog "internal/strconv.float32pow10" = some #[.slice (some ⟨22, 0, none⟩) 11 11] := by kernel_rfl
theorem zxa:∃ t,((laidWorldP os).forCall (fun _ _=>0) ⟨#[],args,[]⟩).memory.heap[7]?=some (.cells #[.slice (some ⟨22,0,none⟩) 11 11] t (0,0)):=⟨199,zg⟩
theorem zwz:DataW.trod (fun _=>()) Tryz.prog ((laidWorldP os).forCall (fun _ _=>0) ⟨#[],args,[]⟩).memory 0 (fun _=>true) false 8 199 (#[.slice (some ⟨22,0,none⟩) 11 11]:Array Value).toList=some (Rows.laid_internal_strconv_float32pow10,MemPlace.row ⟨22,0,none⟩ 11):=by kernel_rfl
theorem zvg : ((laidWorldP os).forCall (fun _ _ => 0) ⟨#[], args, []⟩).memory.var? Tryz.prog "internal/strconv.uint64pow10" = some (yin Rows.laid_internal_strconv_uint64pow10).toArray := by kernel_rfl
theorem zxb:∃ t,((laidWorldP os).forCall (fun _ _=>0) ⟨#[],args,[]⟩).memory.heap[6]?=some (.cells (yin Rows.laid_internal_strconv_uint64pow10).toArray t (0,0)):=⟨191,zg⟩
theorem vP_eR : ((laidWorldP os).forCall (fun _ _ => 0) ⟨#[], args, []⟩).memory.var? Tryz.prog "strconv.ErrRange" = some #[.iface 176 (.pointer (some ⟨23, 0, none⟩))] := by kernel_rfl
theorem bP_eR:∃ t,((laidWorldP os).forCall (fun _ _=>0) ⟨#[],args,[]⟩).memory.heap[2]?=some (.cells #[.iface 176 (.pointer (some ⟨23,0,none⟩))] t (0,0)):=⟨53,zg⟩
theorem dP_eR:DataW.trod (fun _=>()) Tryz.prog ((laidWorldP os).forCall (fun _ _=>0) ⟨#[],args,[]⟩).memory 0 (fun _=>true) false 8 53 (#[.iface 176 (.pointer (some ⟨23,0,none⟩))]:Array Value).toList=some (Rows.laid_strconv_ErrRange,MemPlace.row ⟨23,0,none⟩ 1):=by kernel_rfl
theorem vP_eS : ((laidWorldP os).forCall (fun _ _ => 0) ⟨#[], args, []⟩).memory.var? Tryz.prog "strconv.ErrSyntax" = some #[.iface 176 (.pointer (some ⟨24, 0, none⟩))] := by kernel_rfl
theorem bP_eS:∃ t,((laidWorldP os).forCall (fun _ _=>0) ⟨#[],args,[]⟩).memory.heap[1]?=some (.cells #[.iface 176 (.pointer (some ⟨24,0,none⟩))] t (0,0)):=⟨53,zg⟩
theorem dP_eS:DataW.trod (fun _=>()) Tryz.prog ((laidWorldP os).forCall (fun _ _=>0) ⟨#[],args,[]⟩).memory 0 (fun _=>true) false 8 53 (#[.iface 176 (.pointer (some ⟨24,0,none⟩))]:Array Value).toList=some (Rows.laid_strconv_ErrSyntax,MemPlace.row ⟨24,0,none⟩ 1):=by kernel_rfl
theorem zvk : ((laidWorldP os).forCall (fun _ _ => 0) ⟨#[], args, []⟩).memory.var? Tryz.prog "internal/strconv.leftcheats" = some #[.slice (some ⟨19, 0, none⟩) 61 61] := by kernel_rfl
theorem zxf:∃ t,((laidWorldP os).forCall (fun _ _=>0) ⟨#[],args,[]⟩).memory.heap[11]?=some (.cells #[.slice (some ⟨19,0,none⟩) 61 61] t (0,0)):=⟨214,zg⟩
theorem zvd : ((laidWorldP os).forCall (fun _ _ => 0) ⟨#[], args, []⟩).memory.var? Tryz.prog "internal/strconv.pow10Tab" = some pow10Cells := by kernel_rfl
theorem zw8:∃ t,((laidWorldP os).forCall (fun _ _=>0) ⟨#[],args,[]⟩).memory.heap[10]?=some (.cells pow10Cells t (0,0)):=⟨208,zg⟩
theorem zwb:((laidWorldP os).forCall (fun _ _=>0) ⟨#[],args,[]⟩).memory.heap[19]?=some (.cells cheatCells 213 (0,0)):=by kernel_rfl
theorem kP_20:((laidWorldP os).forCall (fun _ _=>0) ⟨#[],args,[]⟩).memory.heap[20]?=some (.cells (pwtL.map fun b:Nat=>Value.int .i64 (b:Int)).toArray 3 (0,0)):=by kernel_rfl
theorem kP_21:((laidWorldP os).forCall (fun _ _=>0) ⟨#[],args,[]⟩).memory.heap[21]?=some (.cells (pw64L.map fun b=>Value.float .f64 b).toArray 51 (0,0)):=by kernel_rfl
theorem kP_22:((laidWorldP os).forCall (fun _ _=>0) ⟨#[],args,[]⟩).memory.heap[22]?=some (.cells (pw32L.map fun b=>Value.float .f32 b).toArray 60 (0,0)):=by kernel_rfl
theorem kP_23:((laidWorldP os).forCall (fun _ _=>0) ⟨#[],args,[]⟩).memory.heap[23]?=some (.cells #[.string zsh] 178 (0,0)):=by kernel_rfl
theorem kP_24:((laidWorldP os).forCall (fun _ _=>0) ⟨#[],args,[]⟩).memory.heap[24]?=some (.cells #[.string zmp] 178 (0,0)):=by kernel_rfl
theorem okP_R:Value.okWideB Tryz.prog ((laidWorldP os).forCall (fun _ _=>0) ⟨#[],args,[]⟩).memory 176 (.pointer (some ⟨23,0,none⟩))=true:=by kernel_rfl
theorem okP_S:Value.okWideB Tryz.prog ((laidWorldP os).forCall (fun _ _=>0) ⟨#[],args,[]⟩).memory 176 (.pointer (some ⟨24,0,none⟩))=true:=by kernel_rfl
end
theorem d_i32 {W:World}:DataW.trod (fun _=>()) Tryz.prog W 0 (fun _=>true) false 8 163 (#[.int .u64 23,.int .u64 8,.int .i64 (-127)]:Array Value).toList=some (Rows.laid_internal_strconv_float32info,[]):=by kernel_rfl
theorem d_i64 {W:World}:DataW.trod (fun _=>()) Tryz.prog W 0 (fun _=>true) false 8 163 (#[.int .u64 52,.int .u64 11,.int .i64 (-1023)]:Array Value).toList=some (Rows.laid_internal_strconv_float64info,[]):=by kernel_rfl
set_option maxRecDepth 100000 in
theorem zlq (os:Os) (args:Array Value):DataW.LaidVars Tryz.prog ((laidWorldP os).forCall (fun _ _=>0) ⟨#[],args,[]⟩).memory zip (kr tabRowsP):=by
 have zr8:=zs8 os args;have zr7:=zs7 os args;have v_i32:=zvj os args;have v_i64:=zvi os args;have zvb:=zvh os args;have v_pt:=vP_pt os args;have v_t64:=zve os args;have v_t32:=zvf os args;have zva:=zvg os args;have v_eR:=vP_eR os args;have v_eS:=vP_eS os args;have zvc:=zvk os args;have zu9:=zvd os args;have d_pt:=dP_pt os args;have d_t64:=zwy os args;have d_t32:=zwz os args;have d_eR:=dP_eR os args;have d_eS:=dP_eS os args;have zwe:=zwb os args;generalize ((laidWorldP os).forCall (fun _ _=>0) ⟨#[],args,[]⟩).memory=W at *
 refine⟨_,_,_,8,_,kr (tabRowsP.drop 1),gDb32,yDb32,zr8,zwx,?_,?_⟩
 ·refine⟨_,_,_,8,_,kr (tabRowsP.drop 2),gDb,yDb64,zr7,zww,?_,?_⟩
  ·refine⟨_,_,_,8,_,kr (tabRowsP.drop 3),gI32,yI32,v_i32,d_i32,?_,?_⟩
   ·refine⟨_,_,_,8,_,kr (tabRowsP.drop 4),gI64,yI64,v_i64,d_i64,?_,?_⟩
    ·refine⟨_,_,_,8,_,kr (tabRowsP.drop 5),gOpt,yOpt,zvb,d_opt,?_,?_⟩
     ·refine⟨_,_,_,8,_,kr (tabRowsP.drop 7),gPt,yPt,v_pt,d_pt,?_,?_⟩
      ·refine⟨_,_,_,8,_,kr (tabRowsP.drop 9),gT64,yT64,v_t64,d_t64,?_,?_⟩
       ·refine⟨_,_,_,8,_,kr (tabRowsP.drop 11),gT32,yT32,v_t32,d_t32,?_,?_⟩
        ·refine⟨_,_,_,8,_,kr (tabRowsP.drop 12),gP10,yP10,zva,d_p10,?_,?_⟩
         ·refine⟨_,_,_,8,_,kr (tabRowsP.drop 14),gER,yER,v_eR,d_eR,?_,?_⟩
          ·refine⟨_,_,_,8,_,kr (tabRowsP.drop 16),gES,yES,v_eS,d_eS,?_,?_⟩
           ·refine⟨_,_,_,8,_,kr (tabRowsP.drop 18),gChe,yChe,zvc,zjb zwe,?_,?_⟩
            ·refine⟨_,_,_,8,_,[],gTab,yTab,zu9,zid,rfl,?_⟩;rw[vv,ji];simp[tabRowsP,kr]
            ·rw[vv,vv];simp[tabRowsP,kr]
           ·rw[vv,vv];simp[tabRowsP,kr]
          ·rw[vv,vv];simp[tabRowsP,kr]
         ·rw[vv,show (yin Rows.laid_internal_strconv_uint64pow10).toArray.size=20 by rfl];simp[tabRowsP,kr]
        ·rw[vv,vv];simp[tabRowsP,kr]
       ·rw[vv,vv];simp[tabRowsP,kr]
      ·rw[vv,vv];simp[tabRowsP,kr]
     ·rw[vv];simp[tabRowsP,kr]
    ·rw[vv];simp[tabRowsP,kr]
   ·rw[vv];simp[tabRowsP,kr]
  ·rw[vv,show (yin Rows.laid_math_bits_deBruijn64tab).toArray.size=64 by rfl];simp[tabRowsP,kr]
 ·rw[vv,show (yin Rows.laid_math_bits_deBruijn32tab).toArray.size=32 by rfl];simp[tabRowsP,kr]
set_option maxRecDepth 100000 in
theorem zsq {W:World} {b:Nat} {tp:TypeId} {v:Value} (hb:∃ t,W.heap[b]?=some (.cells #[.iface tp v] t (0,0))) (hk:Value.okWideB Tryz.prog W tp v=true) (off:Nat):
  (∃ c t,W.heap[b]?=some (.cells c t (0,0)))/\∀ u x,W.cell? ⟨b,off,none⟩=some (.iface u x)->Value.okWide Tryz.prog W .any 0 u x:=by
 obtain⟨t,hb⟩:=hb;refine⟨⟨_,t,hb⟩,fun u x hc=>?_⟩;have hc':W.cell? ⟨b,off,none⟩=(#[Value.iface tp v]:Array Value)[off]?:=by simp[World.cell?,hb]
 rw[hc']at hc;cases off with
 | zero=>
  rw[show (#[Value.iface tp v]:Array Value)[0]?=some (.iface tp v) from rfl]at hc;injection hc with h2;injection h2 with h3 h4;subst h3;subst h4;exact Value.okWide_of_okWideB (base:=0) hk
 | succ n=>simp at hc
set_option maxRecDepth 100000 in
theorem zn6 (os:Os) (args:Array Value):laidMet Tryz.prog zip ((laidWorldP os).forCall (fun _ _=>0) ⟨#[],args,[]⟩).memory:=by
 refine⟨kr tabRowsP,zlq os args,zbl _ ze,fun b off hp=>?_⟩;obtain⟨b',o',e,hb⟩:=zef hp;clear hp;obtain⟨rfl,rfl⟩:b=b'/\off=o':=by simpa using e
 have zsy:=zu4 os args;have zsx:=zu3 os args;have b_i32:=zxe os args;have b_i64:=zxd os args;have zw7:=zxc os args;have b_pt:=bP_pt os args;have b_t64:=zw9 os args;have b_t32:=zxa os args;have zw6:=zxb os args;have b_eR:=bP_eR os args;have b_eS:=bP_eS os args;have b_che:=zxf os args;have zw5:=zw8 os args;have k_19:=zwb os args;have k_20:=kP_20 os args;have k_21:=kP_21 os args;have k_22:=kP_22 os args;have k_23:=kP_23 os args;have k_24:=kP_24 os args;have ok_R:=okP_R os args;have ok_S:=okP_S os args;generalize ((laidWorldP os).forCall (fun _ _=>0) ⟨#[],args,[]⟩).memory=W at *
 simp only[tabRowsP,List.map_cons,List.map_nil,List.mem_cons,List.not_mem_nil,or_false]at hb;rcases hb with h | h | h | h | h | h | h | h | h | h | h | h | h | h | h | h | h | h | h
 ·rw[h];exact wf zsy (fun u v=>zαf) off
 ·rw[h];exact wf zsx (fun u v=>zαf) off
 ·rw[h];exact wf b_i32 (fun u v=>zi) off
 ·rw[h];exact wf b_i64 (fun u v=>zi) off
 ·rw[h];exact wf zw7 (fun u v=>zi) off
 ·rw[h];exact wf b_pt (fun u v=>zi) off
 ·rw[h];exact wf ⟨_,k_20⟩ (fun u v=>zi) off
 ·rw[h];exact wf b_t64 (fun u v=>zi) off
 ·rw[h];exact wf ⟨_,k_21⟩ (fun u v=>zi) off
 ·rw[h];exact wf b_t32 (fun u v=>zi) off
 ·rw[h];exact wf ⟨_,k_22⟩ (fun u v=>zi) off
 ·rw[h];exact wf zw6 (fun u v=>zαf) off
 ·rw[h];exact zsq b_eR ok_R off
 ·rw[h];exact wf ⟨_,k_23⟩ (fun u v=>zi) off
 ·rw[h];exact zsq b_eS ok_S off
 ·rw[h];exact wf ⟨_,k_24⟩ (fun u v=>zi) off
 ·rw[h];exact wf b_che (fun u v=>zi) off
 ·rw[h];exact wf ⟨_,k_19⟩ zjc off
 ·rw[h];exact wf zw5 zie off
end
end Go.Proofs.YtnifedmhgncioaaGreatDoor
