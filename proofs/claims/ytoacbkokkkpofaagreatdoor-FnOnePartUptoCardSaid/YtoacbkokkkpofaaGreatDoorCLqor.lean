/-
  For every input of bulk at most 1048576 laws.FnOnePart returns true: a number alone is the real part of a complex number, and with an i behind it the imaginary part.
  Condition: the package-level tables of internal/strconv and math/bits start as the program's text lays them (the card ties them).
-/
import Derived.Test.YtoacbkokkkpofaaGreatDoorJ41
import Derived.Test.YtoacbkokkkpofaaGreatDoorJ48
import Derived.ChangeMaps5
namespace Go.Proofs.YtoacbkokkkpofaaGreatDoor
open Go.ChangeShapes Go.WideShapes Go.ChangeAt Go.RowKit
namespace fnOnePart
set_option maxRecDepth 100000 in
theorem contract (H : Type) (enc : TypeId × Value → H) (W : World) (base : Nat) (args : Array Value) (ds gs : List (DataW H)) (before : List MemPlace)
    (hval : ∀ (j : Nat) t v,Tryz.f9.params[j]? = some t → args[j]? = some v → Value.okWide Tryz.prog W .any base t v)
    (hW : DataW.Whole enc Tryz.prog Tryz.f9.params.toList Rows.fnOnePartSpec.vars false W args.toList ds gs before) (hk : Rows.uptoSmall H (ds ++ gs) = true) (hL : laidMetH Tryz.prog Rows.fnOnePartUptoRow.laid W) :
    Calls Tryz.prog 9 args W fun e W'=>∃ v,e = .returned v∧Rows.fnOnePartSpec.post enc Tryz.prog Tryz.f9 false true false false W args v W':=by
  have hW':=hW
  obtain ⟨p,q,hA0,hV,rfl,hfz,hnd⟩:=hW
  have hA : DataW.TrodAll enc Tryz.prog W 0 (fun _=>true) true Tryz.f9.params.toList args.toList ds p:=hA0
  rw [Tryz.params9] at hA hval
  obtain ⟨v0,vs0,d0,ds0,p0,q0,hargs,rfl,rfl,h0,r0⟩:=trodAll_cons hA
  obtain ⟨rfl,rfl,rfl⟩:=trodAll_nil r0
  obtain rfl : args = #[v0]:=by cases args; simp_all
  obtain ⟨rfl,rfl⟩:=trodVars_none hV
  obtain ⟨a0,rfl,rfl,rfl,w0⟩:=Go.ChangeMaps.open_string Tryz.underlying9 (hval 0 9 v0 rfl rfl) h0
  clear hA0
  simp only [List.append_nil] at hW' hk
  have u0 : a0.data.toList.length ≤ 1048576:=by
    have h : Rows.uptoBulkAll [DataW.lit (H:=H) (.string a0.data.toList)] ≤ 1048576:=of_decide_eq_true hk
    simp only [Rows.uptoBulkAll,Rows.uptoBulk] at h
    omega
  have e0 : a0 = ⟨a0.data.toList.toArray⟩:=zqg a0
  have z0:=zqf a0 w0
  have hcall:=yi1 W.heap.size a0.data.toList W (zfu hL) u0
  rw [← e0] at hcall
  refine hcall.mono fun e W' ⟨he,hg⟩=>?_
  exact ⟨_,he,znd rfl rfl rfl hW' (fun sp=>trodAll_cons_mk (Go.ChangeMaps.shut_string Tryz.underlying9 w0) trodAll_mk0) hg⟩
theorem reads (os : Os) {H : Type} (enc : TypeId × Value → H) : ∃ places,DataW.whole enc Tryz.prog ((laidWorldP os).forCall (fun _ _=>0) ⟨#[],#[.string ⟨#[]⟩],[]⟩).memory Tryz.f9.params.toList Rows.fnOnePartSpec.vars false #[Value.string ⟨#[]⟩].toList 8 = some ([.lit (.string [])],[],places) :=
  ⟨[],by kernel_rfl⟩
set_option maxRecDepth 100000 in
theorem lifted (os : Os) (started : os.Started) (H : Type) (enc : TypeId × Value → H) (F : Stop.Interp) :
    ReturnsInHanded {} Tryz.checked os 9 .any ((Rows.OpenSpec.upto Rows.fnOnePartSpec).preRow enc Tryz.prog Tryz.f9 Rows.fnOnePartUptoRow.domain false Rows.fnOnePartUptoRow.laid) (((Rows.OpenSpec.upto Rows.fnOnePartSpec).at F).post enc Tryz.prog Tryz.f9 false true false false):=by
  obtain ⟨places,hx⟩:=reads os enc
  refine returnsInHanded_of_row (C:=Tryz.checked) (s:=Rows.OpenSpec.upto Rows.fnOnePartSpec) ya0 started (by kernel_rfl) Tryz.func9
    (witness_row_atRef (enc:=enc) (C:=Tryz.checked) false (laidWorldP os) #[.string ⟨#[]⟩] rfl (zp3 os _) (by kernel_rfl) (by kernel_rfl)
      (OpenSpec.preRow_of_cond 8 hx (by kernel_rfl) (fun k hk=>by cases hk; kernel_rfl) (by kernel_rfl) (zlr os _))) ?_
  intro W base args ds gs before hval hW _ hcond _ hL _ _
  exact contract H enc W base args ds gs before hval hW (hcond _ rfl) hL
theorem said : Rows.FnOnePartUptoSaid :=
  OpenClaim.holds_of_cond 9 Tryz.f9 rfl rfl rfl rfl rfl rfl rfl ⟨rfl,rfl,rfl,rfl,rfl⟩ rfl rfl rfl rfl rfl (by kernel_rfl) Tryz.func9 (by kernel_rfl)
    (of_decide_eq_true (by kernel_rfl)) (by unfold Func.isWrapper; first | (rw [if_pos (by decide +kernel)]; kernel_rfl) | (rw [if_neg (by decide +kernel)]; exact ⟨rfl,rfl⟩))
    (fun os started H enc _ F=>by rw [OpenClaim.pre_eq_preRow]; exact lifted os started H enc F)
theorem plain (f : FuncId) (fn : Func) (hf : Tryz.pinned.checked.prog.funcNamed "loop.example/lib-g03212/laws.FnOnePart" = some f) (hfn : Tryz.pinned.checked.prog.funcs[f]? = some fn) :
    true = Tryz.pinned.checked.prog.looks []∧∀ (j : Nat) t,fn.params[j]? = some t → Tryz.pinned.checked.prog.wantsStandIn t = false:=by
  obtain rfl : f = 9:=Option.some.inj ((show Tryz.prog.funcNamed "loop.example/lib-g03212/laws.FnOnePart" = some 9 by kernel_rfl).symm.trans hf) |>.symm
  obtain rfl : fn = Tryz.f9:=(Option.some.inj (Tryz.func9.symm.trans hfn)).symm
  refine ⟨by kernel_rfl,fun j t ht=>?_⟩
  rw [Tryz.params9] at ht
  have hm:=Array.mem_of_getElem? ht
  simp only [List.mem_cons,List.not_mem_nil,or_false,List.mem_toArray] at hm
  rcases hm with rfl
  · exact (show Tryz.prog.wantsStandIn 9 = false by kernel_rfl)
theorem card : Rows.FnOnePartUptoCardSaid :=
  Claim7.holds_tied_plain_at .later [] _ _ _ _ said (fun _ h=>by cases h) (by kernel_rfl) (fun _ h=>by cases h) fnOnePartUpto_row_tie rfl ⟨rfl,rfl⟩ (by kernel_rfl) rfl plain (by kernel_rfl)
end fnOnePart
theorem fnOnePartUpto_card : Rows.FnOnePartUptoCardSaid:=fnOnePart.card
#print axioms fnOnePartUpto_card
end Go.Proofs.YtoacbkokkkpofaaGreatDoor
