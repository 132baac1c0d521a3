/-
 FnPartsAll,where what it reads is of bulk at most 1048576: the row's step and the card.
-/
import Derived.Test.YtpipehenfcbjbaaGreatDoorPyk
import Derived.Test.YtpipehenfcbjbaaGreatDoorCards
import Derived.Test.YtpipehenfcbjbaaGreatDoorTie
import Derived.WalkKit
import Derived.ProofKit
import Derived.OpenShut
import Derived.LaidMore
import Derived.Stop.LaidErr
import Derived.Deep.DeepHandedRow
import Derived.Lib.LaidTab
set_option linter.unusedVariables false
namespace Go.Proofs.YtpipehenfcbjbaaGreatDoor
open Go.ChangeShapes Go.WideShapes Go.ChangeAt Go.RowKit Go.Stop
theorem gPowP:Tryz.prog.globalNamed "internal/strconv.uint64pow10"=some 1:=by kernel_rfl
theorem gPowTypeP:(Tryz.prog.globals[1]?).map (·.type)=some 208:=by kernel_rfl
theorem cPowP:Tryz.prog.cellsOf 208=20:=by kernel_rfl
theorem cU64P:Tryz.prog.cellsOf 159=1:=by kernel_rfl
/-- What the row's list gives: the table of powers of ten. -/
theorem tab_of_laidP {W:World} (h:laidMetH Tryz.prog Rows.fnPartsAllUptoRow.laid W):Tab W :=
 Lib.tabIs_of_head (rest:=[]) gPowP gPowTypeP Tryz.underlying208 Tryz.underlying159 cU64P cPowP (laidMet.tail (laidMet.tail (show laidMet Tryz.prog Rows.fnPartsAllUptoRow.laid W from h)))
theorem parts_met (os:Os):laidMet Tryz.prog Rows.fnPartsAllUptoRow.laid ((World.doorLaid Tryz.prog 400 os).forCall (fun _ _=>0) ⟨#[],#[.agg #[.int .i64 0,.int .i64 0,.slice none 0 0,.slice none 0 0]],[]⟩).memory :=
 laidMet_of_run' 65 (by kernel_rfl) (by kernel_rfl)
theorem parts_reads (os:Os) {H:Type} (enc:TypeId × Value→H):∃ places,DataW.whole enc Tryz.prog ((World.doorLaid Tryz.prog 400 os).forCall (fun _ _=>0) ⟨#[],#[.agg #[.int .i64 0,.int .i64 0,.slice none 0 0,.slice none 0 0]],[]⟩).memory Tryz.f5.params.toList Rows.fnPartsAllSpec.vars false #[Value.agg #[.int .i64 0,.int .i64 0,.slice none 0 0,.slice none 0 0]].toList 8=some ([.agg [.lit (.int .i64 0),.lit (.int .i64 0),.nil,.nil]],[],places) :=
 ⟨[],by kernel_rfl⟩
set_option maxRecDepth 100000 in
set_option maxHeartbeats 2000000 in
theorem fnPartsAll_liftedUpto (os:Os) (started:os.Started) (H:Type) (enc:TypeId × Value→H) (F0:Stop.Interp) :
  ReturnsInHanded {} Tryz.checked os 5 .any ((Rows.OpenSpec.upto Rows.fnPartsAllSpec).preRow enc Tryz.prog Tryz.f5 Rows.fnPartsAllUptoRow.domain false Rows.fnPartsAllUptoRow.laid) (((Rows.OpenSpec.upto Rows.fnPartsAllSpec).at F0).post enc Tryz.prog Tryz.f5 false true false false):=by
 obtain ⟨places,hx⟩:=parts_reads os enc
 refine returnsInHanded_of_row (C:=Tryz.checked) (s:=Rows.OpenSpec.upto Rows.fnPartsAllSpec) own started (by kernel_rfl) Tryz.func5
  (witness_row_at (enc:=enc) (C:=Tryz.checked) false (World.doorLaid Tryz.prog 400 os) #[.agg #[.int .i64 0,.int .i64 0,.slice none 0 0,.slice none 0 0]] rfl (by kernel_rfl) (by kernel_rfl) (by kernel_rfl)
   (OpenSpec.preRow_of_cond 8 hx (by kernel_rfl) (fun k hk=>by cases hk;kernel_rfl) (by kernel_rfl) (parts_met os))) ?_
 intro W base args ds gs before hval0 hW _ hcond _ hL _ _
 have hval:∀ (j:Nat) t v,Tryz.f5.params[j]?=some t→args[j]?=some v→Value.okWide Tryz.prog W .any base t v:=hval0
 have hk:=hcond _ rfl
 have hW':=hW
 obtain ⟨p,q,hA0,hV,rfl,hfz,hnd⟩:=hW
 have hA:DataW.TrodAll enc Tryz.prog W 0 (fun _=>true) true Tryz.f5.params.toList args.toList ds p:=hA0
 rw [Tryz.params5] at hA hval
 obtain ⟨rfl,rfl⟩:=trodVars_none hV
 obtain ⟨v0,vs0,d0,ds0,p0,q0,hargs,rfl,rfl,h0,r0⟩:=trodAll_cons hA
 obtain ⟨rfl,rfl,rfl⟩:=trodAll_nil r0
 obtain rfl:args=#[v0]:=by cases args;simp_all
 obtain ⟨g,hg,h64,pn,nn,cn,pk,nk,ck,rfl,hN,hK⟩:=open_geom2 h0 (hval 0 25 v0 rfl rfl)
 have hb:g.size≤1048576:=by
  have h:=of_decide_eq_true hk
  simp only [List.append_nil,Rows.uptoBulkAll] at h
  omega
 have htab:=tab_of_laidP hL
 have hlaw:Calls Tryz.prog 5 #[.agg #[.int .i64 g.kind,.int .i64 g.dim,.slice pn nn cn,.slice pk nk ck]] W fun e w'=>e=.returned (.bool true)∧Bel W w':=by
  cases hka:kAnyOf g with
  | false=>exact partsLaw_no g hb hka (fun _=>True) pn nn cn pk nk ck W hN hK
  | true =>
   obtain ⟨s,c,hs,-,hks,-⟩:=newOf_kd g
   by_cases hlf:(newOf g).kind=1∨(newOf g).kind=2
   ·exact partsLaw_leaf g hb hka hlf (fun _=>True) pn nn cn pk nk ck W hN hK htab
   ·exact partsLaw_multi g hb hka (by unfold MultiK;omega) (fun _=>True) pn nn cn pk nk ck W hN hK htab
 refine hlaw.mono fun e W' ⟨he,hg⟩=>?_
 subst he
 exact ⟨_,rfl,law_post (tb:=4) laidOut hW' rfl rfl rfl Tryz.underlying4 (by rw [Tryz.params5];intro t ht;simp at ht;subst ht;exact ⟨by kernel_rfl,of_decide_eq_true (by kernel_rfl)⟩) hg⟩
theorem fnPartsAll_saidUpto:Rows.FnPartsAllUptoSaid :=
 OpenClaim.holds_of_cond 5 Tryz.f5 rfl rfl rfl rfl rfl rfl rfl ⟨rfl,rfl,rfl,rfl,rfl⟩ rfl rfl rfl rfl rfl (by kernel_rfl) Tryz.func5 (by kernel_rfl)
  (of_decide_eq_true (by kernel_rfl)) (by unfold Func.isWrapper;first|(rw [if_pos (by decide +kernel)];kernel_rfl)|(rw [if_neg (by decide +kernel)];exact ⟨rfl,rfl⟩))
  (fun os started H enc _ F=>by rw [OpenClaim.pre_eq_preRow];exact fnPartsAll_liftedUpto os started H enc F)
theorem fnPartsAll_plain (f:FuncId) (fn:Func) (hf:Tryz.pinned.checked.prog.funcNamed "pub-eidograph/laws.FnPartsAll"=some f) (hfn:Tryz.pinned.checked.prog.funcs[f]?=some fn) :
  true=Tryz.pinned.checked.prog.looks []∧∀ (j:Nat) t,fn.params[j]?=some t→Tryz.pinned.checked.prog.wantsStandIn t=false:=by
 obtain rfl:f=5:=Option.some.inj ((show Tryz.prog.funcNamed "pub-eidograph/laws.FnPartsAll"=some 5 by kernel_rfl).symm.trans hf) |>.symm
 obtain rfl:fn=Tryz.f5:=(Option.some.inj (Tryz.func5.symm.trans hfn)).symm
 refine ⟨by kernel_rfl,fun j t ht=>?_⟩
 rw [Tryz.params5] at ht
 obtain rfl:t=25:=by simpa using Array.mem_of_getElem? ht
 exact (show Tryz.prog.wantsStandIn 25=false by kernel_rfl)
/-- The statement. -/
theorem fnPartsAll_holds:Rows.FnPartsAllUptoCardSaid :=
 Claim7.holds_tied_plain_at .later [] _ _ _ _ fnPartsAll_saidUpto (fun _ h=>by cases h) (by kernel_rfl) (fun _ h=>by cases h) fnPartsAllUpto_row_tie rfl ⟨rfl,rfl⟩ (by kernel_rfl) rfl fnPartsAll_plain (by kernel_rfl)
#print axioms fnPartsAll_holds
end Go.Proofs.YtpipehenfcbjbaaGreatDoor
