/- Parts of the walk, made small by wip/tools/pack.py: CardL. No condition but those in each statement. -/
import Derived.Test.YtpofkokbmifhgaaGreatDoorL20
import Derived.Test.YtpofkokbmifhgaaGreatDoorL38
import Derived.Deep.DeepWitnessRowRef
set_option maxRecDepth 100000
set_option maxHeartbeats 20000000
set_option linter.unusedVariables false
set_option linter.unusedSimpArgs false
namespace Go.Proofs.YtpofkokbmifhgaaGreatDoor.fnCanonLong
open Go.ChangeShapes Go.WideShapes Go.ChangeAt Go.RowKit
theorem own:ownKnob Tryz.prog.godebug=none:=by kernel_rfl
abbrev vals:Array Value:=#[.agg #[.int .i64 0,.int .i64 0,.string ⟨#[]⟩,.slice none 0 0,.slice none 0 0]]
theorem reads (os:Os) {H:Type} (enc:TypeId × Value->H):∃ places,DataW.whole enc Tryz.prog (memOf os vals) Tryz.f5.params.toList Rows.fnCanonLongSpec.vars false vals.toList 8=some ([.agg [.lit (.int .i64 0),.lit (.int .i64 0),.lit (.string []),.nil,.nil]],[],places):=
 ⟨[],by kernel_rfl⟩
theorem liftedUpto (os:Os) (started:os.Started) (H:Type) (enc:TypeId × Value->H) (F:Stop.Interp) :
  ReturnsInHanded {} Tryz.checked os 5 .any ((Rows.OpenSpec.upto Rows.fnCanonLongSpec).preRow enc Tryz.prog Tryz.f5 Rows.fnCanonLongUptoRow.domain false Rows.fnCanonLongUptoRow.laid) (((Rows.OpenSpec.upto Rows.fnCanonLongSpec).at F).post enc Tryz.prog Tryz.f5 false true false false):=by
 obtain ⟨places,hx⟩:=reads os enc
 refine returnsInHanded_of_row (C:=Tryz.checked) (s:=Rows.OpenSpec.upto Rows.fnCanonLongSpec) own started (by kernel_rfl) Tryz.func5
  (witness_row_atRef (enc:=enc) (C:=Tryz.checked) false (laidWorld os) vals rfl (by kernel_rfl) (by kernel_rfl) (by kernel_rfl)
   (OpenSpec.preRow_of_cond 8 hx (by kernel_rfl) (fun k hk=>by cases hk; kernel_rfl) (by kernel_rfl) (laidAll os vals))) ?_
 intro W base args ds gs before hval hW _ hcond _ hL _ _
 exact contract (s:=Rows.fnCanonLongSpec) (by kernel_rfl) (by kernel_rfl) rfl (fun r v w=>fnLong_any r v w) H (fun _=>rfl) enc W base args ds gs before hval hW (of_decide_eq_true (hcond _ rfl)) (tabP_of hL (by rw [<- pow_data]; exact .tail _ (.tail _ (.head _))))
theorem saidUpto:Rows.FnCanonLongUptoSaid:=
 OpenClaim.holds_of_cond 5 Tryz.f5 rfl rfl rfl rfl rfl rfl rfl ⟨rfl,rfl,rfl,rfl,rfl⟩ rfl rfl rfl rfl rfl (by kernel_rfl) Tryz.func5 (by kernel_rfl)
  (of_decide_eq_true (by kernel_rfl)) (by unfold Func.isWrapper; first | (rw [if_pos (by decide +kernel)]; kernel_rfl) | (rw [if_neg (by decide +kernel)]; exact ⟨rfl,rfl⟩))
  (fun os started H enc _ F=>by rw [OpenClaim.pre_eq_preRow]; exact liftedUpto os started H enc F)
theorem plain (f:FuncId) (fn:Func) (hf:Tryz.pinned.checked.prog.funcNamed "pub-shipwright/laws.FnCanonLong" = some f) (hfn:Tryz.pinned.checked.prog.funcs[f]?=some fn) :
  true=Tryz.pinned.checked.prog.looks []/\∀ (j:Nat) t,fn.params[j]?=some t->Tryz.pinned.checked.prog.wantsStandIn t=false:=by
 obtain rfl:f=5:=Option.some.inj ((show Tryz.prog.funcNamed "pub-shipwright/laws.FnCanonLong" = some 5 by kernel_rfl).symm.trans hf) |>.symm
 obtain rfl:fn=Tryz.f5:=(Option.some.inj (Tryz.func5.symm.trans hfn)).symm;refine ⟨by kernel_rfl,fun j t ht=>?_⟩;rw [show Tryz.f5.params=#[25] by kernel_rfl] at ht
 obtain rfl:t=25:=by simpa using Array.mem_of_getElem? ht
 exact (show Tryz.prog.wantsStandIn 25=false by kernel_rfl)
theorem cardUpto:Rows.FnCanonLongUptoCardSaid:=
 Claim7.holds_tied_plain_at .later [] _ _ _ _ saidUpto (fun _ h=>by cases h) (by kernel_rfl) (fun _ h=>by cases h) fnCanonLongUpto_row_tie rfl ⟨rfl,rfl⟩ (by kernel_rfl) rfl plain (by kernel_rfl)
end Go.Proofs.YtpofkokbmifhgaaGreatDoor.fnCanonLong
