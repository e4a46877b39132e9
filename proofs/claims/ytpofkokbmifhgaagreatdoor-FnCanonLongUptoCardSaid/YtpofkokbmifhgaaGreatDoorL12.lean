/- Parts of the walk, made small by wip/tools/pack.py: Uniq, UniqE, UniqW. No condition but those in each statement. -/
import Derived.Test.YtpofkokbmifhgaaGreatDoorL11
set_option maxRecDepth 100000
set_option maxHeartbeats 20000000
set_option linter.unusedVariables false
set_option linter.unusedSimpArgs false
namespace Go.Proofs.YtpofkokbmifhgaaGreatDoor
open Go.RowKit
variable {o:Nat->Prop}
def IxVal (w w':World):Ix->Value->Prop
 | .kv,f=>f=.func (.func 106) #[] #[]
 | .dev,f=>f=.func (.func 107) #[] #[]
 | .env,f=>f=.func (.func 109) #[] #[]
 | .expose,f=>f=.func (.func 110) #[] #[]
 | .port,f=>f=.func (.func 111) #[] #[]
 | .vol,f=>f=.func (.func 112) #[] #[]
 | .mount0,f=>∃ B,w.heap.size<=B/\f=.func (.func 153) #[] #[.pointer (some ⟨B,0,none⟩)]/\w'.heap[B]?=some (.cells #[.string ⟨#[]⟩] 9)
 | .mountS,f=>∃ B,w.heap.size<=B/\f=.func (.func 153) #[] #[.pointer (some ⟨B,0,none⟩)]/\w'.heap[B]?=some (.cells #[.string cRunSecrets] 9)
def qokB (qs:List ByteArray):Bool:=!qs.isEmpty && qs.all (fun p=>!p.data.toList.contains 46) && decide ((jn qs).size<=1000) && decide (qs.length<=1000)
theorem matches_q (ps:List ByteArray) (hp:ps≠[]) (hdp:∀ p∈ps,NoDot p) (hsp:(jn ps).size<=70368744177664) (hlp:ps.length<=67108864) (qs:List ByteArray) (s:ByteArray) (h:qokB qs=true) (hs:jn qs=s) (w:World) :
  Calls Tryz.prog 105 #[.string (jn ps),.string s] w fun e w'=>e=.returned (.bool (pm qs ps))/\Chg [] w w':=by
 subst hs;unfold qokB at h;simp only [Bool.and_eq_true,decide_eq_true_eq,Bool.not_eq_true',List.all_eq_true,List.contains_eq_mem,decide_eq_false_iff_not] at h;refine matches_any ps qs hp (fun e=>by rw [e] at h; simp at h) hdp h.1.1.2 w hsp (by omega) hlp (by omega)
theorem find_step {α β:Type} {X:Option β} {p:α->Bool} {f:α->β} {e:α} {r:List α} (h:X=((e :: r).find? p).map f) (hb:p e=false):X=(r.find? p).map f:=by
 rw [h,List.find?_cons,hb]
theorem find_hit {α β:Type} {X:Option β} {p:α->Bool} {f:α->β} {e:α} {r:List α} (h:X=((e :: r).find? p).map f) (hb:p e=true):X=some (f e):=by
 rw [h,List.find?_cons,hb]
 rfl
theorem jqU0:jn [cNetworks,cStar,cLabels]=⟨#[110,101,116,119,111,114,107,115,46,42,46,108,97,98,101,108,115]⟩:=by kernel_rfl
theorem qU0:qokB [cNetworks,cStar,cLabels]=true:=by kernel_rfl
theorem jqU1:jn [cNetworks,cStar,cIpam,cOptions]=⟨#[110,101,116,119,111,114,107,115,46,42,46,105,112,97,109,46,111,112,116,105,111,110,115]⟩:=by kernel_rfl
theorem qU1:qokB [cNetworks,cStar,cIpam,cOptions]=true:=by kernel_rfl
theorem jqU2:jn [cServices,cStar,cAnnotations]=⟨#[115,101,114,118,105,99,101,115,46,42,46,97,110,110,111,116,97,116,105,111,110,115]⟩:=by kernel_rfl
theorem qU2:qokB [cServices,cStar,cAnnotations]=true:=by kernel_rfl
theorem jqU3:jn [cServices,cStar,cBuild,cArgs]=⟨#[115,101,114,118,105,99,101,115,46,42,46,98,117,105,108,100,46,97,114,103,115]⟩:=by kernel_rfl
theorem qU3:qokB [cServices,cStar,cBuild,cArgs]=true:=by kernel_rfl
theorem jqU4:jn [cServices,cStar,cBuild,cAdditionalContexts]=⟨#[115,101,114,118,105,99,101,115,46,42,46,98,117,105,108,100,46,97,100,100,105,116,105,111,110,97,108,95,99,111,110,116,101,120,116,115]⟩:=by kernel_rfl
theorem qU4:qokB [cServices,cStar,cBuild,cAdditionalContexts]=true:=by kernel_rfl
theorem jqU5:jn [cServices,cStar,cBuild,cPlatform]=⟨#[115,101,114,118,105,99,101,115,46,42,46,98,117,105,108,100,46,112,108,97,116,102,111,114,109]⟩:=by kernel_rfl
theorem qU5:qokB [cServices,cStar,cBuild,cPlatform]=true:=by kernel_rfl
theorem jqU6:jn [cServices,cStar,cBuild,cTags]=⟨#[115,101,114,118,105,99,101,115,46,42,46,98,117,105,108,100,46,116,97,103,115]⟩:=by kernel_rfl
theorem qU6:qokB [cServices,cStar,cBuild,cTags]=true:=by kernel_rfl
theorem jqU7:jn [cServices,cStar,cBuild,cLabels]=⟨#[115,101,114,118,105,99,101,115,46,42,46,98,117,105,108,100,46,108,97,98,101,108,115]⟩:=by kernel_rfl
theorem qU7:qokB [cServices,cStar,cBuild,cLabels]=true:=by kernel_rfl
theorem jqU8:jn [cServices,cStar,cCapAdd]=⟨#[115,101,114,118,105,99,101,115,46,42,46,99,97,112,95,97,100,100]⟩:=by kernel_rfl
theorem qU8:qokB [cServices,cStar,cCapAdd]=true:=by kernel_rfl
theorem jqU9:jn [cServices,cStar,cCapDrop]=⟨#[115,101,114,118,105,99,101,115,46,42,46,99,97,112,95,100,114,111,112]⟩:=by kernel_rfl
theorem qU9:qokB [cServices,cStar,cCapDrop]=true:=by kernel_rfl
theorem jqU10:jn [cServices,cStar,cDevices]=⟨#[115,101,114,118,105,99,101,115,46,42,46,100,101,118,105,99,101,115]⟩:=by kernel_rfl
theorem qU10:qokB [cServices,cStar,cDevices]=true:=by kernel_rfl
theorem jqU11:jn [cServices,cStar,cConfigs]=⟨#[115,101,114,118,105,99,101,115,46,42,46,99,111,110,102,105,103,115]⟩:=by kernel_rfl
theorem qU11:qokB [cServices,cStar,cConfigs]=true:=by kernel_rfl
theorem jqU12:jn [cServices,cStar,cDeploy,cLabels]=⟨#[115,101,114,118,105,99,101,115,46,42,46,100,101,112,108,111,121,46,108,97,98,101,108,115]⟩:=by kernel_rfl
theorem qU12:qokB [cServices,cStar,cDeploy,cLabels]=true:=by kernel_rfl
theorem jqU13:jn [cServices,cStar,cDns]=⟨#[115,101,114,118,105,99,101,115,46,42,46,100,110,115]⟩:=by kernel_rfl
theorem qU13:qokB [cServices,cStar,cDns]=true:=by kernel_rfl
theorem jqU14:jn [cServices,cStar,cDnsOpt]=⟨#[115,101,114,118,105,99,101,115,46,42,46,100,110,115,95,111,112,116]⟩:=by kernel_rfl
theorem qU14:qokB [cServices,cStar,cDnsOpt]=true:=by kernel_rfl
theorem jqU15:jn [cServices,cStar,cDnsSearch]=⟨#[115,101,114,118,105,99,101,115,46,42,46,100,110,115,95,115,101,97,114,99,104]⟩:=by kernel_rfl
theorem qU15:qokB [cServices,cStar,cDnsSearch]=true:=by kernel_rfl
theorem jqU16:jn [cServices,cStar,cEnvironment]=⟨#[115,101,114,118,105,99,101,115,46,42,46,101,110,118,105,114,111,110,109,101,110,116]⟩:=by kernel_rfl
theorem qU16:qokB [cServices,cStar,cEnvironment]=true:=by kernel_rfl
theorem jqU17:jn [cServices,cStar,cEnvFile]=⟨#[115,101,114,118,105,99,101,115,46,42,46,101,110,118,95,102,105,108,101]⟩:=by kernel_rfl
theorem qU17:qokB [cServices,cStar,cEnvFile]=true:=by kernel_rfl
theorem jqU18:jn [cServices,cStar,cExpose]=⟨#[115,101,114,118,105,99,101,115,46,42,46,101,120,112,111,115,101]⟩:=by kernel_rfl
theorem qU18:qokB [cServices,cStar,cExpose]=true:=by kernel_rfl
theorem jqU19:jn [cServices,cStar,cLabels]=⟨#[115,101,114,118,105,99,101,115,46,42,46,108,97,98,101,108,115]⟩:=by kernel_rfl
theorem qU19:qokB [cServices,cStar,cLabels]=true:=by kernel_rfl
theorem jqU20:jn [cServices,cStar,cLinks]=⟨#[115,101,114,118,105,99,101,115,46,42,46,108,105,110,107,115]⟩:=by kernel_rfl
theorem qU20:qokB [cServices,cStar,cLinks]=true:=by kernel_rfl
theorem jqU21:jn [cServices,cStar,cNetworks,cStar,cAliases]=⟨#[115,101,114,118,105,99,101,115,46,42,46,110,101,116,119,111,114,107,115,46,42,46,97,108,105,97,115,101,115]⟩:=by kernel_rfl
theorem qU21:qokB [cServices,cStar,cNetworks,cStar,cAliases]=true:=by kernel_rfl
theorem jqU22:jn [cServices,cStar,cNetworks,cStar,cLinkLocalIps]=⟨#[115,101,114,118,105,99,101,115,46,42,46,110,101,116,119,111,114,107,115,46,42,46,108,105,110,107,95,108,111,99,97,108,95,105,112,115]⟩:=by kernel_rfl
theorem qU22:qokB [cServices,cStar,cNetworks,cStar,cLinkLocalIps]=true:=by kernel_rfl
theorem jqU23:jn [cServices,cStar,cPorts]=⟨#[115,101,114,118,105,99,101,115,46,42,46,112,111,114,116,115]⟩:=by kernel_rfl
theorem qU23:qokB [cServices,cStar,cPorts]=true:=by kernel_rfl
theorem jqU24:jn [cServices,cStar,cProfiles]=⟨#[115,101,114,118,105,99,101,115,46,42,46,112,114,111,102,105,108,101,115]⟩:=by kernel_rfl
theorem qU24:qokB [cServices,cStar,cProfiles]=true:=by kernel_rfl
theorem jqU25:jn [cServices,cStar,cSecrets]=⟨#[115,101,114,118,105,99,101,115,46,42,46,115,101,99,114,101,116,115]⟩:=by kernel_rfl
theorem qU25:qokB [cServices,cStar,cSecrets]=true:=by kernel_rfl
theorem jqU26:jn [cServices,cStar,cSysctls]=⟨#[115,101,114,118,105,99,101,115,46,42,46,115,121,115,99,116,108,115]⟩:=by kernel_rfl
theorem qU26:qokB [cServices,cStar,cSysctls]=true:=by kernel_rfl
theorem jqU27:jn [cServices,cStar,cTmpfs]=⟨#[115,101,114,118,105,99,101,115,46,42,46,116,109,112,102,115]⟩:=by kernel_rfl
theorem qU27:qokB [cServices,cStar,cTmpfs]=true:=by kernel_rfl
theorem jqU28:jn [cServices,cStar,cVolumes]=⟨#[115,101,114,118,105,99,101,115,46,42,46,118,111,108,117,109,101,115]⟩:=by kernel_rfl
theorem qU28:qokB [cServices,cStar,cVolumes]=true:=by kernel_rfl
theorem unique_any (ps:List ByteArray) (hp:ps≠[]) (hdp:∀ p∈ps,NoDot p) (hsp:(jn ps).size<=70368744177664) (hlp:ps.length<=67108864) (w:World) :
  Calls Tryz.prog 72 #[.string (jn ps)] w fun e w'=>∃ f,e=.returned (.tuple #[f,.bool (ixOf ps).isSome])/\Chg [] w w'/\∀ ix,ixOf ps=some ix->IxVal w w' ix f:=by
 have HM:=Lib.hid (matches_q ps hp hdp hsp hlp);have HI0:=Lib.hid (show ixOf ps=(uTab.find? fun e=>pm e.1 ps).map (·.2) from rfl)
 obtain ⟨P,hP⟩ : ∃ P,P=jn ps:=⟨_,rfl⟩
 rw [<- hP] at HM ⊢;clear hP hp hdp hsp hlp;have hcc:=Chg.refl [] w
 go_enter Tryz.func72,Tryz.ntmps72
 go_wp2_with fail
 refine (HM.out [cNetworks,cStar,cLabels] _ qU0 jqU0 _).mono ?_;rintro e w1 ⟨rfl,hc⟩;replace hcc:=hcc.trans hc New.nil;clear hc;rcases Bool.eq_false_or_eq_true (pm [cNetworks,cStar,cLabels] ps) with hb | hb
 ·have hit:=find_hit HI0.out hb
  have HIT:=Lib.hid hit;have HCC:=Lib.hid hcc;rw [hb];clear hit hcc hb HI0
  go_wp2_with fail
  go_ret2
  exact ⟨_,by rw [HIT.out]; rfl,HCC.out,fun ix h=>by rw [HIT.out] at h; cases h; rfl⟩
 replace HI0:=Lib.hid (find_step HI0.out hb);rw [hb];clear hb
 go_wp2_with fail
 refine (HM.out [cNetworks,cStar,cIpam,cOptions] _ qU1 jqU1 _).mono ?_;rintro e w2 ⟨rfl,hc⟩;replace hcc:=hcc.trans hc New.nil;clear hc;rcases Bool.eq_false_or_eq_true (pm [cNetworks,cStar,cIpam,cOptions] ps) with hb | hb
 ·have hit:=find_hit HI0.out hb
  have HIT:=Lib.hid hit;have HCC:=Lib.hid hcc;rw [hb];clear hit hcc hb HI0
  go_wp2_with fail
  go_ret2
  exact ⟨_,by rw [HIT.out]; rfl,HCC.out,fun ix h=>by rw [HIT.out] at h; cases h; rfl⟩
 replace HI0:=Lib.hid (find_step HI0.out hb);rw [hb];clear hb
 go_wp2_with fail
 refine (HM.out [cServices,cStar,cAnnotations] _ qU2 jqU2 _).mono ?_;rintro e w3 ⟨rfl,hc⟩;replace hcc:=hcc.trans hc New.nil;clear hc;rcases Bool.eq_false_or_eq_true (pm [cServices,cStar,cAnnotations] ps) with hb | hb
 ·have hit:=find_hit HI0.out hb
  have HIT:=Lib.hid hit;have HCC:=Lib.hid hcc;rw [hb];clear hit hcc hb HI0
  go_wp2_with fail
  go_ret2
  exact ⟨_,by rw [HIT.out]; rfl,HCC.out,fun ix h=>by rw [HIT.out] at h; cases h; rfl⟩
 replace HI0:=Lib.hid (find_step HI0.out hb);rw [hb];clear hb
 go_wp2_with fail
 refine (HM.out [cServices,cStar,cBuild,cArgs] _ qU3 jqU3 _).mono ?_;rintro e w4 ⟨rfl,hc⟩;replace hcc:=hcc.trans hc New.nil;clear hc;rcases Bool.eq_false_or_eq_true (pm [cServices,cStar,cBuild,cArgs] ps) with hb | hb
 ·have hit:=find_hit HI0.out hb
  have HIT:=Lib.hid hit;have HCC:=Lib.hid hcc;rw [hb];clear hit hcc hb HI0
  go_wp2_with fail
  go_ret2
  exact ⟨_,by rw [HIT.out]; rfl,HCC.out,fun ix h=>by rw [HIT.out] at h; cases h; rfl⟩
 replace HI0:=Lib.hid (find_step HI0.out hb);rw [hb];clear hb
 go_wp2_with fail
 refine (HM.out [cServices,cStar,cBuild,cAdditionalContexts] _ qU4 jqU4 _).mono ?_;rintro e w5 ⟨rfl,hc⟩;replace hcc:=hcc.trans hc New.nil;clear hc;rcases Bool.eq_false_or_eq_true (pm [cServices,cStar,cBuild,cAdditionalContexts] ps) with hb | hb
 ·have hit:=find_hit HI0.out hb
  have HIT:=Lib.hid hit;have HCC:=Lib.hid hcc;rw [hb];clear hit hcc hb HI0
  go_wp2_with fail
  go_ret2
  exact ⟨_,by rw [HIT.out]; rfl,HCC.out,fun ix h=>by rw [HIT.out] at h; cases h; rfl⟩
 replace HI0:=Lib.hid (find_step HI0.out hb);rw [hb];clear hb
 go_wp2_with fail
 refine (HM.out [cServices,cStar,cBuild,cPlatform] _ qU5 jqU5 _).mono ?_;rintro e w6 ⟨rfl,hc⟩;replace hcc:=hcc.trans hc New.nil;clear hc;rcases Bool.eq_false_or_eq_true (pm [cServices,cStar,cBuild,cPlatform] ps) with hb | hb
 ·have hit:=find_hit HI0.out hb
  have HIT:=Lib.hid hit;have HCC:=Lib.hid hcc;rw [hb];clear hit hcc hb HI0
  go_wp2_with fail
  go_ret2
  exact ⟨_,by rw [HIT.out]; rfl,HCC.out,fun ix h=>by rw [HIT.out] at h; cases h; rfl⟩
 replace HI0:=Lib.hid (find_step HI0.out hb);rw [hb];clear hb
 go_wp2_with fail
 refine (HM.out [cServices,cStar,cBuild,cTags] _ qU6 jqU6 _).mono ?_;rintro e w7 ⟨rfl,hc⟩;replace hcc:=hcc.trans hc New.nil;clear hc;rcases Bool.eq_false_or_eq_true (pm [cServices,cStar,cBuild,cTags] ps) with hb | hb
 ·have hit:=find_hit HI0.out hb
  have HIT:=Lib.hid hit;have HCC:=Lib.hid hcc;rw [hb];clear hit hcc hb HI0
  go_wp2_with fail
  go_ret2
  exact ⟨_,by rw [HIT.out]; rfl,HCC.out,fun ix h=>by rw [HIT.out] at h; cases h; rfl⟩
 replace HI0:=Lib.hid (find_step HI0.out hb);rw [hb];clear hb
 go_wp2_with fail
 refine (HM.out [cServices,cStar,cBuild,cLabels] _ qU7 jqU7 _).mono ?_;rintro e w8 ⟨rfl,hc⟩;replace hcc:=hcc.trans hc New.nil;clear hc;rcases Bool.eq_false_or_eq_true (pm [cServices,cStar,cBuild,cLabels] ps) with hb | hb
 ·have hit:=find_hit HI0.out hb
  have HIT:=Lib.hid hit;have HCC:=Lib.hid hcc;rw [hb];clear hit hcc hb HI0
  go_wp2_with fail
  go_ret2
  exact ⟨_,by rw [HIT.out]; rfl,HCC.out,fun ix h=>by rw [HIT.out] at h; cases h; rfl⟩
 replace HI0:=Lib.hid (find_step HI0.out hb);rw [hb];clear hb
 go_wp2_with fail
 refine (HM.out [cServices,cStar,cCapAdd] _ qU8 jqU8 _).mono ?_;rintro e w9 ⟨rfl,hc⟩;replace hcc:=hcc.trans hc New.nil;clear hc;rcases Bool.eq_false_or_eq_true (pm [cServices,cStar,cCapAdd] ps) with hb | hb
 ·have hit:=find_hit HI0.out hb
  have HIT:=Lib.hid hit;have HCC:=Lib.hid hcc;rw [hb];clear hit hcc hb HI0
  go_wp2_with fail
  go_ret2
  exact ⟨_,by rw [HIT.out]; rfl,HCC.out,fun ix h=>by rw [HIT.out] at h; cases h; rfl⟩
 replace HI0:=Lib.hid (find_step HI0.out hb);rw [hb];clear hb
 go_wp2_with fail
 refine (HM.out [cServices,cStar,cCapDrop] _ qU9 jqU9 _).mono ?_;rintro e w10 ⟨rfl,hc⟩;replace hcc:=hcc.trans hc New.nil;clear hc;rcases Bool.eq_false_or_eq_true (pm [cServices,cStar,cCapDrop] ps) with hb | hb
 ·have hit:=find_hit HI0.out hb
  have HIT:=Lib.hid hit;have HCC:=Lib.hid hcc;rw [hb];clear hit hcc hb HI0
  go_wp2_with fail
  go_ret2
  exact ⟨_,by rw [HIT.out]; rfl,HCC.out,fun ix h=>by rw [HIT.out] at h; cases h; rfl⟩
 replace HI0:=Lib.hid (find_step HI0.out hb);rw [hb];clear hb
 go_wp2_with fail
 refine (HM.out [cServices,cStar,cDevices] _ qU10 jqU10 _).mono ?_;rintro e w11 ⟨rfl,hc⟩;replace hcc:=hcc.trans hc New.nil;clear hc;rcases Bool.eq_false_or_eq_true (pm [cServices,cStar,cDevices] ps) with hb | hb
 ·have hit:=find_hit HI0.out hb
  have HIT:=Lib.hid hit;have HCC:=Lib.hid hcc;rw [hb];clear hit hcc hb HI0
  go_wp2_with fail
  go_ret2
  exact ⟨_,by rw [HIT.out]; rfl,HCC.out,fun ix h=>by rw [HIT.out] at h; cases h; rfl⟩
 replace HI0:=Lib.hid (find_step HI0.out hb);rw [hb];clear hb
 go_wp2_with fail
 refine (HM.out [cServices,cStar,cConfigs] _ qU11 jqU11 _).mono ?_;rintro e w12 ⟨rfl,hc⟩;replace hcc:=hcc.trans hc New.nil;clear hc;rcases Bool.eq_false_or_eq_true (pm [cServices,cStar,cConfigs] ps) with hb | hb
 ·have hit:=find_hit HI0.out hb
  have HIT:=Lib.hid hit;have HCC:=Lib.hid hcc;rw [hb];clear hit hcc hb HI0
  go_wp2_with fail
  refine (mountF_any ⟨#[]⟩ _).mono ?_;rintro e wm ⟨f,rfl,hcm,⟨B,rfl,hB⟩,hlt⟩;have HMT:=Lib.hid (And.intro hcm (And.intro hB (hlt B rfl)));clear hcm hB hlt
  go_wp2_with fail
  go_ret2
  exact ⟨_,by rw [HIT.out]; rfl,HCC.out.trans HMT.out.1 New.nil,fun ix h=>by rw [HIT.out] at h; cases h; exact ⟨B,Nat.le_trans HCC.out.size HMT.out.2.2,rfl,HMT.out.2.1⟩⟩
 replace HI0:=Lib.hid (find_step HI0.out hb);rw [hb];clear hb
 go_wp2_with fail
 refine (HM.out [cServices,cStar,cDeploy,cLabels] _ qU12 jqU12 _).mono ?_;rintro e w13 ⟨rfl,hc⟩;replace hcc:=hcc.trans hc New.nil;clear hc;rcases Bool.eq_false_or_eq_true (pm [cServices,cStar,cDeploy,cLabels] ps) with hb | hb
 ·have hit:=find_hit HI0.out hb
  have HIT:=Lib.hid hit;have HCC:=Lib.hid hcc;rw [hb];clear hit hcc hb HI0
  go_wp2_with fail
  go_ret2
  exact ⟨_,by rw [HIT.out]; rfl,HCC.out,fun ix h=>by rw [HIT.out] at h; cases h; rfl⟩
 replace HI0:=Lib.hid (find_step HI0.out hb);rw [hb];clear hb
 go_wp2_with fail
 refine (HM.out [cServices,cStar,cDns] _ qU13 jqU13 _).mono ?_;rintro e w14 ⟨rfl,hc⟩;replace hcc:=hcc.trans hc New.nil;clear hc;rcases Bool.eq_false_or_eq_true (pm [cServices,cStar,cDns] ps) with hb | hb
 ·have hit:=find_hit HI0.out hb
  have HIT:=Lib.hid hit;have HCC:=Lib.hid hcc;rw [hb];clear hit hcc hb HI0
  go_wp2_with fail
  go_ret2
  exact ⟨_,by rw [HIT.out]; rfl,HCC.out,fun ix h=>by rw [HIT.out] at h; cases h; rfl⟩
 replace HI0:=Lib.hid (find_step HI0.out hb);rw [hb];clear hb
 go_wp2_with fail
 refine (HM.out [cServices,cStar,cDnsOpt] _ qU14 jqU14 _).mono ?_;rintro e w15 ⟨rfl,hc⟩;replace hcc:=hcc.trans hc New.nil;clear hc;rcases Bool.eq_false_or_eq_true (pm [cServices,cStar,cDnsOpt] ps) with hb | hb
 ·have hit:=find_hit HI0.out hb
  have HIT:=Lib.hid hit;have HCC:=Lib.hid hcc;rw [hb];clear hit hcc hb HI0
  go_wp2_with fail
  go_ret2
  exact ⟨_,by rw [HIT.out]; rfl,HCC.out,fun ix h=>by rw [HIT.out] at h; cases h; rfl⟩
 replace HI0:=Lib.hid (find_step HI0.out hb);rw [hb];clear hb
 go_wp2_with fail
 refine (HM.out [cServices,cStar,cDnsSearch] _ qU15 jqU15 _).mono ?_;rintro e w16 ⟨rfl,hc⟩;replace hcc:=hcc.trans hc New.nil;clear hc;rcases Bool.eq_false_or_eq_true (pm [cServices,cStar,cDnsSearch] ps) with hb | hb
 ·have hit:=find_hit HI0.out hb
  have HIT:=Lib.hid hit;have HCC:=Lib.hid hcc;rw [hb];clear hit hcc hb HI0
  go_wp2_with fail
  go_ret2
  exact ⟨_,by rw [HIT.out]; rfl,HCC.out,fun ix h=>by rw [HIT.out] at h; cases h; rfl⟩
 replace HI0:=Lib.hid (find_step HI0.out hb);rw [hb];clear hb
 go_wp2_with fail
 refine (HM.out [cServices,cStar,cEnvironment] _ qU16 jqU16 _).mono ?_;rintro e w17 ⟨rfl,hc⟩;replace hcc:=hcc.trans hc New.nil;clear hc;rcases Bool.eq_false_or_eq_true (pm [cServices,cStar,cEnvironment] ps) with hb | hb
 ·have hit:=find_hit HI0.out hb
  have HIT:=Lib.hid hit;have HCC:=Lib.hid hcc;rw [hb];clear hit hcc hb HI0
  go_wp2_with fail
  go_ret2
  exact ⟨_,by rw [HIT.out]; rfl,HCC.out,fun ix h=>by rw [HIT.out] at h; cases h; rfl⟩
 replace HI0:=Lib.hid (find_step HI0.out hb);rw [hb];clear hb
 go_wp2_with fail
 refine (HM.out [cServices,cStar,cEnvFile] _ qU17 jqU17 _).mono ?_;rintro e w18 ⟨rfl,hc⟩;replace hcc:=hcc.trans hc New.nil;clear hc;rcases Bool.eq_false_or_eq_true (pm [cServices,cStar,cEnvFile] ps) with hb | hb
 ·have hit:=find_hit HI0.out hb
  have HIT:=Lib.hid hit;have HCC:=Lib.hid hcc;rw [hb];clear hit hcc hb HI0
  go_wp2_with fail
  go_ret2
  exact ⟨_,by rw [HIT.out]; rfl,HCC.out,fun ix h=>by rw [HIT.out] at h; cases h; rfl⟩
 replace HI0:=Lib.hid (find_step HI0.out hb);rw [hb];clear hb
 go_wp2_with fail
 refine (HM.out [cServices,cStar,cExpose] _ qU18 jqU18 _).mono ?_;rintro e w19 ⟨rfl,hc⟩;replace hcc:=hcc.trans hc New.nil;clear hc;rcases Bool.eq_false_or_eq_true (pm [cServices,cStar,cExpose] ps) with hb | hb
 ·have hit:=find_hit HI0.out hb
  have HIT:=Lib.hid hit;have HCC:=Lib.hid hcc;rw [hb];clear hit hcc hb HI0
  go_wp2_with fail
  go_ret2
  exact ⟨_,by rw [HIT.out]; rfl,HCC.out,fun ix h=>by rw [HIT.out] at h; cases h; rfl⟩
 replace HI0:=Lib.hid (find_step HI0.out hb);rw [hb];clear hb
 go_wp2_with fail
 refine (HM.out [cServices,cStar,cLabels] _ qU19 jqU19 _).mono ?_;rintro e w20 ⟨rfl,hc⟩;replace hcc:=hcc.trans hc New.nil;clear hc;rcases Bool.eq_false_or_eq_true (pm [cServices,cStar,cLabels] ps) with hb | hb
 ·have hit:=find_hit HI0.out hb
  have HIT:=Lib.hid hit;have HCC:=Lib.hid hcc;rw [hb];clear hit hcc hb HI0
  go_wp2_with fail
  go_ret2
  exact ⟨_,by rw [HIT.out]; rfl,HCC.out,fun ix h=>by rw [HIT.out] at h; cases h; rfl⟩
 replace HI0:=Lib.hid (find_step HI0.out hb);rw [hb];clear hb
 go_wp2_with fail
 refine (HM.out [cServices,cStar,cLinks] _ qU20 jqU20 _).mono ?_;rintro e w21 ⟨rfl,hc⟩;replace hcc:=hcc.trans hc New.nil;clear hc;rcases Bool.eq_false_or_eq_true (pm [cServices,cStar,cLinks] ps) with hb | hb
 ·have hit:=find_hit HI0.out hb
  have HIT:=Lib.hid hit;have HCC:=Lib.hid hcc;rw [hb];clear hit hcc hb HI0
  go_wp2_with fail
  go_ret2
  exact ⟨_,by rw [HIT.out]; rfl,HCC.out,fun ix h=>by rw [HIT.out] at h; cases h; rfl⟩
 replace HI0:=Lib.hid (find_step HI0.out hb);rw [hb];clear hb
 go_wp2_with fail
 refine (HM.out [cServices,cStar,cNetworks,cStar,cAliases] _ qU21 jqU21 _).mono ?_;rintro e w22 ⟨rfl,hc⟩;replace hcc:=hcc.trans hc New.nil;clear hc;rcases Bool.eq_false_or_eq_true (pm [cServices,cStar,cNetworks,cStar,cAliases] ps) with hb | hb
 ·have hit:=find_hit HI0.out hb
  have HIT:=Lib.hid hit;have HCC:=Lib.hid hcc;rw [hb];clear hit hcc hb HI0
  go_wp2_with fail
  go_ret2
  exact ⟨_,by rw [HIT.out]; rfl,HCC.out,fun ix h=>by rw [HIT.out] at h; cases h; rfl⟩
 replace HI0:=Lib.hid (find_step HI0.out hb);rw [hb];clear hb
 go_wp2_with fail
 refine (HM.out [cServices,cStar,cNetworks,cStar,cLinkLocalIps] _ qU22 jqU22 _).mono ?_;rintro e w23 ⟨rfl,hc⟩;replace hcc:=hcc.trans hc New.nil;clear hc;rcases Bool.eq_false_or_eq_true (pm [cServices,cStar,cNetworks,cStar,cLinkLocalIps] ps) with hb | hb
 ·have hit:=find_hit HI0.out hb
  have HIT:=Lib.hid hit;have HCC:=Lib.hid hcc;rw [hb];clear hit hcc hb HI0
  go_wp2_with fail
  go_ret2
  exact ⟨_,by rw [HIT.out]; rfl,HCC.out,fun ix h=>by rw [HIT.out] at h; cases h; rfl⟩
 replace HI0:=Lib.hid (find_step HI0.out hb);rw [hb];clear hb
 go_wp2_with fail
 refine (HM.out [cServices,cStar,cPorts] _ qU23 jqU23 _).mono ?_;rintro e w24 ⟨rfl,hc⟩;replace hcc:=hcc.trans hc New.nil;clear hc;rcases Bool.eq_false_or_eq_true (pm [cServices,cStar,cPorts] ps) with hb | hb
 ·have hit:=find_hit HI0.out hb
  have HIT:=Lib.hid hit;have HCC:=Lib.hid hcc;rw [hb];clear hit hcc hb HI0
  go_wp2_with fail
  go_ret2
  exact ⟨_,by rw [HIT.out]; rfl,HCC.out,fun ix h=>by rw [HIT.out] at h; cases h; rfl⟩
 replace HI0:=Lib.hid (find_step HI0.out hb);rw [hb];clear hb
 go_wp2_with fail
 refine (HM.out [cServices,cStar,cProfiles] _ qU24 jqU24 _).mono ?_;rintro e w25 ⟨rfl,hc⟩;replace hcc:=hcc.trans hc New.nil;clear hc;rcases Bool.eq_false_or_eq_true (pm [cServices,cStar,cProfiles] ps) with hb | hb
 ·have hit:=find_hit HI0.out hb
  have HIT:=Lib.hid hit;have HCC:=Lib.hid hcc;rw [hb];clear hit hcc hb HI0
  go_wp2_with fail
  go_ret2
  exact ⟨_,by rw [HIT.out]; rfl,HCC.out,fun ix h=>by rw [HIT.out] at h; cases h; rfl⟩
 replace HI0:=Lib.hid (find_step HI0.out hb);rw [hb];clear hb
 go_wp2_with fail
 refine (HM.out [cServices,cStar,cSecrets] _ qU25 jqU25 _).mono ?_;rintro e w26 ⟨rfl,hc⟩;replace hcc:=hcc.trans hc New.nil;clear hc;rcases Bool.eq_false_or_eq_true (pm [cServices,cStar,cSecrets] ps) with hb | hb
 ·have hit:=find_hit HI0.out hb
  have HIT:=Lib.hid hit;have HCC:=Lib.hid hcc;rw [hb];clear hit hcc hb HI0
  go_wp2_with fail
  refine (mountF_any cRunSecrets _).mono ?_;rintro e wm ⟨f,rfl,hcm,⟨B,rfl,hB⟩,hlt⟩;have HMT:=Lib.hid (And.intro hcm (And.intro hB (hlt B rfl)));clear hcm hB hlt
  go_wp2_with fail
  go_ret2
  exact ⟨_,by rw [HIT.out]; rfl,HCC.out.trans HMT.out.1 New.nil,fun ix h=>by rw [HIT.out] at h; cases h; exact ⟨B,Nat.le_trans HCC.out.size HMT.out.2.2,rfl,HMT.out.2.1⟩⟩
 replace HI0:=Lib.hid (find_step HI0.out hb);rw [hb];clear hb
 go_wp2_with fail
 refine (HM.out [cServices,cStar,cSysctls] _ qU26 jqU26 _).mono ?_;rintro e w27 ⟨rfl,hc⟩;replace hcc:=hcc.trans hc New.nil;clear hc;rcases Bool.eq_false_or_eq_true (pm [cServices,cStar,cSysctls] ps) with hb | hb
 ·have hit:=find_hit HI0.out hb
  have HIT:=Lib.hid hit;have HCC:=Lib.hid hcc;rw [hb];clear hit hcc hb HI0
  go_wp2_with fail
  go_ret2
  exact ⟨_,by rw [HIT.out]; rfl,HCC.out,fun ix h=>by rw [HIT.out] at h; cases h; rfl⟩
 replace HI0:=Lib.hid (find_step HI0.out hb);rw [hb];clear hb
 go_wp2_with fail
 refine (HM.out [cServices,cStar,cTmpfs] _ qU27 jqU27 _).mono ?_;rintro e w28 ⟨rfl,hc⟩;replace hcc:=hcc.trans hc New.nil;clear hc;rcases Bool.eq_false_or_eq_true (pm [cServices,cStar,cTmpfs] ps) with hb | hb
 ·have hit:=find_hit HI0.out hb
  have HIT:=Lib.hid hit;have HCC:=Lib.hid hcc;rw [hb];clear hit hcc hb HI0
  go_wp2_with fail
  go_ret2
  exact ⟨_,by rw [HIT.out]; rfl,HCC.out,fun ix h=>by rw [HIT.out] at h; cases h; rfl⟩
 replace HI0:=Lib.hid (find_step HI0.out hb);rw [hb];clear hb
 go_wp2_with fail
 refine (HM.out [cServices,cStar,cVolumes] _ qU28 jqU28 _).mono ?_;rintro e w29 ⟨rfl,hc⟩;replace hcc:=hcc.trans hc New.nil;clear hc;rcases Bool.eq_false_or_eq_true (pm [cServices,cStar,cVolumes] ps) with hb | hb
 ·have hit:=find_hit HI0.out hb
  have HIT:=Lib.hid hit;have HCC:=Lib.hid hcc;rw [hb];clear hit hcc hb HI0
  go_wp2_with fail
  go_ret2
  exact ⟨_,by rw [HIT.out]; rfl,HCC.out,fun ix h=>by rw [HIT.out] at h; cases h; rfl⟩
 replace HI0:=Lib.hid (find_step HI0.out hb);rw [hb];clear hb;have HIT:Hid (ixOf ps=none):=Lib.hid HI0.out;have HCC:=Lib.hid hcc;clear hcc HI0
 go_wp2_with fail
 go_ret2
 exact ⟨_,by rw [HIT.out]; rfl,HCC.out,fun ix h=>by rw [HIT.out] at h; cases h⟩
end Go.Proofs.YtpofkokbmifhgaaGreatDoor
namespace Go.Proofs.YtpofkokbmifhgaaGreatDoor
open Go.RowKit
open Go.ChangeMaps (setBlock)
variable {o:Nat->Prop}
abbrev Ent:=T × Value × List Nat
def OwnZ (w:World) (Z:List Ent):Prop:=∀ z∈Z,Own w z.1 z.2.1 z.2.2
def blk (Z:List Ent):List Nat:=(Z.map fun z=>z.2.2).flatten
theorem blk_app (a b:List Ent):blk (a++b)=blk a++blk b:=by simp [blk]
theorem mem_blk {x:Nat} {Z:List Ent}:x∈blk Z ↔ ∃ z∈Z,x∈z.2.2:=by
 unfold blk;rw [List.mem_flatten]
 constructor
 ·rintro ⟨l,hl,hx⟩
  obtain ⟨z,hz,rfl⟩:=List.mem_map.1 hl;exact ⟨z,hz,hx⟩
 ·rintro ⟨z,hz,hx⟩
  exact ⟨_,List.mem_map.2 ⟨z,hz,rfl⟩,hx⟩
theorem OwnL.ents {w:World}:∀ {l:List T} {cs:List Value} {F:List Nat},OwnL w l cs F->∃ Z:List Ent,Z.map (·.1)=l/\(Z.map fun z=>z.2.1)=cs/\blk Z=F/\OwnZ w Z
 | [],cs,F,h=>by
  simp only [OwnL] at h;exact ⟨[],rfl,h.1.symm,h.2.symm,fun z hz=>by cases hz⟩
 | t :: l,cs,F,h=>by
  simp only [OwnL] at h;obtain ⟨v,r,F1,F2,rfl,h1,h2,rfl⟩:=h;obtain ⟨Z,e1,e2,e3,e4⟩:=h2.ents;refine ⟨(t,v,F1) :: Z,by simp [e1],by simp [e2],by simp [blk] at e3 ⊢; exact e3,fun z hz=>?_⟩;rcases List.mem_cons.1 hz with rfl | hz
  ·exact h1
  ·exact e4 z hz
theorem OwnZ.list {w:World}:∀ {Z:List Ent},OwnZ w Z->OwnL w (Z.map (·.1)) (Z.map fun z=>z.2.1) (blk Z)
 | [],_=>by simp [OwnL,blk]
 | z :: Z,h=>by
  simp only [List.map_cons,OwnL];exact ⟨z.2.1,_,z.2.2,blk Z,rfl,h z (by simp),OwnZ.list (Z:=Z) fun y hy=>h y (List.mem_cons_of_mem _ hy),by simp [blk]⟩
theorem OwnZ.keep {w w':World} {Z:List Ent} (h:OwnZ w Z) (hf:∀ b∈blk Z,w'.heap[b]?=w.heap[b]?):OwnZ w' Z:=fun z hz=>(h z hz).frame fun b hb=>hf b (mem_blk.2 ⟨z,hz,hb⟩)
theorem put_blk {K:Type} {key:Ent->K} {t:Ent}:∀ {Z:List Ent},(blk Z).Nodup->t.2.2.Nodup->(∀ x∈t.2.2,x ∉ blk Z)->(blk (putBy key t Z)).Nodup/\∀ x∈blk (putBy key t Z),x∈t.2.2∨x∈blk Z
 | [],_,ht,_=>⟨by simpa [putBy,blk] using ht,fun x hx=>by simp [putBy,blk] at hx; exact .inl hx⟩
 | z :: Z,hZ,ht,hd=>by
  have hz:blk (z :: Z)=z.2.2++blk Z:=by simp [blk]
  rw [hz] at hZ hd;obtain ⟨h1,h2,h3⟩:=perm_nodup_append hZ;unfold putBy
  by_cases e:key z=key t
  ·rw [if_pos e]
   have ht2:blk (t :: Z)=t.2.2++blk Z:=by simp [blk]
   rw [ht2,hz];refine ⟨List.nodup_append.2 ⟨ht,h2,fun a ha b hb e=>hd a ha (List.mem_append_right _ (e ▸ hb))⟩,fun x hx=>?_⟩;rcases List.mem_append.1 hx with hx | hx
   ·exact .inl hx
   ·exact .inr (List.mem_append_right _ hx)
  ·rw [if_neg e]
   obtain ⟨q1,q2⟩:=put_blk (key:=key) (t:=t) (Z:=Z) h2 ht fun x hx hb=>hd x hx (List.mem_append_right _ hb)
   have hz2:blk (z :: putBy key t Z)=z.2.2++blk (putBy key t Z):=by simp [blk]
   rw [hz2,hz];refine ⟨List.nodup_append.2 ⟨h1,q1,fun a ha b hb e=>?_⟩,fun x hx=>?_⟩
   ·subst e
    rcases q2 a hb with h | h
    ·exact hd a h (List.mem_append_left _ ha)
    ·exact h3 a ha h
   ·rcases List.mem_append.1 hx with hx | hx
    ·exact .inr (List.mem_append_left _ hx)
    ·rcases q2 x hx with h | h
     ·exact .inl h
     ·exact .inr (List.mem_append_right _ h)
theorem uniq_blk {K:Type} {key:Ent->K} (L:List Ent) (hn:(blk L).Nodup):∀ n,n<=L.length->(blk (uniqBy key (L.take n))).Nodup/\∀ x∈blk (uniqBy key (L.take n)),x∈blk (L.take n)
 | 0,_=>by simp [uniqBy,blk]
 | n+1,h=>by
  obtain ⟨z,hz⟩ : ∃ z,L[n]?=some z:=⟨_,List.getElem?_eq_getElem (by omega)⟩
  obtain ⟨h1,h2⟩:=uniq_blk (key:=key) L hn n (by omega)
  have ht:L.take (n+1)=L.take n++[z]:=by rw [List.take_add_one,hz]; rfl
  have hsub:(blk (L.take (n+1))).Nodup:=by
   have:blk L=blk (L.take (n+1))++blk (L.drop (n+1)):=by rw [<- blk_app,List.take_append_drop]
   rw [this] at hn;exact (perm_nodup_append hn).1
  have hz1:blk [z]=z.2.2:=by simp [blk]
  rw [ht,blk_app,hz1] at hsub;obtain ⟨a1,a2,a3⟩:=perm_nodup_append hsub;rw [uniq_take hz,ht,blk_app,hz1]
  obtain ⟨q1,q2⟩:=put_blk (key:=key) (t:=z) h1 a2 fun x hx hb=>a3 x (h2 x hb) hx
  refine ⟨q1,fun x hx=>?_⟩;rcases q2 x hx with h | h
  ·exact List.mem_append_right _ h
  ·exact List.mem_append_left _ (h2 x h)
theorem ownsRow_put {w:World} {base e n g cap j:Nat} {cs:List Value} (h:w.ownsRow base e 1 (.slice (some ⟨g,0,none⟩) n cap) n cs) (hj:j < n) (v:Value):(w.setCell ⟨g,j,none⟩ v).ownsRow base e 1 (.slice (some ⟨g,0,none⟩) n cap) n (cs.set j v):=by
 refine ⟨by simp [h.1],?_⟩
 rcases h.2 with ⟨h1,_⟩ | ⟨g',cap',cur,h1,hb,hh,hc,hm,hs,ht⟩
 ·cases h1
 ·cases h1
  have hlt:g < w.heap.size:=(Array.getElem?_eq_some_iff.1 hh).1;refine .inr ⟨g,cap,cur.set! j v,rfl,hb,?_,hc,hm,by simpa using hs,?_⟩
  ·show (w.heap.modify g _)[g]?=_
   rw [Array.getElem?_modify,if_pos rfl,hh]
   rfl
  ·rw [<- ht,Array.toList_set!]
   rw [List.take_set]
end Go.Proofs.YtpofkokbmifhgaaGreatDoor
namespace Go.Proofs.YtpofkokbmifhgaaGreatDoor
open Go.RowKit
variable {o:Nat->Prop}
theorem iAny:(Tryz.prog.info? 20).map (fun i=>(i.zero,i.size,i.bytes))=some (some .nilIface,1,16):=by kernel_rfl
theorem uMI:Tryz.prog.underlying 106=some (.map 9 3):=by kernel_rfl
theorem zInt (w:World):(zeroValue 3).run Tryz.prog w=.ok (.int .i64 0) w:=by kernel_rfl
@[go_sem] theorem mkMI (w:World):(Instr.makeMap 106 none).run Tryz.prog w=.ok (.map (some w.heap.size)) (w.alloc (.map #[] 0)):=by
 simp [Instr.makeMap,run_underlying uMI,Result.andThen]
def KeyI (key:T->ByteArray) (U:List Ent) (ks:List (ByteArray × Value)):Prop:=
 (∀ (j:Nat) (z:Ent),U[j]?=some z->mlook (key z.1) ks=some (.int .i64 j))/\∀ k v,mlook k ks=some v->∃ (j:Nat) (z:Ent),U[j]?=some z/\key z.1=k/\v=.int .i64 j
theorem KeyI.nil (key:T->ByteArray):KeyI key [] []:=⟨fun j z h=>by simp at h,fun k v h=>by simp [mlook] at h⟩
theorem KeyI.old {key:T->ByteArray} {U:List Ent} {ks:List (ByteArray × Value)} {z x:Ent} {j:Nat} (h:KeyI key U ks) (hx:U[j]?=some x) (e:key x.1=key z.1):KeyI key (U.set j z) ks:=by
 have hlt:=(List.getElem?_eq_some_iff.1 hx).1;refine ⟨fun i y hy=>?_,fun k v hk=>?_⟩
 ·by_cases hij:j=i
  ·subst hij
   rw [List.getElem?_set_self hlt] at hy
   cases hy
   rw [<- e];exact h.1 j x hx
  ·rw [List.getElem?_set_ne hij] at hy
   exact h.1 i y hy
 ·obtain ⟨i,y,h1,h2,h3⟩:=h.2 k v hk
  by_cases hij:j=i
  ·subst hij
   rw [hx] at h1
   cases h1
   exact ⟨j,z,List.getElem?_set_self hlt,by rw [<- e,h2],h3⟩
  ·exact ⟨i,y,by rw [List.getElem?_set_ne hij]; exact h1,h2,h3⟩
theorem KeyI.new {key:T->ByteArray} {U:List Ent} {ks:List (ByteArray × Value)} {z:Ent} (h:KeyI key U ks) (hn:mlook (key z.1) ks=none):KeyI key (U++[z]) (mupd (key z.1) (.int .i64 U.length) ks):=by
 refine ⟨fun i y hy=>?_,fun k v hk=>?_⟩
 ·rcases Nat.lt_or_ge i U.length with hlt | hge
  ·rw [List.getElem?_append_left hlt] at hy
   have h1:=h.1 i y hy
   have hne:key y.1≠key z.1:=fun e=>by rw [e,hn] at h1; cases h1
   rw [look_upd_ne hne];exact h1
  ·rw [List.getElem?_append_right hge] at hy
   have hi:i=U.length:=by
    have:=(List.getElem?_eq_some_iff.1 hy).1;simp at this
    omega
   subst hi;simp at hy;subst hy;exact look_upd
 ·by_cases e:k=key z.1
  ·subst e
   rw [look_upd] at hk
   cases hk
   exact ⟨U.length,z,by simp,rfl,rfl⟩
  ·rw [look_upd_ne e] at hk
   obtain ⟨i,y,h1,h2,h3⟩:=h.2 k v hk;exact ⟨i,y,by rw [List.getElem?_append_left (List.getElem?_eq_some_iff.1 h1).1]; exact h1,h2,h3⟩
theorem app_ent {w wr:World} {g c n:Nat} {cs:List Value} (hcr:Chg [] w wr) (hown:wr.ownsRow w.heap.size 20 1 (.slice (some ⟨g,0,none⟩) n c) n cs) (x:Value) (h1:x.oneCell'=true) (hl:n<=67108864) :
  ∃ v' w2,(Builtin.append_ #[76,76] 76 #[.slice (some ⟨g,0,none⟩) n c,.slice (some ⟨wr.heap.size,0,none⟩) 1 1]).run Tryz.prog (wr.alloc (.cells #[x] 20))=.ok v' w2 /\
   (∃ g' c',v'=.slice (some ⟨g',0,none⟩) (n+1) c'/\(g'=g∨wr.heap.size<=g')/\w2.ownsRow w.heap.size 20 1 v' (n+1) (cs++[x]))/\Chg [g] wr w2:=by
 have hgl:=ownsRow_own hown (g:=g) rfl
 have hown2:=ownsRow_keep (w':=wr.alloc (.cells #[x] 20)) hown fun g hg=>heap_alloc_old _ _ _ (ownsRow_own hown hg).2
 obtain ⟨R',w2,hr,ho,hc,hd⟩:=run_app (P:=Tryz.prog) w.heap.size 76 76 20 _ 1 16 uL iAny rfl (by decide) _ _ _ hown2 (some ⟨wr.heap.size,0,none⟩) 1 1 [x] rfl (fun _=>⟨_,rfl,fun j u hu=>by
  obtain rfl:j=0:=by
   have:=(List.getElem?_eq_some_iff.1 hu).1
   simpa using this
  have hv:x=u:=by simpa using hu
  subst hv
  exact cell_of_row _ wr.heap.size 0 _ _ (0,0) (heap_alloc_new _ _)⟩) (fun u hu=>by
   have:u=x:=by simpa using hu
   subst this
   exact h1) (by omega) (by omega) (by have:=hcr.size; simp; omega)
 refine ⟨R',w2,hr,?_,((Chg.refl [g] wr).al _).trans hc fun y hy=>.inl ?_⟩
 ·rcases hd with ⟨h,_⟩ | ⟨g',c',rfl,hb,_,h⟩
  ·cases h
  ·refine ⟨g',c',rfl,?_,ho⟩
   rcases h with h | h
   ·have:some g=some g':=h
    cases this
    exact .inl rfl
   ·have:(wr.alloc (.cells #[x] 20)).heap.size=wr.heap.size+1:=by simp
    exact .inr (by omega)
 ·have:y=g:=by simpa [Value.ownBlock] using hy
  rw [this];exact List.mem_singleton.2 rfl
theorem addr0 (g n:Nat):(⟨g,0,none⟩ : Addr).add n=⟨g,n,none⟩:=by unfold Addr.add; split <;> simp_all
def AnyV (v:Value):Prop:=v=.nilIface∨∃ ty u,v=.iface ty u
theorem AnyV.one {v:Value} (h:AnyV v):v.oneCell'=true:=by rcases h with rfl | ⟨ty,u,rfl⟩ <;> rfl
theorem Own.anyV {w:World}:∀ {t:T} {v:Value} {F:List Nat},Own w t v F->AnyV v
 | .null,_,_,h=>.inl (by simp only [Own] at h; exact h.1)
 | .bool _,_,_,h=>.inr (by simp only [Own] at h; exact ⟨_,_,h.1⟩)
 | .int _,_,_,h=>.inr (by simp only [Own] at h; exact ⟨_,_,h.1⟩)
 | .text _,_,_,h=>.inr (by simp only [Own] at h; exact ⟨_,_,h.1⟩)
 | .list _,_,_,h=>.inr (by simp only [Own] at h; obtain ⟨g,cap,cs,F',rfl,_⟩:=h; exact ⟨_,_,rfl⟩)
 | .map _,_,_,h=>.inr (by simp only [Own] at h; obtain ⟨b,ks,F',rfl,_⟩:=h; exact ⟨_,_,rfl⟩)
theorem row_slot {w:World} {base n g c j:Nat} {cs:List Value} (h:w.ownsRow base 20 1 (.slice (some ⟨g,0,none⟩) n c) n cs) (hj:j < n):(∃ u,w.cell? ⟨g,j,none⟩=some u)/\w.frozen? ⟨g,j,none⟩=false:=by
 have hl:=h.1
 obtain ⟨u,hu⟩ : ∃ u,cs[j]?=some u:=⟨_,List.getElem?_eq_getElem (by omega)⟩
 have:=h.cells (g:=g) rfl j u hu;rw [addr0] at this;refine ⟨⟨u,this⟩,?_⟩
 rcases h.2 with ⟨h1,_⟩ | ⟨g',cap',cur,h1,hb,hh,_⟩
 ·cases h1
 ·cases h1
  exact frozen_of_row w g j cur _ hh
theorem uniqueE (Z:List Ent) (key:T->ByteArray) (fid:Nat) (caps:Array Value) (g cap:Nat) (p:ByteArray) (w:World) (hown:w.ownsRow 0 20 1 (.slice (some ⟨g,0,none⟩) Z.length cap) Z.length (Z.map fun z=>z.2.1))
  (h1c:∀ z∈Z,AnyV z.2.1) (hT:TabP w) (hp:p.size<=35184372088832) (hll:Z.length<=67108864) (hcf:∀ args W,(callFunc fid args).run Tryz.prog W=.ok (.enter fid args) W)
  (HF:∀ W,Chg [] w W->∀ z∈Z,∀ q,Calls Tryz.prog fid (#[z.2.1,.string q]++caps) W fun e w'=>e=.returned (.tuple #[.string (key z.1),.nilIface])/\Chg [] W w') :
  Calls Tryz.prog 73 #[.slice (some ⟨g,0,none⟩) Z.length cap,.func (.func fid) #[] caps,.string p] w fun e w'=>∃ g' c',e=.returned (.tuple #[.slice (some ⟨g',0,none⟩) (uniqBy (fun z=>key z.1) Z).length c',.nilIface])/\w.heap.size<=g'/\Chg [] w w' /\
   w'.ownsRow 0 20 1 (.slice (some ⟨g',0,none⟩) (uniqBy (fun z=>key z.1) Z).length c') (uniqBy (fun z=>key z.1) Z).length ((uniqBy (fun z=>key z.1) Z).map fun z=>z.2.1):=by
 have hgw:=(ownsRow_own hown (g:=g) rfl).2;have HW:=Lib.hid (And.intro hown (And.intro h1c (And.intro hT HF)));clear hown h1c hT HF
 go_enter Tryz.func73,Tryz.ntmps73
 go_wp2_with fail
 go_loopg [8,20] Z.length (fun gg R i wr=>∃ (n:Nat) (U:List Ent) (g' c':Nat) (ks:List (ByteArray × Value)),n<=Z.length/\gg=Z.length - n/\i=.int .i64 n/\U=uniqBy (fun z=>key z.1) (Z.take n)/\R=.slice (some ⟨g',0,none⟩) U.length c'/\Chg [] w wr /\
  wr.ownsRow w.heap.size 20 1 (.slice (some ⟨g',0,none⟩) U.length c') U.length (U.map fun z=>z.2.1)/\MapAt wr (w.heap.size+1) ks/\KeyI key U ks/\g'≠w.heap.size+1)
 case atStart=>
  refine ⟨0,[],w.heap.size,0,[],Nat.zero_le _,by omega,rfl,rfl,rfl,((Chg.refl [] w).al _).al _,?_,?_,KeyI.nil key,by omega⟩
  ·refine ⟨rfl,.inr ⟨w.heap.size,0,#[],rfl,Nat.le_refl _,?_,Nat.le_refl _,by simp [maxLen],rfl,rfl⟩⟩
   exact (heap_alloc_old _ _ _ (by simp)).trans (heap_alloc_new w _)
  ·have:=MapAt.new (w.alloc (.cells #[] 20))
   simpa using this
 case round=>
  obtain ⟨n,U,g',c',ks,hn,rfl,rfl,hU,rfl,hcr,hown,hma,hki,hne⟩:=hrel
  have hUl:U.length<=n:=by
   rw [hU];exact Nat.le_trans (uniq_length _) (by simp; omega)
  have hg2:=ownsRow_own hown (g:=g') rfl
  by_cases hlt:n < Z.length
  ·obtain ⟨z,hz⟩ : ∃ z,Z[n]?=some z:=⟨_,List.getElem?_eq_getElem hlt⟩
   have hzm:=List.mem_of_getElem? hz
   have hcell:wr.cell? ⟨g,n,none⟩=some z.2.1:=by
    refine (hcr.cells.1 g n hgw).trans ?_;have:=HW.out.1.cells (g:=g) rfl n z.2.1 (by simp [hz])
    rwa [addr0] at this
   have hone:=HW.out.2.1 z hzm;have htk:=uniq_take (key:=fun z:Ent=>key z.1) hz;rw [<- hU] at htk
   obtain ⟨x,hx⟩ : ∃ x,x=z.2.1:=⟨_,rfl⟩
   rw [<- hx] at hcell hone
   have hFz:∀ W,Chg [] w W->∀ q,Calls Tryz.prog fid (#[x,.string q]++caps) W fun e w'=>e=.returned (.tuple #[.string (key z.1),.nilIface])/\Chg [] W w':=fun W h q=>by rw [hx]; exact HW.out.2.2.2 W h z hzm q
   have hone1:=hone.one;have HR:=Lib.hid (And.intro hcr (And.intro hown (And.intro hma (And.intro hki (And.intro hne (And.intro hU (And.intro hz (And.intro htk hx))))))));have hTr:=HW.out.2.2.1.chg hcr (by simp)
   have hd:(digits (n:Int)).size<=21:=by
    have:=Lib.itoa_length_le (n:Int) (by omega) (by omega)
    simpa [digits,ByteArray.size] using this
   have HFz:=Lib.hid (And.intro hFz hone1);clear hcr hown hma hki hU hz htk hne hx hFz hone1
   rcases hone with hx0 | ⟨ty,u,hx0⟩
   all_goals
    subst hx0
    go_wp2_with fail
    refine (itoa_any n (by omega) (by omega) _ hTr).mono ?_;rintro e w1 ⟨rfl,hc1⟩
    go_wp2_with fail
    refine (next_any p _ _ (by omega) (by rw [ByteArray.size_append,ByteArray.size_append]; show 1+(digits (n:Int)).size+1<=_; omega)).mono ?_;rintro e w2 ⟨rfl,hc2⟩;have hc12:=hc1.trans hc2 New.nil
    go_wp2_with fail
    refine (HFz.out.1 _ (HR.out.1.trans hc12 New.nil) _).mono ?_;rintro e w3 ⟨rfl,hc3⟩;have hc13:=hc12.trans hc3 New.nil;have hcw3:=HR.out.1.trans hc13 New.nil;have hma3:=HR.out.2.2.1.frame (hc13.block _ HR.out.2.2.1.lt (by simp));have hown3:=ownsRow_frame HR.out.2.1 (hc13.block _ hg2.2 (by simp));have L1:=run_lookup_ok (P:=Tryz.prog) hma3 uMI uS (zInt w3) (key z.1);have HC3:=Lib.hid (And.intro hcw3 (And.intro hma3 hown3))
    obtain ⟨ky,hky⟩ : ∃ ky,ky=key z.1:=⟨_,rfl⟩
    rw [<- hky] at L1 ⊢;have HKY:=Lib.hid hky;have hs3:=hc13.size;clear hcw3 hma3 hown3 hc12 hc13 hc1 hc2 hc3 hky hTr hcell
    cases hlk:mlook ky ks with
    | some v=>
     obtain ⟨j,y,h1,h2,rfl⟩:=HR.out.2.2.2.1.2 ky v hlk;have hjU:j < U.length:=(List.getElem?_eq_some_iff.1 h1).1;rw [hlk] at L1;simp only [Option.getD_some,Option.isSome_some] at L1;have HY:=Lib.hid (And.intro h1 h2);obtain ⟨⟨s0,s0e⟩,s1⟩:=row_slot HC3.out.2.2 hjU;have hg3:=ownsRow_own HC3.out.2.2 (g:=g') rfl;clear hlk h1 h2
     go_wp2_with fail
     go_roundg (Z.length - (n+1))
     case measure=>omega
     case rel=>
      have hU':putBy (fun z:Ent=>key z.1) z U=U.set j z:=put_old (HR.out.2.2.2.2.2.1 ▸ uniq_nodup _) HY.out.1 (HY.out.2.trans HKY.out);have hxz:=HR.out.2.2.2.2.2.2.2.2;refine ⟨n+1,U.set j z,g',c',ks,by omega,rfl,by go_num,by rw [HR.out.2.2.2.2.2.2.2.1,hU'],by rw [List.length_set],HC3.out.1.st (p:=⟨g',j,none⟩) hg2.1 _,?_,?_,HR.out.2.2.2.1.old HY.out.1 (HY.out.2.trans HKY.out),HR.out.2.2.2.2.1⟩
      ·rw [List.length_set,List.map_set]
       rw [<- hxz]; exact ownsRow_put HC3.out.2.2 hjU _
      ·exact HC3.out.2.1.frame (Below.heap_setCell w3 ⟨g',j,none⟩ _ _ (Ne.symm HR.out.2.2.2.2.1))
    | none=>
     rw [hlk] at L1;simp only [Option.getD_none,Option.isSome_none] at L1;have HLK:=Lib.hid hlk;have HST:=Lib.hid (app_ent HC3.out.1 HC3.out.2.2 _ HFz.out.2 (by omega));clear hlk
     go_wp2_with (first | (at_builtin; refine wpList_app rfl _ _ _ rfl rfl rfl HST.out ?_) | fail)
     rintro v' w4 g4 c4 rfl hg4 ho4 hc4
     have hkm:w.heap.size+1 ∉ [g']:=by
      simp only [List.mem_singleton]
      exact fun e=>HR.out.2.2.2.2.1 e.symm
     have hma4:=HC3.out.2.1.frame (hc4.block _ HC3.out.2.1.lt hkm);obtain ⟨w5,hrun,hma5,hon,_,_⟩:=run_update (P:=Tryz.prog) hma4 uMI uS ky (.int .i64 U.length)
     have hidx:((U.length:Int)+1 - 1)=(U.length:Int):=by omega
     have H4:=Lib.hid (And.intro hc4 (And.intro hg4 (And.intro ho4 (And.intro hma5 hon))));have hs4:=hc4.size
     have hUb:U.length<=67108864:=by omega
     clear hc4 hg4 ho4 hma4 hma5 hon hkm
     go_wp2_with fail
     go_roundg (Z.length - (n+1))
     case measure=>omega
     case rel=>
      obtain ⟨hc4,hg4,ho4,hma5,hon⟩:=H4.out
      have hnew:∀ y∈U,key y.1≠key z.1:=fun y hy e=>by
       obtain ⟨i,hi,e2⟩:=List.mem_iff_getElem.1 hy;have:=HR.out.2.2.2.1.1 i y (by rw [List.getElem?_eq_getElem hi,e2]);rw [e,<- HKY.out,HLK.out] at this
       cases this
      have hU':putBy (fun z:Ent=>key z.1) z U=U++[z]:=put_new hnew;have hxz:=HR.out.2.2.2.2.2.2.2.2
      have hne4:g4≠w.heap.size+1:=by
       rcases hg4 with h | h
       ·rw [h]; exact HR.out.2.2.2.2.1
       ·have:=HC3.out.2.1.lt
        omega
      have hcw4:Chg [] w w4:=HC3.out.1.trans hc4 fun y hy=>.inr (by simp at hy; rw [hy]; exact hg2.1)
      refine ⟨n+1,U++[z],g4,c4,_,by omega,rfl,by go_num,by rw [HR.out.2.2.2.2.2.2.2.1,hU'],by simp,hcw4.trans (Chg.only hon (List.mem_singleton.2 rfl)) fun y hy=>.inr (by simp at hy; omega),?_,hma5,?_,hne4⟩
      ·have:=ownsRow_frame ho4 (hon.block g4 hne4)
       rw [List.map_append,List.map_cons,List.map_nil,<- hxz,List.length_append];exact this
      ·have:=HR.out.2.2.2.1.new (z:=z) (by rw [<- HKY.out]; exact HLK.out)
       rw [<- HKY.out] at this;exact this
  ·have hnZ:Z.take n=Z:=List.take_of_length_le (by omega)
   rw [hnZ] at hU;have HR:=Lib.hid (And.intro hcr (And.intro hown hU));clear hcr hown hma hki hU hnZ
   go_wp2_with fail
   go_ret2
   obtain ⟨h1,h2,h3⟩:=HR.out;rw [<- h3]
   exact ⟨g',c',rfl,hg2.1,h1,⟨h2.1,by
    rcases h2.2 with h | ⟨a,b,c,d,e,f⟩
    ·exact .inl h
    ·exact .inr ⟨a,b,c,d,Nat.zero_le _,f⟩⟩⟩
end Go.Proofs.YtpofkokbmifhgaaGreatDoor
