/- Parts of the walk, made small by wip/tools/pack.py: CanP, CanQ, CanS. No condition but those in each statement. -/
import Derived.Test.YtpofkokbmifhgaaGreatDoorL07
import Derived.Lib.ItoaNum
set_option maxRecDepth 100000
set_option maxHeartbeats 20000000
set_option linter.unusedVariables false
set_option linter.unusedSimpArgs false
namespace Go.Proofs.YtpofkokbmifhgaaGreatDoor
def esc (k:ByteArray):ByteArray:=⟨(k.data.toList.flatMap fun b=>if b=46 then [240,159,145,187] else [b]).toArray⟩
def nxt (ps:List ByteArray) (k:ByteArray):ByteArray:=if ps=[] then k else esc k
def pm:List ByteArray->List ByteArray->Bool
 | [],[]=>true
 | q :: qs,p :: ps=>(decide (q=cStar) || decide (q=p)) && pm qs ps
 | _,_=>false
inductive Ix where | kv | dev | mount0 | mountS | env | expose | port | vol
inductive Tr where | envFile | strOrList | gpus | sliceMap | volMount | device | fileMount | ulimits | service | strOrX | keyValue | dependsOn | extends | ports | build | ssh | schedule | external | incl
def uTab:List (List ByteArray × Ix):=[
 ([cNetworks,cStar,cLabels],.kv),([cNetworks,cStar,cIpam,cOptions],.kv),([cServices,cStar,cAnnotations],.kv),([cServices,cStar,cBuild,cArgs],.kv),
 ([cServices,cStar,cBuild,cAdditionalContexts],.kv),([cServices,cStar,cBuild,cPlatform],.kv),([cServices,cStar,cBuild,cTags],.kv),([cServices,cStar,cBuild,cLabels],.kv),
 ([cServices,cStar,cCapAdd],.kv),([cServices,cStar,cCapDrop],.kv),([cServices,cStar,cDevices],.dev),([cServices,cStar,cConfigs],.mount0),
 ([cServices,cStar,cDeploy,cLabels],.kv),([cServices,cStar,cDns],.kv),([cServices,cStar,cDnsOpt],.kv),([cServices,cStar,cDnsSearch],.kv),
 ([cServices,cStar,cEnvironment],.kv),([cServices,cStar,cEnvFile],.env),([cServices,cStar,cExpose],.expose),([cServices,cStar,cLabels],.kv),
 ([cServices,cStar,cLinks],.kv),([cServices,cStar,cNetworks,cStar,cAliases],.kv),([cServices,cStar,cNetworks,cStar,cLinkLocalIps],.kv),([cServices,cStar,cPorts],.port),
 ([cServices,cStar,cProfiles],.kv),([cServices,cStar,cSecrets],.mountS),([cServices,cStar,cSysctls],.kv),([cServices,cStar,cTmpfs],.kv),([cServices,cStar,cVolumes],.vol)]
def tPre (p:List ByteArray):List (List ByteArray × Tr):=[
 (p++[cEnvFile],.envFile),(p++[cLabelFile],.strOrList),(p++[cGpus],.gpus),(p++[cNetworks],.sliceMap),(p++[cModels],.sliceMap),(p++[cVolumes,cStar],.volMount),
 (p++[cDns],.strOrList),(p++[cDevices,cStar],.device),(p++[cSecrets,cStar],.fileMount),(p++[cConfigs,cStar],.fileMount),(p++[cUlimits,cStar],.ulimits)]
def tTop (p:ByteArray):List (List ByteArray × Tr):=[
 ([p,cStar],.service),([p,cStar,cBuild,cSecrets,cStar],.fileMount),([p,cStar,cBuild,cProvenance],.strOrX),([p,cStar,cBuild,cSbom],.strOrX),([p,cStar,cBuild,cAdditionalContexts],.keyValue),
 ([p,cStar,cDependsOn],.dependsOn),([p,cStar,cExtends],.extends),([p,cStar,cPorts],.ports),([p,cStar,cBuild],.build),([p,cStar,cBuild,cSsh],.ssh),([p,cStar,cBuild,cUlimits,cStar],.ulimits)]
def tEnd:List (List ByteArray × Tr):=[
 ([cJobs,cStar,cTriggers,cSchedule,cStar],.schedule),([cServices,cStar,cDevelop,cWatch,cStar,cIgnore],.strOrList),([cServices,cStar,cDevelop,cWatch,cStar,cInclude],.strOrList),
 ([cVolumes,cStar],.external),([cNetworks,cStar],.external),([cSecrets,cStar],.external),([cConfigs,cStar],.external),([cInclude,cStar],.incl)]
def tTab:List (List ByteArray × Tr):=tPre [cServices,cStar]++tPre [cJobs,cStar]++tPre [cServices,cStar,cPreStart,cStar]++tTop cServices++tTop cJobs++tEnd
def ixOf (ps:List ByteArray):Option Ix:=(uTab.find? fun e=>pm e.1 ps).map (·.2)
def trOf (ps:List ByteArray):Option Tr:=(tTab.find? fun e=>pm e.1 ps).map (·.2)
theorem pm_head {q p:ByteArray} {qs ps:List ByteArray} (h:pm (q :: qs) (p :: ps)=true):q=cStar∨q=p:=by
 simp only [pm,Bool.and_eq_true,Bool.or_eq_true,decide_eq_true_eq] at h;exact h.1
theorem pm_tail {q p:ByteArray} {qs ps:List ByteArray} (h:pm (q :: qs) (p :: ps)=true):pm qs ps=true:=by
 simp only [pm,Bool.and_eq_true] at h;exact h.2
theorem find_map_none {α β:Type} {p:α->Bool} {f:α->β} {l:List α} (h:∀ x∈l,p x=false):(l.find? p).map f=none:=by
 rw [List.find?_eq_none.2 (by simpa using h)]
 rfl
def uThirds:List ByteArray:=[cAnnotations,cBuild,cCapAdd,cCapDrop,cDevices,cConfigs,cDeploy,cDns,cDnsOpt,cDnsSearch,cEnvironment,cEnvFile,cExpose,cLabels,cLinks,cNetworks,cPorts,cProfiles,cSecrets,cSysctls,cTmpfs,cVolumes]
def tThirds:List ByteArray:=[cEnvFile,cLabelFile,cGpus,cNetworks,cModels,cVolumes,cDns,cDevices,cSecrets,cConfigs,cUlimits,cPreStart,cBuild,cDependsOn,cExtends,cPorts,cDevelop]
def firsts:List ByteArray:=[cServices,cJobs,cVolumes,cNetworks,cSecrets,cConfigs,cInclude]
def okThird (l:List ByteArray):List ByteArray->Bool
 | q0 :: _ :: q2 :: _=>decide (q0≠cServices/\q0≠cStar) || l.contains q2 && decide (q2≠cStar)
 | _=>true
def okFirst:List ByteArray->Bool
 | q0 :: _=>firsts.contains q0 && decide (q0≠cStar)
 | _=>true
theorem u_okThird:∀ e∈uTab,okThird uThirds e.1=true:=by decide +kernel
theorem t_okThird:∀ e∈tTab,okThird tThirds e.1=true:=by decide +kernel
theorem u_okFirst:∀ e∈uTab,okFirst e.1=true:=by decide +kernel
theorem t_okFirst:∀ e∈tTab,okFirst e.1=true:=by decide +kernel
theorem third_no {l:List ByteArray} {s k:ByteArray} {ext q:List ByteArray} (hk:k ∉ l) (h:okThird l q=true):pm q (cServices :: s :: k :: ext)=false:=by
 cases hp:pm q (cServices :: s :: k :: ext) with
 | false=>rfl
 | true=>
  exfalso
  match q,h,hp with
  | [],_,hp=>simp [pm] at hp
  | [_],_,hp=>simp [pm] at hp
  | [_,_],_,hp=>simp [pm] at hp
  | q0 :: q1 :: q2 :: qs,h,hp=>
   simp only [okThird,Bool.or_eq_true,decide_eq_true_eq,Bool.and_eq_true,List.contains_eq_mem] at h;have h0:=pm_head hp;have h2:=pm_head (pm_tail (pm_tail hp));rcases h with h | h
   ·rcases h0 with h0 | h0
    ·exact h.2 h0
    ·exact h.1 h0
   ·rcases h2 with h2 | h2
    ·exact h.2 h2
    ·exact hk (h2 ▸ h.1)
theorem first_no {p:ByteArray} {ext q:List ByteArray} (hp':p ∉ firsts) (h:okFirst q=true):pm q (p :: ext)=false:=by
 cases hp:pm q (p :: ext) with
 | false=>rfl
 | true=>
  exfalso
  match q,h,hp with
  | [],_,hp=>simp [pm] at hp
  | q0 :: qs,h,hp=>
   simp only [okFirst,Bool.and_eq_true,decide_eq_true_eq,List.contains_eq_mem] at h;rcases pm_head hp with h0 | h0
   ·exact h.2 h0
   ·exact hp' (h0 ▸ h.1)
theorem ix_third {s k:ByteArray} {ext:List ByteArray} (hk:k ∉ uThirds):ixOf (cServices :: s :: k :: ext)=none:=find_map_none fun e he=>third_no hk (u_okThird e he)
theorem tr_third {s k:ByteArray} {ext:List ByteArray} (hk:k ∉ tThirds):trOf (cServices :: s :: k :: ext)=none:=find_map_none fun e he=>third_no hk (t_okThird e he)
theorem ix_first {p:ByteArray} {ext:List ByteArray} (hp:p ∉ firsts):ixOf (p :: ext)=none:=find_map_none fun e he=>first_no hp (u_okFirst e he)
theorem tr_first {p:ByteArray} {ext:List ByteArray} (hp:p ∉ firsts):trOf (p :: ext)=none:=find_map_none fun e he=>first_no hp (t_okFirst e he)
end Go.Proofs.YtpofkokbmifhgaaGreatDoor
namespace Go.Proofs.YtpofkokbmifhgaaGreatDoor
def digits (n:Int):ByteArray:=⟨(Lib.itoa n).toArray⟩
def tg (k:ByteArray):T->Option T
 | .map m=>mget k m
 | _=>none
def strOr (d:ByteArray):Option T->ByteArray
 | some (.text s)=>s
 | _=>d
def numOf:Option T->Int
 | some (.int n)=>n
 | _=>0
def mountKey (pre:ByteArray):T->ByteArray
 | .text s=>pre++cSlash++s
 | .map m=>match mget cTarget m with
  | some t=>strOr ⟨#[]⟩ (some t)
  | none=>pre++cSlash++strOr cNilVerb (mget cSource m)
 | _=>⟨#[]⟩
def portKey (t:T):ByteArray:=strOr cAny4 (tg cHostIp t)++cColon++strOr cNilVerb (tg cPublished t)++cColon++digits (numOf (tg cTarget t))++cSlash++strOr cTcp (tg cProtocol t)
def ixKey:Ix->T->ByteArray
 | .kv,t=>cutK t.txt
 | .expose,t=>t.txt
 | .vol,t=>strOr ⟨#[]⟩ (tg cTarget t)
 | .mount0,t=>mountKey ⟨#[]⟩ t
 | .mountS,t=>mountKey cRunSecrets t
 | .port,t=>portKey t
 | .dev,_=>⟨#[]⟩
 | .env,_=>⟨#[]⟩
def isText:T->Prop
 | .text _=>True
 | _=>False
def textOr (o:Option T):Prop:=∀ x,o=some x->isText x
def ixGood:Ix->T->Prop
 | .kv,t=>isText t
 | .expose,t=>isText t
 | .vol,t=>∃ m s,t=.map m/\mget cTarget m=some (.text s)
 | .mount0,t=>isText t∨∃ m,t=.map m/\textOr (mget cTarget m)/\textOr (mget cSource m)
 | .mountS,t=>isText t∨∃ m,t=.map m/\textOr (mget cTarget m)/\textOr (mget cSource m)
 | .port,t=>∃ m n,t=.map m/\mget cTarget m=some (.int n)/\1<=n/\n<=65535/\textOr (mget cHostIp m)/\textOr (mget cPublished m)/\textOr (mget cProtocol m)
 | .dev,_=>False
 | .env,_=>False
mutual
noncomputable def uniT (ps:List ByteArray):T->T
 | .map m=>.map (uniM ps m)
 | .list l=>match ixOf ps with
  | some ix=>.list (uniqBy (ixKey ix) l)
  | none=>.list l
 | .null=>.null
 | .bool b=>.bool b
 | .int n=>.int n
 | .text s=>.text s
noncomputable def uniM (ps:List ByteArray):List (ByteArray × T)->List (ByteArray × T)
 | []=>[]
 | p :: m=>(p.1,uniT (ps++[nxt ps p.1]) p.2) :: uniM ps m
end
mutual
def UniOK (ps:List ByteArray):T->Prop
 | .map m=>UniOKM ps m
 | .list l=>∀ ix,ixOf ps=some ix->∀ x∈l,ixGood ix x
 | _=>True
def UniOKM (ps:List ByteArray):List (ByteArray × T)->Prop
 | []=>True
 | p :: m=>UniOK (ps++[nxt ps p.1]) p.2/\UniOKM ps m
end
theorem uniM_eq {ps:List ByteArray}:∀ {m:List (ByteArray × T)},uniM ps m=m.map fun p=>(p.1,uniT (ps++[nxt ps p.1]) p.2)
 | []=>by simp [uniM]
 | p :: m=>by simp only [uniM,List.map_cons,uniM_eq (m:=m)]
theorem UniOKM_iff {ps:List ByteArray}:∀ {m:List (ByteArray × T)},UniOKM ps m ↔ ∀ p∈m,UniOK (ps++[nxt ps p.1]) p.2
 | []=>by simp [UniOKM]
 | p :: m=>by simp [UniOKM,UniOKM_iff (m:=m)]
mutual
theorem uniT_none:∀ {t:T} {ps:List ByteArray},(∀ ext,ixOf (ps++ext)=none)->uniT ps t=t/\UniOK ps t
 | .map m,ps,h=>by
  have:=uniM_none (m:=m) h;exact ⟨by simp only [uniT,this.1],this.2⟩
 | .list l,ps,h=>by
  have h0:ixOf ps=none:=by simpa using h []
  refine ⟨by simp only [uniT,h0],fun ix hix=>?_⟩;rw [h0] at hix
  cases hix
 | .null,_,_=>⟨by simp only [uniT],trivial⟩
 | .bool _,_,_=>⟨by simp only [uniT],trivial⟩
 | .int _,_,_=>⟨by simp only [uniT],trivial⟩
 | .text _,_,_=>⟨by simp only [uniT],trivial⟩
theorem uniM_none:∀ {m:List (ByteArray × T)} {ps:List ByteArray},(∀ ext,ixOf (ps++ext)=none)->uniM ps m=m/\UniOKM ps m
 | [],_,_=>⟨by simp only [uniM],trivial⟩
 | p :: m,ps,h=>by
  have h1:=uniT_none (t:=p.2) (ps:=ps++[nxt ps p.1]) fun ext=>by rw [List.append_assoc]; exact h _
  have h2:=uniM_none (m:=m) h;exact ⟨by simp only [uniM,h1.1,h2.1],h1.2,h2.2⟩
end
def impC:T:=.map [(cCondition,.text cServiceStarted),(cRequired,.bool true)]
def needC (d:List (ByteArray × T)):List (ByteArray × T):=
 let e:=if hasK cCondition d then d else mins cCondition (.text cServiceStarted) d
 if hasK cRequired e then e else mins cRequired (.bool true) e
def foldK (x:T) (l:List T):List (ByteArray × T):=l.foldl (fun m t=>mins t.txt x m) []
mutual
def canT (ps:List ByteArray):T->T
 | .map m=>match trOf ps with
  | none=>.map (canM ps m)
  | some .service=>.map (canM ps m)
  | some .external=>.map (canM ps m)
  | some .build=>.map (canM ps m)
  | some .dependsOn=>.map (m.map fun p=>(p.1,.map (needC p.2.m)))
  | some _=>.map m
 | .list l=>match trOf ps with
  | none=>.list (canL (ps++[cElems]) l)
  | some .sliceMap=>.map (foldK .null l)
  | some .dependsOn=>.map (foldK impC l)
  | some _=>.list l
 | .text s=>match trOf ps with
  | some .build=>.map [(cContext,.text s)]
  | some .fileMount=>.map [(cSource,.text s)]
  | some .strOrList=>.list [.text s]
  | _=>.text s
 | .null=>.null
 | .bool b=>.bool b
 | .int n=>.int n
def canM (ps:List ByteArray):List (ByteArray × T)->List (ByteArray × T)
 | []=>[]
 | p :: m=>(p.1,canT (ps++[nxt ps p.1]) p.2) :: canM ps m
def canL (ps:List ByteArray):List T->List T
 | []=>[]
 | t :: l=>canT ps t :: canL ps l
end
def isMap:T->Prop
 | .map _=>True
 | _=>False
mutual
def CanOK (ps:List ByteArray):T->Prop
 | .map m=>match trOf ps with
  | none=>CanOKM ps m
  | some .service=>CanOKM ps m
  | some .external=>CanOKM ps m/\∀ x,mget cExternal m=some x->¬ isMap (canT (ps++[nxt ps cExternal]) x)
  | some .build=>CanOKM ps m
  | some .dependsOn=>∀ p∈m,isMap p.2
  | some .sliceMap=>True
  | some .volMount=>True
  | some .fileMount=>True
  | some .strOrList=>True
  | some _=>False
 | .list l=>match trOf ps with
  | none=>CanOKL (ps++[cElems]) l
  | some .sliceMap=>∀ x∈l,isText x
  | some .dependsOn=>∀ x∈l,isText x
  | some .ports=>l≠[]/\∀ x∈l,isMap x
  | some .strOrList=>True
  | some _=>False
 | .text _=>match trOf ps with
  | none=>True
  | some .service=>True
  | some .build=>True
  | some .fileMount=>True
  | some .strOrList=>True
  | some _=>False
 | .null=>match trOf ps with
  | none=>True
  | some .service=>True
  | some .external=>True
  | some .strOrList=>True
  | some .sliceMap=>True
  | some _=>False
 | _=>match trOf ps with
  | none=>True
  | some .service=>True
  | some .strOrList=>True
  | some .sliceMap=>True
  | some _=>False
def CanOKM (ps:List ByteArray):List (ByteArray × T)->Prop
 | []=>True
 | p :: m=>CanOK (ps++[nxt ps p.1]) p.2/\CanOKM ps m
def CanOKL (ps:List ByteArray):List T->Prop
 | []=>True
 | t :: l=>CanOK ps t/\CanOKL ps l
end
theorem canM_eq {ps:List ByteArray}:∀ {m:List (ByteArray × T)},canM ps m=m.map fun p=>(p.1,canT (ps++[nxt ps p.1]) p.2)
 | []=>by simp [canM]
 | p :: m=>by simp only [canM,List.map_cons,canM_eq (m:=m)]
theorem canL_eq {ps:List ByteArray}:∀ {l:List T},canL ps l=l.map (canT ps)
 | []=>by simp [canL]
 | t :: l=>by simp only [canL,List.map_cons,canL_eq (l:=l)]
theorem CanOKM_iff {ps:List ByteArray}:∀ {m:List (ByteArray × T)},CanOKM ps m ↔ ∀ p∈m,CanOK (ps++[nxt ps p.1]) p.2
 | []=>by simp [CanOKM]
 | p :: m=>by simp [CanOKM,CanOKM_iff (m:=m)]
theorem CanOKL_iff {ps:List ByteArray}:∀ {l:List T},CanOKL ps l ↔ ∀ x∈l,CanOK ps x
 | []=>by simp [CanOKL]
 | t :: l=>by simp [CanOKL,CanOKL_iff (l:=l)]
mutual
theorem canT_none:∀ {t:T} {ps:List ByteArray},(∀ ext,trOf (ps++ext)=none)->canT ps t=t/\CanOK ps t
 | .map m,ps,h=>by
  have h0:trOf ps=none:=by simpa using h []
  have:=canM_none (m:=m) h;exact ⟨by simp only [canT,h0,this.1],by simp only [CanOK,h0]; exact this.2⟩
 | .list l,ps,h=>by
  have h0:trOf ps=none:=by simpa using h []
  have:=canL_none (l:=l) (ps:=ps++[cElems]) fun ext=>by rw [List.append_assoc]; exact h _
  exact ⟨by simp only [canT,h0,this.1],by simp only [CanOK,h0]; exact this.2⟩
 | .null,ps,h=>by
  have h0:trOf ps=none:=by simpa using h []
  exact ⟨by simp only [canT],by simp only [CanOK,h0]⟩
 | .bool _,ps,h=>by
  have h0:trOf ps=none:=by simpa using h []
  exact ⟨by simp only [canT],by simp only [CanOK,h0]⟩
 | .int _,ps,h=>by
  have h0:trOf ps=none:=by simpa using h []
  exact ⟨by simp only [canT],by simp only [CanOK,h0]⟩
 | .text _,ps,h=>by
  have h0:trOf ps=none:=by simpa using h []
  exact ⟨by simp only [canT,h0],by simp only [CanOK,h0]⟩
theorem canM_none:∀ {m:List (ByteArray × T)} {ps:List ByteArray},(∀ ext,trOf (ps++ext)=none)->canM ps m=m/\CanOKM ps m
 | [],_,_=>⟨by simp only [canM],trivial⟩
 | p :: m,ps,h=>by
  have h1:=canT_none (t:=p.2) (ps:=ps++[nxt ps p.1]) fun ext=>by rw [List.append_assoc]; exact h _
  have h2:=canM_none (m:=m) h;exact ⟨by simp only [canM,h1.1,h2.1],h1.2,h2.2⟩
theorem canL_none:∀ {l:List T} {ps:List ByteArray},(∀ ext,trOf (ps++ext)=none)->canL ps l=l/\CanOKL ps l
 | [],_,_=>⟨by simp only [canL],trivial⟩
 | t :: l,ps,h=>by
  have h1:=canT_none (t:=t) h;have h2:=canL_none (l:=l) h;exact ⟨by simp only [canL,h1.1,h2.1],h1.2,h2.2⟩
end
end Go.Proofs.YtpofkokbmifhgaaGreatDoor
namespace Go.Proofs.YtpofkokbmifhgaaGreatDoor
def textA:List ByteArray:=[cImage,cUser,cHostname,cDomainname,cWorkingDir,cContainerName,cRestart,cPlatform,cStopSignal,cRuntime]
def boolA:List ByteArray:=[cPrivileged,cReadOnly,cInit,cTty,cStdinOpen]
def listA:List ByteArray:=[cCapAdd,cCapDrop,cDns,cDnsSearch,cDnsOpt,cSecurityOpt,cSecrets,cConfigs]
def namedA:List ByteArray:=[cEnvironment,cLabels,cAnnotations,cSysctls]
def uniqA:List ByteArray:=[cVolumes,cPorts,cCapAdd,cCapDrop,cDns,cDnsSearch,cDnsOpt,cExpose,cSecrets,cConfigs]
def plainA:List ByteArray:=textA++boolA++[cSecurityOpt,cCommand,cEntrypoint,cHealthcheck,cLogging]
def buildKeys:List ByteArray:=[cContext,cDockerfile,cTarget,cNetwork,cPrivileged,cNoCache]
def ExtraK (k:ByteArray):Prop:=∃ c:UInt8,97<=c/\c<=122/\k=⟨#[120,45,c]⟩
def NoByte (b:UInt8) (s:ByteArray):Prop:=b ∉ s.data.toList
def isScalar:T->Prop
 | .text _=>True
 | .int _=>True
 | .bool _=>True
 | _=>False
def isLeaf:T->Prop
 | .text _=>True
 | .bool _=>True
 | _=>False
def wordOr (b:UInt8) (o:Option T):Prop:=∀ x,o=some x->∃ s,x=.text s/\NoByte b s
def PortOK (t:T):Prop:=∃ m n,t=.map m/\mget cTarget m=some (.int n)/\1<=n/\n<=65535/\wordOr 58 (mget cHostIp m)/\(∀ x,mget cPublished m=some x->∃ s,x=.text s/\NoByte 58 s/\NoByte 37 s)/\textOr (mget cProtocol m)
inductive AttrOK:ByteArray->T->Prop where
 | plain {k v}:k∈plainA∨ExtraK k->AttrOK k v
 | named {k m}:k∈namedA->(∀ p∈m,isScalar p.2)->AttrOK k (.map m)
 | namedList {k l}:k∈namedA->(∀ x∈l,isText x)->AttrOK k (.list l)
 | words {k l}:k∈[cCapAdd,cCapDrop,cDns,cDnsSearch,cDnsOpt]->(∀ x∈l,∃ s,x=.text s/\NoByte 61 s)->AttrOK k (.list l)
 | files {k l}:k∈[cSecrets,cConfigs]->(∀ x∈l,∃ s,x=.text s/\NoByte 61 s)->AttrOK k (.list l)
 | expose {l}:(∀ x∈l,isText x)->AttrOK cExpose (.list l)
 | needsList {l}:(∀ x∈l,isText x)->AttrOK cDependsOn (.list l)
 | needs {m}:(∀ p∈m,∃ d,p.2=.map d/\hasK cCondition d=true)->AttrOK cDependsOn (.map m)
 | netsList {l}:(∀ x∈l,isText x)->AttrOK cNetworks (.list l)
 | nets {m}:(∀ p∈m,p.2=.null∨∃ s,p.2=.map [(cIpv4Address,.text s)])->AttrOK cNetworks (.map m)
 | buildText {s}:AttrOK cBuild (.text s)
 | build {m}:(∀ p∈m,p.1∈buildKeys/\isLeaf p.2)->AttrOK cBuild (.map m)
 | volumes {l}:(∀ x∈l,∃ m s,x=.map m/\mget cTarget m=some (.text s))->AttrOK cVolumes (.list l)
 | ports {l}:l≠[]->(∀ x∈l,PortOK x)->AttrOK cPorts (.list l)
def SvcSaid (s:T):Prop:=∃ m,s=.map m/\∀ p∈m,AttrOK p.1 p.2
def ResSaid (t:T):Prop:=t=.null∨∃ m,t=.map m/\∀ p∈m,isLeaf p.2
inductive TopOKc:ByteArray->T->Prop where
 | name {s}:TopOKc cName (.text s)
 | services {m}:(∀ p∈m,SvcSaid p.2)->TopOKc cServices (.map m)
 | nets {m}:(∀ p∈m,ResSaid p.2)->TopOKc cNetworks (.map m)
 | vols {m}:(∀ p∈m,ResSaid p.2)->TopOKc cVolumes (.map m)
 | extra {k v}:ExtraK k->TopOKc k v
def SaysOK (m:List (ByteArray × T)):Prop:=∀ p∈m,TopOKc p.1 p.2
def useT (k:ByteArray) (t:T):T:=match t with
 | .text s=>.text s
 | t=>if k=cPorts then .list [(tg cTarget t).getD .null,(tg cPublished t).getD .null,(tg cProtocol t).getD .null,(tg cHostIp t).getD .null] else (tg cTarget t).getD .null
def usual (k:ByteArray) (t:T):T:=if k=cPorts then
  let a:=if hasK cProtocol t.m then t.m else mins cProtocol (.text cTcp) t.m
  .map (if hasK cHostIp a then a else mins cHostIp (.text cAny4) a)
 else t
def SaidU (k:ByteArray) (l:List T):Prop:=∀ n x,l[n]?=some x->∀ y∈uniqBy (useT k) (l.take n),useT k y=useT k x∨useT k (usual k y)≠useT k (usual k x)
def canonN:T->T
 | .list l=>.map (namedL l)
 | t=>t
def needR (d:T):T:=if hasK cRequired d.m then d else .map (mins cRequired (.bool true) d.m)
def needsC:T->T
 | .map m=>.map (m.map fun p=>(p.1,needR p.2))
 | t=>.map (foldK impC t.vals)
def netsC:T->T
 | .map m=>.map m
 | t=>.map (foldK .null t.vals)
def buildC:T->T
 | .text s=>.map [(cContext,.text s)]
 | t=>t
def fileC:T->T
 | .text s=>.map [(cSource,.text s)]
 | t=>t
def filesC (t:T):T:=.list (t.vals.map fileC)
noncomputable def uniqC (k:ByteArray) (t:T):T:=if k∈uniqA then .list (uniqBy (useT k) t.vals) else t
noncomputable def canonA (k:ByteArray) (t:T):T:=
 let v:=uniqC k t
 if k∈namedA then canonN v else if k=cDependsOn then needsC v else if k=cNetworks then netsC v else if k=cBuild then buildC v else if k=cSecrets∨k=cConfigs then filesC v else v
noncomputable def canonSvc (t:T):T:=.map (t.m.map fun p=>(p.1,canonA p.1 p.2))
noncomputable def canonS (m:List (ByteArray × T)):List (ByteArray × T):=match mget cServices m with
 | some x=>mins cServices (.map (x.m.map fun p=>(p.1,canonSvc p.2))) m
 | none=>m
def SaidM (m:List (ByteArray × T)):Prop:=∀ l,mget cServices m=some (.map l)->∀ p∈l,∀ q∈p.2.m,q.1∈uniqA->SaidU q.1 q.2.vals
def viewW:T->T
 | .text s=>.text s
 | .int n=>.text (digits n)
 | .bool b=>.text (if b then cTrue else cFalse)
 | t=>t
def viewN:T->T
 | .list l=>.map (namedL l)
 | .map m=>.map (m.map fun p=>(p.1,viewW p.2))
 | t=>t
def viewA (k:ByteArray) (t:T):T:=if k∈namedA then viewN t else t
def viewSvc:T->T
 | .map s=>.map (s.map fun p=>(p.1,viewA p.1 p.2))
 | t=>t
def viewM (m:List (ByteArray × T)):List (ByteArray × T):=match mget cServices m with
 | some (.map l)=>mins cServices (.map (l.map fun p=>(p.1,viewSvc p.2))) m
 | _=>m
end Go.Proofs.YtpofkokbmifhgaaGreatDoor
