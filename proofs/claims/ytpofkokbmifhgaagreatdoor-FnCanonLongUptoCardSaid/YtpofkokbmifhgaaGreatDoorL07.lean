/- Parts of the walk, made small by wip/tools/pack.py: KeysC, SayD, M, Raw, CanT. No condition but those in each statement. -/
import Derived.Test.YtpofkokbmifhgaaGreatDoorL01
import Derived.Test.YtpofkokbmifhgaaGreatDoorL06
import Derived.Test.YtpofkokbmifhgaaGreatDoorL05
import Derived.ChangeArms
set_option maxRecDepth 100000
set_option maxHeartbeats 20000000
set_option linter.unusedVariables false
set_option linter.unusedSimpArgs false
namespace Go.Proofs.YtpofkokbmifhgaaGreatDoor
abbrev cServices:ByteArray:=⟨#[115,101,114,118,105,99,101,115]⟩
abbrev cJobs:ByteArray:=⟨#[106,111,98,115]⟩
abbrev cNetworks:ByteArray:=⟨#[110,101,116,119,111,114,107,115]⟩
abbrev cVolumes:ByteArray:=⟨#[118,111,108,117,109,101,115]⟩
abbrev cSecrets:ByteArray:=⟨#[115,101,99,114,101,116,115]⟩
abbrev cConfigs:ByteArray:=⟨#[99,111,110,102,105,103,115]⟩
abbrev cInclude:ByteArray:=⟨#[105,110,99,108,117,100,101]⟩
abbrev cName:ByteArray:=⟨#[110,97,109,101]⟩
abbrev cEnvironment:ByteArray:=⟨#[101,110,118,105,114,111,110,109,101,110,116]⟩
abbrev cLabels:ByteArray:=⟨#[108,97,98,101,108,115]⟩
abbrev cAnnotations:ByteArray:=⟨#[97,110,110,111,116,97,116,105,111,110,115]⟩
abbrev cSysctls:ByteArray:=⟨#[115,121,115,99,116,108,115]⟩
abbrev cPorts:ByteArray:=⟨#[112,111,114,116,115]⟩
abbrev cCapAdd:ByteArray:=⟨#[99,97,112,95,97,100,100]⟩
abbrev cCapDrop:ByteArray:=⟨#[99,97,112,95,100,114,111,112]⟩
abbrev cDns:ByteArray:=⟨#[100,110,115]⟩
abbrev cDnsSearch:ByteArray:=⟨#[100,110,115,95,115,101,97,114,99,104]⟩
abbrev cDnsOpt:ByteArray:=⟨#[100,110,115,95,111,112,116]⟩
abbrev cExpose:ByteArray:=⟨#[101,120,112,111,115,101]⟩
abbrev cSecurityOpt:ByteArray:=⟨#[115,101,99,117,114,105,116,121,95,111,112,116]⟩
abbrev cImage:ByteArray:=⟨#[105,109,97,103,101]⟩
abbrev cUser:ByteArray:=⟨#[117,115,101,114]⟩
abbrev cHostname:ByteArray:=⟨#[104,111,115,116,110,97,109,101]⟩
abbrev cDomainname:ByteArray:=⟨#[100,111,109,97,105,110,110,97,109,101]⟩
abbrev cWorkingDir:ByteArray:=⟨#[119,111,114,107,105,110,103,95,100,105,114]⟩
abbrev cContainerName:ByteArray:=⟨#[99,111,110,116,97,105,110,101,114,95,110,97,109,101]⟩
abbrev cRestart:ByteArray:=⟨#[114,101,115,116,97,114,116]⟩
abbrev cPlatform:ByteArray:=⟨#[112,108,97,116,102,111,114,109]⟩
abbrev cStopSignal:ByteArray:=⟨#[115,116,111,112,95,115,105,103,110,97,108]⟩
abbrev cRuntime:ByteArray:=⟨#[114,117,110,116,105,109,101]⟩
abbrev cPrivileged:ByteArray:=⟨#[112,114,105,118,105,108,101,103,101,100]⟩
abbrev cReadOnly:ByteArray:=⟨#[114,101,97,100,95,111,110,108,121]⟩
abbrev cInit:ByteArray:=⟨#[105,110,105,116]⟩
abbrev cTty:ByteArray:=⟨#[116,116,121]⟩
abbrev cStdinOpen:ByteArray:=⟨#[115,116,100,105,110,95,111,112,101,110]⟩
abbrev cCommand:ByteArray:=⟨#[99,111,109,109,97,110,100]⟩
abbrev cEntrypoint:ByteArray:=⟨#[101,110,116,114,121,112,111,105,110,116]⟩
abbrev cHealthcheck:ByteArray:=⟨#[104,101,97,108,116,104,99,104,101,99,107]⟩
abbrev cDependsOn:ByteArray:=⟨#[100,101,112,101,110,100,115,95,111,110]⟩
abbrev cBuild:ByteArray:=⟨#[98,117,105,108,100]⟩
abbrev cLogging:ByteArray:=⟨#[108,111,103,103,105,110,103]⟩
abbrev cCondition:ByteArray:=⟨#[99,111,110,100,105,116,105,111,110]⟩
abbrev cRequired:ByteArray:=⟨#[114,101,113,117,105,114,101,100]⟩
abbrev cServiceStarted:ByteArray:=⟨#[115,101,114,118,105,99,101,95,115,116,97,114,116,101,100]⟩
abbrev cContext:ByteArray:=⟨#[99,111,110,116,101,120,116]⟩
abbrev cSource:ByteArray:=⟨#[115,111,117,114,99,101]⟩
abbrev cTarget:ByteArray:=⟨#[116,97,114,103,101,116]⟩
abbrev cPublished:ByteArray:=⟨#[112,117,98,108,105,115,104,101,100]⟩
abbrev cProtocol:ByteArray:=⟨#[112,114,111,116,111,99,111,108]⟩
abbrev cHostIp:ByteArray:=⟨#[104,111,115,116,95,105,112]⟩
abbrev cTest:ByteArray:=⟨#[116,101,115,116]⟩
abbrev cDriver:ByteArray:=⟨#[100,114,105,118,101,114]⟩
abbrev cOptions:ByteArray:=⟨#[111,112,116,105,111,110,115]⟩
abbrev cExternal:ByteArray:=⟨#[101,120,116,101,114,110,97,108]⟩
abbrev cIpv4Address:ByteArray:=⟨#[105,112,118,52,95,97,100,100,114,101,115,115]⟩
abbrev cDockerfile:ByteArray:=⟨#[100,111,99,107,101,114,102,105,108,101]⟩
abbrev cNetwork:ByteArray:=⟨#[110,101,116,119,111,114,107]⟩
abbrev cNoCache:ByteArray:=⟨#[110,111,95,99,97,99,104,101]⟩
abbrev cInterval:ByteArray:=⟨#[105,110,116,101,114,118,97,108]⟩
abbrev cTimeout:ByteArray:=⟨#[116,105,109,101,111,117,116]⟩
abbrev cStartPeriod:ByteArray:=⟨#[115,116,97,114,116,95,112,101,114,105,111,100]⟩
abbrev cTcp:ByteArray:=⟨#[116,99,112]⟩
abbrev cPreStart:ByteArray:=⟨#[112,114,101,95,115,116,97,114,116]⟩
abbrev cEnvFile:ByteArray:=⟨#[101,110,118,95,102,105,108,101]⟩
abbrev cLabelFile:ByteArray:=⟨#[108,97,98,101,108,95,102,105,108,101]⟩
abbrev cGpus:ByteArray:=⟨#[103,112,117,115]⟩
abbrev cModels:ByteArray:=⟨#[109,111,100,101,108,115]⟩
abbrev cDevices:ByteArray:=⟨#[100,101,118,105,99,101,115]⟩
abbrev cUlimits:ByteArray:=⟨#[117,108,105,109,105,116,115]⟩
abbrev cProvenance:ByteArray:=⟨#[112,114,111,118,101,110,97,110,99,101]⟩
abbrev cSbom:ByteArray:=⟨#[115,98,111,109]⟩
abbrev cAdditionalContexts:ByteArray:=⟨#[97,100,100,105,116,105,111,110,97,108,95,99,111,110,116,101,120,116,115]⟩
abbrev cExtends:ByteArray:=⟨#[101,120,116,101,110,100,115]⟩
abbrev cSsh:ByteArray:=⟨#[115,115,104]⟩
abbrev cTriggers:ByteArray:=⟨#[116,114,105,103,103,101,114,115]⟩
abbrev cSchedule:ByteArray:=⟨#[115,99,104,101,100,117,108,101]⟩
abbrev cDevelop:ByteArray:=⟨#[100,101,118,101,108,111,112]⟩
abbrev cWatch:ByteArray:=⟨#[119,97,116,99,104]⟩
abbrev cIgnore:ByteArray:=⟨#[105,103,110,111,114,101]⟩
abbrev cArgs:ByteArray:=⟨#[97,114,103,115]⟩
abbrev cTags:ByteArray:=⟨#[116,97,103,115]⟩
abbrev cIpam:ByteArray:=⟨#[105,112,97,109]⟩
abbrev cAliases:ByteArray:=⟨#[97,108,105,97,115,101,115]⟩
abbrev cLinkLocalIps:ByteArray:=⟨#[108,105,110,107,95,108,111,99,97,108,95,105,112,115]⟩
abbrev cLinks:ByteArray:=⟨#[108,105,110,107,115]⟩
abbrev cProfiles:ByteArray:=⟨#[112,114,111,102,105,108,101,115]⟩
abbrev cTmpfs:ByteArray:=⟨#[116,109,112,102,115]⟩
abbrev cDeploy:ByteArray:=⟨#[100,101,112,108,111,121]⟩
abbrev cStar:ByteArray:=⟨#[42]⟩
abbrev cElems:ByteArray:=⟨#[91,93]⟩
abbrev cAny4:ByteArray:=⟨#[48,46,48,46,48,46,48]⟩
abbrev cRunSecrets:ByteArray:=⟨#[47,114,117,110,47,115,101,99,114,101,116,115]⟩
abbrev cSlash:ByteArray:=⟨#[47]⟩
abbrev cColon:ByteArray:=⟨#[58]⟩
abbrev cNilVerb:ByteArray:=⟨#[37,33,115,40,60,110,105,108,62,41]⟩
abbrev cTrue:ByteArray:=⟨#[116,114,117,101]⟩
abbrev cFalse:ByteArray:=⟨#[102,97,108,115,101]⟩
abbrev cDot:ByteArray:=⟨#[46]⟩
abbrev cGhost:ByteArray:=⟨#[240,159,145,187]⟩
end Go.Proofs.YtpofkokbmifhgaaGreatDoor
namespace Go.Proofs.YtpofkokbmifhgaaGreatDoor
open Go.RowKit
variable {o:Nat->Prop}
structure Fine (t:T):Prop where
 wf:WF 67108864 t
 size:T.size t<=67108864
theorem Fine.vals {t:T} (h:Fine t) {x:T} (hx:x∈t.vals):Fine x:=by
 refine ⟨h.wf.vals x hx,?_⟩;obtain ⟨j,hj,e⟩:=List.mem_iff_getElem.1 hx
 have h1:=T.sizeL_at (l:=t.vals) (j:=j) (t:=x) (by rw [List.getElem?_eq_getElem hj,e])
 have h2:=T.size_vals t;have:=h.size
 omega
theorem Fine.len {t:T} (h:Fine t):t.vals.length<=67108864/\t.keys.length<=t.vals.length/\t.keys.length<=67108864:=by
 have h1:=T.vals_len t;have h2:=T.keys_vals t;have:=h.size
 omega
theorem Fine.txt {t:T} (h:Fine t):t.txt.size<=67108864:=h.wf.txt
theorem Fine.key {t:T} (h:Fine t) {k:ByteArray} (hk:k∈t.keys):k.size<=67108864:=h.wf.keys k hk
theorem Fine.get {t:T} (h:Fine t) {k:ByteArray} {x:T} (hg:tget k t=some x):Fine x:=by
 cases t with
 | map m=>
  have:=get_some (hg:mget k m=some x);exact h.vals (List.mem_map.2 ⟨_,this,rfl⟩)
 | _=>cases hg
theorem Fine.null:Fine .null:=⟨trivial,by decide⟩
theorem Fine.getD {t:T} (h:Fine t) (k:ByteArray):Fine ((tget k t).getD .null):=by
 cases hg:tget k t with
 | none=>exact Fine.null
 | some x=>exact h.get hg
theorem cell_al {w:World} {g j:Nat} {v:Value} (h:w.cell? ⟨g,j,none⟩=some v):∀ ob,(w.alloc ob).cell? ⟨g,j,none⟩=some v:=fun ob=>
 (World.cell?_of_block (heap_alloc_old w ob g (World.block_lt_of_cell? w _ h))).trans h
def ResAt (t:T) (n:Nat):Prop:=∀ j,j < n->∀ x,t.vals[j]?=some x->x.kind=0∨(x.kind=5/\Known [cDriver,cName] [cExternal] x x.keys.length)
theorem ResAt.step {t:T} {n:Nat} (h:ResAt t n) {x:T} (hx:t.vals[n]?=some x) (hq:x.kind=0∨(x.kind=5/\Known [cDriver,cName] [cExternal] x x.keys.length)):ResAt t (n+1):=fun j hj x' hx'=>by
 rcases Nat.lt_or_ge j n with h' | h'
 ·exact h j h' x' hx'
 ·obtain rfl:j=n:=by omega
  rw [hx] at hx'
  cases hx'
  exact hq
theorem heap_al1 (w:World) (o1 o2:Obj):((w.alloc o1).alloc o2).heap[w.heap.size]?=some o1:=(heap_alloc_old _ _ _ (by simp)).trans (heap_alloc_new _ _)
theorem sayResources_any (t:T) (v:Value) (w:World) (h:Rd o w t v) (hf:Fine t):Calls Tryz.prog 41 #[v] w (SomeQ (t.kind=5/\ResAt t t.keys.length) w):=by
 obtain ⟨A3,q3,A4,q4,rfl,hk,hv⟩:=h.five;have hkl:=hf.len
 go_enter Tryz.func41,Tryz.ntmps41
 go_wp2
 go_loopg [3] t.keys.length (fun g i wr=>∃ n:Nat,n<=t.keys.length/\g=t.keys.length - n/\i=.int .i64 n/\Chg [] w wr/\wr.heap[w.heap.size]?=some (.cells #[.int .i64 t.kind,.int .i64 t.num,.string t.txt,.slice A3 t.keys.length q3,.slice A4 t.vals.length q4] 25)/\ResAt t n)
 case atStart=>exact ⟨0,Nat.zero_le _,by omega,rfl,(Chg.refl [] w).al _,heap_alloc_new _ _,fun j hj=>absurd hj (Nat.not_lt_zero j)⟩
 case round=>
  obtain ⟨n,hn,rfl,rfl,hcr,z1,hat⟩:=hrel
  have HAT:=Lib.hid hat
  clear hat
  obtain ⟨a0,a1,a2,a3,a4,af⟩:=cells5 z1
  by_cases hlt:n < t.keys.length
  ·obtain ⟨s,hs1⟩ : ∃ s,t.keys[n]?=some s:=⟨_,List.getElem?_eq_getElem hlt⟩
   obtain ⟨x,hx⟩ : ∃ x,t.vals[n]?=some x:=⟨_,List.getElem?_eq_getElem (by omega)⟩
   obtain ⟨gk,ck,ek,hgk,yk⟩:=hk.elem hs1;obtain ⟨ge,c1,A5,q5,A6,q6,e1,hge,rx,ye⟩:=hv.elem hx
   cases e1
   cases ek
   have hfx:=hf.vals (List.mem_of_getElem? hx);have hfs:=hf.key (List.mem_of_getElem? hs1)
   have hnv:n < t.vals.length:=by omega
   have YK:=Lib.hid yk;have HX:=Lib.hid hx;obtain ⟨y0,y1,y2,y3,y4⟩:=ye _ hcr;clear hs1 hx ye yk;have hyk:=YK.out _ (hcr.al (.cells #[.int .i64 x.kind,.int .i64 x.num,.string x.txt,.slice A5 x.keys.length q5,.slice A6 x.vals.length q6] 25));have b3:=cell_al a3
   go_wp2_with fail
   refine (sayName_any s _ hfs).mono ?_;rintro e w1 ⟨b,rfl,hc⟩;have hcw:=(hcr.al _).trans hc New.nil;have z2:=box5 ((heap_alloc_old wr (.cells #[.int .i64 x.kind,.int .i64 x.num,.string x.txt,.slice A5 x.keys.length q5,.slice A6 x.vals.length q6] 25) _ (Array.getElem?_eq_some_iff.1 z1).1).trans z1) _ hc
   cases b
   ·go_wp2
    go_ret
    exact ⟨_,rfl,hcw,fun h=>by cases h⟩
   ·obtain ⟨d0,d1,d2,d3,d4,df⟩:=cells5 (box5 (heap_alloc_new wr (.cells #[.int .i64 x.kind,.int .i64 x.num,.string x.txt,.slice A5 x.keys.length q5,.slice A6 x.vals.length q6] 25)) _ hc)
    clear hc
    by_cases hx0:x.kind=0
    ·have hx0':(x.kind != 0)=false:=by rw [hx0]; rfl
     have HX0:=Lib.hid hx0;clear hx0
     go_wp2
     go_roundg (t.keys.length - (n+1))
     case measure=>omega
     case rel=>exact ⟨n+1,by omega,rfl,by go_num,hcw,z2,HAT.out.step HX.out (.inl HX0.out)⟩
    ·have hx0':(x.kind != 0)=true:=by simpa using hx0
     clear hx0
     go_wp2_with fail
     refine (sayKnown_any (o:=fun _=>True) x _ [cDriver,cName] [cExternal] _ _ _ ((rx.weak (fun _ _=>trivial)).chg ((hcw.al _).al _)) ((RdK.lit [cDriver,cName] (heap_al1 w1 _ _) rfl)) (RdK.lit [cExternal] (heap_al2 w1 _ _) rfl) (fun y hy=>(hfx.vals hy).txt) hfx.len.1 (by decide) (by decide)).mono ?_;rintro e w2 ⟨b,rfl,hc2,hq⟩;have hcw2:=((hcw.al _).al _).trans hc2 New.nil
     cases b
     ·go_wp2
      go_ret
      exact ⟨_,rfl,hcw2,fun h=>by cases h⟩
     ·have HQ:=Lib.hid (hq rfl)
      clear hq
      go_wp2
      go_roundg (t.keys.length - (n+1))
      case measure=>omega
      case rel=>exact ⟨n+1,by omega,rfl,by go_num,hcw2,box5 ((heap_alloc_old _ _ _ (by have:=(Array.getElem?_eq_some_iff.1 z2).1; simp; omega)).trans ((heap_alloc_old _ _ _ (Array.getElem?_eq_some_iff.1 z2).1).trans z2)) _ hc2,HAT.out.step HX.out (.inr ⟨HQ.out.1,HQ.out.2.2⟩)⟩
  ·have HE:=Lib.hid (show n=t.keys.length by omega)
   have hkk:(t.kind == 5)=decide (t.kind=5):=by rw [Bool.eq_iff_iff]; simp
   go_wp2
   go_ret
   refine ⟨_,rfl,hcr,fun h=>⟨by simpa using h,?_⟩⟩;have:=HAT.out
   rwa [HE.out] at this
end Go.Proofs.YtpofkokbmifhgaaGreatDoor
namespace Go.Proofs.YtpofkokbmifhgaaGreatDoor
open Go.RowKit
variable {o:Nat->Prop}
@[go_sem] theorem tb_spec (v:Value) (w:World):(Instr.typeAssert (.iface 25 v) 20 25 false).run Tryz.prog w=.ok v w:=by kernel_rfl
def OffB (o:Nat->Prop) (B1 B2 b:Nat):Prop:=o b/\b≠B1/\b≠B2
def insAll (l:List (ByteArray × T)):List (ByteArray × T):=l.foldl (fun m p=>mins p.1 p.2 m) []
theorem foldl_srt:∀ (l:List (ByteArray × T)) (m:List (ByteArray × T)),Srt m->Srt (l.foldl (fun m p=>mins p.1 p.2 m) m)
 | [],_,h=>h
 | p :: l,_,h=>foldl_srt l _ h.srt_ins
theorem insAll_srt {l:List (ByteArray × T)}:Srt (insAll l):=foldl_srt l [] List.Pairwise.nil
theorem insAll_snoc {l:List (ByteArray × T)} {n:Nat} {p:ByteArray × T} (h:l[n]?=some p):insAll (l.take (n+1))=mins p.1 p.2 (insAll (l.take n)):=by
 rw [take_snoc h];simp [insAll]
theorem ins_len_le {α:Type} {k:ByteArray} {x:α}:∀ {m:List (ByteArray × α)},(mins k x m).length<=m.length+1
 | []=>by simp [mins]
 | p :: m=>by
  unfold mins
  split
  ·simp
  ·split
   ·have:=ins_len_le (k:=k) (x:=x) (m:=m)
    simp
    omega
   ·simp
theorem foldl_len:∀ (l:List (ByteArray × T)) (m:List (ByteArray × T)),(l.foldl (fun m p=>mins p.1 p.2 m) m).length<=m.length+l.length
 | [],_=>by simp
 | p :: l,m=>by
  have h1:=foldl_len l (mins p.1 p.2 m);have h2:=ins_len_le (k:=p.1) (x:=p.2) (m:=m);simp only [List.foldl_cons,List.length_cons]
  omega
theorem insAll_len (l:List (ByteArray × T)):(insAll l).length<=l.length:=by have:=foldl_len l []; simpa [insAll] using this
theorem Rd.five_map {w:World} {m:List (ByteArray × T)} {v:Value} (h:Rd o w (.map m) v):∃ A3 q3 A4 q4,v=.agg #[.int .i64 5,.int .i64 0,.string ⟨#[]⟩,.slice A3 m.length q3,.slice A4 m.length q4]:=by
 obtain ⟨A3,q3,A4,q4,rfl,_⟩:=h.five;exact ⟨A3,q3,A4,q4,by simp [T.kind,T.num,T.txt,T.keys,T.vals]⟩
theorem store5 {F:List Nat} {w0 w:World} {B:Nat} {e:TypeId} {a0 a1 a2 a3 a4:Value} (h:w.heap[B]?=some (.cells #[a0,a1,a2,a3,a4] e)) (hc:Chg F w0 w) (hB:w0.heap.size<=B) (b0 b1 b2 b3 b4:Value) :
  ∃ W,W=(((((w.setCell ⟨B,0,none⟩ b0).setCell ⟨B,1,none⟩ b1).setCell ⟨B,2,none⟩ b2).setCell ⟨B,3,none⟩ b3).setCell ⟨B,4,none⟩ b4)/\W.heap[B]?=some (.cells #[b0,b1,b2,b3,b4] e)/\(∀ g,g≠B->W.heap[g]?=w.heap[g]?)/\Chg F w0 W/\W.heap.size=w.heap.size:=
 ⟨_,rfl,setCells5 w B b0 b1 b2 b3 b4 h,setCells5_ne w B b0 b1 b2 b3 b4,setCells5_chg hc hB b0 b1 b2 b3 b4,by simp⟩
theorem specM (l:List (ByteArray × T)) (ga C:Nat) (w:World) (hga:ga < w.heap.size) (hrow:∀ j k x,l[j]?=some (k,x)->w.cell? ⟨ga,2 * j,none⟩=some (.iface 9 (.string k))/\∃ v,w.cell? ⟨ga,2 * j+1,none⟩=some (.iface 25 v)/\Rd o w x v)
  (hl:l.length<=33554432) (hno:∀ b,w.heap.size<=b->o b) :
  Calls Tryz.prog 44 #[.slice (some ⟨ga,0,none⟩) (2 * l.length) C] w fun e w'=>∃ v,e=.returned v/\Chg [] w w'/\Rd o w' (.map (insAll l)) v:=by
 have HROW:=Lib.hid hrow;clear hrow
 obtain ⟨L,hL⟩ : ∃ L,L=2 * l.length:=⟨_,rfl⟩
 rw [<- hL];have HL:=Lib.hid hL;clear hL
 go_enter Tryz.func44,Tryz.ntmps44
 go_wp2_with fail
 refine (specEmpty (o:=OffB o w.heap.size w.heap.size) _).mono ?_;rintro e w1 ⟨v0,rfl,hc1,hr0⟩;obtain ⟨A3,q3,A4,q4,rfl⟩:=hr0.five_map;have hcw:=((Chg.refl [] w).al _).trans hc1 New.nil;have z1:=box5 (heap_alloc_new w (.cells #[.int .i64 0,.int .i64 0,.string ⟨#[]⟩,.slice none 0 0,.slice none 0 0] 25)) _ hc1
 have hsz:w.heap.size+1<=w1.heap.size:=by have:=hc1.size; simpa using this
 clear hc1;have HR0:=Lib.hid hr0;clear hr0
 go_wp2
 go_loopg [4] l.length (fun g i wr=>∃ (n i':Nat) (m:List (ByteArray × T)) (A3:Option Addr) (q3:Nat) (A4:Option Addr) (q4:Nat),n<=l.length/\i'=2 * n/\g=l.length - n/\i=.int .i64 i'/\Chg [] w wr/\m=insAll (l.take n) /\
  wr.heap[w1.heap.size]?=some (.cells #[.int .i64 5,.int .i64 0,.string ⟨#[]⟩,.slice A3 m.length q3,.slice A4 m.length q4] 25) /\
  wr.heap[w.heap.size]?=some (.cells #[.int .i64 0,.int .i64 0,.string ⟨#[]⟩,.slice none 0 0,.slice none 0 0] 25) /\
  Rd (OffB o w1.heap.size w.heap.size) wr (.map m) (.agg #[.int .i64 5,.int .i64 0,.string ⟨#[]⟩,.slice A3 m.length q3,.slice A4 m.length q4]))
 case atStart=>
  refine ⟨0,0,[],A3,q3,A4,q4,Nat.zero_le _,rfl,by omega,rfl,hcw.al _,rfl,heap_alloc_new _ _,(heap_alloc_old _ _ _ (by omega)).trans z1,?_⟩
  exact HR0.out.to fun b hb ho=>⟨⟨ho.1,by omega,ho.2.1⟩,heap_alloc_old _ _ _ hb⟩
 case round=>
  obtain ⟨n,i,m,A3,q3,A4,q4,hn,hi,rfl,rfl,hcr,hm,q1,z2,hr⟩:=hrel;have hsB:w1.heap.size < wr.heap.size:=(Array.getElem?_eq_some_iff.1 q1).1
  have hbw:w.heap.size < w1.heap.size:=by omega
  have HR:=Lib.hid hr;clear hr;obtain ⟨a0,a1,a2,a3,a4,af⟩:=cells5 q1
  by_cases hlt:n < l.length
  ·obtain ⟨p,hp⟩ : ∃ p,l[n]?=some p:=⟨_,List.getElem?_eq_getElem hlt⟩
   obtain ⟨k,x⟩:=p;obtain ⟨hk0,vx,hk1,rx⟩:=HROW.out n k x hp;obtain ⟨A5,q5,A6,q6,rfl,_⟩:=rx.five;rw [<- hi] at hk0 hk1
   have hiL:(decide ((i:Int)+1 < (L:Int)))=true:=by have:=HL.out; simp; omega
   have hiL2:i < L/\i+1 < L:=by have:=HL.out; omega
   have hi64:i<=67108864:=by omega
   have HM:=Lib.hid (And.intro hm hp);have HI:=Lib.hid hi;clear hm hp hi
   go_wp2
   rename_i K hK;have HK:=Lib.hid hK;clear hK a0 a1 a2 a3 a4 af
   refine wp_region_call (by rfl) (by kernel_rfl) [0,3,4] (by kernel_rfl) 1 (by decide) []
     (fun j u V=>match j with
      | 0=>u=.agg #[.int .i64 5,.int .i64 0,.string ⟨#[]⟩,.slice A3 m.length q3,.slice A4 m.length q4]
      | 1=>u=.slice (some ⟨ga,0,none⟩) L C
      | 2=>u=.int .i64 ↑i
      | 3=>u=.pointer (some ⟨ga,i,none⟩)
      | 4=>u=.iface 9 (.string k)
      | 5=>u=.string k
      | 6=>u=.slice (some ⟨ga,0,none⟩) L C
      | 7=>u=.int .i64 ↑i
      | 8=>u=.int .i64 (↑i+1)
      | 9=>u=.pointer (some ⟨ga,i+1,none⟩)
      | 10=>u=.iface 25 (.agg #[.int .i64 x.kind,.int .i64 x.num,.string x.txt,.slice A5 x.keys.length q5,.slice A6 x.vals.length q6])
      | 11=>u=.agg #[.int .i64 x.kind,.int .i64 x.num,.string x.txt,.slice A5 x.keys.length q5,.slice A6 x.vals.length q6]
      | 12=>Rd (OffB o w1.heap.size w.heap.size) V (.map (mins k x m)) u
      | _=>True) ?_ ?_ ?_ ?_ ?_
   ·intro j u V V' hc hφ
    rcases j with _ | _ | _ | _ | _ | _ | _ | _ | _ | _ | _ | _ | _ | j
    all_goals first | exact hφ | skip
    exact Rd.chg hφ hc
   ·intro j u V V' _ hc hφ
    rcases j with _ | _ | _ | _ | _ | _ | _ | _ | _ | _ | _ | _ | _ | j
    all_goals first | exact hφ | skip
    exact Rd.chg hφ hc
   ·intro j oo hj hj1 ho a' w' hst hch hwt hdep K2 hK2
    have hsz:wr.heap.size<=w'.heap.size:=hch.size;have hcrw:=hcr.trans ((Chg.refl [] _).dr.trans hch New.nil) New.nil;obtain ⟨b0,b1,b2,b3,b4,bf⟩:=cells5 ((hch.block w1.heap.size (by show w1.heap.size < wr.heap.size; omega) (by simp)).trans q1);have y0:=(hcrw.cells.1 _ _ hga).trans hk0;have y1:=(hcrw.cells.1 _ _ hga).trans hk1;have rm:Rd (OffB o w1.heap.size w.heap.size) w' (.map m) _:=Rd.mono (w:=wr) (fun b hb _=>hch.block b hb (by simp)) HR.out
    have rx':Rd (OffB o w1.heap.size w.heap.size) w' x _:=rx.to fun b hb ho=>⟨⟨ho,by omega,by omega⟩,hcrw.block b hb (by simp)⟩
    have hsm:Srt m:=by rw [HM.out.1]; exact insAll_srt
    have hml:m.length<=67108864:=by
     rw [HM.out.1];have:=insAll_len (l.take n);have:=List.length_take_le n l
     omega
    have RM:=Lib.hid (And.intro rm (And.intro rx' (And.intro hsm hml)));clear rm rx' hsm hml
    have hiL3:(i:Int)+1 < (L:Int)/\0<=(i:Int)+1:=by omega
    obtain ⟨hiL4,hiL5⟩:=hiL3;have hj':j < 13:=hj;rcases j with _ | _ | _ | _ | _ | _ | _ | _ | _ | _ | _ | _ | _ | j
    ·obtain rfl:_=oo:=Option.some.inj ho
     have h3:=g_eq (t:=3) (v:=.pointer (some ⟨w1.heap.size,0,none⟩)) (hst 3 (by simp));unfold Oper.wp;go_simp;exact ⟨_,rfl,hK2 _ _ (Chg.refl _ _) rfl⟩
    ·obtain rfl:_=oo:=Option.some.inj ho
     have h0:=g_eq (t:=0) (v:=.slice (some ⟨ga,0,none⟩) L C) (hst 0 (by simp));unfold Oper.wp;go_simp;exact ⟨_,rfl,hK2 _ _ (Chg.refl _ _) rfl⟩
    ·obtain rfl:_=oo:=Option.some.inj ho
     have h4:=g_eq (t:=4) (v:=.int .i64 ↑i) (hst 4 (by simp));unfold Oper.wp;go_simp;exact ⟨_,rfl,hK2 _ _ (Chg.refl _ _) rfl⟩
    ·obtain rfl:_=oo:=Option.some.inj ho
     have h14:=g_eq (t:=14) (v:=.slice (some ⟨ga,0,none⟩) L C) (hdep 1 (by kernel_rfl));have h15:=g_eq (t:=15) (v:=.int .i64 ↑i) (hdep 2 (by kernel_rfl));unfold Oper.wp;go_simp;exact ⟨_,rfl,hK2 _ _ (Chg.refl _ _) rfl⟩
    ·obtain rfl:_=oo:=Option.some.inj ho
     have h16:=g_eq (t:=16) (v:=.pointer (some ⟨ga,i,none⟩)) (hdep 3 (by kernel_rfl));unfold Oper.wp;go_simp;exact ⟨_,rfl,hK2 _ _ (Chg.refl _ _) rfl⟩
    ·obtain rfl:_=oo:=Option.some.inj ho
     have h17:=g_eq (t:=17) (v:=.iface 9 (.string k)) (hdep 4 (by kernel_rfl));unfold Oper.wp;go_simp;exact ⟨_,rfl,hK2 _ _ (Chg.refl _ _) rfl⟩
    ·obtain rfl:_=oo:=Option.some.inj ho
     have h0:=g_eq (t:=0) (v:=.slice (some ⟨ga,0,none⟩) L C) (hst 0 (by simp));unfold Oper.wp;go_simp;exact ⟨_,rfl,hK2 _ _ (Chg.refl _ _) rfl⟩
    ·obtain rfl:_=oo:=Option.some.inj ho
     have h4:=g_eq (t:=4) (v:=.int .i64 ↑i) (hst 4 (by simp));unfold Oper.wp;go_simp;exact ⟨_,rfl,hK2 _ _ (Chg.refl _ _) rfl⟩
    ·obtain rfl:_=oo:=Option.some.inj ho
     have h20:=g_eq (t:=20) (v:=.int .i64 ↑i) (hdep 7 (by kernel_rfl));unfold Oper.wp;go_simp;refine ⟨_,rfl,hK2 _ _ (Chg.refl _ _) ?_⟩;show _=Value.int IntKind.i64 ((i:Int)+1);rw [IntKind.wrap_i64,show ((i:Int)+1+9223372036854775808) % 18446744073709551616 - 9223372036854775808=(i:Int)+1 by omega]
    ·obtain rfl:_=oo:=Option.some.inj ho
     have h19:=g_eq (t:=19) (v:=.slice (some ⟨ga,0,none⟩) L C) (hdep 6 (by kernel_rfl));have h21:=g_eq (t:=21) (v:=.int .i64 (↑i+1)) (hdep 8 (by kernel_rfl));unfold Oper.wp;go_simp;exact ⟨_,rfl,hK2 _ _ (Chg.refl _ _) rfl⟩
    ·obtain rfl:_=oo:=Option.some.inj ho
     have h22:=g_eq (t:=22) (v:=.pointer (some ⟨ga,i+1,none⟩)) (hdep 9 (by kernel_rfl));unfold Oper.wp;go_simp;exact ⟨_,rfl,hK2 _ _ (Chg.refl _ _) rfl⟩
    ·obtain rfl:_=oo:=Option.some.inj ho
     have h23:=g_eq (t:=23) (v:=.iface 25 (.agg #[.int .i64 x.kind,.int .i64 x.num,.string x.txt,.slice A5 x.keys.length q5,.slice A6 x.vals.length q6])) (hdep 10 (by kernel_rfl));unfold Oper.wp;go_simp;exact ⟨_,rfl,hK2 _ _ (Chg.refl _ _) rfl⟩
    ·obtain rfl:_=oo:=Option.some.inj ho
     have h13:=g_eq (t:=13) (v:=.agg #[.int .i64 5,.int .i64 0,.string ⟨#[]⟩,.slice A3 m.length q3,.slice A4 m.length q4]) (hdep 0 (by kernel_rfl));have h18:=g_eq (t:=18) (v:=.string k) (hdep 5 (by kernel_rfl));have h24:=g_eq (t:=24) (v:=.agg #[.int .i64 x.kind,.int .i64 x.num,.string x.txt,.slice A5 x.keys.length q5,.slice A6 x.vals.length q6]) (hdep 11 (by kernel_rfl));unfold Oper.wp;go_simp;refine (with_map m x _ _ k w' RM.out.1 RM.out.2.2.1 RM.out.2.1 RM.out.2.2.2 (fun b hb=>⟨hno b (by omega),by omega,by omega⟩)).mono ?_;rintro e w3 ⟨v',rfl,hc3,hr3⟩;exact ⟨_,rfl,hK2 _ _ hc3 hr3⟩
    ·omega
   ·intro oo ho a' w' hst hch hdep
    obtain rfl:_=oo:=Option.some.inj ho;have h0:=g_eq (t:=0) (v:=.slice (some ⟨ga,0,none⟩) L C) (hst 0 (by simp));exact ⟨_,w',by simp [execOp,Act.eval,h0,Result.andThen,go_sem],Chg.refl _ _,rfl⟩
   ·intro oo ho u w' hch hφ A2 hA2
    obtain rfl:_=oo:=Option.some.inj ho
    have l12:12 < 13:=by omega
    have hu12:Rd (OffB o w1.heap.size w.heap.size) w' (.map (mins k x m)) (u 12):=hφ 12 l12;obtain ⟨A7,q7,A8,q8,hu⟩:=hu12.five_map;rw [hu] at hu12;have hsz:wr.heap.size<=w'.heap.size:=hch.size;have hcrw:=hcr.trans ((Chg.refl [] _).dr.trans hch New.nil) New.nil;have q2:=(hch.block w1.heap.size (by show w1.heap.size < wr.heap.size; omega) (by simp)).trans q1;have z3:=(hch.block w.heap.size (by show w.heap.size < wr.heap.size; omega) (by simp)).trans z2;simp [putAll,dOf,Act.put,hu] at hA2;subst hA2;clear hφ l12 ho hu;obtain ⟨b0,b1,b2,b3,b4,bf⟩:=cells5 q2;unfold Oper.wp;go_simp;refine HK.out _ _ ?_;clear HK b0 b1 b2 b3 b4 bf;obtain ⟨W,hW,Q,hne,hcW,_⟩:=store5 q2 hcrw (by omega:w.heap.size<=w1.heap.size) (.int .i64 5) (.int .i64 0) (.string ⟨#[]⟩) (.slice A7 (mins k x m).length q7) (.slice A8 (mins k x m).length q8);rw [<- hW];have Z:=(hne w.heap.size (by omega)).trans z3;have HRN:=Lib.hid (hu12.mono (w':=W) fun b _ ho=>hne b ho.2.1);clear hW hne hu12
    go_wp2
    go_roundg (l.length - (n+1))
    case measure=>omega
    case rel=>
     exact ⟨n+1,i+2,mins k x m,A7,q7,A8,q8,by omega,by have:=HI.out; omega,rfl,by go_num,hcW,by rw [insAll_snoc HM.out.2,HM.out.1],Q,Z,HRN.out⟩
  ·have hE:n=l.length:=by omega
   have hiL:(decide ((i:Int)+1 < (L:Int)))=false:=by have:=HL.out; simp; omega
   have hi64:i<=67108864:=by omega
   have HM:=Lib.hid hm;have HE:=Lib.hid hE;clear hm hE hi;obtain ⟨d0,d1,d2,d3,d4,df⟩:=cells5 z2
   go_wp2
   obtain ⟨W,hW,Q,hne,hcW,_⟩:=store5 z2 hcr (Nat.le_refl _) (.int .i64 5) (.int .i64 0) (.string ⟨#[]⟩) (.slice A3 m.length q3) (.slice A4 m.length q4);rw [<- hW];obtain ⟨e0,e1,e2,e3,e4,_⟩:=cells5 Q;refine bodyPost_ret (v:=.agg #[.int .i64 5,.int .i64 0,.string ⟨#[]⟩,.slice A3 m.length q3,.slice A4 m.length q4]) (by simp [results,Tryz.results44,go_sem,e0,e1,e2,e3,e4]) rfl ⟨_,rfl,hcW,?_⟩;have hm:=HM.out;rw [HE.out,List.take_length] at hm;rw [<- hm]
   exact HR.out.to fun b _ ho=>⟨ho.1,hne b ho.2.2⟩
end Go.Proofs.YtpofkokbmifhgaaGreatDoor
namespace Go.Proofs.YtpofkokbmifhgaaGreatDoor
open Go.RowKit
variable {o:Nat->Prop}
inductive Raw where
 | mk (kind num:Int) (txt:ByteArray) (keys:List ByteArray) (vals:List Raw)
 deriving Inhabited
def Raw.kind:Raw->Int | .mk k _ _ _ _=>k
def Raw.num:Raw->Int | .mk _ n _ _ _=>n
def Raw.txt:Raw->ByteArray | .mk _ _ s _ _=>s
def Raw.keys:Raw->List ByteArray | .mk _ _ _ ks _=>ks
def Raw.vals:Raw->List Raw | .mk _ _ _ _ vs=>vs
mutual
def Raw.size:Raw->Nat
 | .mk _ _ _ _ vs=>1+Raw.sizeL vs
def Raw.sizeL:List Raw->Nat
 | []=>0
 | r :: l=>Raw.size r+Raw.sizeL l
end
mutual
def WFR (B:Nat):Raw->Prop
 | .mk _ n s ks vs=>s.size<=B/\ks.length<=B/\vs.length<=B/\(∀ k∈ks,k.size<=B)/\(-9223372036854775808<=n/\n<=9223372036854775807)/\WFRL B vs
def WFRL (B:Nat):List Raw->Prop
 | []=>True
 | r :: l=>WFR B r/\WFRL B l
end
theorem WFRL_iff {B:Nat}:∀ {l:List Raw},WFRL B l ↔ ∀ x∈l,WFR B x
 | []=>by simp [WFRL]
 | t :: l=>by simp [WFRL,WFRL_iff (l:=l)]
theorem Raw.sizeL_at {l:List Raw} {j:Nat} {t:Raw} (h:l[j]?=some t):Raw.size t<=Raw.sizeL l:=by
 induction l generalizing j with
 | nil=>simp at h
 | cons x l ih=>
  cases j with
  | zero=>
   simp at h;subst h;simp only [Raw.sizeL]
   omega
  | succ j=>
   simp at h;have:=ih h;simp only [Raw.sizeL]
   omega
theorem Raw.size_vals (r:Raw):Raw.size r=1+Raw.sizeL r.vals:=by cases r; rfl
def RkO (w:World) (ks:List ByteArray) (v:Value):Prop:=∃ A c,v=.slice A ks.length c/\ks.length<=c/\(0 < ks.length->∃ g off,A=some ⟨g,off,none⟩/\∀ j s,ks[j]?=some s->w.cell? ⟨g,off+j,none⟩=some (.string s))
mutual
def RdR (w:World):Raw->Value->Prop
 | .mk k n s ks vs,v=>∃ ka A c,v=.agg #[.int .i64 k,.int .i64 n,.string s,ka,.slice A vs.length c]/\RkO w ks ka/\vs.length<=c/\(0 < vs.length->∃ g off,A=some ⟨g,off,none⟩/\RdRL w g off vs 0)
def RdRL (w:World) (g off:Nat):List Raw->Nat->Prop
 | [],_=>True
 | r :: l,j=>(∃ v,RdR w r v/\∀ i u,v.cells[i]?=some u->w.cell? ⟨g,off+j * 5+i,none⟩=some u)/\RdRL w g off l (j+1)
end
theorem RkO.chg {w w':World} {ks:List ByteArray} {v:Value} (h:RkO w ks v) (hc:Chg [] w w'):RkO w' ks v:=by
 obtain ⟨A,c,rfl,hlc,h⟩:=h;refine ⟨A,c,rfl,hlc,fun h0=>?_⟩;obtain ⟨g,off,rfl,hg⟩:=h h0;exact ⟨g,off,rfl,fun j s hs=>(World.cell?_of_block (a:=⟨g,off+j,none⟩) (hc.block g (World.block_lt_of_cell? w _ (hg j s hs)) (by simp))).trans (hg j s hs)⟩
mutual
theorem RdR.chg {w w':World} (hc:Chg [] w w'):∀ {r:Raw} {v:Value},RdR w r v->RdR w' r v
 | .mk k n s ks vs,v,h=>by
  simp only [RdR] at h ⊢;obtain ⟨ka,A,c,rfl,hk,hlc,h⟩:=h;refine ⟨ka,A,c,rfl,hk.chg hc,hlc,fun h0=>?_⟩;obtain ⟨g,off,rfl,hg⟩:=h h0;exact ⟨g,off,rfl,RdRL.chg hc hg⟩
theorem RdRL.chg {w w':World} (hc:Chg [] w w') {g off:Nat}:∀ {l:List Raw} {j:Nat},RdRL w g off l j->RdRL w' g off l j
 | [],_,_=>by simp [RdRL]
 | r :: l,j,h=>by
  simp only [RdRL] at h ⊢;obtain ⟨⟨v,h1,h2⟩,h3⟩:=h;exact ⟨⟨v,RdR.chg hc h1,fun i u hu=>(World.cell?_of_block (a:=⟨g,off+j * 5+i,none⟩) (hc.block g (World.block_lt_of_cell? w _ (h2 i u hu)) (by simp))).trans (h2 i u hu)⟩,RdRL.chg hc h3⟩
end
mutual
theorem RdR.low {w w':World} (hc:∀ b,b < w.heap.size->w'.heap[b]?=w.heap[b]?):∀ {r:Raw} {v:Value},RdR w r v->RdR w' r v
 | .mk k n s ks vs,v,h=>by
  simp only [RdR] at h ⊢;obtain ⟨ka,A,c,rfl,⟨A3,c3,rfl,hlc3,hk⟩,hlc,h⟩:=h;refine ⟨_,A,c,rfl,⟨A3,c3,rfl,hlc3,fun h0=>?_⟩,hlc,fun h0=>?_⟩
  ·obtain ⟨g,off,rfl,hg⟩:=hk h0
   exact ⟨g,off,rfl,fun j s hs=>(World.cell?_of_block (a:=⟨g,off+j,none⟩) (hc g (World.block_lt_of_cell? w _ (hg j s hs)))).trans (hg j s hs)⟩
  ·obtain ⟨g,off,rfl,hg⟩:=h h0
   exact ⟨g,off,rfl,RdRL.low hc hg⟩
theorem RdRL.low {w w':World} (hc:∀ b,b < w.heap.size->w'.heap[b]?=w.heap[b]?) {g off:Nat}:∀ {l:List Raw} {j:Nat},RdRL w g off l j->RdRL w' g off l j
 | [],_,_=>by simp [RdRL]
 | r :: l,j,h=>by
  simp only [RdRL] at h ⊢;obtain ⟨⟨v,h1,h2⟩,h3⟩:=h;exact ⟨⟨v,RdR.low hc h1,fun i u hu=>(World.cell?_of_block (a:=⟨g,off+j * 5+i,none⟩) (hc g (World.block_lt_of_cell? w _ (h2 i u hu)))).trans (h2 i u hu)⟩,RdRL.low hc h3⟩
end
theorem RdRL.at_ {w:World} {g off:Nat}:∀ {l:List Raw} {j0 j:Nat} {t:Raw},RdRL w g off l j0->l[j]?=some t->∃ v,RdR w t v/\∀ i u,v.cells[i]?=some u->w.cell? ⟨g,off+(j0+j) * 5+i,none⟩=some u
 | [],_,_,_,_,h=>by simp at h
 | x :: l,j0,0,t,h,hj=>by
  simp only [RdRL] at h;simp at hj;subst hj;exact h.1
 | x :: l,j0,j+1,t,h,hj=>by
  simp only [RdRL] at h;simp at hj;obtain ⟨v,h1,h2⟩:=RdRL.at_ h.2 hj;exact ⟨v,h1,fun i u hu=>by have:=h2 i u hu; rwa [show j0+1+j=j0+(j+1) by omega] at this⟩
theorem RdR.five {w:World} {r:Raw} {v:Value} (h:RdR w r v):∃ A3 q3 A4 q4,v=.agg #[.int .i64 r.kind,.int .i64 r.num,.string r.txt,.slice A3 r.keys.length q3,.slice A4 r.vals.length q4]/\RkO w r.keys (.slice A3 r.keys.length q3) /\
  r.vals.length<=q4/\(0 < r.vals.length->∃ g off,A4=some ⟨g,off,none⟩/\RdRL w g off r.vals 0):=by
 cases r with
 | mk k n s ks vs=>
  simp only [RdR] at h;obtain ⟨ka,A,c,rfl,⟨A3,q3,rfl,h1,h2⟩,hlc,h⟩:=h;exact ⟨A3,q3,A,c,rfl,⟨A3,q3,rfl,h1,h2⟩,hlc,h⟩
theorem RkO.elem {w:World} {l:List ByteArray} {A:Option Addr} {n q:Nat} {s:ByteArray} (hv:RkO w l (.slice A l.length q)) (hx:l[n]?=some s):∃ g off,A=some ⟨g,off,none⟩/\g < w.heap.size/\l.length<=q/\∀ W,Chg [] w W->W.cell? ⟨g,off+n,none⟩=some (.string s):=by
 obtain ⟨A',c,e,hc,k0⟩:=hv
 injection e with e1 e2 e3
 subst e1; subst e3;have hlt:n < l.length:=(List.getElem?_eq_some_iff.1 hx).1;obtain ⟨g,off,rfl,hg⟩:=k0 (by omega);have h1:=hg n s hx;have hgl:g < w.heap.size:=World.block_lt_of_cell? w _ h1;exact ⟨g,off,rfl,hgl,hc,fun W hc=>(hc.cells.1 _ _ hgl).trans h1⟩
theorem fits2_any (ks:List ByteArray) (v:Value) (w:World) (h:RkO w ks v) (hl:ks.length<=67108864):Calls Tryz.prog 22 #[v] w (SomeB w):=by
 obtain ⟨A,c,rfl,hlc,hk⟩:=h;have HK:Hid (RkO w ks (.slice A ks.length c)):=Lib.hid ⟨A,c,rfl,hlc,hk⟩;clear hk
 go_enter Tryz.func22,Tryz.ntmps22
 go_wp2_with fail
 go_loopg [10] ks.length (fun g i wr=>∃ n:Nat,n<=ks.length/\g=ks.length - n/\i=.int .i64 n/\wr=w)
 case atStart=>exact ⟨0,Nat.zero_le _,by omega,rfl,rfl⟩
 case round=>
  obtain ⟨n,hn,rfl,rfl,rfl⟩:=hrel
  by_cases hlt:n < ks.length
  ·obtain ⟨s,hs⟩ : ∃ s,ks[n]?=some s:=⟨_,List.getElem?_eq_getElem hlt⟩
   obtain ⟨g,off,rfl,hg,_,hcell⟩:=HK.out.elem hs;have c0:=hcell _ (Chg.refl _ _);clear hs hcell
   by_cases h2:s.size<=2147483647
   ·have h2b:¬ 2147483647 < s.size:=by omega
    go_wp2_with fail
    go_roundg (ks.length - (n+1))
    case measure=>omega
    case rel=>exact ⟨n+1,by omega,rfl,by go_num,rfl⟩
   ·have h2b:2147483647 < s.size:=by omega
    go_wp2_with fail
    go_ret
    exact ⟨false,rfl,Chg.refl _ _⟩
  ·go_wp2_with fail
   go_ret
   exact ⟨true,rfl,Chg.refl _ _⟩
theorem fits1_any (r:Raw) (v:Value) (w:World) (h:RdR w r v) (hw:WFR 67108864 r):Calls Tryz.prog 8 #[v] w (SomeB w):=by
 obtain ⟨A3,q3,A4,q4,rfl,hk,hlc,hv⟩:=h.five
 obtain ⟨h1,h2,h3⟩ : r.txt.size<=67108864/\r.keys.length<=67108864/\r.vals.length<=67108864:=by
  cases r
  simp only [WFR] at hw;exact ⟨hw.1,hw.2.1,hw.2.2.1⟩
 have HK:=Lib.hid hk
 have t1:¬ 2147483647 < r.txt.size:=by omega
 have t2:¬ 2147483647 < r.vals.length:=by omega
 clear hk hv
 go_enter Tryz.func8,Tryz.ntmps8
 go_wp2_with fail
 refine (fits2_any r.keys _ _ (HK.out.chg ((Chg.refl [] w).al _)) h2).mono ?_;rintro e w1 ⟨b,rfl,hc⟩;have z1:=box5 (heap_alloc_new w (.cells #[.int .i64 r.kind,.int .i64 r.num,.string r.txt,.slice A3 r.keys.length q3,.slice A4 r.vals.length q4] 25)) _ hc;have hcw:Chg [] w w1:=((Chg.refl [] w).al _).trans hc New.nil;obtain ⟨d0,d1,d2,d3,d4,df⟩:=cells5 z1;have HC:=Lib.hid hcw;clear hc hcw z1
 cases b
 all_goals
  go_wp2_with fail
  go_ret
  exact ⟨_,rfl,HC.out⟩
end Go.Proofs.YtpofkokbmifhgaaGreatDoor
namespace Go.Proofs.YtpofkokbmifhgaaGreatDoor
section
open Classical
variable {α β K K':Type}
noncomputable def putBy (key:α->K) (t:α):List α->List α
 | []=>[t]
 | x :: r=>if key x=key t then t :: r else x :: putBy key t r
noncomputable def uniqBy (key:α->K) (l:List α):List α:=l.foldl (fun acc t=>putBy key t acc) []
theorem mem_put {key:α->K} {t x:α}:∀ {l:List α},x∈putBy key t l->x=t∨x∈l
 | [],h=>by simp [putBy] at h; exact .inl h
 | y :: r,h=>by
  unfold putBy at h
  split at h
  ·rcases List.mem_cons.1 h with h | h
   ·exact .inl h
   ·exact .inr (List.mem_cons_of_mem _ h)
  ·rcases List.mem_cons.1 h with h | h
   ·exact .inr (h ▸ List.mem_cons_self)
   ·rcases mem_put h with h | h
    ·exact .inl h
    ·exact .inr (List.mem_cons_of_mem _ h)
theorem uniq_snoc {key:α->K} {l:List α} {t:α}:uniqBy key (l++[t])=putBy key t (uniqBy key l):=by simp [uniqBy,List.foldl_append]
theorem mem_uniq {key:α->K} {x:α} {l:List α}:x∈uniqBy key l->x∈l:=by
 have gen:∀ (l acc:List α),x∈l.foldl (fun acc t=>putBy key t acc) acc->x∈acc∨x∈l:=by
  intro l
  induction l with
  | nil=>intro acc h; exact .inl h
  | cons t l ih=>
   intro acc h
   rcases ih _ h with h | h
   ·rcases mem_put h with h | h
    ·exact .inr (h ▸ List.mem_cons_self)
    ·exact .inl h
   ·exact .inr (List.mem_cons_of_mem _ h)
 intro h
 rcases gen l [] h with h | h
 ·cases h
 ·exact h
theorem put_congr {key:α->K} {key':α->K'} {t:α}:∀ {l:List α},(∀ x∈l,key x=key t ↔ key' x=key' t)->putBy key t l=putBy key' t l
 | [],_=>rfl
 | x :: r,h=>by
  unfold putBy;have h1:=h x (by simp)
  by_cases e:key x=key t
  ·rw [if_pos e,if_pos (h1.1 e)]
  ·rw [if_neg e,if_neg (fun e'=>e (h1.2 e')),put_congr fun y hy=>h y (List.mem_cons_of_mem _ hy)]
theorem uniq_congr {key:α->K} {key':α->K'} {l:List α} (h:∀ x∈l,∀ y∈l,key x=key y ↔ key' x=key' y):uniqBy key l=uniqBy key' l:=by
 have gen:∀ (r acc:List α),(∀ x∈acc,x∈l)->(∀ x∈r,x∈l)->r.foldl (fun acc t=>putBy key t acc) acc=r.foldl (fun acc t=>putBy key' t acc) acc:=by
  intro r
  induction r with
  | nil=>intro acc _ _; rfl
  | cons t r ih=>
   intro acc ha hr
   have ht:=hr t (by simp);simp only [List.foldl_cons];rw [put_congr (key':=key') fun x hx=>h x (ha x hx) t ht];refine ih _ (fun x hx=>?_) (fun x hx=>hr x (List.mem_cons_of_mem _ hx));rcases mem_put hx with rfl | hx
   ·exact ht
   ·exact ha x hx
 exact gen l [] (fun x hx=>by cases hx) (fun x hx=>hx)
theorem put_new {key:α->K} {t:α}:∀ {l:List α},(∀ x∈l,key x≠key t)->putBy key t l=l++[t]
 | [],_=>rfl
 | x :: r,h=>by
  unfold putBy;rw [if_neg (h x (by simp)),put_new fun y hy=>h y (List.mem_cons_of_mem _ hy)]
  rfl
theorem put_old {key:α->K} {t:α}:∀ {l:List α} {j:Nat} {x:α},(l.map key).Nodup->l[j]?=some x->key x=key t->putBy key t l=l.set j t
 | [],j,x,_,h,_=>by simp at h
 | y :: r,0,x,hn,h,e=>by
  simp at h;subst h;unfold putBy;rw [if_pos e]
  rfl
 | y :: r,j+1,x,hn,h,e=>by
  simp at h;simp only [List.map_cons,List.nodup_cons] at hn;unfold putBy
  have:key y≠key t:=fun e'=>hn.1 (by rw [e',<- e]; exact List.mem_map.2 ⟨x,List.mem_of_getElem? h,rfl⟩)
  rw [if_neg this,put_old hn.2 h e]
  rfl
theorem put_keys {key:α->K} {t:α}:∀ {l:List α},(putBy key t l).map key=if key t∈l.map key then l.map key else l.map key++[key t]
 | []=>by simp [putBy]
 | x :: r=>by
  unfold putBy
  by_cases e:key x=key t
  ·rw [if_pos e]
   simp [e]
  ·rw [if_neg e,List.map_cons,put_keys]
   by_cases h:key t∈r.map key
   ·rw [if_pos h,if_pos (by simp only [List.map_cons]; exact List.mem_cons_of_mem _ h)]
    rfl
   ·rw [if_neg h,if_neg (by simp only [List.map_cons,List.mem_cons,not_or]; exact ⟨fun e'=>e e'.symm,h⟩)]
    rfl
theorem put_nodup {key:α->K} {t:α} {l:List α} (h:(l.map key).Nodup):((putBy key t l).map key).Nodup:=by
 rw [put_keys]
 split
 ·exact h
 ·rename_i hn
  rw [List.nodup_append];refine ⟨h,by simp,?_⟩
  intro a ha b hb
  simp at hb;subst hb
  exact fun e=>hn (e ▸ ha)
theorem uniq_nodup {key:α->K} (l:List α):((uniqBy key l).map key).Nodup:=by
 have gen:∀ (r acc:List α),(acc.map key).Nodup->((r.foldl (fun acc t=>putBy key t acc) acc).map key).Nodup:=by
  intro r
  induction r with
  | nil=>intro acc h; exact h
  | cons t r ih=>intro acc h; exact ih _ (put_nodup h)
 exact gen l [] (by simp)
theorem uniq_id {key:α->K} {l:List α} (h:(l.map key).Nodup):uniqBy key l=l:=by
 have gen:∀ (r acc:List α),((acc++r).map key).Nodup->r.foldl (fun acc t=>putBy key t acc) acc=acc++r:=by
  intro r
  induction r with
  | nil=>intro acc _; simp
  | cons t r ih=>
   intro acc h
   simp only [List.foldl_cons]
   have hn:∀ x∈acc,key x≠key t:=fun x hx e=>by
    rw [List.map_append,List.nodup_append] at h;exact h.2.2 (key x) (List.mem_map.2 ⟨x,hx,rfl⟩) (key t) (by simp) e
   rw [put_new hn,ih _ (by simpa using h)];simp
 unfold uniqBy
 simpa using gen l [] (by simpa using h)
theorem uniq_twice {key:α->K} (l:List α):uniqBy key (uniqBy key l)=uniqBy key l:=uniq_id (uniq_nodup l)
theorem put_length {key:α->K} {t:α}:∀ {l:List α},(putBy key t l).length<=l.length+1
 | []=>by simp [putBy]
 | x :: r=>by
  unfold putBy
  split
  ·simp
  ·have:=put_length (key:=key) (t:=t) (l:=r)
   simp
   omega
theorem uniq_length {key:α->K} (l:List α):(uniqBy key l).length<=l.length:=by
 have gen:∀ (r acc:List α),(r.foldl (fun acc t=>putBy key t acc) acc).length<=acc.length+r.length:=by
  intro r
  induction r with
  | nil=>intro acc; simp
  | cons t r ih=>
   intro acc
   have h1:=ih (putBy key t acc);have h2:=put_length (key:=key) (t:=t) (l:=acc);simp only [List.foldl_cons,List.length_cons]
   omega
 unfold uniqBy
 simpa using gen l []
theorem uniq_take {key:α->K} {l:List α} {n:Nat} {x:α} (h:l[n]?=some x):uniqBy key (l.take (n+1))=putBy key x (uniqBy key (l.take n)):=by
 have h2:l.take (n+1)=l.take n++[x]:=by
  rw [List.take_add_one,h]
  rfl
 rw [h2,uniq_snoc]
end
def eqIdx (s:ByteArray):Nat:=s.data.toList.findIdx (· == 61)
def cutK (s:ByteArray):ByteArray:=s.extract 0 (eqIdx s)
def cutV (s:ByteArray):T:=if eqIdx s < s.size then .text (s.extract (eqIdx s+1) s.size) else .null
def namedL (l:List T):List (ByteArray × T):=l.foldl (fun m t=>mins (cutK t.txt) (cutV t.txt) m) []
theorem named_snoc {l:List T} {t:T}:namedL (l++[t])=mins (cutK t.txt) (cutV t.txt) (namedL l):=by simp [namedL,List.foldl_append]
theorem named_take {l:List T} {n:Nat} {x:T} (h:l[n]?=some x):namedL (l.take (n+1))=mins (cutK x.txt) (cutV x.txt) (namedL (l.take n)):=by
 have h2:l.take (n+1)=l.take n++[x]:=by
  rw [List.take_add_one,h]
  rfl
 rw [h2,named_snoc]
theorem foldl_ins_srt {α:Type} {f:α->ByteArray} {g:α->T}:∀ (l:List α) (m:List (ByteArray × T)),Srt m->Srt (l.foldl (fun m t=>mins (f t) (g t) m) m)
 | [],_,h=>h
 | t :: l,m,h=>foldl_ins_srt l _ h.srt_ins
theorem named_srt (l:List T):Srt (namedL l):=foldl_ins_srt l [] List.Pairwise.nil
def lastV (k:ByteArray):List T->Option T
 | []=>none
 | t :: r=>match lastV k r with
  | some v=>some v
  | none=>if cutK t.txt=k then some (cutV t.txt) else none
theorem lastV_snoc {k:ByteArray} {t:T}:∀ {l:List T},lastV k (l++[t])=if cutK t.txt=k then some (cutV t.txt) else lastV k l
 | []=>by simp [lastV]
 | x :: r=>by
  simp only [List.cons_append,lastV,lastV_snoc]
  by_cases e:cutK t.txt=k
  ·simp [e]
  ·simp [e]
theorem rev_ind {α:Type} {p:List α->Prop} (h0:p []) (h1:∀ l x,p l->p (l++[x])) (l:List α):p l:=by
 have:∀ n (l:List α),l.length=n->p l:=by
  intro n
  induction n with
  | zero=>intro l hl; rw [List.eq_nil_of_length_eq_zero hl]; exact h0
  | succ n ih=>
   intro l hl
   have hne:l≠[]:=fun e=>by rw [e] at hl; cases hl
   rw [<- List.dropLast_concat_getLast hne];exact h1 _ _ (ih _ (by simp [hl]))
 exact this _ l rfl
theorem named_get (k:ByteArray) (l:List T):mget k (namedL l)=lastV k l:=by
 induction l using rev_ind with
 | h0=>rfl
 | h1 l t ih=>
  rw [named_snoc,lastV_snoc]
  by_cases e:cutK t.txt=k
  ·rw [if_pos e,<- e,get_ins]
  ·rw [if_neg e,get_ins_ne (fun e'=>e e'.symm),ih]
theorem lastV_none {k:ByteArray}:∀ {l:List T},(∀ t∈l,cutK t.txt≠k)->lastV k l=none
 | [],_=>rfl
 | t :: r,h=>by
  simp only [lastV,lastV_none fun x hx=>h x (List.mem_cons_of_mem _ hx),h t (by simp),if_false]
theorem lastV_put {k:ByteArray} {t:T}:∀ {l:List T},(l.map fun t=>cutK t.txt).Nodup->lastV k (putBy (fun t=>cutK t.txt) t l)=if cutK t.txt=k then some (cutV t.txt) else lastV k l
 | [],_=>by simp [putBy,lastV]
 | x :: r,hn=>by
  simp only [List.map_cons,List.nodup_cons] at hn;unfold putBy
  by_cases e:cutK x.txt=cutK t.txt
  ·rw [if_pos e]
   have hr:∀ y∈r,cutK y.txt≠cutK x.txt:=fun y hy e'=>hn.1 (by rw [<- e']; exact List.mem_map.2 ⟨y,hy,rfl⟩)
   by_cases ek:cutK t.txt=k
   ·have:lastV k r=none:=lastV_none fun y hy e'=>hr y hy (by rw [e',<- ek,e])
    simp only [lastV,this,ek,if_true]
   ·simp only [lastV,ek,if_false,e]
  ·rw [if_neg e]
   simp only [lastV,lastV_put hn.2]
   by_cases ek:cutK t.txt=k
   ·simp [ek]
   ·simp [ek]
theorem lastV_uniq (k:ByteArray) (l:List T):lastV k (uniqBy (fun t=>cutK t.txt) l)=lastV k l:=by
 induction l using rev_ind with
 | h0=>rfl
 | h1 l t ih=>rw [uniq_snoc,lastV_put (uniq_nodup l),lastV_snoc,ih]
theorem named_uniq (l:List T):namedL (uniqBy (fun t=>cutK t.txt) l)=namedL l:=
 Srt.ext (named_srt _) (named_srt _) fun k=>by rw [named_get,named_get,lastV_uniq]
end Go.Proofs.YtpofkokbmifhgaaGreatDoor
