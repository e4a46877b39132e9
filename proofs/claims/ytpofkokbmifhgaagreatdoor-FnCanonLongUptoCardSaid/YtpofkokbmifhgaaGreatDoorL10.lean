/- Parts of the walk, made small by wip/tools/pack.py: CanM, Path, Shelf. No condition but those in each statement. -/
import Derived.Test.YtpofkokbmifhgaaGreatDoorL09
import Derived.Test.YtpofkokbmifhgaaGreatDoorL06
import Derived.Test.YtpofkokbmifhgaaGreatDoorL08
import Derived.Shelf.Strings.OnBuilder
import Derived.Shelf.Strconv.Itoa0
import Derived.Shelf.Strconv.Itoa1
import Derived.Shelf.LaysM
import Derived.Shelf.Strconv.Itoa2
import Derived.Shelf.Strconv.Itoa3
import Derived.Shelf.Sort.Plain
import Derived.Test.YtpofkokbmifhgaaGreatDoorProg
set_option maxRecDepth 100000
set_option maxHeartbeats 20000000
set_option linter.unusedVariables false
set_option linter.unusedSimpArgs false
namespace Go.Proofs.YtpofkokbmifhgaaGreatDoor
theorem ins_ins {k:ByteArray} {x y:T} {m:List (ByteArray × T)} (h:Srt m):mins k x (mins k y m)=mins k x m:=
 Srt.ext h.srt_ins.srt_ins h.srt_ins fun z=>by
  by_cases e:z=k
  ·subst e; rw [get_ins,get_ins]
  ·rw [get_ins_ne e,get_ins_ne e,get_ins_ne e]
theorem map_at {f:ByteArray->T->T} {k:ByteArray} {v:T} {m:List (ByteArray × T)} (hs:Srt m) (hg:mget k m=some v) (h:∀ p∈m,p.1≠k->f p.1 p.2=p.2):m.map (fun p=>(p.1,f p.1 p.2))=mins k (f k v) m:=
 Srt.ext (srt_map hs) hs.srt_ins fun z=>by
  rw [get_map]
  by_cases e:z=k
  ·subst e; rw [get_ins,hg]; rfl
  ·rw [get_ins_ne e]
   cases hz:mget z m with
   | none=>rfl
   | some x=>simp only [Option.map_some,h _ (get_some hz) e]
structure SvcLaw (s:ByteArray) (t:T):Prop where
 ok:UniOK [cServices,s] t
 cok:CanOK [cServices,s] (uniT [cServices,s] t)
 view:(∀ q∈t.m,q.1∈uniqA->SaidU q.1 q.2.vals)->viewSvc (canT [cServices,s] (uniT [cServices,s] t))=viewSvc (canonSvc t)
 ok2:UniOK [cServices,s] (canT [cServices,s] (uniT [cServices,s] t))
 uni2:uniT [cServices,s] (canT [cServices,s] (uniT [cServices,s] t))=canT [cServices,s] (uniT [cServices,s] t)
 cok2:CanOK [cServices,s] (canT [cServices,s] (uniT [cServices,s] t))
 can2:canT [cServices,s] (canT [cServices,s] (uniT [cServices,s] t))=canT [cServices,s] (uniT [cServices,s] t)
 long:(∀ q∈t.m,q.1∈uniqA->SaidU q.1 q.2.vals)->CanOK [cServices,s] (canonSvc t)/\viewSvc (canT [cServices,s] (canonSvc t))=viewSvc (canonSvc t)
theorem svc_law {t:T} (s:ByteArray) (h:SvcSaid t):SvcLaw s t:=by
 obtain ⟨m,rfl,hm⟩:=h
 have hA:∀ p∈m,AttrLaw s p.1 p.2:=fun p hp=>attr_law s (hm p hp)
 have htr:trOf [cServices,s]=some .service:=rfl
 have hn:∀ k,esc k=k->[cServices,s]++[nxt [cServices,s] k]=[cServices,s,k]:=fun k hk=>by
  simp only [nxt,reduceCtorEq,if_false,hk]
  rfl
 have hu:∀ f:ByteArray->T->T,uniT [cServices,s] (.map (m.map fun p=>(p.1,f p.1 p.2)))=.map (m.map fun p=>(p.1,uniT [cServices,s,p.1] (f p.1 p.2))):=fun f=>by
  simp only [uniT,uniM_eq,List.map_map]
  congr 1
  refine List.map_congr_left fun p hp=>?_
  simp only [Function.comp];rw [hn _ (hA p hp).esc]
 have hc:∀ f:ByteArray->T->T,canT [cServices,s] (.map (m.map fun p=>(p.1,f p.1 p.2)))=.map (m.map fun p=>(p.1,canT [cServices,s,p.1] (f p.1 p.2))):=fun f=>by
  simp only [canT,htr,canM_eq,List.map_map]
  congr 1
  refine List.map_congr_left fun p hp=>?_
  simp only [Function.comp];rw [hn _ (hA p hp).esc]
 have huo:∀ f:ByteArray->T->T,(∀ p∈m,UniOK [cServices,s,p.1] (f p.1 p.2))->UniOK [cServices,s] (.map (m.map fun p=>(p.1,f p.1 p.2))):=fun f h=>by
  refine UniOKM_iff.2 fun q hq=>?_
  obtain ⟨p,hp,rfl⟩:=List.mem_map.1 hq;rw [hn _ (hA p hp).esc];exact h p hp
 have hco:∀ f:ByteArray->T->T,(∀ p∈m,CanOK [cServices,s,p.1] (f p.1 p.2))->CanOK [cServices,s] (.map (m.map fun p=>(p.1,f p.1 p.2))):=fun f h=>by
  simp only [CanOK,htr]
  refine CanOKM_iff.2 fun q hq=>?_
  obtain ⟨p,hp,rfl⟩:=List.mem_map.1 hq;rw [hn _ (hA p hp).esc];exact h p hp
 have h0:(.map m:T)=.map (m.map fun p=>(p.1,(fun (_:ByteArray) (x:T)=>x) p.1 p.2)):=by
  congr 1
  exact (map_eq_self fun p _=>rfl).symm
 have hu0:uniT [cServices,s] (.map m)=.map (m.map fun p=>(p.1,uniT [cServices,s,p.1] p.2)):=by
  rw [h0]
  exact hu fun _ x=>x
 have hcu:canT [cServices,s] (uniT [cServices,s] (.map m))=.map (m.map fun p=>(p.1,canT [cServices,s,p.1] (uniT [cServices,s,p.1] p.2))):=by
  rw [hu0]
  exact hc fun k x=>uniT [cServices,s,k] x
 have hcs:canonSvc (.map m)=.map (m.map fun p=>(p.1,canonA p.1 p.2)):=rfl
 have hv:∀ f g:ByteArray->T->T,(∀ p∈m,viewA p.1 (f p.1 p.2)=viewA p.1 (g p.1 p.2))->viewSvc (.map (m.map fun p=>(p.1,f p.1 p.2)))=viewSvc (.map (m.map fun p=>(p.1,g p.1 p.2))):=fun f g h=>by
  simp only [viewSvc,List.map_map]
  congr 1
  refine List.map_congr_left fun p hp=>?_
  simp only [Function.comp];rw [h p hp]
 refine ⟨?_,?_,fun hs=>?_,?_,?_,?_,?_,fun hs=>⟨?_,?_⟩⟩
 ·rw [h0]
  exact huo (fun _ x=>x) fun p hp=>(hA p hp).ok
 ·rw [hu0]
  exact hco (fun k x=>uniT [cServices,s,k] x) fun p hp=>(hA p hp).cok
 ·rw [hcu,hcs]
  exact hv (fun k x=>canT [cServices,s,k] (uniT [cServices,s,k] x)) canonA fun p hp=>(hA p hp).view (hs p hp)
 ·rw [hcu]
  exact huo (fun k x=>canT [cServices,s,k] (uniT [cServices,s,k] x)) fun p hp=>(hA p hp).ok2
 ·rw [hcu,hu fun k x=>canT [cServices,s,k] (uniT [cServices,s,k] x)]
  congr 1
  exact List.map_congr_left fun p hp=>by rw [(hA p hp).uni2]
 ·rw [hcu]
  exact hco (fun k x=>canT [cServices,s,k] (uniT [cServices,s,k] x)) fun p hp=>(hA p hp).cok2
 ·rw [hcu,hc fun k x=>canT [cServices,s,k] (uniT [cServices,s,k] x)]
  congr 1
  exact List.map_congr_left fun p hp=>by rw [(hA p hp).can2]
 ·rw [hcs]
  exact hco canonA fun p hp=>((hA p hp).long (hs p hp)).1
 ·rw [hcs,hc canonA]
  exact hv (fun k x=>canT [cServices,s,k] (canonA k x)) canonA fun p hp=>((hA p hp).long (hs p hp)).2
theorem res_law {t:T} {a n:ByteArray} (ha:a=cNetworks∨a=cVolumes) (h:ResSaid t):uniT [a,n] t=t/\UniOK [a,n] t/\canT [a,n] t=t/\CanOK [a,n] t:=by
 have htr:trOf [a,n]=some .external:=by rcases ha with rfl | rfl <;> rfl
 have htr2:∀ k,trOf ([a,n]++[nxt [a,n] k])=none:=fun k=>by rcases ha with rfl | rfl <;> rfl
 rcases h with rfl | ⟨m,rfl,hm⟩
 ·exact ⟨by simp only [uniT],trivial,by simp only [canT],by simp only [CanOK,htr]⟩
 ·have hlf:∀ {x},isLeaf x->(∀ ps,uniT ps x=x/\UniOK ps x)/\∀ ps,trOf ps=none->canT ps x=x/\CanOK ps x:=fun {x} h=>by
   cases x <;> simp [isLeaf] at h
   ·exact ⟨fun ps=>⟨by simp only [uniT],trivial⟩,fun ps e=>⟨by simp only [canT],by simp only [CanOK,e]⟩⟩
   ·exact ⟨fun ps=>⟨by simp only [uniT],trivial⟩,fun ps e=>⟨by simp only [canT,e],by simp only [CanOK,e]⟩⟩
  refine ⟨?_,UniOKM_iff.2 fun p hp=>((hlf (hm p hp)).1 _).2,?_,?_⟩
  ·simp only [uniT]
   rw [uniM_self fun p hp=>((hlf (hm p hp)).1 _).1]
  ·simp only [canT,htr]
   rw [canM_self fun p hp=>((hlf (hm p hp)).2 _ (htr2 _)).1]
  ·simp only [CanOK,htr]
   refine ⟨CanOKM_iff.2 fun p hp=>((hlf (hm p hp)).2 _ (htr2 _)).2,fun x hx=>?_⟩;have:=hm _ (get_some hx);rw [((hlf this).2 _ (htr2 _)).1]
   cases x <;> simp [isLeaf] at this <;> exact id
noncomputable def formP (m:List (ByteArray × T)):List (ByteArray × T):=m.map fun p=>(p.1,canT [p.1] (uniT [p.1] p.2))
theorem top_law {k:ByteArray} {v:T} (h:TopOKc k v) (hk:k≠cServices):uniT [k] v=v/\UniOK [k] v/\canT [k] v=v/\CanOK [k] v:=by
 cases h with
 | name=>exact ⟨by simp only [uniT],trivial,by simp only [canT,show trOf [cName]=none from rfl],by simp only [CanOK,show trOf [cName]=none from rfl]⟩
 | services hm=>exact absurd rfl hk
 | nets hm=>
  rename_i m;have htr:trOf [cNetworks]=none:=rfl
  have hn:∀ n,[cNetworks]++[nxt [cNetworks] n]=[cNetworks,nxt [cNetworks] n]:=fun n=>rfl
  refine ⟨?_,UniOKM_iff.2 fun p hp=>(res_law (.inl rfl) (hm p hp)).2.1,?_,?_⟩
  ·simp only [uniT]
   rw [uniM_self fun p hp=>(res_law (.inl rfl) (hm p hp)).1]
  ·simp only [canT,htr]
   rw [canM_self fun p hp=>(res_law (.inl rfl) (hm p hp)).2.2.1]
  ·simp only [CanOK,htr]
   exact CanOKM_iff.2 fun p hp=>(res_law (.inl rfl) (hm p hp)).2.2.2
 | vols hm=>
  rename_i m;have htr:trOf [cVolumes]=none:=rfl;refine ⟨?_,UniOKM_iff.2 fun p hp=>(res_law (.inr rfl) (hm p hp)).2.1,?_,?_⟩
  ·simp only [uniT]
   rw [uniM_self fun p hp=>(res_law (.inr rfl) (hm p hp)).1]
  ·simp only [canT,htr]
   rw [canM_self fun p hp=>(res_law (.inr rfl) (hm p hp)).2.2.1]
  ·simp only [CanOK,htr]
   exact CanOKM_iff.2 fun p hp=>(res_law (.inr rfl) (hm p hp)).2.2.2
 | extra h=>
  have hf:k ∉ firsts:=extra_notin h (by decide +kernel)
  have hu:=uniT_none (t:=v) (ps:=[k]) fun ext=>ix_first hf
  have hc:=canT_none (t:=v) (ps:=[k]) fun ext=>tr_first hf
  exact ⟨hu.1,hu.2,hc.1,hc.2⟩
theorem nxt_nil (k:ByteArray):([]:List ByteArray)++[nxt [] k]=[k]:=by simp [nxt]
theorem root_tr:trOf []=none:=by rfl
theorem uniT_root (m:List (ByteArray × T)):uniT [] (.map m)=.map (m.map fun p=>(p.1,uniT [p.1] p.2)):=by
 simp only [uniT,uniM_eq,nxt_nil]
theorem canT_root (m:List (ByteArray × T)):canT [] (.map m)=.map (m.map fun p=>(p.1,canT [p.1] p.2)):=by
 simp only [canT,root_tr,canM_eq,nxt_nil]
theorem form_eq (m:List (ByteArray × T)):canT [] (uniT [] (.map m))=.map (formP m):=by
 rw [uniT_root,canT_root,List.map_map]
 rfl
theorem svcs_law {l:List (ByteArray × T)} (h:∀ p∈l,SvcSaid p.2) :
  UniOK [cServices] (.map l)/\CanOK [cServices] (uniT [cServices] (.map l)) /\
  canT [cServices] (uniT [cServices] (.map l))=.map (l.map fun p=>(p.1,canT [cServices,esc p.1] (uniT [cServices,esc p.1] p.2))) /\
  UniOK [cServices] (canT [cServices] (uniT [cServices] (.map l)))/\uniT [cServices] (canT [cServices] (uniT [cServices] (.map l)))=canT [cServices] (uniT [cServices] (.map l)) /\
  CanOK [cServices] (canT [cServices] (uniT [cServices] (.map l)))/\canT [cServices] (canT [cServices] (uniT [cServices] (.map l)))=canT [cServices] (uniT [cServices] (.map l)):=by
 have hL:∀ p∈l,SvcLaw (esc p.1) p.2:=fun p hp=>svc_law _ (h p hp)
 have htr:trOf [cServices]=none:=rfl
 have hn:∀ k,[cServices]++[nxt [cServices] k]=[cServices,esc k]:=fun k=>rfl
 have hu0:uniT [cServices] (.map l)=.map (l.map fun p=>(p.1,uniT [cServices,esc p.1] p.2)):=by
  simp only [uniT,uniM_eq]
  rfl
 have hc:∀ f:ByteArray->T->T,canT [cServices] (.map (l.map fun p=>(p.1,f p.1 p.2)))=.map (l.map fun p=>(p.1,canT [cServices,esc p.1] (f p.1 p.2))):=fun f=>by
  simp only [canT,htr,canM_eq,List.map_map]
  rfl
 have hu:∀ f:ByteArray->T->T,uniT [cServices] (.map (l.map fun p=>(p.1,f p.1 p.2)))=.map (l.map fun p=>(p.1,uniT [cServices,esc p.1] (f p.1 p.2))):=fun f=>by
  simp only [uniT,uniM_eq,List.map_map]
  rfl
 have hcu:canT [cServices] (uniT [cServices] (.map l))=.map (l.map fun p=>(p.1,canT [cServices,esc p.1] (uniT [cServices,esc p.1] p.2))):=by
  rw [hu0]
  exact hc fun k v=>uniT [cServices,esc k] v
 refine ⟨UniOKM_iff.2 fun p hp=>(hL p hp).ok,?_,hcu,?_,?_,?_,?_⟩
 ·rw [hu0]
  simp only [CanOK,htr]
  refine CanOKM_iff.2 fun q hq=>?_
  obtain ⟨p,hp,rfl⟩:=List.mem_map.1 hq;exact (hL p hp).cok
 ·rw [hcu]
  refine UniOKM_iff.2 fun q hq=>?_
  obtain ⟨p,hp,rfl⟩:=List.mem_map.1 hq;exact (hL p hp).ok2
 ·rw [hcu]
  rw [hu fun k v=>canT [cServices,esc k] (uniT [cServices,esc k] v)]
  congr 1
  exact List.map_congr_left fun p hp=>by rw [(hL p hp).uni2]
 ·rw [hcu]
  simp only [CanOK,htr]
  refine CanOKM_iff.2 fun q hq=>?_
  obtain ⟨p,hp,rfl⟩:=List.mem_map.1 hq;exact (hL p hp).cok2
 ·rw [hcu]
  rw [hc fun k v=>canT [cServices,esc k] (uniT [cServices,esc k] v)]
  congr 1
  exact List.map_congr_left fun p hp=>by rw [(hL p hp).can2]
theorem model_uniOK {m:List (ByteArray × T)} (h:SaysOK m):UniOK [] (.map m):=UniOKM_iff.2 fun p hp=>by
 rw [nxt_nil]
 by_cases e:p.1=cServices
 ·have:=h p hp
  rw [e] at this ⊢;generalize p.2=v at this
  cases this with
  | services hm=>exact (svcs_law hm).1
  | extra hx=>exact absurd (extra_head hx) (by decide +kernel)
 ·exact (top_law (h p hp) e).2.1
theorem svcs_is {v:T} (h:TopOKc cServices v):∃ l,v=.map l/\∀ p∈l,SvcSaid p.2:=by
 generalize hk:cServices=k at h
 cases h with
 | name=>exact absurd hk (by decide +kernel)
 | services hm=>exact ⟨_,rfl,hm⟩
 | nets hm=>exact absurd hk (by decide +kernel)
 | vols hm=>exact absurd hk (by decide +kernel)
 | extra hx=>exact absurd (extra_head hx) (by rw [<- hk]; decide +kernel)
theorem model_canOK {m:List (ByteArray × T)} (h:SaysOK m):CanOK [] (uniT [] (.map m)):=by
 rw [uniT_root];simp only [CanOK,root_tr]
 refine CanOKM_iff.2 fun q hq=>?_
 obtain ⟨p,hp,rfl⟩:=List.mem_map.1 hq;rw [nxt_nil]
 by_cases e:p.1=cServices
 ·have:=h p hp
  simp only [e] at this ⊢;obtain ⟨l,hl,hm⟩:=svcs_is this;rw [hl];exact (svcs_law hm).2.1
 ·have:=top_law (h p hp) e
  rw [this.1];exact this.2.2.2
theorem form_none {m:List (ByteArray × T)} (h:SaysOK m) (hg:mget cServices m=none):formP m=m:=map_eq_self fun p hp=>by
 have e:p.1≠cServices:=fun e=>get_none.1 hg (e ▸ List.mem_map.2 ⟨p,hp,rfl⟩)
 obtain ⟨a,_,c,_⟩:=top_law (h p hp) e;rw [a,c]
theorem form_some {m:List (ByteArray × T)} (hs:Srt m) (h:SaysOK m) {l:List (ByteArray × T)} (hg:mget cServices m=some (.map l)) :
  formP m=mins cServices (.map (l.map fun p=>(p.1,canT [cServices,esc p.1] (uniT [cServices,esc p.1] p.2)))) m/\∀ p∈l,SvcSaid p.2:=by
 obtain ⟨l',e,hm⟩:=svcs_is (h _ (get_some hg))
 cases e
 refine ⟨?_,hm⟩
 have:=map_at (f:=fun k v=>canT [k] (uniT [k] v)) hs hg fun p hp e=>by
  obtain ⟨a,_,c,_⟩:=top_law (h p hp) e;simp only [a,c]
 unfold formP;rw [this,(svcs_law hm).2.2.1]
theorem viewM_put {m l:List (ByteArray × T)} (hs:Srt m):viewM (mins cServices (.map l) m)=mins cServices (.map (l.map fun p=>(p.1,viewSvc p.2))) m:=by
 unfold viewM;rw [get_ins];simp only;rw [ins_ins hs]
theorem model_view {m:List (ByteArray × T)} (hs:Srt m) (h:SaysOK m) (hsaid:SaidM m):viewM (formP m)=viewM (canonS m):=by
 cases hg:mget cServices m with
 | none=>
  rw [form_none h hg];unfold canonS;rw [hg]
 | some v=>
  obtain ⟨l,rfl,hm⟩:=svcs_is (h _ (get_some hg));rw [(form_some hs h hg).1,viewM_put hs];unfold canonS;rw [hg];simp only [T.m];rw [viewM_put hs,List.map_map,List.map_map]
  congr 2
  refine List.map_congr_left fun p hp=>?_
  simp only [Function.comp];rw [(svc_law (esc p.1) (hm p hp)).view (hsaid l hg p hp)]
theorem model_long {m:List (ByteArray × T)} (hs:Srt m) (h:SaysOK m) (hsaid:SaidM m):CanOK [] (.map (canonS m))/\∃ n,canT [] (.map (canonS m))=.map n/\viewM n=viewM (canonS m):=by
 cases hg:mget cServices m with
 | none=>
  have e:canonS m=m:=by unfold canonS; rw [hg]
  have ht:∀ p∈m,CanOK [p.1] p.2/\canT [p.1] p.2=p.2:=fun p hp=>by
   have e:p.1≠cServices:=fun e=>get_none.1 hg (e ▸ List.mem_map.2 ⟨p,hp,rfl⟩)
   obtain ⟨a,_,c,d⟩:=top_law (h p hp) e;exact ⟨d,c⟩
  rw [e];refine ⟨?_,m,?_,rfl⟩
  ·simp only [CanOK,root_tr]
   exact CanOKM_iff.2 fun p hp=>by rw [nxt_nil]; exact (ht p hp).1
  ·rw [canT_root]
   congr 1
   exact map_eq_self fun p hp=>by rw [(ht p hp).2]
 | some v=>
  obtain ⟨l,rfl,hm⟩:=svcs_is (h _ (get_some hg))
  have hL:∀ p∈l,CanOK [cServices,esc p.1] (canonSvc p.2)/\viewSvc (canT [cServices,esc p.1] (canonSvc p.2))=viewSvc (canonSvc p.2):=fun p hp=>(svc_law (esc p.1) (hm p hp)).long (hsaid l hg p hp)
  obtain ⟨J,hJ⟩ : ∃ J:ByteArray->T->T,J=fun k v=>if k=cServices then .map (l.map fun p=>(p.1,canonSvc p.2)) else v:=⟨_,rfl⟩
  have hJs:∀ v,J cServices v=.map (l.map fun p=>(p.1,canonSvc p.2)):=fun v=>by rw [hJ]; simp only [if_true]
  have hJn:∀ k v,k≠cServices->J k v=v:=fun k v hk=>by rw [hJ]; simp only [if_neg hk]
  have e2:canonS m=mins cServices (.map (l.map fun p=>(p.1,canonSvc p.2))) m:=by
   unfold canonS;rw [hg]
   rfl
  have e:canonS m=m.map fun p=>(p.1,J p.1 p.2):=by
   rw [map_at (f:=J) hs hg fun p _ e=>hJn _ _ e,hJs,e2]
  have htr:trOf [cServices]=none:=rfl
  have hcs:canT [cServices] (.map (l.map fun p=>(p.1,canonSvc p.2)))=.map (l.map fun p=>(p.1,canT [cServices,esc p.1] (canonSvc p.2))):=by
   simp only [canT,htr,canM_eq,List.map_map]
   rfl
  have hok:CanOK [] (.map (canonS m)):=by
   rw [e];simp only [CanOK,root_tr]
   refine CanOKM_iff.2 fun q hq=>?_
   obtain ⟨p,hp,rfl⟩:=List.mem_map.1 hq;rw [nxt_nil]
   by_cases ek:p.1=cServices
   ·simp only [ek,hJs]
    simp only [CanOK,htr]
    refine CanOKM_iff.2 fun q hq=>?_
    obtain ⟨p,hp,rfl⟩:=List.mem_map.1 hq;exact (hL p hp).1
   ·simp only [hJn _ _ ek]
    exact (top_law (h p hp) ek).2.2.2
  refine ⟨hok,_,canT_root _,?_⟩
  have hcm:(canonS m).map (fun p=>(p.1,canT [p.1] p.2))=mins cServices (.map (l.map fun p=>(p.1,canT [cServices,esc p.1] (canonSvc p.2)))) m:=by
   have:=map_at (f:=fun k v=>canT [k] (J k v)) hs hg fun p hp ek=>by
    simp only [hJn _ _ ek];exact (top_law (h p hp) ek).2.2.1
   simp only [hJs,hcs] at this;rw [e,List.map_map];exact this
  rw [hcm,viewM_put hs];rw [e2,viewM_put hs,List.map_map,List.map_map]
  congr 2
  refine List.map_congr_left fun p hp=>?_
  simp only [Function.comp];rw [(hL p hp).2]
end Go.Proofs.YtpofkokbmifhgaaGreatDoor
namespace Go.Proofs.YtpofkokbmifhgaaGreatDoor
open Go.RowKit
variable {o:Nat->Prop}
theorem ne_toList {s k:ByteArray} {l:List UInt8} (h:s≠k) (hl:k.toList=l):(s.toList == l)=false:=by
 rw [beq_eq_false_iff_ne]
 exact fun e=>h (toList_inj (e.trans hl.symm))
theorem ext_one {s:ByteArray} {n:Nat} (h:n < s.size):s.extract n (n+1)=⟨#[s[n]]⟩:=by
 apply ByteArray.ext
 rw [ByteArray.data_extract];have hd:n < s.data.size:=h
 apply Array.ext
 ·simp
  omega
 ·intro i h1 h2
  have hi:i=0:=by simpa using h2
  subst hi;simp
  rfl
def bIdx (c:UInt8) (s:ByteArray):Nat:=s.data.toList.findIdx (· == c)
theorem bIdx_step {c:UInt8} {s:ByteArray} {n:Nat} (h:n<=bIdx c s) (hn:n < s.size) (hne:s[n]≠c):n+1<=bIdx c s:=by
 rcases Nat.lt_or_ge n (bIdx c s) with h' | h'
 ·exact h'
 ·exfalso
  have e:bIdx c s=n:=by omega
  unfold bIdx at e;have:=List.findIdx_getElem (xs:=s.data.toList) (p:=fun b=>b == c) (w:=by rw [e]; simpa using hn);simp only [e] at this
  have h58:s.data[n]'hn=c:=by simpa using this
  exact hne h58
theorem bIdx_here {c:UInt8} {s:ByteArray} {n:Nat} (h:n<=bIdx c s) (hn:n < s.size) (he:s[n]=c):bIdx c s=n:=by
 rcases Nat.lt_or_ge n (bIdx c s) with h' | h'
 ·exfalso
  have:=List.not_of_lt_findIdx (p:=fun b=>b == c) (xs:=s.data.toList) h';simp at this;exact this he
 ·omega
theorem bIdx_le (c:UInt8) (s:ByteArray):bIdx c s<=s.size:=by
 have:=List.findIdx_le_length (p:=fun b=>b == c) (xs:=s.data.toList)
 simpa [bIdx] using this
def bI (c:UInt8) (s:ByteArray):Int:=if bIdx c s < s.size then (bIdx c s:Int) else -1
theorem treeIndex (c:UInt8) (s:ByteArray) (w:World) (hs:s.size<=70368744177664):Calls Tryz.prog 149 #[.string s,.string ⟨#[c]⟩] w fun e w'=>e=.returned (.int .i64 (bI c s))/\w=w':=by
 have hcl:=bIdx_le c s;have HC:=Lib.hid hcl;clear hcl;have hc1:(⟨#[c]⟩ : ByteArray).size=1:=rfl
 go_enter Tryz.func149,Tryz.ntmps149
 go_wp2
 go_loopg [5] s.size (fun g i wr=>∃ n:Nat,n<=bIdx c s/\g=s.size - n/\i=.int .i64 n/\w=wr)
 case atStart=>exact ⟨0,Nat.zero_le _,by omega,rfl,rfl⟩
 case round=>
  obtain ⟨n,hn,rfl,rfl,rfl⟩:=hrel;have HN:=Lib.hid hn;clear hn
  by_cases hlt:n < s.size
  ·have hlt2:decide ((n:Int)+1<=s.size)=true:=by simp; omega
   by_cases h58:s[n]=c
   ·have he:((s.extract n (n+1)).toList == [c])=true:=by
     rw [ext_one hlt,h58,ByteArray.toList_eq];simp
    have hc:=bIdx_here HN.out hlt h58;have HCC:=Lib.hid hc
    have hn64:n<=70368744177664:=by omega
    clear hc h58
    go_wp2
    go_ret
    refine ⟨?_,rfl⟩;unfold bI;rw [HCC.out,if_pos hlt]
    rfl
   ·have he:((s.extract n (n+1)).toList == [c])=false:=ne_toList (k:=⟨#[c]⟩) (fun e=>by
     rw [ext_one hlt] at e;have:(#[s[n]]:Array UInt8)=#[c]:=congrArg ByteArray.data e
     exact h58 (by simpa using this)) (by rw [ByteArray.toList_eq])
    have hc:=bIdx_step HN.out hlt h58;have HCC:=Lib.hid hc
    have hn64:n<=70368744177664:=by omega
    clear hc h58
    go_wp2
    go_roundg (s.size - (n+1))
    case measure=>omega
    case rel=>exact ⟨n+1,HCC.out,rfl,by go_num,rfl⟩
  ·have hlt2:decide ((n:Int)+1<=s.size)=false:=by simp; omega
   have hn64:n<=70368744177664:=by have:=HN.out; have:=HC.out; omega
   go_wp2
   go_ret
   refine ⟨?_,rfl⟩;unfold bI;rw [if_neg (by have:=HN.out; omega)]
   rfl
abbrev NoDot (p:ByteArray):Prop:=(46:UInt8) ∉ p.data.toList
def jn:List ByteArray->ByteArray
 | []=>⟨#[]⟩
 | [p]=>p
 | p :: q :: r=>p++cDot++jn (q :: r)
theorem findIdx_split {c:UInt8}:∀ {a b:List UInt8},c ∉ a->(a++c :: b).findIdx (· == c)=a.length
 | [],b,_=>by simp [List.findIdx_cons]
 | x :: a,b,h=>by
  simp only [List.mem_cons,not_or] at h;rw [List.cons_append,List.findIdx_cons,show (x == c)=false from by simpa using fun e=>h.1 e.symm];simp only [cond_false];rw [findIdx_split h.2]
  rfl
theorem findIdx_no {c:UInt8}:∀ {a:List UInt8},c ∉ a->a.findIdx (· == c)=a.length
 | [],_=>rfl
 | x :: a,h=>by
  simp only [List.mem_cons,not_or] at h;rw [List.findIdx_cons,show (x == c)=false from by simpa using fun e=>h.1 e.symm];simp only [cond_false];rw [findIdx_no h.2]
  rfl
theorem jn_last {p:ByteArray} (h:NoDot p):bIdx 46 (jn [p])=(jn [p]).size:=by
 show p.data.toList.findIdx _=p.data.size;rw [findIdx_no h];exact Array.length_toList
theorem jn_cut {p q:ByteArray} {r:List ByteArray} (h:NoDot p):bIdx 46 (jn (p :: q :: r))=p.size/\p.size < (jn (p :: q :: r)).size/\(jn (p :: q :: r)).extract 0 p.size=p/\(jn (p :: q :: r)).extract (p.size+1) (jn (p :: q :: r)).size=jn (q :: r):=by
 have hd:(jn (p :: q :: r)).data.toList=p.data.toList++46 :: (jn (q :: r)).data.toList:=by
  simp only [jn,ByteArray.data_append,Array.toList_append,List.append_assoc]
  rfl
 have hz:(jn (p :: q :: r)).size=p.size+1+(jn (q :: r)).size:=by
  show (jn (p :: q :: r)).data.size=p.data.size+1+(jn (q :: r)).data.size;rw [<- Array.length_toList,hd];simp
  omega
 refine ⟨?_,by omega,?_,?_⟩
 ·unfold bIdx
  rw [hd,findIdx_split h];exact Array.length_toList
 ·apply ByteArray.ext
  rw [ByteArray.data_extract]
  apply Array.ext'
  rw [Array.toList_extract,hd];show ((p.data.toList++_).drop 0).take (p.size - 0)=_;rw [List.drop_zero,Nat.sub_zero];exact List.take_left' Array.length_toList
 ·apply ByteArray.ext
  rw [ByteArray.data_extract]
  apply Array.ext'
  rw [Array.toList_extract,hd];show ((p.data.toList++_).drop (p.size+1)).take ((jn (p :: q :: r)).size - (p.size+1))=_
  have h1:(p.data.toList++46 :: (jn (q :: r)).data.toList).drop (p.size+1)=(jn (q :: r)).data.toList:=by
   have:p.size+1=p.data.toList.length+1:=by rw [Array.length_toList]; rfl
   rw [this,List.drop_append];simp
  rw [h1,List.take_of_length_le];rw [Array.length_toList];show (jn (q :: r)).data.size<=_;have:(jn (q :: r)).size=(jn (q :: r)).data.size:=rfl
  omega
theorem app_str {w wr:World} (hcr:Chg [] w wr) {RA:Option Addr} {RC:Nat} {l:List ByteArray} (hown:wr.ownsRow w.heap.size 9 1 (.slice RA l.length RC) l.length (strC l)) (x:ByteArray) (hl:l.length<=67108864) :
  ∃ R' w2,(Builtin.append_ #[22,22] 22 #[.slice RA l.length RC,.slice (some ⟨wr.heap.size,0,none⟩) 1 1]).run Tryz.prog (wr.alloc (.cells #[.string x] 9))=.ok R' w2/\w2.ownsRow w.heap.size 9 1 R' (l++[x]).length (strC (l++[x]))/\Chg [] w w2:=by
 have hown2:=ownsRow_keep (w':=wr.alloc (.cells #[.string x] 9)) hown fun g hg=>heap_alloc_old _ _ _ (ownsRow_own hown hg).2
 obtain ⟨R',w2,hr,ho,hc,_⟩:=run_app (P:=Tryz.prog) w.heap.size 22 22 9 _ 1 16 uKs iS rfl (by decide) _ _ _ hown2 (some ⟨wr.heap.size,0,none⟩) 1 1 [.string x] rfl (fun _=>⟨_,rfl,fun j u hu=>by
  obtain rfl:j=0:=by
   have:=(List.getElem?_eq_some_iff.1 hu).1
   simpa using this
  have hv:Value.string x=u:=by simpa using hu
  subst hv
  exact cell_of_row _ wr.heap.size 0 _ _ (0,0) (heap_alloc_new _ _)⟩) (fun u hu=>by
   have:u=.string x:=by simpa using hu
   subst this
   rfl) (by omega) (by omega) (by have:=hcr.size; simp; omega)
 refine ⟨R',w2,hr,by simpa [strC] using ho,(hcr.al _).trans hc fun x hx=>?_⟩;have:=(ownsRow_own hown (g:=x) (by simpa using hx)).1;exact .inr this
theorem treeSplit_any (ps:List ByteArray) (hne:ps≠[]) (hd:∀ p∈ps,NoDot p) (w:World) (hs:(jn ps).size<=70368744177664) (hl:ps.length<=67108864) :
  Calls Tryz.prog 189 #[.string (jn ps),.string cDot] w fun e w'=>∃ v,e=.returned v/\Chg [] w w'/\RdK (fun b=>w.heap.size<=b) w' ps v:=by
 go_enter Tryz.func189,Tryz.ntmps189
 go_wp2_with fail
 go_loopg [0,5] ps.length (fun g a R wr=>∃ (l r:List ByteArray),a=.string (jn r)/\g=r.length/\r≠[]/\ps=l++r/\Chg [] w wr/\wr.ownsRow w.heap.size 9 1 R l.length (strC l)/\(jn r).size<=70368744177664)
 case atStart=>exact ⟨[],ps,rfl,rfl,hne,rfl,Chg.refl _ _,World.ownsRow_nil _ _ _ _,hs⟩
 case round=>
  obtain ⟨l,r,rfl,rfl,hr,hps,hcr,hown,hrs⟩:=hrel;obtain ⟨RA,RC,rfl⟩:=ownsRow_slice hown
  have hll:l.length<=67108864:=by
   have:=congrArg List.length hps;simp at this
   omega
  go_wp2_with fail
  refine (treeIndex 46 (jn r) _ hrs).mono ?_;rintro e w3 ⟨rfl,rfl⟩
  match r,hr with
  | [p],_=>
   have hp:NoDot p:=hd p (by rw [hps]; simp)
   have hci:bI 46 (jn [p])=-1:=by unfold bI; rw [jn_last hp,if_neg (Nat.lt_irrefl _)]
   rw [hci];have HST:=Lib.hid (app_str hcr hown (jn [p]) hll);clear hown hci
   go_wp2_with (first | (at_builtin; refine wpList_app rfl _ _ _ rfl rfl rfl HST.out ?_) | fail)
   intro v' w2 ho hc2
   go_wp2
   go_ret
   refine ⟨v',rfl,hc2,?_⟩;rw [hps];exact RdK.of_own (fun b hb=>hb) (by simpa [jn] using ho)
  | p :: q :: r,_=>
   have hp:NoDot p:=hd p (by rw [hps]; simp);obtain ⟨c1,c2,c3,c4⟩:=jn_cut (q:=q) (r:=r) hp
   obtain ⟨J,hJ⟩ : ∃ J,J=jn (p :: q :: r):=⟨_,rfl⟩
   obtain ⟨J2,hJ2⟩ : ∃ J2,J2=jn (q :: r):=⟨_,rfl⟩
   rw [<- hJ] at c1 c2 c3 c4 hrs ⊢;rw [<- hJ2] at c4
   have hci:bI 46 J=(p.size:Int):=by unfold bI; rw [c1,if_pos c2]
   rw [hci]
   have hp0:(0:Int)<=(p.size:Int):=by omega
   have hlt:p.size < J.size:=c2;have HST:=Lib.hid (app_str hcr hown p hll);have HC:=Lib.hid (And.intro c3 c4);have HJ2:=Lib.hid hJ2;clear hown hci hJ c1 c2 hJ2 c4
   go_wp2_with (first | (at_builtin; refine wpList_app rfl _ _ _ rfl rfl rfl HST.out ?_) | fail)
   intro v' w2 ho hc2
   clear c3
   go_wp2
   rw [HC.out.2]
   go_roundg (q :: r).length
   case measure=>simp
   case rel=>
    have hz:J2.size<=J.size:=by
     have:=congrArg ByteArray.size HC.out.2;rw [<- this];simp
    exact ⟨l++[p],q :: r,by rw [HJ2.out],rfl,by simp,by rw [hps]; simp,hc2,by simpa using ho,by rw [<- HJ2.out]; omega⟩
theorem parts_any (ps:List ByteArray) (hne:ps≠[]) (hd:∀ p∈ps,NoDot p) (w:World) (hs:(jn ps).size<=70368744177664) (hl:ps.length<=67108864) :
  Calls Tryz.prog 150 #[.string (jn ps)] w fun e w'=>∃ v,e=.returned v/\Chg [] w w'/\RdK (fun b=>w.heap.size<=b) w' ps v:=by
 have H:=Lib.hid (treeSplit_any ps hne hd w hs hl)
 go_enter Tryz.func150,Tryz.ntmps150
 go_wp2_with fail
 refine H.out.mono ?_;rintro e w1 ⟨v,rfl,hc,hr⟩
 go_wp2_with fail
 go_ret
 exact ⟨v,rfl,hc,hr⟩
theorem pm_length:∀ {q p:List ByteArray},pm q p=true->q.length=p.length
 | [],[],_=>rfl
 | [],_ :: _,h=>by simp [pm] at h
 | _ :: _,[],h=>by simp [pm] at h
 | _ :: q,_ :: p,h=>by simp only [List.length_cons]; rw [pm_length (pm_tail h)]
def pmTo (q p:List ByteArray) (n:Nat):Prop:=∀ j a b,j < n->q[j]?=some a->p[j]?=some b->a=cStar∨a=b
theorem pm_of {q p:List ByteArray} (hl:q.length=p.length) (h:pmTo q p p.length):pm q p=true:=by
 induction q generalizing p with
 | nil=>
  cases p with
  | nil=>rfl
  | cons _ _=>cases hl
 | cons a q ih=>
  cases p with
  | nil=>cases hl
  | cons b p=>
   have h0:=h 0 a b (by simp) rfl rfl
   have h1:=ih (p:=p) (by simpa using hl) fun j x y hj hx hy=>h (j+1) x y (by simp; omega) hx hy
   simp only [pm,h1,Bool.and_true,Bool.or_eq_true,decide_eq_true_eq];exact h0
theorem pm_no {q p:List ByteArray} {n:Nat} {a b:ByteArray} (ha:q[n]?=some a) (hb:p[n]?=some b) (h1:a≠cStar) (h2:a≠b):pm q p=false:=by
 induction q generalizing p n with
 | nil=>simp at ha
 | cons x q ih=>
  cases p with
  | nil=>simp at hb
  | cons y p=>
   cases n with
   | zero=>
    simp at ha hb;subst ha; subst hb;simp [pm,h1,h2]
   | succ n=>
    simp only [List.getElem?_cons_succ] at ha hb;simp only [pm,ih ha hb,Bool.and_false]
theorem matches_any (ps qs:List ByteArray) (hp:ps≠[]) (hq:qs≠[]) (hdp:∀ p∈ps,NoDot p) (hdq:∀ p∈qs,NoDot p) (w:World) (hsp:(jn ps).size<=70368744177664) (hsq:(jn qs).size<=70368744177664) (hlp:ps.length<=67108864) (hlq:qs.length<=67108864) :
  Calls Tryz.prog 105 #[.string (jn ps),.string (jn qs)] w fun e w'=>e=.returned (.bool (pm qs ps))/\Chg [] w w':=by
 have HQ:=Lib.hid (parts_any qs hq hdq w hsq hlq)
 have HP:Hid (∀ W,Calls Tryz.prog 150 #[.string (jn ps)] W fun e w'=>∃ v,e=.returned v/\Chg [] W w'/\RdK (fun b=>W.heap.size<=b) w' ps v):=Lib.hid fun W=>parts_any ps hp hdp W hsp hlp
 go_enter Tryz.func105,Tryz.ntmps105
 go_wp2_with fail
 refine HQ.out.mono ?_;rintro e w1 ⟨vq,rfl,hc1,hrq⟩
 go_wp2_with fail
 refine (HP.out w1).mono ?_;rintro e w2 ⟨vp,rfl,hc2,hrp⟩;have hrq:=hrq.chg hc2;obtain ⟨AQ,cq,rfl,hq1⟩:=id hrq;obtain ⟨AP,cp,rfl,hp1⟩:=id hrp;have hc:=hc1.trans hc2 New.nil
 by_cases hlen:qs.length=ps.length
 ·have hlb:((qs.length:Int) != (ps.length:Int))=false:=by simp [hlen]
  have HH:=Lib.hid (And.intro hc (And.intro hrq hrp));have HL:=Lib.hid hlen;clear hc1 hc2 hc hrq hrp hq1 hp1 hlen
  go_wp2_with fail
  go_loopg [20] ps.length (fun g i wr=>∃ n:Nat,n<=ps.length/\g=ps.length - n/\i=.int .i64 n/\wr=w2/\pmTo qs ps n)
  case atStart=>exact ⟨0,Nat.zero_le _,by omega,rfl,rfl,fun j a b hj=>by omega⟩
  case round=>
   obtain ⟨n,hn,rfl,rfl,rfl,hpm⟩:=hrel;have HPM:=Lib.hid hpm;clear hpm
   by_cases hlt:n < ps.length
   ·obtain ⟨b,hb⟩ : ∃ b,ps[n]?=some b:=⟨_,List.getElem?_eq_getElem hlt⟩
    obtain ⟨a,ha⟩ : ∃ a,qs[n]?=some a:=⟨_,List.getElem?_eq_getElem (by have:=HL.out; omega)⟩
    obtain ⟨gq,q1,e1,hgq,kq⟩:=HH.out.2.1.elem ha;obtain ⟨gp,p1,e2,hgp,kp⟩:=HH.out.2.2.elem hb
    cases e1
    cases e2
    have k1:=kq _ (Chg.refl [] wr);have k2:=kp _ (Chg.refl [] wr)
    have hltq:n < qs.length:=by have:=HL.out; omega
    have HAB:=Lib.hid (And.intro ha hb);clear ha hb kq kp
    by_cases h1:a=cStar
    ·subst h1
     have hstep:pmTo qs ps (n+1):=fun j x y hj hx hy=>by
      rcases Nat.lt_or_ge j n with h | h
      ·exact HPM.out j x y h hx hy
      ·obtain rfl:j=n:=by omega
       rw [HAB.out.1] at hx;exact .inl (Option.some.inj hx).symm
     have HST:=Lib.hid hstep;clear hstep
     go_wp2_with fail
     go_roundg (ps.length - (n+1))
     case measure=>omega
     case rel=>exact ⟨n+1,by omega,rfl,by go_num,rfl,HST.out⟩
    ·have f1:(a.toList == [42])=false:=ne_toList h1 (by kernel_rfl)
     by_cases h2:a=b
     ·have f2:(a.toList == b.toList)=true:=by rw [h2]; simp
      have hstep:pmTo qs ps (n+1):=fun j x y hj hx hy=>by
       rcases Nat.lt_or_ge j n with h | h
       ·exact HPM.out j x y h hx hy
       ·obtain rfl:j=n:=by omega
        rw [HAB.out.1] at hx;rw [HAB.out.2] at hy
        right
        rw [<- Option.some.inj hx,<- Option.some.inj hy,h2]
      have HST:=Lib.hid hstep;clear hstep h1 h2
      go_wp2_with fail
      go_roundg (ps.length - (n+1))
      case measure=>omega
      case rel=>exact ⟨n+1,by omega,rfl,by go_num,rfl,HST.out⟩
     ·have f2:(a.toList == b.toList)=false:=ne_toList h2 rfl
      have hno:=pm_no HAB.out.1 HAB.out.2 h1 h2;have HNO:=Lib.hid hno;clear hno h1 h2
      go_wp2_with fail
      go_ret
      rw [HNO.out];exact ⟨rfl,HH.out.1⟩
   ·have hnl:n=ps.length:=by omega
    have hyes:pm qs ps=true:=pm_of HL.out (hnl ▸ HPM.out);have HY:=Lib.hid hyes;clear hyes
    go_wp2_with fail
    go_ret
    rw [HY.out];exact ⟨rfl,HH.out.1⟩
 ·have hlb:((qs.length:Int) != (ps.length:Int))=true:=by simp; omega
  have hno:pm qs ps=false:=by
   cases h:pm qs ps with
   | false=>rfl
   | true=>exact absurd (pm_length h) hlen
  have HNO:=Lib.hid hno;clear hno hlen
  go_wp2_with fail
  go_ret
  rw [HNO.out];exact ⟨rfl,hc⟩
end Go.Proofs.YtpofkokbmifhgaaGreatDoor
namespace Go.Proofs.YtpofkokbmifhgaaGreatDoor
open Go.Shelf
def lays156_ren:Go.Shelf.Ren:=⟨fun | 156=>74 | 165=>114 | 166=>115 | 169=>116 | 240=>158 | 241=>159 | 276=>196 | 277=>197 | n=>n,fun | 31=>22 | 9=>9 | 3=>3 | 4=>4 | 0=>0 | 20=>20 | 72=>111 | 76=>113 | 70=>108 | 37=>109 | 75=>52 | 127=>145 | 164=>171 | 5=>5 | 80=>115 | n=>n,fun | n=>n⟩
theorem lays156:Go.Proofs.Lays.n156 Tryz.prog lays156_ren:={
 mixed:=by kernel_rfl
 f156:=Tryz.func74.trans (congrArg some (by kernel_rfl))
 f165:=Tryz.func114.trans (congrArg some (by kernel_rfl))
 f166:=Tryz.func115.trans (congrArg some (by kernel_rfl))
 f169:=Tryz.func116.trans (congrArg some (by kernel_rfl))
 f240:=Tryz.func158.trans (congrArg some (by kernel_rfl))
 f241:=Tryz.func159.trans (congrArg some (by kernel_rfl))
 f276:=Tryz.func196.trans (congrArg some (by kernel_rfl))
 f277:=Tryz.func197.trans (congrArg some (by kernel_rfl))
 t0:=Tryz.underlying0
 a0:=Tryz.isAgg0
 z0:=Tryz.sizeOf0
 v0:=Tryz.zeroValue0
 t3:=Tryz.underlying3
 a3:=Tryz.isAgg3
 z3:=Tryz.sizeOf3
 v3:=Tryz.zeroValue3
 t4:=Tryz.underlying4
 a4:=Tryz.isAgg4
 z4:=Tryz.sizeOf4
 v4:=Tryz.zeroValue4
 t9:=Tryz.underlying9
 a9:=Tryz.isAgg9
 z9:=Tryz.sizeOf9
 v9:=Tryz.zeroValue9
 t20:=Tryz.underlying20
 a20:=Tryz.isAgg20
 z20:=Tryz.sizeOf20
 v20:=Tryz.zeroValue20
 t31:=Tryz.underlying22
 a31:=Tryz.isAgg22
 z31:=Tryz.sizeOf22
 v31:=Tryz.zeroValue22
 t37:=Tryz.underlying109
 a37:=Tryz.isAgg109
 z37:=Tryz.sizeOf109
 v37:=Tryz.zeroValue109
 t70:=Tryz.underlying108
 a70:=Tryz.isAgg108
 z70:=Tryz.sizeOf108
 v70:=Tryz.zeroValue108
 t72:=Tryz.underlying111
 a72:=Tryz.isAgg111
 z72:=Tryz.sizeOf111
 v72:=Tryz.zeroValue111
 t75:=Tryz.underlying52
 a75:=Tryz.isAgg52
 z75:=Tryz.sizeOf52
 v75:=Tryz.zeroValue52
 t76:=Tryz.underlying113
 a76:=Tryz.isAgg113
 z76:=Tryz.sizeOf113
 v76:=Tryz.zeroValue113
 t127:=Tryz.underlying145
 a127:=Tryz.isAgg145
 z127:=Tryz.sizeOf145
 v127:=Tryz.zeroValue145
 t164:=Tryz.underlying171
 a164:=Tryz.isAgg171
 z164:=Tryz.sizeOf171
 v164:=Tryz.zeroValue171 }
theorem Builder_Extra_156:Builder.Extra Tryz.prog lays156_ren:={
 sizeBuilder:=by kernel_rfl
 liesBuilder:=by kernel_rfl
 t5:=Tryz.underlying5
 a5:=Tryz.isAgg5
 z5:=Tryz.sizeOf5
 v5:=Tryz.zeroValue5
 infoByte:=by kernel_rfl
 cellsByte:=by kernel_rfl
 sizeByte:=by kernel_rfl
 neB5:=by decide }
open Go.RowKit in
theorem strings_Join_none (a:Option Addr) (c:Nat) (sep:ByteArray) (w:World) :
  Calls Tryz.prog 74 #[.slice a 0 c,.string sep] w fun e w'=>e=.returned (.string ⟨#[]⟩)/\w'=w:=Any.strings_Join_none lays156 Builder_Extra_156 a c sep w
def laysM171_ren:Go.Shelf.Ren:=⟨fun | 171=>113 | 243=>157 | 246=>195 | 283=>219 | 284=>220 | 285=>221 | 286=>222 | 129=>188 | 317=>237 | 318=>238 | 319=>239 | 320=>240 | 337=>246 | 338=>247 | n=>n,fun | 3=>3 | 9=>9 | 2=>2 | 4=>4 | 171=>196 | 0=>0 | 53=>102 | 37=>109 | 5=>5 | 173=>198 | 212=>216 | 51=>162 | 20=>20 | 213=>217 | 46=>129 | 232=>241 | 233=>242 | n=>n,fun | 17=>3 | 18=>6 | 19=>7 | n=>n⟩
theorem laysM171:Go.Proofs.LaysM.n171 Tryz.prog laysM171_ren:={
 mixed:=by kernel_rfl
 f129:=Tryz.func188.trans (congrArg some (by kernel_rfl))
 f171:=Tryz.func113.trans (congrArg some (by kernel_rfl))
 f243:=Tryz.func157.trans (congrArg some (by kernel_rfl))
 f246:=Tryz.func195.trans (congrArg some (by kernel_rfl))
 f283:=Tryz.func219.trans (congrArg some (by kernel_rfl))
 f284:=Tryz.func220.trans (congrArg some (by kernel_rfl))
 f285:=Tryz.func221.trans (congrArg some (by kernel_rfl))
 f286:=Tryz.func222.trans (congrArg some (by kernel_rfl))
 f317:=Tryz.func237.trans (congrArg some (by kernel_rfl))
 f318:=Tryz.func238.trans (congrArg some (by kernel_rfl))
 f319:=Tryz.func239.trans (congrArg some (by kernel_rfl))
 f320:=Tryz.func240.trans (congrArg some (by kernel_rfl))
 f337:=Tryz.func246.trans (congrArg some (by kernel_rfl))
 f338:=Tryz.func247.trans (congrArg some (by kernel_rfl))
 t0:=Tryz.underlying0
 a0:=Tryz.isAgg0
 z0:=Tryz.sizeOf0
 v0:=Tryz.zeroValue0
 t2:=Tryz.underlying2
 a2:=Tryz.isAgg2
 z2:=Tryz.sizeOf2
 v2:=Tryz.zeroValue2
 t3:=Tryz.underlying3
 a3:=Tryz.isAgg3
 z3:=Tryz.sizeOf3
 v3:=Tryz.zeroValue3
 t4:=Tryz.underlying4
 a4:=Tryz.isAgg4
 z4:=Tryz.sizeOf4
 v4:=Tryz.zeroValue4
 t5:=Tryz.underlying5
 a5:=Tryz.isAgg5
 z5:=Tryz.sizeOf5
 v5:=Tryz.zeroValue5
 t9:=Tryz.underlying9
 a9:=Tryz.isAgg9
 z9:=Tryz.sizeOf9
 v9:=Tryz.zeroValue9
 t20:=Tryz.underlying20
 a20:=Tryz.isAgg20
 z20:=Tryz.sizeOf20
 v20:=Tryz.zeroValue20
 t37:=Tryz.underlying109
 a37:=Tryz.isAgg109
 z37:=Tryz.sizeOf109
 v37:=Tryz.zeroValue109
 t46:=Tryz.underlying129
 a46:=Tryz.isAgg129
 z46:=Tryz.sizeOf129
 v46:=Tryz.zeroValue129
 t51:=Tryz.underlying162
 a51:=Tryz.isAgg162
 z51:=Tryz.sizeOf162
 v51:=Tryz.zeroValue162
 t53:=Tryz.underlying102
 a53:=Tryz.isAgg102
 z53:=Tryz.sizeOf102
 v53:=Tryz.zeroValue102
 t171:=Tryz.underlying196
 a171:=Tryz.isAgg196
 z171:=Tryz.sizeOf196
 v171:=Tryz.zeroValue196
 t173:=Tryz.underlying198
 a173:=Tryz.isAgg198
 z173:=Tryz.sizeOf198
 v173:=Tryz.zeroValue198
 t212:=Tryz.underlying216
 a212:=Tryz.isAgg216
 z212:=Tryz.sizeOf216
 v212:=Tryz.zeroValue216
 t213:=Tryz.underlying217
 a213:=Tryz.isAgg217
 z213:=Tryz.sizeOf217
 t232:=Tryz.underlying241
 a232:=Tryz.isAgg241
 z232:=Tryz.sizeOf241
 v232:=Tryz.zeroValue241
 t233:=Tryz.underlying242
 a233:=Tryz.isAgg242
 z233:=Tryz.sizeOf242
 v233:=Tryz.zeroValue242
 g17:=by kernel_rfl
 g18:=by kernel_rfl
 g19:=by kernel_rfl
 i0:=by kernel_rfl
 i2:=by kernel_rfl
 i3:=by kernel_rfl
 i4:=by kernel_rfl
 i5:=by kernel_rfl
 i9:=by kernel_rfl
 i20:=by kernel_rfl
 i37:=by kernel_rfl
 i46:=by kernel_rfl
 i51:=by kernel_rfl
 i53:=by kernel_rfl
 i171:=by kernel_rfl
 i173:=by kernel_rfl
 i212:=by kernel_rfl
 i232:=by kernel_rfl
 i233:=by kernel_rfl
 m17:=by kernel_rfl
 m18:=by kernel_rfl
 m19:=by kernel_rfl }
open Go.RowKit Go.Sort Go.Lib in
theorem strconv_Itoa (n:Int) (h0:-9223372036854775808<=n) (h1:n<=9223372036854775807) (w:World) (htab:Lib.TabIs Tryz.prog w "internal/strconv.uint64pow10" .u64 Lib.pow10Tab) :
  Calls Tryz.prog 113 #[.int .i64 n] w fun e w'=>e=.returned (.string ⟨(Lib.itoa n).toArray⟩)/\∃ k os,w'=grow (w.drewN k) os:=Any.strconv_Itoa laysM171 n h0 h1 w htab
def lays192_ren:Go.Shelf.Ren:=⟨fun | 192=>69 | 190=>103 | 125=>148 | 258=>147 | 128=>187 | 129=>188 | 302=>178 | 303=>179 | 304=>180 | 305=>181 | 306=>182 | 307=>183 | 308=>184 | 309=>185 | 310=>186 | 333=>207 | 329=>208 | 330=>209 | 334=>210 | 335=>211 | 336=>212 | 344=>230 | n=>n,fun | 31=>22 | 0=>0 | 9=>9 | 3=>3 | 46=>129 | 51=>162 | 53=>102 | 4=>4 | 183=>155 | 182=>154 | 131=>61 | 5=>5 | 218=>181 | 222=>185 | 228=>205 | 229=>206 | n=>n,fun | n=>n⟩
theorem lays192:Go.Proofs.Lays.n192 Tryz.prog lays192_ren:={
 mixed:=by kernel_rfl
 f125:=Tryz.func148.trans (congrArg some (by kernel_rfl))
 f128:=Tryz.func187.trans (congrArg some (by kernel_rfl))
 f129:=Tryz.func188.trans (congrArg some (by kernel_rfl))
 f190:=Tryz.func103.trans (congrArg some (by kernel_rfl))
 f192:=Tryz.func69.trans (congrArg some (by kernel_rfl))
 f258:=Tryz.func147.trans (congrArg some (by kernel_rfl))
 f302:=Tryz.func178.trans (congrArg some (by kernel_rfl))
 f303:=Tryz.func179.trans (congrArg some (by kernel_rfl))
 f304:=Tryz.func180.trans (congrArg some (by kernel_rfl))
 f305:=Tryz.func181.trans (congrArg some (by kernel_rfl))
 f306:=Tryz.func182.trans (congrArg some (by kernel_rfl))
 f307:=Tryz.func183.trans (congrArg some (by kernel_rfl))
 f308:=Tryz.func184.trans (congrArg some (by kernel_rfl))
 f309:=Tryz.func185.trans (congrArg some (by kernel_rfl))
 f310:=Tryz.func186.trans (congrArg some (by kernel_rfl))
 f329:=Tryz.func208.trans (congrArg some (by kernel_rfl))
 f330:=Tryz.func209.trans (congrArg some (by kernel_rfl))
 f333:=Tryz.func207.trans (congrArg some (by kernel_rfl))
 f334:=Tryz.func210.trans (congrArg some (by kernel_rfl))
 f335:=Tryz.func211.trans (congrArg some (by kernel_rfl))
 f336:=Tryz.func212.trans (congrArg some (by kernel_rfl))
 f344:=Tryz.func230.trans (congrArg some (by kernel_rfl))
 t0:=Tryz.underlying0
 a0:=Tryz.isAgg0
 z0:=Tryz.sizeOf0
 v0:=Tryz.zeroValue0
 t3:=Tryz.underlying3
 a3:=Tryz.isAgg3
 z3:=Tryz.sizeOf3
 v3:=Tryz.zeroValue3
 t4:=Tryz.underlying4
 a4:=Tryz.isAgg4
 z4:=Tryz.sizeOf4
 v4:=Tryz.zeroValue4
 t5:=Tryz.underlying5
 a5:=Tryz.isAgg5
 z5:=Tryz.sizeOf5
 v5:=Tryz.zeroValue5
 t9:=Tryz.underlying9
 a9:=Tryz.isAgg9
 z9:=Tryz.sizeOf9
 v9:=Tryz.zeroValue9
 t31:=Tryz.underlying22
 a31:=Tryz.isAgg22
 z31:=Tryz.sizeOf22
 v31:=Tryz.zeroValue22
 t46:=Tryz.underlying129
 a46:=Tryz.isAgg129
 z46:=Tryz.sizeOf129
 v46:=Tryz.zeroValue129
 t51:=Tryz.underlying162
 a51:=Tryz.isAgg162
 z51:=Tryz.sizeOf162
 v51:=Tryz.zeroValue162
 t53:=Tryz.underlying102
 a53:=Tryz.isAgg102
 z53:=Tryz.sizeOf102
 v53:=Tryz.zeroValue102
 t131:=Tryz.underlying61
 a131:=Tryz.isAgg61
 z131:=Tryz.sizeOf61
 v131:=Tryz.zeroValue61
 t182:=Tryz.underlying154
 a182:=Tryz.isAgg154
 z182:=Tryz.sizeOf154
 v182:=Tryz.zeroValue154
 t183:=Tryz.underlying155
 a183:=Tryz.isAgg155
 z183:=Tryz.sizeOf155
 v183:=Tryz.zeroValue155
 t218:=Tryz.underlying181
 a218:=Tryz.isAgg181
 z218:=Tryz.sizeOf181
 v218:=Tryz.zeroValue181
 t222:=Tryz.underlying185
 a222:=Tryz.isAgg185
 z222:=Tryz.sizeOf185
 v222:=Tryz.zeroValue185
 t228:=Tryz.underlying205
 a228:=Tryz.isAgg205
 z228:=Tryz.sizeOf205
 v228:=Tryz.zeroValue205
 t229:=Tryz.underlying206
 a229:=Tryz.isAgg206
 z229:=Tryz.sizeOf206
 v229:=Tryz.zeroValue206 }
open Go.Sort Go.RowKit in
theorem sort_Strings (blk off cap:Nat) (ss:List (List UInt8)) (w:World) (hH:Holds encStr w blk off ss.toArray) (hblk:blk < w.heap.size) (hsz:ss.length < 4611686018427387904) :
  Calls Tryz.prog 69 #[.slice (some ⟨blk,off,none⟩) ss.length cap] w fun e w'=>
   e=.returned (.tuple #[])/\∃ n os,w'=grow (putRow encStr (Sort.ahead w n) blk off (ss.mergeSort fun x y=>decide (x<=y)).toArray) os:=Any.sort_Strings lays192 blk off cap ss w hH hblk hsz
end Go.Proofs.YtpofkokbmifhgaaGreatDoor
