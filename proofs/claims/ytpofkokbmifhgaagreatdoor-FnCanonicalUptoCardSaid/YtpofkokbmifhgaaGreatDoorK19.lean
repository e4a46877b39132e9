/- Parts of the walk, made small by wip/tools/pack.py: CanM. No condition but those in each statement. -/
import Derived.Test.YtpofkokbmifhgaaGreatDoorK18
set_option maxRecDepth 100000
set_option maxHeartbeats 20000000
set_option linter.unusedVariables false
set_option linter.unusedSimpArgs false
namespace Go.Proofs.YtpofkokbmifhgaaGreatDoor
theorem ins_ins {k:ByteArray} {x y:T} {m:List (ByteArray × T)} (h:Srt m):mins k x (mins k y m)=mins k x m:=
 Srt.ext h.srt_ins.srt_ins h.srt_ins fun z=>by
  by_cases e:z=k
  ·subst e; rw [get_ins,get_ins]
  ·rw [get_ins_ne e,get_ins_ne e,get_ins_ne e]
theorem map_at {f:ByteArray->T->T} {k:ByteArray} {v:T} {m:List (ByteArray × T)} (hs:Srt m) (hg:mget k m=some v) (h:∀ p∈m,p.1≠k->f p.1 p.2=p.2):m.map (fun p=>(p.1,f p.1 p.2))=mins k (f k v) m:=
 Srt.ext (srt_map hs) hs.srt_ins fun z=>by
  rw [get_map]
  by_cases e:z=k
  ·subst e; rw [get_ins,hg]; rfl
  ·rw [get_ins_ne e]
   cases hz:mget z m with
   | none=>rfl
   | some x=>simp only [Option.map_some,h _ (get_some hz) e]
structure SvcLaw (s:ByteArray) (t:T):Prop where
 ok:UniOK [cServices,s] t
 cok:CanOK [cServices,s] (uniT [cServices,s] t)
 view:(∀ q∈t.m,q.1∈uniqA->SaidU q.1 q.2.vals)->viewSvc (canT [cServices,s] (uniT [cServices,s] t))=viewSvc (canonSvc t)
 ok2:UniOK [cServices,s] (canT [cServices,s] (uniT [cServices,s] t))
 uni2:uniT [cServices,s] (canT [cServices,s] (uniT [cServices,s] t))=canT [cServices,s] (uniT [cServices,s] t)
 cok2:CanOK [cServices,s] (canT [cServices,s] (uniT [cServices,s] t))
 can2:canT [cServices,s] (canT [cServices,s] (uniT [cServices,s] t))=canT [cServices,s] (uniT [cServices,s] t)
 long:(∀ q∈t.m,q.1∈uniqA->SaidU q.1 q.2.vals)->CanOK [cServices,s] (canonSvc t)/\viewSvc (canT [cServices,s] (canonSvc t))=viewSvc (canonSvc t)
theorem svc_law {t:T} (s:ByteArray) (h:SvcSaid t):SvcLaw s t:=by
 obtain ⟨m,rfl,hm⟩:=h
 have hA:∀ p∈m,AttrLaw s p.1 p.2:=fun p hp=>attr_law s (hm p hp)
 have htr:trOf [cServices,s]=some .service:=rfl
 have hn:∀ k,esc k=k->[cServices,s]++[nxt [cServices,s] k]=[cServices,s,k]:=fun k hk=>by
  simp only [nxt,reduceCtorEq,if_false,hk]
  rfl
 have hu:∀ f:ByteArray->T->T,uniT [cServices,s] (.map (m.map fun p=>(p.1,f p.1 p.2)))=.map (m.map fun p=>(p.1,uniT [cServices,s,p.1] (f p.1 p.2))):=fun f=>by
  simp only [uniT,uniM_eq,List.map_map]
  congr 1
  refine List.map_congr_left fun p hp=>?_
  simp only [Function.comp]
  rw [hn _ (hA p hp).esc]
 have hc:∀ f:ByteArray->T->T,canT [cServices,s] (.map (m.map fun p=>(p.1,f p.1 p.2)))=.map (m.map fun p=>(p.1,canT [cServices,s,p.1] (f p.1 p.2))):=fun f=>by
  simp only [canT,htr,canM_eq,List.map_map]
  congr 1
  refine List.map_congr_left fun p hp=>?_
  simp only [Function.comp]
  rw [hn _ (hA p hp).esc]
 have huo:∀ f:ByteArray->T->T,(∀ p∈m,UniOK [cServices,s,p.1] (f p.1 p.2))->UniOK [cServices,s] (.map (m.map fun p=>(p.1,f p.1 p.2))):=fun f h=>by
  refine UniOKM_iff.2 fun q hq=>?_
  obtain ⟨p,hp,rfl⟩:=List.mem_map.1 hq
  rw [hn _ (hA p hp).esc]
  exact h p hp
 have hco:∀ f:ByteArray->T->T,(∀ p∈m,CanOK [cServices,s,p.1] (f p.1 p.2))->CanOK [cServices,s] (.map (m.map fun p=>(p.1,f p.1 p.2))):=fun f h=>by
  simp only [CanOK,htr]
  refine CanOKM_iff.2 fun q hq=>?_
  obtain ⟨p,hp,rfl⟩:=List.mem_map.1 hq
  rw [hn _ (hA p hp).esc]
  exact h p hp
 have h0:(.map m:T)=.map (m.map fun p=>(p.1,(fun (_:ByteArray) (x:T)=>x) p.1 p.2)):=by
  congr 1
  exact (map_eq_self fun p _=>rfl).symm
 have hu0:uniT [cServices,s] (.map m)=.map (m.map fun p=>(p.1,uniT [cServices,s,p.1] p.2)):=by
  rw [h0]
  exact hu fun _ x=>x
 have hcu:canT [cServices,s] (uniT [cServices,s] (.map m))=.map (m.map fun p=>(p.1,canT [cServices,s,p.1] (uniT [cServices,s,p.1] p.2))):=by
  rw [hu0]
  exact hc fun k x=>uniT [cServices,s,k] x
 have hcs:canonSvc (.map m)=.map (m.map fun p=>(p.1,canonA p.1 p.2)):=rfl
 have hv:∀ f g:ByteArray->T->T,(∀ p∈m,viewA p.1 (f p.1 p.2)=viewA p.1 (g p.1 p.2))->viewSvc (.map (m.map fun p=>(p.1,f p.1 p.2)))=viewSvc (.map (m.map fun p=>(p.1,g p.1 p.2))):=fun f g h=>by
  simp only [viewSvc,List.map_map]
  congr 1
  refine List.map_congr_left fun p hp=>?_
  simp only [Function.comp]
  rw [h p hp]
 refine ⟨?_,?_,fun hs=>?_,?_,?_,?_,?_,fun hs=>⟨?_,?_⟩⟩
 ·rw [h0]
  exact huo (fun _ x=>x) fun p hp=>(hA p hp).ok
 ·rw [hu0]
  exact hco (fun k x=>uniT [cServices,s,k] x) fun p hp=>(hA p hp).cok
 ·rw [hcu,hcs]
  exact hv (fun k x=>canT [cServices,s,k] (uniT [cServices,s,k] x)) canonA fun p hp=>(hA p hp).view (hs p hp)
 ·rw [hcu]
  exact huo (fun k x=>canT [cServices,s,k] (uniT [cServices,s,k] x)) fun p hp=>(hA p hp).ok2
 ·rw [hcu,hu fun k x=>canT [cServices,s,k] (uniT [cServices,s,k] x)]
  congr 1
  exact List.map_congr_left fun p hp=>by rw [(hA p hp).uni2]
 ·rw [hcu]
  exact hco (fun k x=>canT [cServices,s,k] (uniT [cServices,s,k] x)) fun p hp=>(hA p hp).cok2
 ·rw [hcu,hc fun k x=>canT [cServices,s,k] (uniT [cServices,s,k] x)]
  congr 1
  exact List.map_congr_left fun p hp=>by rw [(hA p hp).can2]
 ·rw [hcs]
  exact hco canonA fun p hp=>((hA p hp).long (hs p hp)).1
 ·rw [hcs,hc canonA]
  exact hv (fun k x=>canT [cServices,s,k] (canonA k x)) canonA fun p hp=>((hA p hp).long (hs p hp)).2
theorem res_law {t:T} {a n:ByteArray} (ha:a=cNetworks∨a=cVolumes) (h:ResSaid t):uniT [a,n] t=t/\UniOK [a,n] t/\canT [a,n] t=t/\CanOK [a,n] t:=by
 have htr:trOf [a,n]=some .external:=by rcases ha with rfl | rfl <;> rfl
 have htr2:∀ k,trOf ([a,n]++[nxt [a,n] k])=none:=fun k=>by rcases ha with rfl | rfl <;> rfl
 rcases h with rfl | ⟨m,rfl,hm⟩
 ·exact ⟨by simp only [uniT],trivial,by simp only [canT],by simp only [CanOK,htr]⟩
 ·have hlf:∀ {x},isLeaf x->(∀ ps,uniT ps x=x/\UniOK ps x)/\∀ ps,trOf ps=none->canT ps x=x/\CanOK ps x:=fun {x} h=>by
   cases x <;> simp [isLeaf] at h
   ·exact ⟨fun ps=>⟨by simp only [uniT],trivial⟩,fun ps e=>⟨by simp only [canT],by simp only [CanOK,e]⟩⟩
   ·exact ⟨fun ps=>⟨by simp only [uniT],trivial⟩,fun ps e=>⟨by simp only [canT,e],by simp only [CanOK,e]⟩⟩
  refine ⟨?_,UniOKM_iff.2 fun p hp=>((hlf (hm p hp)).1 _).2,?_,?_⟩
  ·simp only [uniT]
   rw [uniM_self fun p hp=>((hlf (hm p hp)).1 _).1]
  ·simp only [canT,htr]
   rw [canM_self fun p hp=>((hlf (hm p hp)).2 _ (htr2 _)).1]
  ·simp only [CanOK,htr]
   refine ⟨CanOKM_iff.2 fun p hp=>((hlf (hm p hp)).2 _ (htr2 _)).2,fun x hx=>?_⟩
   have:=hm _ (get_some hx)
   rw [((hlf this).2 _ (htr2 _)).1]
   cases x <;> simp [isLeaf] at this <;> exact id
noncomputable def formP (m:List (ByteArray × T)):List (ByteArray × T):=m.map fun p=>(p.1,canT [p.1] (uniT [p.1] p.2))
theorem top_law {k:ByteArray} {v:T} (h:TopOKc k v) (hk:k≠cServices):uniT [k] v=v/\UniOK [k] v/\canT [k] v=v/\CanOK [k] v:=by
 cases h with
 | name=>exact ⟨by simp only [uniT],trivial,by simp only [canT,show trOf [cName]=none from rfl],by simp only [CanOK,show trOf [cName]=none from rfl]⟩
 | services hm=>exact absurd rfl hk
 | nets hm=>
  rename_i m
  have htr:trOf [cNetworks]=none:=rfl
  have hn:∀ n,[cNetworks]++[nxt [cNetworks] n]=[cNetworks,nxt [cNetworks] n]:=fun n=>rfl
  refine ⟨?_,UniOKM_iff.2 fun p hp=>(res_law (.inl rfl) (hm p hp)).2.1,?_,?_⟩
  ·simp only [uniT]
   rw [uniM_self fun p hp=>(res_law (.inl rfl) (hm p hp)).1]
  ·simp only [canT,htr]
   rw [canM_self fun p hp=>(res_law (.inl rfl) (hm p hp)).2.2.1]
  ·simp only [CanOK,htr]
   exact CanOKM_iff.2 fun p hp=>(res_law (.inl rfl) (hm p hp)).2.2.2
 | vols hm=>
  rename_i m
  have htr:trOf [cVolumes]=none:=rfl
  refine ⟨?_,UniOKM_iff.2 fun p hp=>(res_law (.inr rfl) (hm p hp)).2.1,?_,?_⟩
  ·simp only [uniT]
   rw [uniM_self fun p hp=>(res_law (.inr rfl) (hm p hp)).1]
  ·simp only [canT,htr]
   rw [canM_self fun p hp=>(res_law (.inr rfl) (hm p hp)).2.2.1]
  ·simp only [CanOK,htr]
   exact CanOKM_iff.2 fun p hp=>(res_law (.inr rfl) (hm p hp)).2.2.2
 | extra h=>
  have hf:k ∉ firsts:=extra_notin h (by decide +kernel)
  have hu:=uniT_none (t:=v) (ps:=[k]) fun ext=>ix_first hf
  have hc:=canT_none (t:=v) (ps:=[k]) fun ext=>tr_first hf
  exact ⟨hu.1,hu.2,hc.1,hc.2⟩
theorem nxt_nil (k:ByteArray):([]:List ByteArray)++[nxt [] k]=[k]:=by simp [nxt]
theorem root_tr:trOf []=none:=by rfl
theorem uniT_root (m:List (ByteArray × T)):uniT [] (.map m)=.map (m.map fun p=>(p.1,uniT [p.1] p.2)):=by
 simp only [uniT,uniM_eq,nxt_nil]
theorem canT_root (m:List (ByteArray × T)):canT [] (.map m)=.map (m.map fun p=>(p.1,canT [p.1] p.2)):=by
 simp only [canT,root_tr,canM_eq,nxt_nil]
theorem form_eq (m:List (ByteArray × T)):canT [] (uniT [] (.map m))=.map (formP m):=by
 rw [uniT_root,canT_root,List.map_map]
 rfl
theorem svcs_law {l:List (ByteArray × T)} (h:∀ p∈l,SvcSaid p.2) :
  UniOK [cServices] (.map l)/\CanOK [cServices] (uniT [cServices] (.map l)) /\
  canT [cServices] (uniT [cServices] (.map l))=.map (l.map fun p=>(p.1,canT [cServices,esc p.1] (uniT [cServices,esc p.1] p.2))) /\
  UniOK [cServices] (canT [cServices] (uniT [cServices] (.map l)))/\uniT [cServices] (canT [cServices] (uniT [cServices] (.map l)))=canT [cServices] (uniT [cServices] (.map l)) /\
  CanOK [cServices] (canT [cServices] (uniT [cServices] (.map l)))/\canT [cServices] (canT [cServices] (uniT [cServices] (.map l)))=canT [cServices] (uniT [cServices] (.map l)):=by
 have hL:∀ p∈l,SvcLaw (esc p.1) p.2:=fun p hp=>svc_law _ (h p hp)
 have htr:trOf [cServices]=none:=rfl
 have hn:∀ k,[cServices]++[nxt [cServices] k]=[cServices,esc k]:=fun k=>rfl
 have hu0:uniT [cServices] (.map l)=.map (l.map fun p=>(p.1,uniT [cServices,esc p.1] p.2)):=by
  simp only [uniT,uniM_eq]
  rfl
 have hc:∀ f:ByteArray->T->T,canT [cServices] (.map (l.map fun p=>(p.1,f p.1 p.2)))=.map (l.map fun p=>(p.1,canT [cServices,esc p.1] (f p.1 p.2))):=fun f=>by
  simp only [canT,htr,canM_eq,List.map_map]
  rfl
 have hu:∀ f:ByteArray->T->T,uniT [cServices] (.map (l.map fun p=>(p.1,f p.1 p.2)))=.map (l.map fun p=>(p.1,uniT [cServices,esc p.1] (f p.1 p.2))):=fun f=>by
  simp only [uniT,uniM_eq,List.map_map]
  rfl
 have hcu:canT [cServices] (uniT [cServices] (.map l))=.map (l.map fun p=>(p.1,canT [cServices,esc p.1] (uniT [cServices,esc p.1] p.2))):=by
  rw [hu0]
  exact hc fun k v=>uniT [cServices,esc k] v
 refine ⟨UniOKM_iff.2 fun p hp=>(hL p hp).ok,?_,hcu,?_,?_,?_,?_⟩
 ·rw [hu0]
  simp only [CanOK,htr]
  refine CanOKM_iff.2 fun q hq=>?_
  obtain ⟨p,hp,rfl⟩:=List.mem_map.1 hq
  exact (hL p hp).cok
 ·rw [hcu]
  refine UniOKM_iff.2 fun q hq=>?_
  obtain ⟨p,hp,rfl⟩:=List.mem_map.1 hq
  exact (hL p hp).ok2
 ·rw [hcu]
  rw [hu fun k v=>canT [cServices,esc k] (uniT [cServices,esc k] v)]
  congr 1
  exact List.map_congr_left fun p hp=>by rw [(hL p hp).uni2]
 ·rw [hcu]
  simp only [CanOK,htr]
  refine CanOKM_iff.2 fun q hq=>?_
  obtain ⟨p,hp,rfl⟩:=List.mem_map.1 hq
  exact (hL p hp).cok2
 ·rw [hcu]
  rw [hc fun k v=>canT [cServices,esc k] (uniT [cServices,esc k] v)]
  congr 1
  exact List.map_congr_left fun p hp=>by rw [(hL p hp).can2]
theorem model_uniOK {m:List (ByteArray × T)} (h:SaysOK m):UniOK [] (.map m):=UniOKM_iff.2 fun p hp=>by
 rw [nxt_nil]
 by_cases e:p.1=cServices
 ·have:=h p hp
  rw [e] at this ⊢
  generalize p.2=v at this
  cases this with
  | services hm=>exact (svcs_law hm).1
  | extra hx=>exact absurd (extra_head hx) (by decide +kernel)
 ·exact (top_law (h p hp) e).2.1
theorem svcs_is {v:T} (h:TopOKc cServices v):∃ l,v=.map l/\∀ p∈l,SvcSaid p.2:=by
 generalize hk:cServices=k at h
 cases h with
 | name=>exact absurd hk (by decide +kernel)
 | services hm=>exact ⟨_,rfl,hm⟩
 | nets hm=>exact absurd hk (by decide +kernel)
 | vols hm=>exact absurd hk (by decide +kernel)
 | extra hx=>exact absurd (extra_head hx) (by rw [<- hk]; decide +kernel)
theorem model_canOK {m:List (ByteArray × T)} (h:SaysOK m):CanOK [] (uniT [] (.map m)):=by
 rw [uniT_root]
 simp only [CanOK,root_tr]
 refine CanOKM_iff.2 fun q hq=>?_
 obtain ⟨p,hp,rfl⟩:=List.mem_map.1 hq
 rw [nxt_nil]
 by_cases e:p.1=cServices
 ·have:=h p hp
  simp only [e] at this ⊢
  obtain ⟨l,hl,hm⟩:=svcs_is this
  rw [hl]
  exact (svcs_law hm).2.1
 ·have:=top_law (h p hp) e
  rw [this.1]
  exact this.2.2.2
theorem form_none {m:List (ByteArray × T)} (h:SaysOK m) (hg:mget cServices m=none):formP m=m:=map_eq_self fun p hp=>by
 have e:p.1≠cServices:=fun e=>get_none.1 hg (e ▸ List.mem_map.2 ⟨p,hp,rfl⟩)
 obtain ⟨a,_,c,_⟩:=top_law (h p hp) e
 rw [a,c]
theorem form_some {m:List (ByteArray × T)} (hs:Srt m) (h:SaysOK m) {l:List (ByteArray × T)} (hg:mget cServices m=some (.map l)) :
  formP m=mins cServices (.map (l.map fun p=>(p.1,canT [cServices,esc p.1] (uniT [cServices,esc p.1] p.2)))) m/\∀ p∈l,SvcSaid p.2:=by
 obtain ⟨l',e,hm⟩:=svcs_is (h _ (get_some hg))
 cases e
 refine ⟨?_,hm⟩
 have:=map_at (f:=fun k v=>canT [k] (uniT [k] v)) hs hg fun p hp e=>by
  obtain ⟨a,_,c,_⟩:=top_law (h p hp) e
  simp only [a,c]
 unfold formP
 rw [this,(svcs_law hm).2.2.1]
theorem viewM_put {m l:List (ByteArray × T)} (hs:Srt m):viewM (mins cServices (.map l) m)=mins cServices (.map (l.map fun p=>(p.1,viewSvc p.2))) m:=by
 unfold viewM
 rw [get_ins]
 simp only
 rw [ins_ins hs]
theorem model_view {m:List (ByteArray × T)} (hs:Srt m) (h:SaysOK m) (hsaid:SaidM m):viewM (formP m)=viewM (canonS m):=by
 cases hg:mget cServices m with
 | none=>
  rw [form_none h hg]
  unfold canonS
  rw [hg]
 | some v=>
  obtain ⟨l,rfl,hm⟩:=svcs_is (h _ (get_some hg))
  rw [(form_some hs h hg).1,viewM_put hs]
  unfold canonS
  rw [hg]
  simp only [T.m]
  rw [viewM_put hs,List.map_map,List.map_map]
  congr 2
  refine List.map_congr_left fun p hp=>?_
  simp only [Function.comp]
  rw [(svc_law (esc p.1) (hm p hp)).view (hsaid l hg p hp)]
end Go.Proofs.YtpofkokbmifhgaaGreatDoor
