/- Parts of the walk, made small by wip/tools/pack.py: CanLaw. No condition but those in each statement. -/
import Derived.Test.YtpofkokbmifhgaaGreatDoorL08
set_option maxRecDepth 100000
set_option maxHeartbeats 20000000
set_option linter.unusedVariables false
set_option linter.unusedSimpArgs false
namespace Go.Proofs.YtpofkokbmifhgaaGreatDoor
theorem extra_head {k:ByteArray} (h:ExtraK k):k.data.toList.head?=some 120:=by
 obtain ⟨c,_,_,rfl⟩:=h
 rfl
theorem extra_notin {k:ByteArray} (h:ExtraK k) {l:List ByteArray} (hl:∀ e∈l,e.data.toList.head?≠some 120):k ∉ l:=fun hk=>hl k hk (extra_head h)
theorem esc_extra {k:ByteArray} (h:ExtraK k):esc k=k:=by
 obtain ⟨c,h1,h2,rfl⟩:=h
 have hc:c≠46:=fun e=>by subst e; exact absurd h1 (by decide)
 simp [esc,hc]
theorem plain_notin {k:ByteArray} (h:k∈plainA∨ExtraK k):k ∉ uThirds/\k ∉ tThirds/\k ∉ namedA/\k ∉ uniqA/\k≠cDependsOn/\k≠cNetworks/\k≠cBuild/\k≠cSecrets/\k≠cConfigs/\esc k=k:=by
 rcases h with h | h
 ·revert k
  decide +kernel
 ·refine ⟨extra_notin h (by decide +kernel),extra_notin h (by decide +kernel),extra_notin h (by decide +kernel),extra_notin h (by decide +kernel),?_,?_,?_,?_,?_,esc_extra h⟩
  all_goals
   intro e
   have:=extra_head h;rw [e] at this
   revert this
   decide +kernel
theorem foldK_get {x:T} {k:ByteArray}:∀ {l:List T} {m:List (ByteArray × T)},mget k (l.foldl (fun m t=>mins t.txt x m) m)=some x∨mget k (l.foldl (fun m t=>mins t.txt x m) m)=mget k m
 | [],m=>.inr rfl
 | t :: l,m=>by
  rcases foldK_get (x:=x) (k:=k) (l:=l) (m:=mins t.txt x m) with h | h
  ·exact .inl h
  ·by_cases e:t.txt=k
   ·left
    simp only [List.foldl_cons];rw [h,<- e,get_ins]
   ·right
    simp only [List.foldl_cons];rw [h,get_ins_ne (fun e'=>e e'.symm)]
theorem foldK_srt (x:T) (l:List T):Srt (foldK x l):=foldl_ins_srt (f:=T.txt) (g:=fun _=>x) l [] List.Pairwise.nil
theorem mem_get {α:Type} {p:ByteArray × α}:∀ {m:List (ByteArray × α)},Srt m->p∈m->mget p.1 m=some p.2
 | [],_,h=>by cases h
 | q :: m,hs,h=>by
  unfold mget;rcases List.mem_cons.1 h with rfl | h
  ·simp
  ·have:q.1≠p.1:=fun e=>by
    have:=hs.head p h;rw [e,blt_irrefl] at this
    cases this
   rw [if_neg this];exact mem_get hs.tail h
theorem foldK_vals {x:T} {l:List T}:∀ p∈foldK x l,p.2=x:=fun p hp=>by
 have h1:=mem_get (foldK_srt x l) hp;rcases foldK_get (x:=x) (k:=p.1) (l:=l) (m:=[]) with h | h
 ·exact Option.some.inj (h1.symm.trans h)
 ·exact absurd (h1.symm.trans h) (by simp [mget])
theorem lastV_vals {k:ByteArray}:∀ {l:List T} {v:T},lastV k l=some v->v=.null∨∃ s,v=.text s
 | [],_,h=>by cases h
 | t :: r,v,h=>by
  simp only [lastV] at h
  split at h
  ·rename_i u hu
   cases h
   exact lastV_vals hu
  ·split at h
   ·cases h
    unfold cutV
    split
    ·exact .inr ⟨_,rfl⟩
    ·exact .inl rfl
   ·cases h
theorem named_vals {l:List T}:∀ p∈namedL l,p.2=.null∨∃ s,p.2=.text s:=fun p hp=>by
 have h1:=mem_get (named_srt l) hp;rw [named_get] at h1;exact lastV_vals h1
theorem viewN_named (l:List T):viewN (.map (namedL l))=.map (namedL l):=by
 simp only [viewN]
 congr 1
 have:(namedL l).map (fun p=>(p.1,viewW p.2))=(namedL l).map id:=List.map_congr_left fun p hp=>by
  rcases named_vals p hp with h | ⟨s,h⟩
  ·rw [show p=(p.1,p.2) from rfl,h]; rfl
  ·rw [show p=(p.1,p.2) from rfl,h]; rfl
 rw [this,List.map_id]
theorem map_eq_self {α:Type} {f:α->α} {l:List α} (h:∀ x∈l,f x=x):l.map f=l:=by
 have:l.map f=l.map id:=List.map_congr_left h;rw [this,List.map_id]
theorem findIdx_none {p:UInt8->Bool}:∀ {l:List UInt8},(∀ x∈l,p x=false)->l.findIdx p=l.length
 | [],_=>rfl
 | x :: r,h=>by
  rw [List.findIdx_cons,h x (by simp)];simp only [cond_false];rw [findIdx_none fun y hy=>h y (List.mem_cons_of_mem _ hy)]
  rfl
theorem cutK_word {s:ByteArray} (h:NoByte 61 s):cutK s=s:=by
 have:eqIdx s=s.size:=by
  unfold eqIdx;rw [findIdx_none fun x hx=>?_]
  ·exact Array.length_toList
  ·simp only [beq_eq_false_iff_ne]
   exact fun e=>h (e ▸ hx)
 unfold cutK;rw [this];exact ByteArray.extract_zero_size
theorem uniq_ne {α K:Type} {key:α->K} {l:List α} (h:l≠[]):uniqBy key l≠[]:=by
 obtain ⟨l',t,rfl⟩ : ∃ l' t,l=l'++[t]:=⟨l.dropLast,l.getLast h,(List.dropLast_concat_getLast h).symm⟩
 rw [uniq_snoc];generalize uniqBy key l'=m
 cases m with
 | nil=>simp [putBy]
 | cons x r=>
  unfold putBy
  split <;> simp
theorem uniM_self {ps:List ByteArray} {m:List (ByteArray × T)} (h:∀ p∈m,uniT (ps++[nxt ps p.1]) p.2=p.2):uniM ps m=m:=by
 rw [uniM_eq]
 exact map_eq_self fun p hp=>by rw [h p hp]
theorem canM_self {ps:List ByteArray} {m:List (ByteArray × T)} (h:∀ p∈m,canT (ps++[nxt ps p.1]) p.2=p.2):canM ps m=m:=by
 rw [canM_eq]
 exact map_eq_self fun p hp=>by rw [h p hp]
structure AttrLaw (s k:ByteArray) (v:T):Prop where
 esc:esc k=k
 ok:UniOK [cServices,s,k] v
 cok:CanOK [cServices,s,k] (uniT [cServices,s,k] v)
 view:(k∈uniqA->SaidU k v.vals)->viewA k (canT [cServices,s,k] (uniT [cServices,s,k] v))=viewA k (canonA k v)
 ok2:UniOK [cServices,s,k] (canT [cServices,s,k] (uniT [cServices,s,k] v))
 uni2:uniT [cServices,s,k] (canT [cServices,s,k] (uniT [cServices,s,k] v))=canT [cServices,s,k] (uniT [cServices,s,k] v)
 cok2:CanOK [cServices,s,k] (canT [cServices,s,k] (uniT [cServices,s,k] v))
 can2:canT [cServices,s,k] (canT [cServices,s,k] (uniT [cServices,s,k] v))=canT [cServices,s,k] (uniT [cServices,s,k] v)
 long:(k∈uniqA->SaidU k v.vals)->CanOK [cServices,s,k] (canonA k v)/\viewA k (canT [cServices,s,k] (canonA k v))=viewA k (canonA k v)
theorem AttrLaw.mk' {s k:ByteArray} {v:T} (u c:T) (hesc:Go.Proofs.YtpofkokbmifhgaaGreatDoor.esc k=k) (ok:UniOK [cServices,s,k] v) (hu:CanOK [cServices,s,k] (uniT [cServices,s,k] v)) (e:canT [cServices,s,k] (uniT [cServices,s,k] v)=u)
  (hc:canonA k v=c) (hv:(k∈uniqA->SaidU k v.vals)->viewA k u=viewA k c) (ok2:UniOK [cServices,s,k] u) (u2:uniT [cServices,s,k] u=u) (c2:CanOK [cServices,s,k] u) (e2:canT [cServices,s,k] u=u)
  (hl:(k∈uniqA->SaidU k v.vals)->CanOK [cServices,s,k] c/\viewA k (canT [cServices,s,k] c)=viewA k c):AttrLaw s k v:=by
 refine ⟨hesc,ok,hu,?_,?_,?_,?_,?_,?_⟩
 ·rw [e,hc]; exact hv
 ·rw [e]; exact ok2
 ·rw [e]; exact u2
 ·rw [e]; exact c2
 ·rw [e]; exact e2
 ·rw [hc]; exact hl
theorem tr_ext {s k:ByteArray} (hk:k ∉ tThirds) (ext:List ByteArray):trOf ([cServices,s,k]++ext)=none:=tr_third hk
theorem ix_ext {s k:ByteArray} (hk:k ∉ uThirds) (ext:List ByteArray):ixOf ([cServices,s,k]++ext)=none:=ix_third hk
theorem canonA_plain {k:ByteArray} {v:T} (h1:k ∉ uniqA) (h2:k ∉ namedA) (h3:k≠cDependsOn) (h4:k≠cNetworks) (h5:k≠cBuild) (h6:k≠cSecrets) (h7:k≠cConfigs):canonA k v=v:=by
 simp only [canonA,uniqC,if_neg h1,if_neg h2,if_neg h3,if_neg h4,if_neg h5,h6,h7,or_self,if_false]
theorem dec_spec:∀ (u:Nat),((Lib.decDigits u).foldl (fun a b=>10 * a+(b.toNat - 48)) 0:Nat)=u/\∀ b∈Lib.decDigits u,48<=b.toNat/\b.toNat<=57:=by
 intro u
 induction u using Nat.strongRecOn with
 | _ u ih=>
  have hd:∀ m:Nat,m < 10->(UInt8.ofNat (48+m)).toNat=48+m:=fun m h=>by
   rw [UInt8.toNat_ofNat']
   omega
  unfold Lib.decDigits
  split
  ·rename_i h
   refine ⟨?_,fun b hb=>?_⟩
   ·simp only [List.foldl_cons,List.foldl_nil,hd u h]
    omega
   ·simp only [List.mem_singleton] at hb
    subst hb;rw [hd u h]
    omega
  ·rename_i h
   obtain ⟨h1,h2⟩:=ih (u / 10) (by omega);have h3:=hd (u % 10) (by omega);refine ⟨?_,fun b hb=>?_⟩
   ·rw [List.foldl_append]
    simp only [List.foldl_cons,List.foldl_nil,h3,h1]
    omega
   ·rcases List.mem_append.1 hb with hb | hb
    ·exact h2 b hb
    ·simp only [List.mem_singleton] at hb
     subst hb;rw [h3]
     omega
theorem itoa_pos {n:Int} (h:0<=n):Lib.itoa n=Lib.decDigits n.toNat:=by
 unfold Lib.itoa;rw [if_neg (by omega)]
theorem digits_inj {a b:Int} (ha:0<=a) (hb:0<=b) (h:Lib.itoa a=Lib.itoa b):a=b:=by
 rw [itoa_pos ha,itoa_pos hb] at h;have h1:=(dec_spec a.toNat).1;have h2:=(dec_spec b.toNat).1;rw [h] at h1
 omega
theorem split_uniq {c:UInt8}:∀ {a a' b b':List UInt8},c ∉ a->c ∉ a'->a++c :: b=a'++c :: b'->a=a'/\b=b'
 | [],[],b,b',_,_,h=>by simpa using h
 | [],x :: a',b,b',_,h2,h=>by
  simp at h;exact absurd h.1 (fun e=>h2 (by simp [e]))
 | x :: a,[],b,b',h1,_,h=>by
  simp at h;exact absurd h.1.symm (fun e=>h1 (by simp [e]))
 | x :: a,y :: a',b,b',h1,h2,h=>by
  simp only [List.cons_append,List.cons.injEq] at h;obtain ⟨e1,e2⟩:=split_uniq (a:=a) (a':=a') (fun hm=>h1 (List.mem_cons_of_mem _ hm)) (fun hm=>h2 (List.mem_cons_of_mem _ hm)) h.2;exact ⟨by rw [h.1,e1],e2⟩
theorem usual_get (m:List (ByteArray × T)):∃ m',usual cPorts (.map m)=.map m'/\mget cTarget m'=mget cTarget m/\mget cPublished m'=mget cPublished m/\mget cProtocol m'=some ((mget cProtocol m).getD (.text cTcp)) /\
  mget cHostIp m'=some ((mget cHostIp m).getD (.text cAny4)):=by
 have n1:(cTarget:ByteArray)≠cProtocol/\(cTarget:ByteArray)≠cHostIp/\(cPublished:ByteArray)≠cProtocol/\(cPublished:ByteArray)≠cHostIp/\(cProtocol:ByteArray)≠cHostIp/\(cHostIp:ByteArray)≠cProtocol:=by decide +kernel
 obtain ⟨n1,n2,n3,n4,n5,n6⟩:=n1
 obtain ⟨a,ha⟩ : ∃ a,a=if hasK cProtocol m then m else mins cProtocol (.text cTcp) m:=⟨_,rfl⟩
 have hus:usual cPorts (.map m)=.map (if hasK cHostIp a then a else mins cHostIp (.text cAny4) a):=by
  unfold usual;rw [if_pos rfl,ha]
  rfl
 rw [hus]
 have a1:mget cTarget a=mget cTarget m/\mget cPublished a=mget cPublished m/\mget cHostIp a=mget cHostIp m/\mget cProtocol a=some ((mget cProtocol m).getD (.text cTcp)):=by
  rw [ha]
  by_cases h:hasK cProtocol m=true
  ·rw [if_pos h]
   refine ⟨rfl,rfl,rfl,?_⟩
   cases hg:mget cProtocol m with
   | none=>simp [hasK,hg] at h
   | some x=>rfl
  ·rw [if_neg h]
   refine ⟨get_ins_ne n1,get_ins_ne n3,get_ins_ne n6,?_⟩;rw [get_ins,hasK_false (by simpa using h)]
   rfl
 refine ⟨_,rfl,?_⟩
 by_cases h:hasK cHostIp a=true
 ·rw [if_pos h]
  refine ⟨a1.1,a1.2.1,a1.2.2.2,?_⟩
  cases hg:mget cHostIp a with
  | none=>simp [hasK,hg] at h
  | some x=>rw [<- a1.2.2.1,hg]; rfl
 ·rw [if_neg h,get_ins_ne n2,get_ins_ne n4,get_ins_ne n5,get_ins]
  refine ⟨a1.1,a1.2.1,a1.2.2.2,?_⟩;rw [<- a1.2.2.1,hasK_false (by simpa using h)]
  rfl
theorem use_ports (m:List (ByteArray × T)):useT cPorts (.map m)=.list [(mget cTarget m).getD .null,(mget cPublished m).getD .null,(mget cProtocol m).getD .null,(mget cHostIp m).getD .null]:=by
 simp only [useT,if_true,tg]
theorem getD_inj {o o':Option T} (h:textOr o) (h':textOr o') (e:o.getD .null=o'.getD .null):o=o':=by
 cases o with
 | none=>
  cases o' with
  | none=>rfl
  | some y=>exact absurd (h' y rfl) (by simp at e; rw [<- e]; exact id)
 | some x=>
  cases o' with
  | none=>exact absurd (h x rfl) (by simp at e; rw [e]; exact id)
  | some y=>simpa using e
theorem wordOr.text {b:UInt8} {o:Option T} (h:wordOr b o):textOr o:=fun x hx=>by obtain ⟨s,rfl,_⟩:=h x hx; trivial
theorem portKey_list {m:List (ByteArray × T)} {n:Int} (h:mget cTarget m=some (.int n)):(portKey (.map m)).data.toList =
  (strOr cAny4 (mget cHostIp m)).data.toList++58 :: ((strOr cNilVerb (mget cPublished m)).data.toList++58 :: (Lib.itoa n++47 :: (strOr cTcp (mget cProtocol m)).data.toList)):=by
 simp only [portKey,tg,h,numOf,digits,ByteArray.data_append,Array.toList_append,List.append_assoc]
 rfl
theorem port_key {x y:T} (hx:PortOK x) (hy:PortOK y):portKey x=portKey y ↔ useT cPorts (usual cPorts x)=useT cPorts (usual cPorts y):=by
 obtain ⟨m,n,rfl,ht,hn1,hn2,hh,hp,hr⟩:=hx;obtain ⟨m',n',rfl,ht',hn1',hn2',hh',hp',hr'⟩:=hy;obtain ⟨u,e,g1,g2,g3,g4⟩:=usual_get m;obtain ⟨u',e',g1',g2',g3',g4'⟩:=usual_get m';rw [e,e',use_ports,use_ports,g1,g2,g3,g4,g1',g2',g3',g4',ht,ht'];simp only [Option.getD_some,T.list.injEq,List.cons.injEq,T.int.injEq,and_true]
 have hs:∀ {o:Option T} {d:ByteArray},textOr o->o.getD (.text d)=.text (strOr d o):=fun {o d} h=>by
  cases o with
  | none=>rfl
  | some x=>
   have:=h x rfl
   cases x <;> simp [isText] at this
   rfl
 rw [hs hr,hs hr',hs hh.text,hs hh'.text];simp only [T.text.injEq]
 have c1:∀ {o:Option T},wordOr 58 o->(58:UInt8) ∉ (strOr cAny4 o).data.toList:=fun {o} h=>by
  cases o with
  | none=>show (58:UInt8) ∉ cAny4.data.toList; decide +kernel
  | some x=>
   obtain ⟨s,rfl,hs⟩:=h x rfl;exact hs
 have c2:∀ {o:Option T},(∀ x,o=some x->∃ s,x=.text s/\NoByte 58 s/\NoByte 37 s)->(58:UInt8) ∉ (strOr cNilVerb o).data.toList:=fun {o} h=>by
  cases o with
  | none=>show (58:UInt8) ∉ cNilVerb.data.toList; decide +kernel
  | some x=>
   obtain ⟨s,rfl,hs,_⟩:=h x rfl;exact hs
 have c3:∀ {n:Int},1<=n->n<=65535->(47:UInt8) ∉ Lib.itoa n:=fun {n} h1 h2 hm=>by
  rw [itoa_pos (by omega)] at hm;have:=((dec_spec n.toNat).2 47 hm).1
  revert this
  decide
 have c4:∀ {o o':Option T},(∀ x,o=some x->∃ s,x=.text s/\NoByte 58 s/\NoByte 37 s)->(∀ x,o'=some x->∃ s,x=.text s/\NoByte 58 s/\NoByte 37 s)->(strOr cNilVerb o=strOr cNilVerb o' ↔ o.getD .null=o'.getD .null):=fun {o o'} h h'=>by
  have hnil:(37:UInt8)∈cNilVerb.data.toList:=by decide +kernel
  cases o with
  | none=>
   cases o' with
   | none=>simp
   | some y=>
    obtain ⟨s,rfl,_,hs⟩:=h' y rfl;simp only [strOr,Option.getD_none,Option.getD_some,reduceCtorEq,iff_false]
    exact fun e=>hs (e ▸ hnil)
  | some x=>
   obtain ⟨s,rfl,_,hs⟩:=h x rfl
   cases o' with
   | none=>
    simp only [strOr,Option.getD_none,Option.getD_some,reduceCtorEq,iff_false]
    exact fun e=>hs (e.symm ▸ hnil)
   | some y=>
    obtain ⟨s',rfl,_,hs'⟩:=h' y rfl;simp [strOr]
 constructor
 ·intro h
  have h:=congrArg (fun x:ByteArray=>x.data.toList) h;simp only [portKey_list ht,portKey_list ht'] at h;obtain ⟨q1,h⟩:=split_uniq (c1 hh) (c1 hh') h;obtain ⟨q2,h⟩:=split_uniq (c2 hp) (c2 hp') h;obtain ⟨q3,q4⟩:=split_uniq (c3 hn1 hn2) (c3 hn1' hn2') h;exact ⟨digits_inj (by omega) (by omega) q3,(c4 hp hp').1 (WideShapes.bytes_inj q2),WideShapes.bytes_inj q4,WideShapes.bytes_inj q1⟩
 ·rintro ⟨q1,q2,q3,q4⟩
  refine WideShapes.bytes_inj ?_;rw [portKey_list ht,portKey_list ht',q1,(c4 hp hp').2 q2,q3,q4]
theorem use_usual {x y:T} (hx:PortOK x) (hy:PortOK y) (h:useT cPorts x=useT cPorts y):useT cPorts (usual cPorts x)=useT cPorts (usual cPorts y):=by
 obtain ⟨m,n,rfl,ht,hn1,hn2,hh,hp,hr⟩:=hx;obtain ⟨m',n',rfl,ht',hn1',hn2',hh',hp',hr'⟩:=hy;obtain ⟨u,e,g1,g2,g3,g4⟩:=usual_get m;obtain ⟨u',e',g1',g2',g3',g4'⟩:=usual_get m';rw [use_ports,use_ports] at h;simp only [T.list.injEq,List.cons.injEq,and_true] at h;rw [e,e',use_ports,use_ports,g1,g2,g3,g4,g1',g2',g3',g4',h.1,h.2.1,getD_inj hr hr' h.2.2.1,getD_inj hh.text hh'.text h.2.2.2]
theorem port_uniq {l:List T} (hl:∀ x∈l,PortOK x) (h:SaidU cPorts l):uniqBy portKey l=uniqBy (useT cPorts) l:=by
 have:∀ n,n<=l.length->uniqBy portKey (l.take n)=uniqBy (useT cPorts) (l.take n):=by
  intro n
  induction n with
  | zero=>intro _; rfl
  | succ n ih=>
   intro hn
   obtain ⟨x,hx⟩ : ∃ x,l[n]?=some x:=⟨_,List.getElem?_eq_getElem (by omega)⟩
   rw [uniq_take hx,uniq_take hx,ih (by omega)]
   refine put_congr fun y hy=>?_
   have hxo:=hl x (List.mem_of_getElem? hx);have hyo:=hl y (List.mem_of_mem_take (mem_uniq hy));rw [port_key hyo hxo]
   constructor
   ·intro e
    rcases h n x hx y hy with h | h
    ·exact h
    ·exact absurd e h
   ·exact use_usual hyo hxo
 simpa using this l.length (Nat.le_refl _)
theorem words_third:∀ k∈[cCapAdd,cCapDrop,cDns,cDnsSearch,cDnsOpt],k≠cDns->k ∉ tThirds:=by decide +kernel
theorem words_k:∀ k∈[cCapAdd,cCapDrop,cDns,cDnsSearch,cDnsOpt],k∈uniqA/\k ∉ namedA/\k≠cDependsOn/\k≠cNetworks/\k≠cBuild/\k≠cSecrets/\k≠cConfigs/\esc k=k:=by decide +kernel
theorem files_k:∀ k∈[cSecrets,cConfigs],k∈uniqA/\k ∉ namedA/\k≠cDependsOn/\k≠cNetworks/\k≠cBuild/\(k=cSecrets∨k=cConfigs)/\esc k=k:=by decide +kernel
theorem attr_law {k:ByteArray} {v:T} (s:ByteArray) (h:AttrOK k v):AttrLaw s k v:=by
 cases h with
 | plain h=>
  obtain ⟨h1,h2,h3,h4,h5,h6,h7,h8,h9,h10⟩:=plain_notin h
  have hu:=uniT_none (t:=v) (ps:=[cServices,s,k]) fun ext=>ix_ext h1 ext
  have hc:=canT_none (t:=v) (ps:=[cServices,s,k]) fun ext=>tr_ext h2 ext
  refine AttrLaw.mk' v v h10 hu.2 (by rw [hu.1]; exact hc.2) (by rw [hu.1,hc.1]) (canonA_plain h4 h3 h5 h6 h7 h8 h9) (fun _=>rfl) hu.2 hu.1 hc.2 hc.1 (fun _=>⟨hc.2,by rw [hc.1]⟩)
 | named hk hm=>
  rename_i m
  have h2:k ∉ tThirds:=by revert k; decide +kernel
  have h3:k ∉ uniqA/\k≠cDependsOn/\k≠cNetworks/\k≠cBuild/\k≠cSecrets/\k≠cConfigs/\esc k=k:=by revert k; decide +kernel
  have hc:=canT_none (t:=.map m) (ps:=[cServices,s,k]) fun ext=>tr_ext h2 ext
  have hs:∀ p∈m,∀ ps,uniT ps p.2=p.2/\UniOK ps p.2:=fun p hp ps=>by
   have:=hm p hp
   cases hx:p.2 <;> simp [hx,isScalar] at this <;> exact ⟨by simp only [uniT],trivial⟩
  have hu:uniT [cServices,s,k] (.map m)=.map m:=by
   simp only [uniT];rw [uniM_self fun p hp=>(hs p hp _).1]
  have hok:UniOK [cServices,s,k] (.map m):=UniOKM_iff.2 fun p hp=>(hs p hp _).2
  have hcan:canonA k (.map m)=.map m:=by simp only [canonA,uniqC,if_neg h3.1,if_pos hk,canonN]
  exact AttrLaw.mk' (.map m) (.map m) h3.2.2.2.2.2.2 hok (by rw [hu]; exact hc.2) (by rw [hu,hc.1]) hcan (fun _=>rfl) hok hu hc.2 hc.1 (fun _=>⟨hc.2,by rw [hc.1]⟩)
 | namedList hk hl=>
  rename_i l
  have h2:k ∉ tThirds:=by revert k; decide +kernel
  have h3:k ∉ uniqA/\k≠cDependsOn/\k≠cNetworks/\k≠cBuild/\k≠cSecrets/\k≠cConfigs/\esc k=k:=by revert k; decide +kernel
  have hix:ixOf [cServices,s,k]=some .kv:=by
   simp only [namedA,List.mem_cons,List.not_mem_nil,or_false] at hk
   rcases hk with rfl | rfl | rfl | rfl <;> rfl
  have hc:∀ t,canT [cServices,s,k] t=t/\CanOK [cServices,s,k] t:=fun t=>canT_none fun ext=>tr_ext h2 ext
  have hu:∀ l:List T,uniT [cServices,s,k] (.list l)=.list (uniqBy (ixKey .kv) l):=fun l=>by simp only [uniT,hix]
  have hok:∀ l:List T,(∀ x∈l,isText x)->UniOK [cServices,s,k] (.list l):=fun l hl ix e=>by
   rw [hix] at e
   cases e
   exact hl
  have hcan:canonA k (.list l)=.map (namedL l):=by simp only [canonA,uniqC,if_neg h3.1,if_pos hk,canonN]
  have hkey:ixKey .kv=fun t=>cutK t.txt:=by funext t; rfl
  refine AttrLaw.mk' (.list (uniqBy (ixKey .kv) l)) (.map (namedL l)) h3.2.2.2.2.2.2 (hok l hl) (hc _).2 (by rw [hu,(hc _).1]) hcan (fun _=>?_) (hok _ fun x hx=>hl x (mem_uniq hx)) (by rw [hu,uniq_twice]) (hc _).2 (hc _).1 (fun _=>⟨(hc _).2,by rw [(hc _).1]⟩);simp only [viewA,if_pos hk];rw [viewN_named];simp only [viewN];rw [hkey,named_uniq]
 | words hk hl=>
  rename_i l
  have hix:ixOf [cServices,s,k]=some .kv:=by
   simp only [List.mem_cons,List.not_mem_nil,or_false] at hk
   rcases hk with rfl | rfl | rfl | rfl | rfl <;> rfl
  have hctr:(∀ ext,trOf ([cServices,s,k]++ext)=none)∨trOf [cServices,s,k]=some .strOrList:=by
   by_cases e:k=cDns
   ·subst e
    exact .inr rfl
   ·left
    exact tr_ext (words_third k hk e)
  have hc:∀ l:List T,canT [cServices,s,k] (.list l)=.list l/\CanOK [cServices,s,k] (.list l):=fun l=>by
   rcases hctr with h | h
   ·exact canT_none h
   ·exact ⟨by simp only [canT,h],by simp only [CanOK,h]⟩
  have h3:=words_k k hk
  have hu:∀ l:List T,uniT [cServices,s,k] (.list l)=.list (uniqBy (ixKey .kv) l):=fun l=>by simp only [uniT,hix]
  have hok:∀ l:List T,(∀ x∈l,isText x)->UniOK [cServices,s,k] (.list l):=fun l hl ix e=>by
   rw [hix] at e
   cases e
   exact hl
  have htx:∀ x∈l,isText x:=fun x hx=>by obtain ⟨s,rfl,_⟩:=hl x hx; trivial
  have hcan:canonA k (.list l)=.list (uniqBy (useT k) l):=by
   simp only [canonA,uniqC,if_pos h3.1,if_neg h3.2.1,if_neg h3.2.2.1,if_neg h3.2.2.2.1,if_neg h3.2.2.2.2.1,h3.2.2.2.2.2.1,h3.2.2.2.2.2.2.1,or_self,if_false]
   rfl
  have heq:uniqBy (ixKey .kv) l=uniqBy (useT k) l:=uniq_congr fun x hx y hy=>by
   obtain ⟨a,rfl,ha⟩:=hl x hx;obtain ⟨b,rfl,hb⟩:=hl y hy;simp only [ixKey,T.txt,cutK_word ha,cutK_word hb,useT,T.text.injEq]
  refine AttrLaw.mk' (.list (uniqBy (ixKey .kv) l)) (.list (uniqBy (ixKey .kv) l)) h3.2.2.2.2.2.2.2 (hok l htx) ?_ (by rw [hu,(hc _).1]) (by rw [hcan,heq]) (fun _=>rfl) (hok _ fun x hx=>htx x (mem_uniq hx)) (by rw [hu,uniq_twice]) (hc _).2 (hc _).1 (fun _=>⟨(hc _).2,by rw [(hc _).1]⟩);rw [hu];exact (hc _).2
 | files hk hl=>
  rename_i l
  obtain ⟨ix,pre,hix,hkey⟩ : ∃ ix pre,ixOf [cServices,s,k]=some ix/\(∀ t,ixKey ix t=mountKey pre t)/\∀ t,ixGood ix t ↔ (isText t∨∃ m,t=.map m/\textOr (mget cTarget m)/\textOr (mget cSource m)):=by
   simp only [List.mem_cons,List.not_mem_nil,or_false] at hk;rcases hk with rfl | rfl
   ·exact ⟨.mountS,cRunSecrets,rfl,fun _=>rfl,fun _=>Iff.rfl⟩
   ·exact ⟨.mount0,⟨#[]⟩,rfl,fun _=>rfl,fun _=>Iff.rfl⟩
  obtain ⟨hkey,hgood⟩:=hkey
  have htr:trOf [cServices,s,k]=none/\trOf ([cServices,s,k]++[cElems])=some .fileMount:=by
   simp only [List.mem_cons,List.not_mem_nil,or_false] at hk
   rcases hk with rfl | rfl <;> exact ⟨rfl,rfl⟩
  have h3:=files_k k hk
  have htx:∀ x∈l,isText x:=fun x hx=>by obtain ⟨s,rfl,_⟩:=hl x hx; trivial
  have hu:∀ l:List T,uniT [cServices,s,k] (.list l)=.list (uniqBy (mountKey pre) l):=fun l=>by
   simp only [uniT,hix];rw [show ixKey ix=mountKey pre from funext hkey]
  have hok:∀ l:List T,(∀ x∈l,isText x∨∃ m,x=.map m/\textOr (mget cTarget m)/\textOr (mget cSource m))->UniOK [cServices,s,k] (.list l):=fun l hl ix' e x hx=>by
   rw [hix] at e
   cases e
   exact (hgood x).2 (hl x hx)
  have hcf:∀ x,isText x->canT ([cServices,s,k]++[cElems]) x=fileC x/\CanOK ([cServices,s,k]++[cElems]) x:=fun x hx=>by
   cases x <;> simp [isText] at hx
   exact ⟨by simp only [canT,htr.2,fileC],by simp only [CanOK,htr.2]⟩
  have hcm:∀ m,canT ([cServices,s,k]++[cElems]) (.map m)=.map m/\CanOK ([cServices,s,k]++[cElems]) (.map m):=fun m=>⟨by simp only [canT,htr.2],by simp only [CanOK,htr.2]⟩
  have hc:∀ l:List T,canT [cServices,s,k] (.list l)=.list (l.map (canT ([cServices,s,k]++[cElems]))):=fun l=>by simp only [canT,htr.1,canL_eq]
  have hcok:∀ l:List T,(∀ x∈l,CanOK ([cServices,s,k]++[cElems]) x)->CanOK [cServices,s,k] (.list l):=fun l h=>by
   simp only [CanOK,htr.1];exact CanOKL_iff.2 h
  have hcan:canonA k (.list l)=.list ((uniqBy (useT k) l).map fileC):=by
   simp only [canonA,uniqC,if_pos h3.1,if_neg h3.2.1,if_neg h3.2.2.1,if_neg h3.2.2.2.1,if_neg h3.2.2.2.2.1,if_pos h3.2.2.2.2.2.1]
   rfl
  have hinj:∀ {a b:ByteArray},pre++cSlash++a=pre++cSlash++b->a=b:=fun {a b} e=>by
   have e2:=congrArg (fun x:ByteArray=>x.data.toList) e;simp only [ByteArray.data_append,Array.toList_append] at e2;exact WideShapes.bytes_inj (List.append_cancel_left e2)
  have heq:uniqBy (mountKey pre) l=uniqBy (useT k) l:=uniq_congr fun x hx y hy=>by
   obtain ⟨a,rfl,ha⟩:=hl x hx;obtain ⟨b,rfl,hb⟩:=hl y hy;simp only [mountKey,useT,T.text.injEq];exact ⟨hinj,fun e=>by rw [e]⟩
  obtain ⟨u,hu1⟩ : ∃ u,u=uniqBy (mountKey pre) l:=⟨_,rfl⟩
  have hut:∀ x∈u,isText x:=fun x hx=>htx x (mem_uniq (hu1 ▸ hx))
  have hmap:u.map (canT ([cServices,s,k]++[cElems]))=u.map fileC:=List.map_congr_left fun x hx=>(hcf x (hut x hx)).1
  have hfm:∀ y∈u.map fileC,∃ b,y=.map [(cSource,.text b)]:=fun y hy=>by
   obtain ⟨x,hx,rfl⟩:=List.mem_map.1 hy;have:=hut x hx
   cases x <;> simp [isText] at this
   exact ⟨_,rfl⟩
  have hgs:∀ b:ByteArray,mget cTarget [(cSource,T.text b)]=none/\mget cSource [(cSource,T.text b)]=some (.text b):=fun b=>by
   constructor
   ·have:(cSource:ByteArray)≠cTarget:=by decide +kernel
    simp [mget,this]
   ·simp [mget]
  have hfid:(u.map fileC).map (canT ([cServices,s,k]++[cElems]))=u.map fileC:=map_eq_self fun y hy=>by
   obtain ⟨b,rfl⟩:=hfm y hy;exact (hcm _).1
  have hkk:∀ x,isText x->mountKey pre (fileC x)=mountKey pre x:=fun x hx=>by
   cases x <;> simp [isText] at hx
   rename_i b;simp only [fileC,mountKey,(hgs b).1,(hgs b).2,strOr]
  have hnd:((u.map fileC).map (mountKey pre)).Nodup:=by
   rw [List.map_map,show u.map (mountKey pre ∘ fileC)=u.map (mountKey pre) from List.map_congr_left fun x hx=>hkk x (hut x hx),hu1];exact uniq_nodup l
  refine AttrLaw.mk' (.list (u.map fileC)) (.list (u.map fileC)) h3.2.2.2.2.2.2 (hok l fun x hx=>.inl (htx x hx)) ?_ (by rw [hu,<- hu1,hc,hmap]) (by rw [hcan,<- heq,<- hu1]) (fun _=>rfl) ?_ (by rw [hu,uniq_id hnd]) ?_ (by rw [hc,hfid]) (fun _=>⟨?_,by rw [hc,hfid]⟩)
  ·rw [hu,<- hu1]
   exact hcok _ fun x hx=>(hcf x (hut x hx)).2
  ·refine hok _ fun y hy=>.inr ?_
   obtain ⟨b,rfl⟩:=hfm y hy;refine ⟨_,rfl,fun x hx=>?_,fun x hx=>?_⟩
   ·rw [(hgs b).1] at hx; cases hx
   ·rw [(hgs b).2] at hx; cases hx; trivial
  ·refine hcok _ fun y hy=>?_
   obtain ⟨b,rfl⟩:=hfm y hy;exact (hcm _).2
  ·refine hcok _ fun y hy=>?_
   obtain ⟨b,rfl⟩:=hfm y hy;exact (hcm _).2
 | expose hl=>
  rename_i l;have hix:ixOf [cServices,s,cExpose]=some .expose:=rfl
  have hc:∀ t,canT [cServices,s,cExpose] t=t/\CanOK [cServices,s,cExpose] t:=fun t=>canT_none fun ext=>tr_ext (by decide +kernel) ext
  have hu:∀ l:List T,uniT [cServices,s,cExpose] (.list l)=.list (uniqBy (ixKey .expose) l):=fun l=>by simp only [uniT,hix]
  have hok:∀ l:List T,(∀ x∈l,isText x)->UniOK [cServices,s,cExpose] (.list l):=fun l hl ix e=>by
   rw [hix] at e
   cases e
   exact hl
  have hcan:canonA cExpose (.list l)=.list (uniqBy (useT cExpose) l):=by
   have h1:cExpose∈uniqA:=by decide +kernel
   have h2:cExpose ∉ namedA/\cExpose≠cDependsOn/\cExpose≠cNetworks/\cExpose≠cBuild/\cExpose≠cSecrets/\cExpose≠cConfigs:=by decide +kernel
   simp only [canonA,uniqC,if_pos h1,if_neg h2.1,if_neg h2.2.1,if_neg h2.2.2.1,if_neg h2.2.2.2.1,h2.2.2.2.2.1,h2.2.2.2.2.2,or_self,if_false]
   rfl
  have heq:uniqBy (ixKey .expose) l=uniqBy (useT cExpose) l:=uniq_congr fun x hx y hy=>by
   have h1:=hl x hx;have h2:=hl y hy
   cases x <;> simp [isText] at h1
   cases y <;> simp [isText] at h2
   simp only [ixKey,T.txt,useT,T.text.injEq]
  refine AttrLaw.mk' (.list (uniqBy (ixKey .expose) l)) (.list (uniqBy (ixKey .expose) l)) (by decide +kernel) (hok l hl) (hc _).2 (by rw [hu,(hc _).1]) (by rw [hcan,heq]) (fun _=>rfl) (hok _ fun x hx=>hl x (mem_uniq hx)) (by rw [hu,uniq_twice]) (hc _).2 (hc _).1 (fun _=>⟨(hc _).2,by rw [(hc _).1]⟩)
 | needsList hl=>
  rename_i l
  have hu:∀ t,uniT [cServices,s,cDependsOn] t=t/\UniOK [cServices,s,cDependsOn] t:=fun t=>uniT_none fun ext=>ix_ext (by decide +kernel) ext
  have htr:trOf [cServices,s,cDependsOn]=some .dependsOn:=rfl
  have hcl:canT [cServices,s,cDependsOn] (.list l)=.map (foldK impC l):=by simp only [canT,htr]
  have hcan:canonA cDependsOn (.list l)=.map (foldK impC l):=by
   have h2:cDependsOn ∉ uniqA/\cDependsOn ∉ namedA:=by decide +kernel
   simp only [canonA,uniqC,if_neg h2.1,if_neg h2.2,if_true,needsC,T.vals]
  have hself:canT [cServices,s,cDependsOn] (.map (foldK impC l))=.map (foldK impC l):=by
   simp only [canT,htr]
   congr 1
   refine map_eq_self fun p hp=>?_
   have:=foldK_vals p hp;refine Prod.ext rfl ?_;show T.map (needC p.2.m)=p.2;rw [this]
   rfl
  have hok:CanOK [cServices,s,cDependsOn] (.map (foldK impC l)):=by
   simp only [CanOK,htr]
   exact fun p hp=>by rw [foldK_vals p hp]; trivial
  refine AttrLaw.mk' (.map (foldK impC l)) (.map (foldK impC l)) (by decide +kernel) (hu _).2 ?_ (by rw [(hu _).1,hcl]) hcan (fun _=>rfl) (hu _).2 (hu _).1 hok hself (fun _=>⟨hok,by rw [hself]⟩);rw [(hu _).1];simp only [CanOK,htr];exact hl
 | needs hm=>
  rename_i m
  have hu:∀ t,uniT [cServices,s,cDependsOn] t=t/\UniOK [cServices,s,cDependsOn] t:=fun t=>uniT_none fun ext=>ix_ext (by decide +kernel) ext
  have htr:trOf [cServices,s,cDependsOn]=some .dependsOn:=rfl
  have hcm:∀ m,canT [cServices,s,cDependsOn] (.map m)=.map (m.map fun p=>(p.1,.map (needC p.2.m))):=fun m=>by simp only [canT,htr]
  have hn:∀ d,hasK cCondition d=true->T.map (needC d)=needR (.map d):=fun d h=>by
   simp only [needC,needR,h,if_true,T.m]
   by_cases h2:hasK cRequired d=true
   ·simp only [h2,if_true]
   ·simp only [h2,if_false]
    rfl
  have hcan:canonA cDependsOn (.map m)=.map (m.map fun p=>(p.1,.map (needC p.2.m))):=by
   have h2:cDependsOn ∉ uniqA/\cDependsOn ∉ namedA:=by decide +kernel
   simp only [canonA,uniqC,if_neg h2.1,if_neg h2.2,if_true,needsC]
   congr 1
   refine List.map_congr_left fun p hp=>?_
   obtain ⟨d,e,hd⟩:=hm p hp;rw [e];simp only [T.m];rw [hn d hd]
  have hnc:∀ d,needC (needC d)=needC d:=fun d=>by
   have h1:hasK cCondition (needC d)=true:=by
    have hne:(cCondition:ByteArray)≠cRequired:=by decide +kernel
    unfold needC;simp only
    split <;> split
    ·assumption
    ·rw [hasK_ins_ne hne]; assumption
    ·exact hasK_ins
    ·rw [hasK_ins_ne hne]; exact hasK_ins
   have h2:hasK cRequired (needC d)=true:=by
    unfold needC;simp only
    split
    ·split
     ·assumption
     ·exact hasK_ins
    ·split
     ·assumption
     ·exact hasK_ins
   generalize needC d=e at h1 h2;simp only [needC,h1,h2,if_true]
  have hself:canT [cServices,s,cDependsOn] (.map (m.map fun p=>(p.1,.map (needC p.2.m))))=.map (m.map fun p=>(p.1,.map (needC p.2.m))):=by
   rw [hcm,List.map_map]
   congr 1
   refine List.map_congr_left fun p hp=>?_
   simp only [Function.comp,T.m,hnc]
  have hok:CanOK [cServices,s,cDependsOn] (.map (m.map fun p=>(p.1,.map (needC p.2.m)))):=by
   simp only [CanOK,htr]
   intro q hq
   obtain ⟨p,_,rfl⟩:=List.mem_map.1 hq
   trivial
  refine AttrLaw.mk' _ _ (by decide +kernel) (hu _).2 ?_ (by rw [(hu _).1,hcm]) hcan (fun _=>rfl) (hu _).2 (hu _).1 hok hself (fun _=>⟨hok,by rw [hself]⟩);rw [(hu _).1];simp only [CanOK,htr]
  intro p hp
  obtain ⟨d,e,_⟩:=hm p hp;rw [e]
  trivial
 | netsList hl=>
  rename_i l;have hix:ixOf [cServices,s,cNetworks]=none:=rfl;have htr:trOf [cServices,s,cNetworks]=some .sliceMap:=rfl
  have hu:uniT [cServices,s,cNetworks] (.list l)=.list l:=by simp only [uniT,hix]
  have hok:UniOK [cServices,s,cNetworks] (.list l):=fun ix e=>by rw [hix] at e; cases e
  have hcan:canonA cNetworks (.list l)=.map (foldK .null l):=by
   have h2:cNetworks ∉ uniqA/\cNetworks ∉ namedA/\cNetworks≠cDependsOn:=by decide +kernel
   simp only [canonA,uniqC,if_neg h2.1,if_neg h2.2.1,if_neg h2.2.2,if_true,netsC,T.vals]
  have hum:uniT [cServices,s,cNetworks] (.map (foldK .null l))=.map (foldK .null l):=by
   simp only [uniT];rw [uniM_self fun p hp=>by rw [foldK_vals p hp]; simp only [uniT]]
  have hum2:UniOK [cServices,s,cNetworks] (.map (foldK .null l)):=UniOKM_iff.2 fun p hp=>by rw [foldK_vals p hp]; trivial
  have hcm:canT [cServices,s,cNetworks] (.map (foldK .null l))=.map (foldK .null l):=by simp only [canT,htr]
  have hco:CanOK [cServices,s,cNetworks] (.map (foldK .null l)):=by simp only [CanOK,htr]
  refine AttrLaw.mk' (.map (foldK .null l)) _ (by decide +kernel) hok ?_ (by rw [hu]; simp only [canT,htr]) hcan (fun _=>rfl) hum2 hum hco hcm (fun _=>⟨hco,by rw [hcm]⟩);rw [hu];simp only [CanOK,htr];exact hl
 | nets hm=>
  rename_i m;have htr:trOf [cServices,s,cNetworks]=some .sliceMap:=rfl
  have hch:∀ p∈m,∀ ps,uniT ps p.2=p.2/\UniOK ps p.2:=fun p hp ps=>by
   rcases hm p hp with h | ⟨a,h⟩
   ·rw [h]; exact ⟨by simp only [uniT],trivial⟩
   ·rw [h]; exact ⟨by simp only [uniT,uniM],trivial,trivial⟩
  have hu:uniT [cServices,s,cNetworks] (.map m)=.map m:=by
   simp only [uniT];rw [uniM_self fun p hp=>(hch p hp _).1]
  have hok:UniOK [cServices,s,cNetworks] (.map m):=UniOKM_iff.2 fun p hp=>(hch p hp _).2
  have hcan:canonA cNetworks (.map m)=.map m:=by
   have h2:cNetworks ∉ uniqA/\cNetworks ∉ namedA/\cNetworks≠cDependsOn:=by decide +kernel
   simp only [canonA,uniqC,if_neg h2.1,if_neg h2.2.1,if_neg h2.2.2,if_true,netsC]
  have hcm:canT [cServices,s,cNetworks] (.map m)=.map m:=by simp only [canT,htr]
  have hco:CanOK [cServices,s,cNetworks] (.map m):=by simp only [CanOK,htr]
  exact AttrLaw.mk' (.map m) _ (by decide +kernel) hok (by rw [hu]; exact hco) (by rw [hu,hcm]) hcan (fun _=>rfl) hok hu hco hcm (fun _=>⟨hco,by rw [hcm]⟩)
 | buildText=>
  rename_i a;have htr:trOf [cServices,s,cBuild]=some .build:=rfl;have htr2:trOf ([cServices,s,cBuild]++[nxt [cServices,s,cBuild] cContext])=none:=rfl
  have hu:uniT [cServices,s,cBuild] (.text a)=.text a:=by simp only [uniT]
  have hcan:canonA cBuild (.text a)=.map [(cContext,.text a)]:=by
   have h2:cBuild ∉ uniqA/\cBuild ∉ namedA/\cBuild≠cDependsOn/\cBuild≠cNetworks:=by decide +kernel
   simp only [canonA,uniqC,if_neg h2.1,if_neg h2.2.1,if_neg h2.2.2.1,if_neg h2.2.2.2,if_true,buildC]
  have hcm:canT [cServices,s,cBuild] (.map [(cContext,.text a)])=.map [(cContext,.text a)]:=by simp only [canT,htr,canM,htr2]
  have hco:CanOK [cServices,s,cBuild] (.map [(cContext,.text a)]):=by
   simp only [CanOK,htr,CanOKM,htr2,and_true]
  refine AttrLaw.mk' (.map [(cContext,.text a)]) _ (by decide +kernel) trivial ?_ (by rw [hu]; simp only [canT,htr]) hcan (fun _=>rfl) ⟨trivial,trivial⟩ (by simp only [uniT,uniM]) hco hcm (fun _=>⟨hco,by rw [hcm]⟩);rw [hu];simp only [CanOK,htr]
 | build hm=>
  rename_i m;have htr:trOf [cServices,s,cBuild]=some .build:=rfl
  have htr2:∀ k∈buildKeys,trOf ([cServices,s,cBuild]++[nxt [cServices,s,cBuild] k])=none:=fun k hk=>by
   simp only [buildKeys,List.mem_cons,List.not_mem_nil,or_false] at hk
   rcases hk with rfl | rfl | rfl | rfl | rfl | rfl <;> rfl
  have hlf:∀ {x},isLeaf x->(∀ ps,uniT ps x=x/\UniOK ps x)/\∀ ps,trOf ps=none->canT ps x=x/\CanOK ps x:=fun {x} h=>by
   cases x <;> simp [isLeaf] at h
   ·exact ⟨fun ps=>⟨by simp only [uniT],trivial⟩,fun ps e=>⟨by simp only [canT],by simp only [CanOK,e]⟩⟩
   ·exact ⟨fun ps=>⟨by simp only [uniT],trivial⟩,fun ps e=>⟨by simp only [canT,e],by simp only [CanOK,e]⟩⟩
  have hu:uniT [cServices,s,cBuild] (.map m)=.map m:=by
   simp only [uniT];rw [uniM_self fun p hp=>((hlf (hm p hp).2).1 _).1]
  have hok:UniOK [cServices,s,cBuild] (.map m):=UniOKM_iff.2 fun p hp=>((hlf (hm p hp).2).1 _).2
  have hcan:canonA cBuild (.map m)=.map m:=by
   have h2:cBuild ∉ uniqA/\cBuild ∉ namedA/\cBuild≠cDependsOn/\cBuild≠cNetworks:=by decide +kernel
   simp only [canonA,uniqC,if_neg h2.1,if_neg h2.2.1,if_neg h2.2.2.1,if_neg h2.2.2.2,if_true,buildC]
  have hcm:canT [cServices,s,cBuild] (.map m)=.map m:=by
   simp only [canT,htr];rw [canM_self fun p hp=>((hlf (hm p hp).2).2 _ (htr2 _ (hm p hp).1)).1]
  have hco:CanOK [cServices,s,cBuild] (.map m):=by
   simp only [CanOK,htr]
   exact CanOKM_iff.2 fun p hp=>((hlf (hm p hp).2).2 _ (htr2 _ (hm p hp).1)).2
  exact AttrLaw.mk' (.map m) _ (by decide +kernel) hok (by rw [hu]; exact hco) (by rw [hu,hcm]) hcan (fun _=>rfl) hok hu hco hcm (fun _=>⟨hco,by rw [hcm]⟩)
 | volumes hl=>
  rename_i l;have hix:ixOf [cServices,s,cVolumes]=some .vol:=rfl;have htr:trOf [cServices,s,cVolumes]=none:=rfl;have htr2:trOf ([cServices,s,cVolumes]++[cElems])=some .volMount:=rfl
  have hu:∀ l:List T,uniT [cServices,s,cVolumes] (.list l)=.list (uniqBy (ixKey .vol) l):=fun l=>by simp only [uniT,hix]
  have hok:∀ l:List T,(∀ x∈l,∃ m s,x=.map m/\mget cTarget m=some (.text s))->UniOK [cServices,s,cVolumes] (.list l):=fun l hl ix e=>by
   rw [hix] at e
   cases e
   exact hl
  have hc:∀ l:List T,(∀ x∈l,∃ m s,x=.map m/\mget cTarget m=some (.text s))->canT [cServices,s,cVolumes] (.list l)=.list l/\CanOK [cServices,s,cVolumes] (.list l):=fun l hl=>by
   refine ⟨?_,?_⟩
   ·simp only [canT,htr,canL_eq]
    rw [map_eq_self fun x hx=>?_];obtain ⟨m,a,rfl,_⟩:=hl x hx;simp only [canT,htr2]
   ·simp only [CanOK,htr]
    refine CanOKL_iff.2 fun x hx=>?_
    obtain ⟨m,a,rfl,_⟩:=hl x hx;simp only [CanOK,htr2]
  have hcan:canonA cVolumes (.list l)=.list (uniqBy (useT cVolumes) l):=by
   have h1:cVolumes∈uniqA:=by decide +kernel
   have h2:cVolumes ∉ namedA/\cVolumes≠cDependsOn/\cVolumes≠cNetworks/\cVolumes≠cBuild/\cVolumes≠cSecrets/\cVolumes≠cConfigs:=by decide +kernel
   simp only [canonA,uniqC,if_pos h1,if_neg h2.1,if_neg h2.2.1,if_neg h2.2.2.1,if_neg h2.2.2.2.1,h2.2.2.2.2.1,h2.2.2.2.2.2,or_self,if_false]
   rfl
  have heq:uniqBy (ixKey .vol) l=uniqBy (useT cVolumes) l:=uniq_congr fun x hx y hy=>by
   obtain ⟨m,a,rfl,ha⟩:=hl x hx;obtain ⟨n,b,rfl,hb⟩:=hl y hy
   have hne:(cVolumes:ByteArray)≠cPorts:=by decide +kernel
   simp only [ixKey,tg,ha,hb,strOr,useT,if_neg hne,Option.getD_some,T.text.injEq]
  have hl2:∀ x∈uniqBy (ixKey .vol) l,∃ m s,x=.map m/\mget cTarget m=some (.text s):=fun x hx=>hl x (mem_uniq hx)
  refine AttrLaw.mk' (.list (uniqBy (ixKey .vol) l)) (.list (uniqBy (ixKey .vol) l)) (by decide +kernel) (hok l hl) ?_ (by rw [hu,(hc _ hl2).1]) (by rw [hcan,heq]) (fun _=>rfl) (hok _ hl2) (by rw [hu,uniq_twice]) (hc _ hl2).2 (hc _ hl2).1 (fun _=>⟨(hc _ hl2).2,by rw [(hc _ hl2).1]⟩);rw [hu];exact (hc _ hl2).2
 | ports hne hl=>
  rename_i l;have hix:ixOf [cServices,s,cPorts]=some .port:=rfl;have htr:trOf [cServices,s,cPorts]=some .ports:=rfl
  have hu:∀ l:List T,uniT [cServices,s,cPorts] (.list l)=.list (uniqBy portKey l):=fun l=>by
   simp only [uniT,hix]
   rfl
  have hgood:∀ x,PortOK x->ixGood .port x:=fun x hx=>by
   obtain ⟨m,n,rfl,h1,hn1,hn2,h2,h3,h4⟩:=hx;refine ⟨m,n,rfl,h1,hn1,hn2,fun y hy=>?_,fun y hy=>?_,h4⟩
   ·obtain ⟨s,rfl,_⟩:=h2 y hy; trivial
   ·obtain ⟨s,rfl,_⟩:=h3 y hy; trivial
  have hok:∀ l:List T,(∀ x∈l,PortOK x)->UniOK [cServices,s,cPorts] (.list l):=fun l hl ix e x hx=>by
   rw [hix] at e
   cases e
   exact hgood x (hl x hx)
  have hc:∀ l:List T,canT [cServices,s,cPorts] (.list l)=.list l:=fun l=>by simp only [canT,htr]
  have hco:∀ l:List T,l≠[]->(∀ x∈l,PortOK x)->CanOK [cServices,s,cPorts] (.list l):=fun l hne hl=>by
   simp only [CanOK,htr];exact ⟨hne,fun x hx=>by obtain ⟨m,n,rfl,_⟩:=hl x hx; trivial⟩
  have hcan:canonA cPorts (.list l)=.list (uniqBy (useT cPorts) l):=by
   have h1:cPorts∈uniqA:=by decide +kernel
   have h2:cPorts ∉ namedA/\cPorts≠cDependsOn/\cPorts≠cNetworks/\cPorts≠cBuild/\cPorts≠cSecrets/\cPorts≠cConfigs:=by decide +kernel
   simp only [canonA,uniqC,if_pos h1,if_neg h2.1,if_neg h2.2.1,if_neg h2.2.2.1,if_neg h2.2.2.2.1,h2.2.2.2.2.1,h2.2.2.2.2.2,or_self,if_false]
   rfl
  have hpu:cPorts∈uniqA:=by decide +kernel
  have hl2:∀ x∈uniqBy portKey l,PortOK x:=fun x hx=>hl x (mem_uniq hx)
  have hl3:∀ x∈uniqBy (useT cPorts) l,PortOK x:=fun x hx=>hl x (mem_uniq hx)
  refine AttrLaw.mk' (.list (uniqBy portKey l)) (.list (uniqBy (useT cPorts) l)) (by decide +kernel) (hok l hl) ?_ (by rw [hu,hc]) hcan (fun h=>?_) (hok _ hl2) (by rw [hu,uniq_twice]) (hco _ (uniq_ne hne) hl2) (hc _) (fun _=>⟨hco _ (uniq_ne hne) hl3,by rw [hc]⟩)
  ·rw [hu]
   exact hco _ (uniq_ne hne) hl2
  ·rw [port_uniq hl (h hpu)]
end Go.Proofs.YtpofkokbmifhgaaGreatDoor
