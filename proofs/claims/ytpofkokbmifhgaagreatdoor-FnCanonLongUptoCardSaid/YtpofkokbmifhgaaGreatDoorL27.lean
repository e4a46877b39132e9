/- Parts of the walk, made small by wip/tools/pack.py: Sa. No condition but those in each statement. -/
import Derived.Test.YtpofkokbmifhgaaGreatDoorL02
set_option maxRecDepth 100000
set_option maxHeartbeats 20000000
set_option linter.unusedVariables false
set_option linter.unusedSimpArgs false
namespace Go.Proofs.YtpofkokbmifhgaaGreatDoor
section
variable {P:Program} {ops:Array Oper} {Q:Exit->Act->World->Prop}
def putL (ops:Array Oper) (u:Nat->Value):List Nat->Act->Act
 | [],a=>a
 | i :: r,a=>putL ops u r (a.put (some (dOf ops i)) (u i))
theorem putL_size (u:Nat->Value):∀ (B:List Nat) (a:Act),(putL ops u B a).tmps.size=a.tmps.size
 | [],_=>rfl
 | i :: r,a=>by rw [putL,putL_size u r,size_put]
theorem putL_defers (u:Nat->Value):∀ (B:List Nat) (a:Act),(putL ops u B a).defers=a.defers
 | [],_=>rfl
 | i :: r,a=>by rw [putL,putL_defers u r]; rfl
theorem putL_ne (u:Nat->Value) (s:Nat):∀ (B:List Nat) (a:Act),(∀ i∈B,dOf ops i≠s)->Act.g (putL ops u B a) s=Act.g a s
 | [],_,_=>rfl
 | i :: r,a,h=>by
  rw [putL,putL_ne u s r _ fun j hj=>h j (List.mem_cons_of_mem _ hj)]
  exact g_put_ne _ _ _ _ fun e=>h i (by simp) e.symm
theorem putL_eq (u:Nat->Value) (i:Nat):∀ (B:List Nat) (a:Act),i∈B->(B.map (dOf ops)).Nodup->dOf ops i < a.tmps.size->Act.g (putL ops u B a) (dOf ops i)=u i
 | [],_,h,_,_=>by cases h
 | j :: r,a,h,hn,hl=>by
  rw [putL];rw [List.map_cons,List.nodup_cons] at hn
  by_cases hr:i∈r
  ·exact putL_eq u i r _ hr hn.2 (by rw [size_put]; exact hl)
  ·have e:i=j:=by
    rcases List.mem_cons.1 h with h | h
    ·exact h
    ·exact absurd h hr
   subst e;rw [putL_ne u _ r _ fun k hk e=>hn.1 (List.mem_map.2 ⟨k,hk,e⟩)];exact g_put_same _ _ _ hl
def saForm (ops:Array Oper) (size:Nat) (st B:List Nat) (p:Nat) (keep skip:Nat->Bool) (gT gF:List (Nat × Bool)):Bool:=
 decide (0 < ops.size) &&
 ((List.range (ops.size - 1)).all fun i=>decide (i=p) || B.contains i) &&
 (B.all fun i=>decide (i < ops.size - 1) && decide (i≠p) && match ops[i]? with
  | some o=>(match o.dst with | some d=>decide (d < size) && !st.contains d | none=>false) &&
   (match o.guard with | none=>!skip i | some q=>waits ops i q.1 && B.contains q.1 && ((gT.contains q && !skip i) || (gF.contains q && skip i)))
  | none=>false) &&
 decide ((B.map (dOf ops)).Nodup) &&
 (match ops[ops.size - 1]? with | some o=>o.guard.isNone | none=>false) &&
 ((List.range (ops.size - 1)).all fun i=>waits ops (ops.size - 1) i) &&
 (decide (ops.size<=p) || (decide (p < ops.size - 1) && (match ops[p]? with | some o=>o.guard.isNone && o.dst.isNone | none=>false) && (B.all fun i=>waits ops p i || (keep i && B.all fun j=>!waits ops i j || keep j)) && (List.range ops.size).all fun j=>!waits ops p j || B.contains j)) &&
 (B.all fun i=>(List.range ops.size).all fun j=>!waits ops i j || B.contains j)
theorem wp_region_sa {id:Nat} {a:Act} {w:World} (hm:P.follows .mixedOrders=true) (hord:ordered ops=true) (st B:List Nat) (p:Nat) (keep skip:Nat->Bool) (gT gF:List (Nat × Bool)) (hform:saForm ops a.tmps.size st B p keep skip gT gF=true)
  (φ:Nat->Value->World->Prop) (ψ:World->Prop) (hgT:∀ q∈gT,∀ v w',φ q.1 v w'->v=.bool q.2) (hgF:∀ q∈gF,∀ v w',φ q.1 v w'->v=.bool (!q.2)) (hskip:∀ i v w',skip i=true->φ i v w')
  (mono:∀ i v w w',Chg [] w w'->φ i v w->φ i v w')
  (step:∀ (i:Nat) (o:Oper),i∈B->skip i=false->ops[i]?=some o->∀ (a':Act) (w':World),(∀ s∈st,Act.g a' s=Act.g a s)->Chg [] w.drew w'->(∀ j,waits ops i j=true->φ j (Act.g a' (dOf ops j)) w') ->
   ∀ K:Value->World->Prop,(∀ v w'',Chg [] w' w''->φ i v w''->K v w'')->o.wp P a' w' (fun a2 w2=>∃ v,a2=a'.put o.dst v/\K v w2) Q)
  (late:∀ (i:Nat) (o:Oper),i∈B->skip i=false->p < ops.size->waits ops p i=false->ops[i]?=some o->∀ (a':Act) (w':World),(∀ s∈st,Act.g a' s=Act.g a s)->ψ w'->(∀ j,waits ops i j=true->φ j (Act.g a' (dOf ops j)) w') ->
   ∀ K:Value->World->Prop,(∀ v,φ i v w'->K v w')->o.wp P a' w' (fun a2 w2=>∃ v,a2=a'.put o.dst v/\K v w2) Q)
  (store:∀ o,ops[p]?=some o->∀ (a':Act) (w':World),(∀ s∈st,Act.g a' s=Act.g a s)->Chg [] w.drew w'->(∀ j,waits ops p j=true->φ j (Act.g a' (dOf ops j)) w') ->
   ∀ K:World->Prop,(∀ W,ψ W->(∀ j u,keep j=true->φ j u w'->φ j u W)->K W)->o.wp P a' w' (fun a2 w2=>a2=a'/\K w2) Q)
  (last:∀ (o:Oper),ops[ops.size - 1]?=some o->∀ (u:Nat->Value) (w':World),(p < ops.size->ψ w')->(¬ p < ops.size->Chg [] w.drew w')->(∀ j∈B,(p < ops.size->keep j=true)->φ j (u j) w') ->
   ∀ A2,A2=putL ops u B a->o.wp P A2 w' (Q .normal) Q):(Code.region id ops true).wp P Q a w:=by
 unfold saForm at hform;simp only [Bool.and_eq_true,decide_eq_true_eq] at hform;obtain ⟨⟨⟨⟨⟨⟨⟨h0,hall⟩,hB⟩,hnd⟩,hlg⟩,hlw⟩,hp⟩,hcl⟩:=hform
 have hBi:∀ i∈B,i < ops.size - 1/\i≠p/\∃ o d,ops[i]?=some o/\o.dst=some d/\dOf ops i=d/\d < a.tmps.size/\d ∉ st /\
   ((o.guard=none/\skip i=false)∨∃ j b,o.guard=some (j,b)/\waits ops i j=true/\j∈B/\(((j,b)∈gT/\skip i=false)∨((j,b)∈gF/\skip i=true))):=by
  intro i hi
  have h1:=List.all_eq_true.1 hB i hi;simp only [Bool.and_eq_true,decide_eq_true_eq] at h1;obtain ⟨⟨h1,h2⟩,h3⟩:=h1;refine ⟨h1,h2,?_⟩;have ho:ops[i]?=some (ops[i]'(by omega)):=Array.getElem?_eq_getElem (by omega);rw [ho] at h3;simp only [Bool.and_eq_true] at h3
  cases hd:(ops[i]'(by omega)).dst with
  | none=>rw [hd] at h3; simp at h3
  | some d=>
   rw [hd] at h3;simp only [Bool.and_eq_true,decide_eq_true_eq,Bool.not_eq_true',List.contains_eq_mem,decide_eq_false_iff_not] at h3;refine ⟨_,d,ho,hd,by unfold dOf; rw [ho]; simp [hd],h3.1.1,h3.1.2,?_⟩
   cases hg:(ops[i]'(by omega)).guard with
   | none=>rw [hg] at h3; exact .inl ⟨rfl,by simpa using h3.2⟩
   | some q=>
    rw [hg] at h3;obtain ⟨j,b⟩:=q;simp only [Bool.and_eq_true,Bool.or_eq_true,Bool.not_eq_true',decide_eq_true_eq] at h3;exact .inr ⟨j,b,rfl,h3.2.1.1,h3.2.1.2,h3.2.2⟩
 have hin:∀ i,i < ops.size - 1->i≠p->i∈B:=by
  intro i hi hne
  have h1:=List.all_eq_true.1 hall i (List.mem_range.2 hi);simp only [Bool.or_eq_true,decide_eq_true_eq,List.contains_eq_mem] at h1;rcases h1 with h1 | h1
  ·exact absurd h1 hne
  ·exact h1
 have hwlast:∀ i,i < ops.size - 1->waits ops (ops.size - 1) i=true:=fun i hi=>List.all_eq_true.1 hlw i (List.mem_range.2 hi)
 have distinct:∀ i j,i∈B->j∈B->i≠j->dOf ops i≠dOf ops j:=by
  intro i j hi hj hij he
  have h1:=putL_eq (ops:=ops) (fun k=>.int .i64 k) i B a hi hnd (by obtain ⟨_,_,o,d,_,_,e,h,_⟩:=hBi i hi; rw [e]; exact h);have h2:=putL_eq (ops:=ops) (fun k=>.int .i64 k) j B a hj hnd (by obtain ⟨_,_,o,d,_,_,e,h,_⟩:=hBi j hj; rw [e]; exact h);rw [he] at h1;rw [h1] at h2
  injection h2 with _ h3
  omega
 have hwB:∀ i∈B,∀ j,waits ops i j=true->j∈B:=by
  intro i hi j hj
  have h1:=List.all_eq_true.1 hcl i hi
  have hjl:j < ops.size:=by
   unfold waits at hj;obtain ⟨h2,_,o,d,ho,_⟩:=hBi i hi;rw [ho] at hj;obtain ⟨e,he,hb⟩:=Array.any_eq_true'.1 hj;simp only [Bool.and_eq_true,beq_iff_eq] at hb;have:=ordered_spec hord ho e he hb.1
   omega
  have h2:=List.all_eq_true.1 h1 j (List.mem_range.2 hjl);simp only [Bool.or_eq_true,Bool.not_eq_true',List.contains_eq_mem,decide_eq_true_eq] at h2;rcases h2 with h2 | h2
  ·rw [hj] at h2; cases h2
  ·exact h2
 have hpp:p < ops.size->p < ops.size - 1/\(∃ o,ops[p]?=some o/\o.guard=none/\o.dst=none)/\(∀ i∈B,waits ops p i=true∨(keep i=true/\∀ j∈B,waits ops i j=true->keep j=true))/\∀ j,waits ops p j=true->j∈B:=by
  intro hpl
  simp only [Bool.or_eq_true,decide_eq_true_eq,Bool.and_eq_true] at hp
  rcases hp with hp | ⟨⟨⟨h1,h2⟩,h3⟩,h4⟩
  ·omega
  ·have ho:ops[p]?=some (ops[p]'hpl):=Array.getElem?_eq_getElem hpl
   refine ⟨h1,⟨_,ho,?_⟩,fun i hi=>?_,fun j hj=>?_⟩
   ·rw [ho] at h2
    simp only [Bool.and_eq_true,Option.isNone_iff_eq_none] at h2;exact h2
   ·have h5:=List.all_eq_true.1 h3 i hi
    simp only [Bool.or_eq_true,Bool.and_eq_true] at h5
    rcases h5 with h5 | ⟨h5,h6⟩
    ·exact .inl h5
    ·refine .inr ⟨h5,fun j hj hw=>?_⟩
     have h7:=List.all_eq_true.1 h6 j hj;simp only [Bool.or_eq_true,Bool.not_eq_true'] at h7;rcases h7 with h7 | h7
     ·rw [hw] at h7; cases h7
     ·exact h7
   ·have hjl:j < ops.size:=by
     unfold waits at hj;rw [ho] at hj;obtain ⟨e,he,hb⟩:=Array.any_eq_true'.1 hj;simp only [Bool.and_eq_true,beq_iff_eq] at hb;have:=ordered_spec hord ho e he hb.1
     omega
    have h2:=List.all_eq_true.1 h4 j (List.mem_range.2 hjl);simp only [Bool.or_eq_true,Bool.not_eq_true',List.contains_eq_mem,decide_eq_true_eq] at h2;rcases h2 with h2 | h2
    ·rw [hj] at h2; cases h2
    ·exact h2
 refine wp_region_inv hm hord (fun L a' w'=>(L (ops.size - 1)=true/\Q .normal a' w')∨(L (ops.size - 1)=false/\(∀ s,(∀ j∈B,dOf ops j≠s)->Act.g a' s=Act.g a s)/\a'.tmps.size=a.tmps.size/\a'.defers=a.defers /\
   ((L p=false/\Chg [] w.drew w'/\∀ j∈B,L j=true->φ j (Act.g a' (dOf ops j)) w')∨(L p=true/\p < ops.size/\ψ w'/\∀ j∈B,keep j=true->L j=true->φ j (Act.g a' (dOf ops j)) w'))))
  (.inr ⟨rfl,fun _ _=>rfl,rfl,rfl,.inl ⟨rfl,Chg.refl _ _,fun j _ h=>by cases h⟩⟩) ?_ ?_
 ·intro L i o ho hLi hcls hdeps a' w' hG
  have hi:i < ops.size:=(Array.getElem?_eq_some_iff.1 ho).1
  have hdl:∀ j,waits ops i j=true->L j=true:=fun j hj=>by
   unfold waits at hj;rw [ho] at hj;obtain ⟨e,he,hb⟩:=Array.any_eq_true'.1 hj;simp only [Bool.and_eq_true,beq_iff_eq] at hb;have:=hdeps e he hb.1
   rwa [hb.2] at this
  have hlast:L (ops.size - 1)=false:=by
   cases hl:L (ops.size - 1) with
   | false=>rfl
   | true=>
    exfalso
    by_cases hil:i=ops.size - 1
    ·rw [hil] at hLi
     rw [hl] at hLi
     cases hLi
    ·have hw:=hwlast i (by omega)
     unfold waits at hw;have hol:ops[ops.size - 1]?=some (ops[ops.size - 1]'(by omega)):=Array.getElem?_eq_getElem (by omega);rw [hol] at hw;obtain ⟨e,he,hb⟩:=Array.any_eq_true'.1 hw;simp only [Bool.and_eq_true,beq_iff_eq] at hb;have:=hcls _ _ hol hl e he hb.1;rw [hb.2,hLi] at this
     cases this
  rcases hG with ⟨h,_⟩ | ⟨_,hst,hsz,hdf,hG⟩
  ·rw [hlast] at h; cases h
  have hst':∀ s∈st,Act.g a' s=Act.g a s:=fun s hs=>hst s (fun j hj e=>by obtain ⟨_,_,_,_,_,_,hd1,_,hds1,_⟩:=hBi j hj; exact hds1 (by rw [<- hd1,e]; exact hs))
  by_cases hil:i=ops.size - 1
  ·
   subst hil
   have hgd:o.guard=none:=by rw [ho] at hlg; simpa using hlg
   have hwant:Region.wanted o (yielded ops a'.tmps)=true:=by simp [Region.wanted,hgd]
   unfold wpOp;simp only [ho,hwant,if_true];refine .inl ?_;refine Oper.wp_mono (fun a2 w2 hq=>.inl ⟨by simp,hq⟩) ?_
   have ha:a'=putL ops (fun j=>Act.g a' (dOf ops j)) B a:=act_ext (by rw [putL_size,hsz]) (by rw [putL_defers,hdf]) fun s=>by
    by_cases hs:∃ j∈B,dOf ops j=s
    ·obtain ⟨j,hj,rfl⟩:=hs
     obtain ⟨_,_,_,_,_,_,hd1,hdl1,_⟩:=hBi j hj;rw [putL_eq _ j B a hj hnd (by rw [hd1]; exact hdl1)]
    ·rw [putL_ne _ s B a fun j hj e=>hs ⟨j,hj,e⟩]
     exact hst s fun j hj e=>hs ⟨j,hj,e⟩
   have hLall:∀ j,j < ops.size - 1->L j=true:=fun j hj=>hdl j (hwlast j hj)
   refine last o ho (fun j=>Act.g a' (dOf ops j)) w' (fun hpl=>?_) (fun hpl=>?_) (fun j hj hk=>?_) a' ha
   ·rcases hG with ⟨h,_⟩ | ⟨_,_,h,_⟩
    ·rw [hLall p (hpp hpl).1] at h; cases h
    ·exact h
   ·rcases hG with ⟨_,h,_⟩ | ⟨_,h,_⟩
    ·exact h
    ·exact absurd h hpl
   ·rcases hG with ⟨_,_,h⟩ | ⟨_,hpl,_,h⟩
    ·exact h j hj (hLall j (hBi j hj).1)
    ·exact h j hj (hk hpl) (hLall j (hBi j hj).1)
  have hLf:(L (ops.size - 1) || ops.size - 1 == i)=false:=by
   rw [hlast]
   have:((ops.size - 1) == i)=false:=by simp; omega
   rw [this]
   rfl
  by_cases hip:i=p
  ·
   subst hip;obtain ⟨_,⟨o1,ho1,hg1,hd1⟩,_,hpB⟩:=hpp hi;obtain rfl:o1=o:=Option.some.inj (ho1.symm.trans ho)
   rcases hG with ⟨hLp,hch,hφ⟩ | ⟨h,_⟩
   ·have hwant:Region.wanted o1 (yielded ops a'.tmps)=true:=by simp [Region.wanted,hg1]
    unfold wpOp;simp only [ho,hwant,if_true];refine .inl ?_;refine Oper.wp_mono ?_ (store o1 ho a' w' hst' hch (fun j hj=>hφ j (hpB j hj) (hdl j hj)) (fun W=>ψ W/\∀ j u,keep j=true->φ j u w'->φ j u W) fun W h1 h2=>⟨h1,h2⟩);rintro a2 w2 ⟨rfl,hψ,hk⟩;refine .inr ⟨hLf,hst,hsz,hdf,.inr ⟨by simp,hi,hψ,fun j hj hkj hL=>hk j _ hkj (hφ j hj ?_)⟩⟩
    have hjp:(j == i)=false:=by simp [(hBi j hj).2.1]
    simpa [hjp] using hL
   ·rw [hLi] at h; cases h
  have hiB:=hin i (by omega) hip;obtain ⟨_,_,o1,d,ho1,hd,hdi,hdl',hds,hgd⟩:=hBi i hiB;obtain rfl:o1=o:=Option.some.inj (ho1.symm.trans ho)
  have hput:∀ (v:Value) (s:Nat),(∀ j∈B,dOf ops j≠s)->Act.g (a'.put (some d) v) s=Act.g a s:=fun v s hs=>by
   rw [g_put_ne _ _ _ _ (fun e=>by subst e; exact hs i hiB hdi)];exact hst s hs
  have hLp':(L p || p == i)=L p:=by
   have:(p == i)=false:=by simp; exact fun e=>hip e.symm
   rw [this,Bool.or_false]
  have hLj:∀ j,j≠i->(L j || j == i)=true->L j=true:=fun j hj h=>by
   have hb:(j == i)=false:=by simp [hj]
   simpa [hb] using h
  have hdep:∀ j,waits ops i j=true->φ j (Act.g a' (dOf ops j)) w':=fun j hj=>by
   have hjB:=hwB i hiB j hj
   rcases hG with ⟨_,_,h⟩ | ⟨hLp,hpl,_,h⟩
   ·exact h j hjB (hdl j hj)
   ·rcases (hpp hpl).2.2.1 i hiB with hw | ⟨_,hk⟩
    ·exfalso
     unfold waits at hw;obtain ⟨_,⟨op,hop,_,_⟩,_⟩:=hpp hpl;rw [hop] at hw;obtain ⟨e,he,hb⟩:=Array.any_eq_true'.1 hw;simp only [Bool.and_eq_true,beq_iff_eq] at hb;have:=hcls _ _ hop hLp e he hb.1;rw [hb.2,hLi] at this
     cases this
    ·exact h j hjB (hk j hjB hj) (hdl j hj)
  have hyield:∀ j b,j∈B->Act.g a' (dOf ops j)=.bool b->yielded ops a'.tmps j=some b:=fun j b hj hv=>by
   obtain ⟨_,_,oj,dj,hoj,hdj,hdoj,hdlj,_⟩:=hBi j hj;rw [hdoj] at hv
   have ht:a'.tmps[dj]?=some (.bool b):=by
    have hl:dj < a'.tmps.size:=by rw [hsz]; exact hdlj
    rw [Array.getElem?_eq_getElem hl];unfold Act.g at hv;rw [Array.getD,dif_pos hl] at hv;exact congrArg some hv
   simp [yielded,hoj,hdj,ht]
  cases hsk:skip i with
  | true=>
   have hwant:Region.wanted o1 (yielded ops a'.tmps)=false:=by
    rcases hgd with ⟨_,h⟩ | ⟨j,b,h,hw1,hjB,hor⟩
    ·rw [hsk] at h; cases h
    ·rcases hor with ⟨_,h2⟩ | ⟨hm1,_⟩
     ·rw [hsk] at h2; cases h2
     ·have hv:=hgF _ hm1 _ _ (hdep j hw1)
      have hy:=hyield j _ hjB hv;simp [Region.wanted,h,hy]
   unfold wpOp;simp only [ho,hwant];rw [hd];refine .inr ⟨hLf,hput undef,by rw [size_put]; exact hsz,hdf,?_⟩
   rcases hG with ⟨hLp,hch,hφ⟩ | ⟨hLp,hpl,hψ,hφ⟩
   ·refine .inl ⟨hLp'.trans hLp,hch,fun j hj hL=>?_⟩
    by_cases hji:j=i
    ·subst hji; exact hskip _ _ _ hsk
    ·rw [g_put_ne _ _ _ _ (by rw [<- hdi]; exact distinct j i hj hiB hji)]
     exact hφ j hj (hLj j hji hL)
   ·refine .inr ⟨hLp'.trans hLp,hpl,hψ,fun j hj hk hL=>?_⟩
    by_cases hji:j=i
    ·subst hji; exact hskip _ _ _ hsk
    ·rw [g_put_ne _ _ _ _ (by rw [<- hdi]; exact distinct j i hj hiB hji)]
     exact hφ j hj hk (hLj j hji hL)
  | false=>
   have hwant:Region.wanted o1 (yielded ops a'.tmps)=true:=by
    rcases hgd with ⟨h,_⟩ | ⟨j,b,h,hw1,hjB,hor⟩
    ·simp [Region.wanted,h]
    ·rcases hor with ⟨hm1,_⟩ | ⟨_,h2⟩
     ·have hv:=hgT _ hm1 _ _ (hdep j hw1)
      have hy:=hyield j _ hjB hv;simp [Region.wanted,h,hy]
     ·rw [hsk] at h2; cases h2
   unfold wpOp;simp only [ho,hwant,if_true];refine .inl ?_
   rcases hG with ⟨hLp,hch,hφ⟩ | ⟨hLp,hpl,hψ,hφ⟩
   ·refine Oper.wp_mono ?_ (step i o1 hiB hsk ho a' w' hst' hch hdep (fun v w2=>Chg [] w' w2/\φ i v w2) (fun v w2 h1 h2=>⟨h1,h2⟩))
    rintro a2 w2 ⟨v,rfl,hc2,hv⟩;rw [hd];refine .inr ⟨hLf,hput v,by rw [size_put]; exact hsz,hdf,.inl ⟨hLp'.trans hLp,hch.trans hc2 New.nil,fun j hj hL=>?_⟩⟩
    by_cases hji:j=i
    ·subst hji
     rw [hdi,g_put_same _ _ _ (by rw [hsz]; exact hdl')];exact hv
    ·rw [g_put_ne _ _ _ _ (by rw [<- hdi]; exact distinct j i hj hiB hji)]
     exact mono _ _ _ _ hc2 (hφ j hj (hLj j hji hL))
   ·have hnw:waits ops p i=false:=by
     cases hw:waits ops p i with
     | false=>rfl
     | true=>
      exfalso
      unfold waits at hw;obtain ⟨_,⟨op,hop,_,_⟩,_⟩:=hpp hpl;rw [hop] at hw;obtain ⟨e,he,hb⟩:=Array.any_eq_true'.1 hw;simp only [Bool.and_eq_true,beq_iff_eq] at hb;have:=hcls _ _ hop hLp e he hb.1;rw [hb.2,hLi] at this
      cases this
    refine Oper.wp_mono ?_ (late i o1 hiB hsk hpl hnw ho a' w' hst' hψ hdep (fun v w2=>w2=w'/\φ i v w') (fun v h2=>⟨rfl,h2⟩));rintro a2 w2 ⟨v,rfl,rfl,hv⟩;rw [hd];refine .inr ⟨hLf,hput v,by rw [size_put]; exact hsz,hdf,.inr ⟨hLp'.trans hLp,hpl,hψ,fun j hj hk hL=>?_⟩⟩
    by_cases hji:j=i
    ·subst hji
     rw [hdi,g_put_same _ _ _ (by rw [hsz]; exact hdl')];exact hv
    ·rw [g_put_ne _ _ _ _ (by rw [<- hdi]; exact distinct j i hj hiB hji)]
     exact hφ j hj hk (hLj j hji hL)
 ·intro a' w' hG
  rcases hG with ⟨_,h⟩ | ⟨h,_⟩
  ·exact h
  ·have:decide (ops.size - 1 < ops.size)=true:=by simp; omega
   exact absurd (h.symm.trans this) (by simp)
end
theorem no_late {b:Bool} (h1:b=true) (h2:b=false):False:=by rw [h1] at h2; cases h2
end Go.Proofs.YtpofkokbmifhgaaGreatDoor
