/- Parts of the walk, made small by wip/tools/pack.py: Insert. No condition but those in each statement. -/
import Derived.Test.YtpofkokbmifhgaaGreatDoorK03
set_option maxRecDepth 100000
set_option maxHeartbeats 20000000
set_option linter.unusedVariables false
set_option linter.unusedSimpArgs false
namespace Go.Proofs.YtpofkokbmifhgaaGreatDoor
open Go.RowKit
section
variable {P:Program} {ops:Array Oper} {Q:Exit->Act->World->Prop}
theorem wp_region_pair {id:Nat} {a:Act} {w:World} (hm:P.follows .mixedOrders=true) (hord:ordered ops=true) (st:List Nat) (hform:monoForm ops a.tmps.size st=true)
  (p:Nat) (hp:p < ops.size - 1) (F:List Nat)
  (φ:Nat->Value->World->Prop) (mono:∀ i v w w',Chg [] w w'->φ i v w->φ i v w') (monoF:∀ i v w w',i≠p->Chg F w w'->φ i v w->φ i v w')
  (step:∀ (i:Nat) (o:Oper),i < ops.size - 1->i≠p->ops[i]?=some o->∀ (a':Act) (w':World),(∀ s∈st,Act.g a' s=Act.g a s)->Chg F w.drew w'->(waits ops p i=true->Chg [] w.drew w')->(∀ j,waits ops i j=true->φ j (Act.g a' (dOf ops j)) w') ->
   ∃ v w'',(execOp a'.eval o).run P w'=.ok (.value v) w''/\Chg [] w' w''/\φ i v w'')
  (stepP:∀ (o:Oper),ops[p]?=some o->∀ (a':Act) (w':World),(∀ s∈st,Act.g a' s=Act.g a s)->Chg [] w.drew w'->(∀ j,waits ops p j=true->φ j (Act.g a' (dOf ops j)) w') ->
   ∃ v w'',(execOp a'.eval o).run P w'=.ok (.value v) w''/\Chg F w' w''/\φ p v w'')
  (last:∀ (o:Oper),ops[ops.size - 1]?=some o->∀ (u:Nat->Value) (w':World),Chg F w.drew w'->(∀ j,j < ops.size - 1->φ j (u j) w') ->
   ∀ A2,A2=putAll ops u (ops.size - 1) a->o.wp P A2 w' (Q .normal) Q):(Code.region id ops true).wp P Q a w:=by
 unfold monoForm at hform
 simp only [Bool.and_eq_true,decide_eq_true_eq] at hform
 obtain ⟨⟨⟨h0,hgd⟩,hdst⟩,hnd⟩:=hform
 have guard:∀ (i:Nat) (o:Oper),ops[i]?=some o->o.guard=none:=by
  intro i o ho
  have hi:=(Array.getElem?_eq_some_iff.1 ho)
  obtain ⟨hlt,he⟩:=hi
  have:=Array.all_eq_true.1 hgd i hlt
  rw [he] at this
  simpa using this
 have head:∀ i,i < ops.size - 1->∃ o d,ops[i]?=some o/\o.dst=some d/\dOf ops i=d/\d < a.tmps.size/\d ∉ st/\waits ops (ops.size - 1) i=true:=by
  intro i hi
  have h1:=List.all_eq_true.1 hdst i (List.mem_range.2 hi)
  have ho:ops[i]?=some (ops[i]'(by omega)):=Array.getElem?_eq_getElem (by omega)
  rw [ho] at h1
  simp only [Bool.and_eq_true] at h1
  cases hd:(ops[i]'(by omega)).dst with
  | none=>rw [hd] at h1; simp at h1
  | some d=>
   rw [hd] at h1
   simp only [Bool.and_eq_true,decide_eq_true_eq,Bool.not_eq_true',List.contains_eq_mem,decide_eq_false_iff_not] at h1
   exact ⟨_,d,ho,hd,by unfold dOf; rw [ho]; simp [hd],h1.1.1,h1.1.2,h1.2⟩
 have distinct:∀ i j,i < ops.size - 1->j < ops.size - 1->i≠j->dOf ops i≠dOf ops j:=by
  intro i j hi hj hij he
  have hp:=List.pairwise_iff_getElem.1 hnd
  simp only [List.length_map,List.length_range,List.getElem_map,List.getElem_range] at hp
  rcases Nat.lt_or_gt_of_ne hij with h | h
  ·exact hp i j hi hj h he
  ·exact hp j i hj hi h he.symm
 refine wp_region_inv hm hord (fun L a' w'=>(L (ops.size - 1)=true/\Q .normal a' w')∨(L (ops.size - 1)=false/\(∀ s,(∀ j,j < ops.size - 1->dOf ops j≠s)->Act.g a' s=Act.g a s)/\a'.tmps.size=a.tmps.size/\a'.defers=a.defers/\Chg F w.drew w'/\(L p=false->Chg [] w.drew w')/\∀ j,j < ops.size - 1->L j=true->φ j (Act.g a' (dOf ops j)) w'))
  (.inr ⟨rfl,fun _ _=>rfl,rfl,rfl,Chg.refl _ _,fun _=>Chg.refl _ _,fun j _ h=>by cases h⟩) ?_ ?_
 ·intro L i o ho hLi hcl hdeps a' w' hG
  have hi:i < ops.size:=(Array.getElem?_eq_some_iff.1 ho).1
  have hwant:Region.wanted o (yielded ops a'.tmps)=true:=by simp [Region.wanted,guard i o ho]
  have hlast:L (ops.size - 1)=false:=by
   cases hl:L (ops.size - 1) with
   | false=>rfl
   | true=>
    exfalso
    by_cases hil:i=ops.size - 1
    ·rw [hil] at hLi
     rw [hl] at hLi
     cases hLi
    ·obtain ⟨o1,d1,_,_,_,_,_,hw⟩:=head i (by omega)
     unfold waits at hw
     have hol:ops[ops.size - 1]?=some (ops[ops.size - 1]'(by omega)):=Array.getElem?_eq_getElem (by omega)
     rw [hol] at hw
     obtain ⟨e,he,hb⟩:=Array.any_eq_true'.1 hw
     simp only [Bool.and_eq_true,beq_iff_eq] at hb
     have:=hcl _ _ hol hl e he hb.1
     rw [hb.2,hLi] at this
     cases this
  rcases hG with ⟨h,_⟩ | ⟨_,hst,hsz,hdf,hch,hpre,hφ⟩
  ·rw [hlast] at h; cases h
  unfold wpOp
  simp only [ho,hwant,if_true]
  refine .inl ?_
  by_cases hil:i=ops.size - 1
  ·subst hil
   have hall:∀ j,j < ops.size - 1->φ j (Act.g a' (dOf ops j)) w':=by
    intro j hj
    obtain ⟨o1,d1,_,_,_,_,_,hw⟩:=head j hj
    unfold waits at hw
    rw [ho] at hw
    obtain ⟨e,he,hb⟩:=Array.any_eq_true'.1 hw
    simp only [Bool.and_eq_true,beq_iff_eq] at hb
    have:=hdeps e he hb.1
    rw [hb.2] at this
    exact hφ j hj this
   refine Oper.wp_mono (fun a2 w2 hq=>.inl ⟨by simp,hq⟩) (by
    have ha:a'=putAll ops (fun j=>Act.g a' (dOf ops j)) (ops.size - 1) a:=act_ext (by rw [putAll_size,hsz]) (by rw [putAll_defers,hdf]) fun s=>by
     by_cases hs:∃ j,j < ops.size - 1/\dOf ops j=s
     ·obtain ⟨j,hj,rfl⟩:=hs
      obtain ⟨o1,d1,_,_,hd1,hdl1,_,_⟩:=head j hj
      rw [putAll_eq ops _ a j _ hj (fun k hk hkj=>distinct k j hk hj hkj) (by rw [hd1]; exact hdl1)]
     ·rw [putAll_ne ops _ a s _ (fun j hj e=>hs ⟨j,hj,e⟩)]
      exact hst s (fun j hj e=>hs ⟨j,hj,e⟩)
    have hl:=last o ho (fun j=>Act.g a' (dOf ops j)) w' hch hall a' ha
    exact hl)
  ·have hih:i < ops.size - 1:=by omega
   obtain ⟨o1,d,ho1,hd,hdi,hdl,hds,hw⟩:=head i hih
   obtain rfl:o1=o:=Option.some.inj (ho1.symm.trans ho)
   have hdep:∀ j,waits ops i j=true->φ j (Act.g a' (dOf ops j)) w':=fun j hj=>by
    unfold waits at hj
    rw [ho] at hj
    obtain ⟨e,he,hb⟩:=Array.any_eq_true'.1 hj
    simp only [Bool.and_eq_true,beq_iff_eq] at hb
    have h1:=hdeps e he hb.1
    have h2:=ordered_spec hord ho e he hb.1
    rw [hb.2] at h1 h2
    exact hφ j (by omega) h1
   have hlf:(L (ops.size - 1) || ops.size - 1 == i)=false:=by
    rw [hlast]
    have:((ops.size - 1) == i)=false:=by simp; omega
    rw [this]
    rfl
   have hput:∀ (v:Value) (s:Nat),(∀ j,j < ops.size - 1->dOf ops j≠s)->Act.g (a'.put (some d) v) s=Act.g a s:=fun v s hs=>by
    rw [g_put_ne _ _ _ _ (fun e=>by subst e; exact hs i hih hdi)]
    exact hst s hs
   have hst':∀ s∈st,Act.g a' s=Act.g a s:=fun s hs=>hst s (fun j hj e=>by obtain ⟨_,_,_,_,hd1,_,hds1,_⟩:=head j hj; exact hds1 (by rw [<- hd1,e]; exact hs))
   by_cases hip:i=p
   ·subst hip
    obtain ⟨v,w2,hrun,hc2,hv⟩:=stepP o1 ho a' w' hst' (hpre hLi) hdep
    unfold Oper.wp
    rw [hrun]
    simp only [Oper.upon_value,hd]
    refine .inr ⟨hlf,hput v,by rw [size_put]; exact hsz,hdf,hch.trans hc2 (New.refl _ _),fun h=>by simp at h,fun j hj hL=>?_⟩
    by_cases hji:j=i
    ·subst hji
     rw [hdi,g_put_same _ _ _ (by rw [hsz]; exact hdl)]
     exact hv
    ·have:L j=true:=by
      have hb:(j == i)=false:=by simp [hji]
      simpa [hb] using hL
     rw [g_put_ne _ _ _ _ (by rw [<- hdi]; exact distinct j i hj hih hji)]
     exact monoF _ _ _ _ hji hc2 (hφ j hj this)
   ·have hanc:waits ops p i=true->Chg [] w.drew w':=fun hwp=>by
     refine hpre ?_
     cases hLp:L p with
     | false=>rfl
     | true=>
      exfalso
      unfold waits at hwp
      have hop:ops[p]?=some (ops[p]'(by omega)):=Array.getElem?_eq_getElem (by omega)
      rw [hop] at hwp
      obtain ⟨e,he,hb⟩:=Array.any_eq_true'.1 hwp
      simp only [Bool.and_eq_true,beq_iff_eq] at hb
      have:=hcl _ _ hop hLp e he hb.1
      rw [hb.2,hLi] at this
      cases this
    obtain ⟨v,w2,hrun,hc2,hv⟩:=step i o1 hih hip ho a' w' hst' hch hanc hdep
    unfold Oper.wp
    rw [hrun]
    simp only [Oper.upon_value,hd]
    refine .inr ⟨hlf,hput v,by rw [size_put]; exact hsz,hdf,hch.trans hc2 New.nil,fun h=>?_,fun j hj hL=>?_⟩
    ·have:L p=false:=by
      have hb:(p == i)=false:=by simp [Ne.symm hip]
      simpa [hb] using h
     exact (hpre this).trans hc2 New.nil
    ·by_cases hji:j=i
     ·subst hji
      rw [hdi,g_put_same _ _ _ (by rw [hsz]; exact hdl)]
      exact hv
     ·have:L j=true:=by
       have hb:(j == i)=false:=by simp [hji]
       simpa [hb] using hL
      rw [g_put_ne _ _ _ _ (by rw [<- hdi]; exact distinct j i hj hih hji)]
      exact mono _ _ _ _ hc2 (hφ j hj this)
 ·intro a' w' hG
  rcases hG with ⟨_,h⟩ | ⟨h,_⟩
  ·exact h
  ·have:decide (ops.size - 1 < ops.size)=true:=by simp; omega
   exact absurd (h.symm.trans this) (by simp)
theorem wp_region_call {id:Nat} {a:Act} {w:World} (hm:P.follows .mixedOrders=true) (hord:ordered ops=true) (st:List Nat) (hform:monoForm ops a.tmps.size st=true)
  (p:Nat) (hp:p < ops.size - 1) (F:List Nat)
  (φ:Nat->Value->World->Prop) (mono:∀ i v w w',Chg [] w w'->φ i v w->φ i v w') (monoF:∀ i v w w',i≠p->Chg F w w'->φ i v w->φ i v w')
  (step:∀ (i:Nat) (o:Oper),i < ops.size - 1->i≠p->ops[i]?=some o->∀ (a':Act) (w':World),(∀ s∈st,Act.g a' s=Act.g a s)->Chg F w.drew w'->(waits ops p i=true->Chg [] w.drew w')->(∀ j,waits ops i j=true->φ j (Act.g a' (dOf ops j)) w') ->
   ∀ K:Value->World->Prop,(∀ v w'',Chg [] w' w''->φ i v w''->K v w'')->o.wp P a' w' (fun a2 w2=>∃ v,a2=a'.put o.dst v/\K v w2) Q)
  (stepP:∀ (o:Oper),ops[p]?=some o->∀ (a':Act) (w':World),(∀ s∈st,Act.g a' s=Act.g a s)->Chg [] w.drew w'->(∀ j,waits ops p j=true->φ j (Act.g a' (dOf ops j)) w') ->
   ∃ v w'',(execOp a'.eval o).run P w'=.ok (.value v) w''/\Chg F w' w''/\φ p v w'')
  (last:∀ (o:Oper),ops[ops.size - 1]?=some o->∀ (u:Nat->Value) (w':World),Chg F w.drew w'->(∀ j,j < ops.size - 1->φ j (u j) w') ->
   ∀ A2,A2=putAll ops u (ops.size - 1) a->o.wp P A2 w' (Q .normal) Q):(Code.region id ops true).wp P Q a w:=by
 unfold monoForm at hform
 simp only [Bool.and_eq_true,decide_eq_true_eq] at hform
 obtain ⟨⟨⟨h0,hgd⟩,hdst⟩,hnd⟩:=hform
 have guard:∀ (i:Nat) (o:Oper),ops[i]?=some o->o.guard=none:=by
  intro i o ho
  have hi:=(Array.getElem?_eq_some_iff.1 ho)
  obtain ⟨hlt,he⟩:=hi
  have:=Array.all_eq_true.1 hgd i hlt
  rw [he] at this
  simpa using this
 have head:∀ i,i < ops.size - 1->∃ o d,ops[i]?=some o/\o.dst=some d/\dOf ops i=d/\d < a.tmps.size/\d ∉ st/\waits ops (ops.size - 1) i=true:=by
  intro i hi
  have h1:=List.all_eq_true.1 hdst i (List.mem_range.2 hi)
  have ho:ops[i]?=some (ops[i]'(by omega)):=Array.getElem?_eq_getElem (by omega)
  rw [ho] at h1
  simp only [Bool.and_eq_true] at h1
  cases hd:(ops[i]'(by omega)).dst with
  | none=>rw [hd] at h1; simp at h1
  | some d=>
   rw [hd] at h1
   simp only [Bool.and_eq_true,decide_eq_true_eq,Bool.not_eq_true',List.contains_eq_mem,decide_eq_false_iff_not] at h1
   exact ⟨_,d,ho,hd,by unfold dOf; rw [ho]; simp [hd],h1.1.1,h1.1.2,h1.2⟩
 have distinct:∀ i j,i < ops.size - 1->j < ops.size - 1->i≠j->dOf ops i≠dOf ops j:=by
  intro i j hi hj hij he
  have hp:=List.pairwise_iff_getElem.1 hnd
  simp only [List.length_map,List.length_range,List.getElem_map,List.getElem_range] at hp
  rcases Nat.lt_or_gt_of_ne hij with h | h
  ·exact hp i j hi hj h he
  ·exact hp j i hj hi h he.symm
 refine wp_region_inv hm hord (fun L a' w'=>(L (ops.size - 1)=true/\Q .normal a' w')∨(L (ops.size - 1)=false/\(∀ s,(∀ j,j < ops.size - 1->dOf ops j≠s)->Act.g a' s=Act.g a s)/\a'.tmps.size=a.tmps.size/\a'.defers=a.defers/\Chg F w.drew w'/\(L p=false->Chg [] w.drew w')/\∀ j,j < ops.size - 1->L j=true->φ j (Act.g a' (dOf ops j)) w'))
  (.inr ⟨rfl,fun _ _=>rfl,rfl,rfl,Chg.refl _ _,fun _=>Chg.refl _ _,fun j _ h=>by cases h⟩) ?_ ?_
 ·intro L i o ho hLi hcl hdeps a' w' hG
  have hi:i < ops.size:=(Array.getElem?_eq_some_iff.1 ho).1
  have hwant:Region.wanted o (yielded ops a'.tmps)=true:=by simp [Region.wanted,guard i o ho]
  have hlast:L (ops.size - 1)=false:=by
   cases hl:L (ops.size - 1) with
   | false=>rfl
   | true=>
    exfalso
    by_cases hil:i=ops.size - 1
    ·rw [hil] at hLi
     rw [hl] at hLi
     cases hLi
    ·obtain ⟨o1,d1,_,_,_,_,_,hw⟩:=head i (by omega)
     unfold waits at hw
     have hol:ops[ops.size - 1]?=some (ops[ops.size - 1]'(by omega)):=Array.getElem?_eq_getElem (by omega)
     rw [hol] at hw
     obtain ⟨e,he,hb⟩:=Array.any_eq_true'.1 hw
     simp only [Bool.and_eq_true,beq_iff_eq] at hb
     have:=hcl _ _ hol hl e he hb.1
     rw [hb.2,hLi] at this
     cases this
  rcases hG with ⟨h,_⟩ | ⟨_,hst,hsz,hdf,hch,hpre,hφ⟩
  ·rw [hlast] at h; cases h
  unfold wpOp
  simp only [ho,hwant,if_true]
  refine .inl ?_
  by_cases hil:i=ops.size - 1
  ·subst hil
   have hall:∀ j,j < ops.size - 1->φ j (Act.g a' (dOf ops j)) w':=by
    intro j hj
    obtain ⟨o1,d1,_,_,_,_,_,hw⟩:=head j hj
    unfold waits at hw
    rw [ho] at hw
    obtain ⟨e,he,hb⟩:=Array.any_eq_true'.1 hw
    simp only [Bool.and_eq_true,beq_iff_eq] at hb
    have:=hdeps e he hb.1
    rw [hb.2] at this
    exact hφ j hj this
   refine Oper.wp_mono (fun a2 w2 hq=>.inl ⟨by simp,hq⟩) (by
    have ha:a'=putAll ops (fun j=>Act.g a' (dOf ops j)) (ops.size - 1) a:=act_ext (by rw [putAll_size,hsz]) (by rw [putAll_defers,hdf]) fun s=>by
     by_cases hs:∃ j,j < ops.size - 1/\dOf ops j=s
     ·obtain ⟨j,hj,rfl⟩:=hs
      obtain ⟨o1,d1,_,_,hd1,hdl1,_,_⟩:=head j hj
      rw [putAll_eq ops _ a j _ hj (fun k hk hkj=>distinct k j hk hj hkj) (by rw [hd1]; exact hdl1)]
     ·rw [putAll_ne ops _ a s _ (fun j hj e=>hs ⟨j,hj,e⟩)]
      exact hst s (fun j hj e=>hs ⟨j,hj,e⟩)
    have hl:=last o ho (fun j=>Act.g a' (dOf ops j)) w' hch hall a' ha
    exact hl)
  ·have hih:i < ops.size - 1:=by omega
   obtain ⟨o1,d,ho1,hd,hdi,hdl,hds,hw⟩:=head i hih
   obtain rfl:o1=o:=Option.some.inj (ho1.symm.trans ho)
   have hdep:∀ j,waits ops i j=true->φ j (Act.g a' (dOf ops j)) w':=fun j hj=>by
    unfold waits at hj
    rw [ho] at hj
    obtain ⟨e,he,hb⟩:=Array.any_eq_true'.1 hj
    simp only [Bool.and_eq_true,beq_iff_eq] at hb
    have h1:=hdeps e he hb.1
    have h2:=ordered_spec hord ho e he hb.1
    rw [hb.2] at h1 h2
    exact hφ j (by omega) h1
   have hlf:(L (ops.size - 1) || ops.size - 1 == i)=false:=by
    rw [hlast]
    have:((ops.size - 1) == i)=false:=by simp; omega
    rw [this]
    rfl
   have hput:∀ (v:Value) (s:Nat),(∀ j,j < ops.size - 1->dOf ops j≠s)->Act.g (a'.put (some d) v) s=Act.g a s:=fun v s hs=>by
    rw [g_put_ne _ _ _ _ (fun e=>by subst e; exact hs i hih hdi)]
    exact hst s hs
   have hst':∀ s∈st,Act.g a' s=Act.g a s:=fun s hs=>hst s (fun j hj e=>by obtain ⟨_,_,_,_,hd1,_,hds1,_⟩:=head j hj; exact hds1 (by rw [<- hd1,e]; exact hs))
   by_cases hip:i=p
   ·subst hip
    obtain ⟨v,w2,hrun,hc2,hv⟩:=stepP o1 ho a' w' hst' (hpre hLi) hdep
    unfold Oper.wp
    rw [hrun]
    simp only [Oper.upon_value,hd]
    refine .inr ⟨hlf,hput v,by rw [size_put]; exact hsz,hdf,hch.trans hc2 (New.refl _ _),fun h=>by simp at h,fun j hj hL=>?_⟩
    by_cases hji:j=i
    ·subst hji
     rw [hdi,g_put_same _ _ _ (by rw [hsz]; exact hdl)]
     exact hv
    ·have:L j=true:=by
      have hb:(j == i)=false:=by simp [hji]
      simpa [hb] using hL
     rw [g_put_ne _ _ _ _ (by rw [<- hdi]; exact distinct j i hj hih hji)]
     exact monoF _ _ _ _ hji hc2 (hφ j hj this)
   ·have hanc:waits ops p i=true->Chg [] w.drew w':=fun hwp=>by
     refine hpre ?_
     cases hLp:L p with
     | false=>rfl
     | true=>
      exfalso
      unfold waits at hwp
      have hop:ops[p]?=some (ops[p]'(by omega)):=Array.getElem?_eq_getElem (by omega)
      rw [hop] at hwp
      obtain ⟨e,he,hb⟩:=Array.any_eq_true'.1 hwp
      simp only [Bool.and_eq_true,beq_iff_eq] at hb
      have:=hcl _ _ hop hLp e he hb.1
      rw [hb.2,hLi] at this
      cases this
    refine Oper.wp_mono ?_ (step i o1 hih hip ho a' w' hst' hch hanc hdep (fun v w2=>Chg [] w' w2/\φ i v w2) (fun v w2 h1 h2=>⟨h1,h2⟩))
    rintro a2 w2 ⟨v,rfl,hc2,hv⟩
    rw [hd]
    refine .inr ⟨hlf,hput v,by rw [size_put]; exact hsz,hdf,hch.trans hc2 New.nil,fun h=>?_,fun j hj hL=>?_⟩
    ·have:L p=false:=by
      have hb:(p == i)=false:=by simp [Ne.symm hip]
      simpa [hb] using h
     exact (hpre this).trans hc2 New.nil
    ·by_cases hji:j=i
     ·subst hji
      rw [hdi,g_put_same _ _ _ (by rw [hsz]; exact hdl)]
      exact hv
     ·have:L j=true:=by
       have hb:(j == i)=false:=by simp [hji]
       simpa [hb] using hL
      rw [g_put_ne _ _ _ _ (by rw [<- hdi]; exact distinct j i hj hih hji)]
      exact mono _ _ _ _ hc2 (hφ j hj this)
 ·intro a' w' hG
  rcases hG with ⟨_,h⟩ | ⟨h,_⟩
  ·exact h
  ·have:decide (ops.size - 1 < ops.size)=true:=by simp; omega
   exact absurd (h.symm.trans this) (by simp)
end
end Go.Proofs.YtpofkokbmifhgaaGreatDoor
