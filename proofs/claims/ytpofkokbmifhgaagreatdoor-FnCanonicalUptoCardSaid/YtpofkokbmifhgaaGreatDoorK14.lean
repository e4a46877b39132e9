/- Parts of the walk, made small by wip/tools/pack.py: Put, Bx, Two, VRow. No condition but those in each statement. -/
import Derived.Test.YtpofkokbmifhgaaGreatDoorK10
import Derived.Test.YtpofkokbmifhgaaGreatDoorK13
set_option maxRecDepth 100000
set_option maxHeartbeats 20000000
set_option linter.unusedVariables false
set_option linter.unusedSimpArgs false
namespace Go.Proofs.YtpofkokbmifhgaaGreatDoor
open Go.RowKit
section
variable {P:Program} {ops:Array Oper} {Q:Exit->Act->World->Prop}
theorem wp_region_put3 {id:Nat} {a:Act} {w:World} (hm:P.follows .mixedOrders=true) (hord:ordered ops=true) (st:List Nat) (p jb:Nat) (hform:putForm ops a.tmps.size st p=true) (hjb:waits ops p jb=true) (O:Obj)
  (φ:Nat->Value->Option Nat->World->Prop) (mono:∀ i v b w w',Chg [] w w'->φ i v b w->φ i v b w') (born:∀ i v w',φ i v none w'->φ i v (some w'.heap.size) (w'.alloc O)) (ψ:Nat->World->Prop) (monoψ:∀ B w w',Chg [] w w'->ψ B w->ψ B w') (keep:Nat->Bool)
  (stepB:∀ (o:Oper),ops[jb]?=some o->∀ (a':Act) (w':World),(∀ s∈st,Act.g a' s=Act.g a s)->∀ K:Value->World->Prop,K (.pointer (some ⟨w'.heap.size,0,none⟩)) (w'.alloc O)->o.wp P a' w' (fun a2 w2=>∃ v,a2=a'.put o.dst v/\K v w2) Q)
  (step:∀ (i:Nat) (o:Oper),i < ops.size->i≠p->i≠jb->ops[i]?=some o->∀ (a':Act) (w':World) (b:Option Nat),(∀ B,b=some B->w.heap.size<=B/\B < w'.heap.size)->(∀ s∈st,Act.g a' s=Act.g a s)->Chg [] w.drew w'->(∀ j,j≠p->j≠jb->waits ops i j=true->(waits ops p i=true∨keep j=true)->φ j (Act.g a' (dOf ops j)) b w') ->
   ∀ K:Value->World->Prop,(∀ v w'',Chg [] w' w''->φ i v b w''->K v w'')->o.wp P a' w' (fun a2 w2=>∃ v,a2=a'.put o.dst v/\K v w2) Q)
  (stepP:∀ (o:Oper),ops[p]?=some o->∀ (a':Act) (w':World) (B:Nat),Act.g a' (dOf ops jb)=.pointer (some ⟨B,0,none⟩)->w.heap.size<=B->w'.heap[B]?=some O->(∀ s∈st,Act.g a' s=Act.g a s)->Chg [] w.drew w'->(∀ j,j≠jb->waits ops p j=true->φ j (Act.g a' (dOf ops j)) (some B) w') ->
   ∀ K:World->Prop,(∀ w2,Chg [] w.drew w2->w'.heap.size<=w2.heap.size->ψ B w2->(∀ j v,j≠p->j≠jb->keep j=true->φ j v (some B) w'->φ j v (some B) w2)->K w2)->o.wp P a' w' (fun a2 w2=>a2=a'/\K w2) Q)
  (fin:∀ (u:Nat->Value) (w':World) (B:Nat),Chg [] w.drew w'->u jb=.pointer (some ⟨B,0,none⟩)->w.heap.size<=B->B < w'.heap.size->(∀ j,j < ops.size->j≠p->j≠jb->keep j=true->φ j (u j) (some B) w')->u p=Act.g a 0->ψ B w'->∀ A2,A2=putAll ops u ops.size a->Q .normal A2 w'):(Code.region id ops true).wp P Q a w:=by
 unfold putForm at hform
 simp only [Bool.and_eq_true,decide_eq_true_eq] at hform
 obtain ⟨⟨⟨⟨⟨hgd,hdst⟩,hnd⟩,h0st⟩,h0s⟩,hp⟩:=hform
 have h0st:0∈st:=by simpa using h0st
 have guard:∀ (i:Nat) (o:Oper),ops[i]?=some o->o.guard=none:=by
  intro i o ho
  obtain ⟨hlt,he⟩:=(Array.getElem?_eq_some_iff.1 ho)
  have:=Array.all_eq_true.1 hgd i hlt
  rw [he] at this
  simpa using this
 have head:∀ i,i < ops.size->i≠p->∃ o d,ops[i]?=some o/\o.dst=some d/\dOf ops i=d/\d < a.tmps.size/\d ∉ st:=by
  intro i hi hip
  have h1:=List.all_eq_true.1 hdst i (List.mem_range.2 hi)
  have ho:ops[i]?=some (ops[i]'(by omega)):=Array.getElem?_eq_getElem (by omega)
  rw [ho] at h1
  simp only at h1
  cases hd:(ops[i]'(by omega)).dst with
  | none=>rw [hd] at h1; simp at h1; exact absurd h1 hip
  | some d=>
   rw [hd] at h1
   simp only [Bool.and_eq_true,decide_eq_true_eq,Bool.not_eq_true',List.contains_eq_mem,decide_eq_false_iff_not] at h1
   exact ⟨_,d,ho,hd,by unfold dOf; rw [ho]; simp [hd],h1.1.1,h1.1.2⟩
 have headp:∃ o,ops[p]?=some o/\o.dst=none/\dOf ops p=0:=by
  have h1:=List.all_eq_true.1 hdst p (List.mem_range.2 hp)
  have ho:ops[p]?=some (ops[p]'(by omega)):=Array.getElem?_eq_getElem (by omega)
  rw [ho] at h1
  simp only at h1
  cases hd:(ops[p]'(by omega)).dst with
  | none=>exact ⟨_,ho,hd,by unfold dOf; rw [ho]; simp [hd]⟩
  | some d=>rw [hd] at h1; simp at h1
 have distinct:∀ i j,i < ops.size->j < ops.size->i≠j->dOf ops i≠dOf ops j:=by
  intro i j hi hj hij he
  have hp:=List.pairwise_iff_getElem.1 hnd
  simp only [List.length_map,List.length_range,List.getElem_map,List.getElem_range] at hp
  rcases Nat.lt_or_gt_of_ne hij with h | h
  ·exact hp i j hi hj h he
  ·exact hp j i hj hi h he.symm
 have wt:∀ {i j:Nat} {o:Oper},ops[i]?=some o->waits ops i j=true->∃ e∈o.after,Region.binds .any e=true/\e.on=j:=fun {i j o} ho hj=>by
  unfold waits at hj
  rw [ho] at hj
  obtain ⟨e,he,hb⟩:=Array.any_eq_true'.1 hj
  simp only [Bool.and_eq_true,beq_iff_eq] at hb
  exact ⟨e,he,hb⟩
 have jlt:∀ {i j:Nat},i < ops.size->waits ops i j=true->j < i:=fun {i j} hi hj=>by
  have ho:ops[i]?=some (ops[i]'hi):=Array.getElem?_eq_getElem hi
  obtain ⟨e,he,hb,rfl⟩:=wt ho hj
  exact ordered_spec hord ho e he hb
 have hjbp:jb < p:=jlt hp hjb
 refine wp_region_inv hm hord (fun L a' w'=>(∀ s,(∀ j,j < ops.size->j≠p->dOf ops j≠s)->Act.g a' s=Act.g a s)/\a'.tmps.size=a.tmps.size/\a'.defers=a.defers/\Chg [] w.drew w' /\
   ∃ b:Option Nat,(L jb=false->b=none)/\(L jb=true->∃ B,b=some B/\Act.g a' (dOf ops jb)=.pointer (some ⟨B,0,none⟩)/\w.heap.size<=B/\B < w'.heap.size/\(L p=false->w'.heap[B]?=some O)) /\
    (∀ j,j < ops.size->j≠p->j≠jb->L j=true->(L p=true->keep j=true)->φ j (Act.g a' (dOf ops j)) b w')/\(L p=true->L jb=true/\∃ B,b=some B/\ψ B w'))
  ⟨fun _ _=>rfl,rfl,rfl,Chg.refl _ _,none,fun _=>rfl,fun h=>(by cases h),fun j _ _ _ h _=>(by cases h),fun h=>(by cases h)⟩ ?_ ?_
 ·intro L i o ho hLi hcl hdeps a' w' ⟨hst,hsz,hdf,hch,b,hb0,hb1,hφ,hψ⟩
  have hi:i < ops.size:=(Array.getElem?_eq_some_iff.1 ho).1
  have hwant:Region.wanted o (yielded ops a'.tmps)=true:=by simp [Region.wanted,guard i o ho]
  unfold wpOp
  simp only [ho,hwant,if_true]
  refine .inl ?_
  have hst':∀ s∈st,Act.g a' s=Act.g a s:=fun s hs=>hst s (fun j hj hjp e=>by obtain ⟨_,_,_,_,hd1,_,hds1⟩:=head j hj hjp; exact hds1 (by rw [<- hd1,e]; exact hs))
  have hbB:∀ B,b=some B->w.heap.size<=B/\B < w'.heap.size:=fun B hB=>by
   cases hL:L jb with
   | false=>rw [hb0 hL] at hB; cases hB
   | true=>
    obtain ⟨B',h1,_,h2,h3,_⟩:=hb1 hL
    rw [h1] at hB
    obtain rfl:B'=B:=Option.some.inj hB
    exact ⟨h2,h3⟩
  have pnot:∀ {j},L p=true->waits ops p j=true->L j=true:=fun {j} hLp hj=>by
   obtain ⟨op,hop,_,_⟩:=headp
   obtain ⟨e,he,hb,rfl⟩:=wt hop hj
   exact hcl p op hop hLp e he hb
  have hdep:∀ j,j≠p->j≠jb->waits ops i j=true->(i=p∨waits ops p i=true∨keep j=true)->φ j (Act.g a' (dOf ops j)) b w':=fun j hjp hjjb hj hkj=>by
   obtain ⟨e,he,hb,rfl⟩:=wt ho hj
   have h1:=hdeps e he hb
   have h2:=jlt hi hj
   refine hφ e.on (by omega) hjp hjjb h1 fun hLp=>?_
   by_cases hip:i=p
   ·rw [hip,hLp] at hLi
    cases hLi
   ·rcases hkj with h3 | h3 | h3
    ·exact absurd h3 hip
    ·have:=pnot hLp h3
     rw [hLi] at this
     cases this
    ·exact h3
  by_cases hip:i=p
  ·subst hip
   obtain ⟨o1,ho1,hd,_⟩:=headp
   obtain rfl:o1=o:=Option.some.inj (ho1.symm.trans ho)
   have hLjb:L jb=true:=by
    obtain ⟨e,he,hb,rfl⟩:=wt ho hjb
    exact hdeps e he hb
   obtain ⟨B,rfl,hgB,hB1,hB2,hB3⟩:=hb1 hLjb
   refine Oper.wp_mono ?_ (stepP o1 ho a' w' B hgB hB1 (hB3 hLi) hst' hch (fun j hjjb hj=>hdep j (by have:=jlt hi hj; omega) hjjb hj (.inl rfl)) (fun w2=>Chg [] w.drew w2/\w'.heap.size<=w2.heap.size/\ψ B w2/\∀ j v,j≠i->j≠jb->keep j=true->φ j v (some B) w'->φ j v (some B) w2) (fun w2 h1 h2 h3 h4=>⟨h1,h2,h3,h4⟩))
   rintro a2 w2 ⟨rfl,hc2,hs2,hψ2,hj2⟩
   have hbj:∀ {j},j≠i->(j == i)=false:=fun h=>by simp [h]
   refine ⟨hst,hsz,hdf,hc2,some B,fun h=>?_,fun _=>⟨B,rfl,hgB,hB1,by omega,fun h=>by simp at h⟩,fun j hj hjp hjjb hL hk=>?_,fun _=>⟨by simp [hLjb],B,rfl,hψ2⟩⟩
   ·rw [hLjb] at h
    simp at h
   ·exact hj2 _ _ hjp hjjb (hk (by simp)) (hφ j hj hjp hjjb (by simpa [hbj hjp] using hL) fun h=>by rw [hLi] at h; cases h)
  ·obtain ⟨o1,d,ho1,hd,hdi,hdl,hds⟩:=head i hi hip
   obtain rfl:o1=o:=Option.some.inj (ho1.symm.trans ho)
   have hbp:(p == i)=false:=by simp [Ne.symm hip]
   by_cases hijb:i=jb
   ·subst hijb
    have hLp:L p=false:=by
     cases h:L p with
     | false=>rfl
     | true=>have:=pnot h hjb; rw [hLi] at this; cases this
    obtain rfl:=hb0 hLi
    refine Oper.wp_mono ?_ (stepB o1 ho a' w' hst' (fun v w2=>v=.pointer (some ⟨w'.heap.size,0,none⟩)/\w2=w'.alloc O) ⟨rfl,rfl⟩)
    rintro a2 w2 ⟨v,rfl,rfl,rfl⟩
    rw [hd]
    refine ⟨fun s hs=>?_,by rw [size_put]; exact hsz,hdf,hch.al _,some w'.heap.size,fun h=>by simp at h,fun _=>⟨_,rfl,?_,?_,by simp,fun _=>(MapKept.heap_alloc w' O).1⟩,fun j hj hjp hjjb hL _=>?_,fun hL=>?_⟩
    ·rw [g_put_ne _ _ _ _ (fun e=>by subst e; exact hs i hi hip hdi)]
     exact hst s hs
    ·rw [hdi,g_put_same _ _ _ (by rw [hsz]; exact hdl)]
    ·exact hch.size
    ·have hb:(j == i)=false:=by simp [hjjb]
     rw [g_put_ne _ _ _ _ (by rw [<- hdi]; exact distinct j i hj hi hjjb)]
     exact born _ _ _ (hφ j hj hjp hjjb (by simpa [hb] using hL) fun h=>by rw [hLp] at h; cases h)
    ·simp [hbp,hLp] at hL
   ·refine Oper.wp_mono ?_ (step i o1 hi hip hijb ho a' w' b hbB hst' hch (fun j h1 h2 h3 h4=>hdep j h1 h2 h3 (.inr h4)) (fun v w2=>Chg [] w' w2/\φ i v b w2) (fun v w2 h1 h2=>⟨h1,h2⟩))
    rintro a2 w2 ⟨v,rfl,hc2,hv⟩
    rw [hd]
    have hbjb:(jb == i)=false:=by simp [Ne.symm hijb]
    refine ⟨fun s hs=>?_,by rw [size_put]; exact hsz,hdf,hch.trans hc2 New.nil,b,fun h=>hb0 (by simpa [hbjb] using h),fun h=>?_,fun j hj hjp hjjb hL hk=>?_,fun hL=>?_⟩
    ·rw [g_put_ne _ _ _ _ (fun e=>by subst e; exact hs i hi hip hdi)]
     exact hst s hs
    ·obtain ⟨B,h1,h2,h3,h4,h5⟩:=hb1 (by simpa [hbjb] using h)
     refine ⟨B,h1,?_,h3,Nat.lt_of_lt_of_le h4 hc2.size,fun h=>(hc2.block B h4 (by simp)).trans (h5 (by simpa [hbp] using h))⟩
     rw [g_put_ne _ _ _ _ (by rw [<- hdi]; exact distinct jb i (by omega) hi (Ne.symm hijb))]
     exact h2
    ·by_cases hji:j=i
     ·subst hji
      rw [hdi,g_put_same _ _ _ (by rw [hsz]; exact hdl)]
      exact hv
     ·have hb:(j == i)=false:=by simp [hji]
      rw [g_put_ne _ _ _ _ (by rw [<- hdi]; exact distinct j i hj hi hji)]
      exact mono _ _ _ _ _ hc2 (hφ j hj hjp hjjb (by simpa [hb] using hL) fun h=>hk (by simp [h]))
    ·have hLp:L p=true:=by simpa [hbp] using hL
     obtain ⟨h1,B,h2,h3⟩:=hψ hLp
     exact ⟨by simp [h1],B,h2,monoψ _ _ _ hc2 h3⟩
 ·intro a' w' ⟨hst,hsz,hdf,hch,b,hb0,hb1,hφ,hψ⟩
  have hlt:∀ {j},j < ops.size->decide (j < ops.size)=true:=fun h=>by simp [h]
  obtain ⟨B,rfl,hgB,hB1,hB2,_⟩:=hb1 (hlt (by omega))
  obtain ⟨_,B',hB',hψB⟩:=hψ (hlt hp)
  obtain rfl:B=B':=Option.some.inj hB'
  obtain ⟨_,_,_,hp0⟩:=headp
  have h0:Act.g a' 0=Act.g a 0:=hst 0 (fun j hj hjp e=>by obtain ⟨_,_,_,_,hd1,_,hds1⟩:=head j hj hjp; exact hds1 (by rw [<- hd1,e]; exact h0st))
  refine fin (fun j=>Act.g a' (dOf ops j)) w' B hch hgB hB1 hB2 (fun j hj hjp hjjb hk=>hφ j hj hjp hjjb (hlt hj) fun _=>hk) (by show Act.g a' (dOf ops p)=_; rw [hp0,h0]) hψB a' ?_
  refine act_ext (by rw [putAll_size,hsz]) (by rw [putAll_defers,hdf]) fun s=>?_
  by_cases hs:∃ j,j < ops.size/\dOf ops j=s
  ·obtain ⟨j,hj,rfl⟩:=hs
   have hdl1:dOf ops j < a.tmps.size:=by
    by_cases hjp:j=p
    ·subst hjp
     rw [hp0]
     exact h0s
    ·obtain ⟨o1,d1,_,_,hd1,hdl1,_⟩:=head j hj hjp
     rw [hd1]
     exact hdl1
   rw [putAll_eq ops _ a j _ hj (fun k hk hkj=>distinct k j hk hj hkj) hdl1]
  ·rw [putAll_ne ops _ a s _ (fun j hj e=>hs ⟨j,hj,e⟩)]
   exact hst s (fun j hj _ e=>hs ⟨j,hj,e⟩)
end
def Av (o:Nat->Prop) (b:Option Nat) (x:Nat):Prop:=o x/\∀ B,b=some B->x≠B
theorem Rd.av_born {o:Nat->Prop} {w:World} {O:Obj} {t:T} {u:Value} (h:Rd (Av o none) w t u):Rd (Av o (some w.heap.size)) (w.alloc O) t u:=
 h.to fun x hx ho=>⟨⟨ho.1,fun B hB=>by cases hB; omega⟩,(MapKept.heap_alloc w O).2 x hx⟩
theorem Rd.av_none {o:Nat->Prop} {w:World} {t:T} {u:Value} {b:Option Nat} (h:Rd (Av o b) w t u):Rd o w t u:=h.weak fun _ hx=>hx.1
end Go.Proofs.YtpofkokbmifhgaaGreatDoor
namespace Go.Proofs.YtpofkokbmifhgaaGreatDoor
open Go.RowKit
variable {o:Nat->Prop}
def Ex (o:Nat->Prop) (L:List Nat) (b:Nat):Prop:=o b/\b ∉ L
structure Bx (o:Nat->Prop) (L:List Nat) (D:Nat) (x:T) (wx:World):Prop where
 box:∃ A5 q5 A6 q6,wx.heap[D]?=some (.cells #[.int .i64 x.kind,.int .i64 x.num,.string x.txt,.slice A5 x.keys.length q5,.slice A6 x.vals.length q6] 25)/\Rd (Ex o L) wx x (.agg #[.int .i64 x.kind,.int .i64 x.num,.string x.txt,.slice A5 x.keys.length q5,.slice A6 x.vals.length q6])
theorem Bx.go {L:List Nat} {D:Nat} {x:T} {wx wy:World} (h:Bx o L D x wx) (hc:Chg [] wx wy):Bx o L D x wy:=by
 obtain ⟨A5,q5,A6,q6,hb,hr⟩:=h.box
 exact ⟨A5,q5,A6,q6,(hc.block _ (Array.getElem?_eq_some_iff.1 hb).1 (by simp)).trans hb,hr.chg hc⟩
theorem Bx.lt {L:List Nat} {D:Nat} {x:T} {wx:World} (h:Bx o L D x wx):D < wx.heap.size:=by
 obtain ⟨A5,q5,A6,q6,hb,hr⟩:=h.box
 exact (Array.getElem?_eq_some_iff.1 hb).1
theorem Bx.new {L:List Nat} {x:T} {A5 A6:Option Addr} {q5 q6:Nat} (wx:World) (hr:Rd (Ex o L) wx x (.agg #[.int .i64 x.kind,.int .i64 x.num,.string x.txt,.slice A5 x.keys.length q5,.slice A6 x.vals.length q6])) :
  Bx o L wx.heap.size x (wx.alloc (.cells #[.int .i64 x.kind,.int .i64 x.num,.string x.txt,.slice A5 x.keys.length q5,.slice A6 x.vals.length q6] 25)):=
 ⟨A5,q5,A6,q6,heap_alloc_new _ _,hr.chg ((Chg.refl [] wx).al _)⟩
theorem Rd.ex {L:List Nat} {w:World} {t:T} {v:Value} (h:Rd o w t v) (hL:∀ b∈L,w.heap.size<=b):Rd (Ex o L) w t v:=
 h.to fun b hb ho=>⟨⟨ho,fun hm=>by have:=hL b hm; omega⟩,rfl⟩
theorem Ex.no {L:List Nat} {w:World} (hno:∀ b,w.heap.size<=b->o b) {W:World} (hW:w.heap.size<=W.heap.size) (hL:∀ b∈L,b < W.heap.size):∀ b,W.heap.size<=b->Ex o L b:=fun b hb=>
 ⟨hno b (by omega),fun hm=>by have:=hL b hm; omega⟩
theorem Bx.put {L:List Nat} {w0 wx:World} {D:Nat} {x y:T} (h:Bx o L D x wx) (hD:D∈L) (hc:Chg [] w0 wx) (hlt:w0.heap.size<=D) {A5 A6:Option Addr} {q5 q6:Nat} (hr:Rd (Ex o L) wx y (.agg #[.int .i64 y.kind,.int .i64 y.num,.string y.txt,.slice A5 y.keys.length q5,.slice A6 y.vals.length q6])) :
  ∃ W,W=(((((wx.setCell ⟨D,0,none⟩ (.int .i64 y.kind)).setCell ⟨D,1,none⟩ (.int .i64 y.num)).setCell ⟨D,2,none⟩ (.string y.txt)).setCell ⟨D,3,none⟩ (.slice A5 y.keys.length q5)).setCell ⟨D,4,none⟩ (.slice A6 y.vals.length q6)) /\
   Bx o L D y W/\Chg [] w0 W/\(∀ b,b≠D->W.heap[b]?=wx.heap[b]?)/\W.heap.size=wx.heap.size/\∀ D' z,D'≠D->Bx o L D' z wx->Bx o L D' z W:=by
 obtain ⟨A7,q7,A8,q8,hb,_⟩:=h.box
 obtain ⟨W',hW',Q,hne,hcW,hs⟩:=store5 hb hc hlt (.int .i64 y.kind) (.int .i64 y.num) (.string y.txt) (.slice A5 y.keys.length q5) (.slice A6 y.vals.length q6)
 have hk:∀ t v,Rd (Ex o L) wx t v->Rd (Ex o L) W' t v:=fun t v hr=>hr.to fun b _ ho=>⟨ho,hne b (fun e=>ho.2 (e ▸ hD))⟩
 refine ⟨W',hW',⟨A5,q5,A6,q6,Q,hk _ _ hr⟩,hcW,hne,hs,fun D' z hn hz=>?_⟩
 obtain ⟨B5,p5,B6,p6,hb',hr'⟩:=hz.box
 exact ⟨B5,p5,B6,p6,(hne D' hn).trans hb',hk _ _ hr'⟩
theorem Bx.far {L:List Nat} {D D':Nat} {z:T} {W0 V:World} (h:Bx o L D' z W0) (hD:D∈L) (hne:D'≠D) (hs:∀ b,b < W0.heap.size->b≠D->V.heap[b]?=W0.heap[b]?):Bx o L D' z V:=by
 obtain ⟨A5,q5,A6,q6,hb,hr⟩:=h.box
 exact ⟨A5,q5,A6,q6,(hs D' h.lt hne).trans hb,hr.to fun b hb ho=>⟨ho,hs b hb fun e=>ho.2 (e ▸ hD)⟩⟩
end Go.Proofs.YtpofkokbmifhgaaGreatDoor
namespace Go.Proofs.YtpofkokbmifhgaaGreatDoor
open Go.RowKit
variable {o:Nat->Prop}
theorem ins_end {α:Type} {k:ByteArray} {x:α}:∀ {m:List (ByteArray × α)},(∀ p∈m,blt p.1 k=true)->mins k x m=m++[(k,x)]
 | [],_=>rfl
 | p :: m,h=>by
  have h1:=h p (by simp)
  have hne:p.1≠k:=fun e=>by rw [e,blt_irrefl] at h1; cases h1
  unfold mins
  rw [if_neg hne,if_pos h1,ins_end fun q hq=>h q (List.mem_cons_of_mem _ hq)]
  rfl
theorem ins_take {α:Type} {k:ByteArray} {x:α} {m:List (ByteArray × α)} {n:Nat} (hs:Srt m) (h:m[n]?=some (k,x)):mins k x (m.take n)=m.take (n+1):=by
 rw [take_snoc h,ins_end]
 intro p hp
 obtain ⟨j,hj⟩:=List.getElem?_of_mem hp
 have hjn:j < n:=by
  have:=(List.getElem?_eq_some_iff.1 hj).1
  simp at this
  omega
 have hn:=(List.getElem?_eq_some_iff.1 h).1
 rw [List.getElem?_take_of_lt hjn] at hj
 have:=List.pairwise_iff_getElem.1 hs j n (by omega) hn hjn
 rw [(List.getElem?_eq_some_iff.1 hj).2,(List.getElem?_eq_some_iff.1 h).2] at this
 exact this
theorem Srt.take {α:Type} {m:List (ByteArray × α)} (h:Srt m) (n:Nat):Srt (m.take n):=List.Pairwise.sublist (List.take_sublist n m) h
theorem al4 (w:World) (o1 o2 o3 o4:Obj):((((w.alloc o1).alloc o2).alloc o3).alloc o4).heap[w.heap.size]?=some o1/\((((w.alloc o1).alloc o2).alloc o3).alloc o4).heap[w.heap.size+1]?=some o2/\((((w.alloc o1).alloc o2).alloc o3).alloc o4).heap[w.heap.size+2]?=some o3/\((((w.alloc o1).alloc o2).alloc o3).alloc o4).heap[w.heap.size+3]?=some o4:=
 ⟨(heap_alloc_old _ _ _ (by simp; omega)).trans ((heap_alloc_old _ _ _ (by simp; omega)).trans (heap_al1 w o1 o2)),(heap_alloc_old _ _ _ (by simp)).trans ((heap_alloc_old _ _ _ (by simp)).trans (heap_al2 w o1 o2)),(heap_alloc_old _ _ _ (by simp)).trans (heap_alloc_at _ _ _ (by simp)),heap_alloc_at _ _ _ (by simp)⟩
theorem Rd.null_of {w:World} {v:Value} {k:ByteArray} (h:Rd o w ((tget k (.map [])).getD .null) v):Rd o w .null v:=h
theorem mergeTwo_empty (m:List (ByteArray × T)) (v0 v:Value) (w:World) (h0:Rd o w (.map []) v0) (h:Rd o w (.map m) v) (hf:Fine (.map m)) (hno:∀ b,w.heap.size<=b->o b) :
  Calls Tryz.prog 29 #[v0,v] w fun e w'=>∃ v',e=.returned (.tuple #[v',.bool true])/\Chg [] w w'/\Rd o w' (.map m) v':=by
 obtain ⟨A1,q1,A2,q2,rfl,_⟩:=h0.five
 obtain ⟨A3,q3,A4,q4,rfl,hk,hv⟩:=h.five
 have hml:Hid (m.length<=67108864):=Lib.hid (by have:=hf.len.1; simpa [T.vals] using this)
 have hsm:Hid (Srt m):=Lib.hid hf.wf.1
 have hkl:(T.map m).keys.length=m.length:=by simp [T.keys]
 have HKL:=Lib.hid hkl
 clear hkl
 go_enter Tryz.func29,Tryz.ntmps29
 go_wp2_with fail
 go_loopg [7,8] m.length (fun g sd i wr=>∃ n:Nat,n<=m.length/\g=m.length - n/\sd=.bool true/\i=.int .i64 n/\Chg [] w wr/\wr.heap[w.heap.size]?=some (.cells #[.int .i64 (T.map []).kind,.int .i64 (T.map []).num,.string (T.map []).txt,.slice A1 (T.map []).keys.length q1,.slice A2 (T.map []).vals.length q2] 25)/\wr.heap[w.heap.size+1]?=some (.cells #[.int .i64 (T.map m).kind,.int .i64 (T.map m).num,.string (T.map m).txt,.slice A3 (T.map m).keys.length q3,.slice A4 (T.map m).vals.length q4] 25)/\wr.heap[w.heap.size+2]?=some (.cells #[.int .i64 0,.int .i64 0,.string ⟨#[]⟩,.slice none 0 0,.slice none 0 0] 25)/\Bx o [w.heap.size+2,w.heap.size+3] (w.heap.size+3) (.map (m.take n)) wr)
 case atStart=>
  obtain ⟨z1,z2,z3,z4⟩:=al4 w (.cells #[.int .i64 (T.map []).kind,.int .i64 (T.map []).num,.string (T.map []).txt,.slice A1 (T.map []).keys.length q1,.slice A2 (T.map []).vals.length q2] 25) (.cells #[.int .i64 (T.map m).kind,.int .i64 (T.map m).num,.string (T.map m).txt,.slice A3 (T.map m).keys.length q3,.slice A4 (T.map m).vals.length q4] 25) (.cells #[.int .i64 0,.int .i64 0,.string ⟨#[]⟩,.slice none 0 0,.slice none 0 0] 25) (.cells #[.int .i64 (T.map []).kind,.int .i64 (T.map []).num,.string (T.map []).txt,.slice A1 (T.map []).keys.length q1,.slice A2 (T.map []).vals.length q2] 25)
  refine ⟨0,Nat.zero_le _,by omega,rfl,rfl,((((Chg.refl [] w).al _).al _).al _).al _,z1,z2,z3,A1,q1,A2,q2,z4,?_⟩
  exact ((h0.ex (L:=[w.heap.size+2,w.heap.size+3]) (by simp)).chg (((((Chg.refl [] w).al _).al _).al _).al _))
 case round=>
  obtain ⟨n,hn,rfl,rfl,rfl,hcr,za,zb,zz,hB⟩:=hrel
  obtain ⟨a0,a1,a2,a3,a4,af⟩:=cells5 za
  obtain ⟨b0,b1,b2,b3,b4,bf⟩:=cells5 zb
  by_cases hlt:n < m.length
  ·have hn64:n<=67108864:=by have:=hml.out; omega
   have hlk:n < (T.map m).keys.length:=by rw [HKL.out]; exact hlt
   have hlv:n < (T.map m).vals.length:=by simp [T.vals]; exact hlt
   obtain ⟨⟨s,x⟩,hq⟩ : ∃ q,m[n]?=some q:=⟨_,List.getElem?_eq_getElem hlt⟩
   obtain ⟨gk,ck,ek,hgk,yk⟩:=hk.elem (n:=n) (s:=s) (by simp [T.keys,hq])
   obtain ⟨ge,ce,A5,q5,A6,q6,ee,hge,rx,ye⟩:=hv.elem (n:=n) (x:=x) (by simp [T.vals,hq])
   cases ek
   cases ee
   have HQ:=Lib.hid hq
   have HRX:=Lib.hid rx
   obtain ⟨y0,y1,y2,y3,y4⟩:=ye _ hcr
   have k0:=yk _ hcr
   have k1:=cell_al k0
   have c3:=cell_al b3
   have c4:=cell_al b4
   have g0:=cell_al y0
   have g1:=cell_al y1
   have g2:=cell_al y2
   have g3:=cell_al y3
   have g4:=cell_al y4
   clear hq rx ye yk
   go_upto_region 5 with fail
   go_region
   obtain ⟨W0,hW0⟩ : ∃ W0:World,W0=(wr.alloc (.cells #[.int .i64 x.kind,.int .i64 x.num,.string x.txt,.slice A5 x.keys.length q5,.slice A6 x.vals.length q6] 25)).drew:=⟨_,rfl⟩
   obtain ⟨XB,hXB⟩ : ∃ XB:Nat,XB=wr.heap.size:=⟨_,rfl⟩
   have hcd:Chg [] wr W0:=hW0 ▸ ((Chg.refl [] wr).al _).dr
   have hc0:Chg [] w W0:=hcr.trans hcd New.nil
   have hx0:W0.heap[XB]?=some (.cells #[.int .i64 x.kind,.int .i64 x.num,.string x.txt,.slice A5 x.keys.length q5,.slice A6 x.vals.length q6] 25):=by rw [hXB,hW0]; exact heap_alloc_new wr _
   have za0:W0.heap[w.heap.size]?=some (.cells #[.int .i64 (T.map []).kind,.int .i64 (T.map []).num,.string (T.map []).txt,.slice A1 (T.map []).keys.length q1,.slice A2 (T.map []).vals.length q2] 25):=by rw [hW0]; exact (heap_alloc_old wr (.cells #[.int .i64 x.kind,.int .i64 x.num,.string x.txt,.slice A5 x.keys.length q5,.slice A6 x.vals.length q6] 25) _ (Array.getElem?_eq_some_iff.1 za).1).trans za
   have zb0:W0.heap[w.heap.size+1]?=some (.cells #[.int .i64 (T.map m).kind,.int .i64 (T.map m).num,.string (T.map m).txt,.slice (some ⟨gk,0,none⟩) (T.map m).keys.length q3,.slice (some ⟨ge,0,none⟩) (T.map m).vals.length q4] 25):=by rw [hW0]; exact (heap_alloc_old wr (.cells #[.int .i64 x.kind,.int .i64 x.num,.string x.txt,.slice A5 x.keys.length q5,.slice A6 x.vals.length q6] 25) _ (Array.getElem?_eq_some_iff.1 zb).1).trans zb
   have zz0:W0.heap[w.heap.size+2]?=some (.cells #[.int .i64 0,.int .i64 0,.string ⟨#[]⟩,.slice none 0 0,.slice none 0 0] 25):=by rw [hW0]; exact (heap_alloc_old wr (.cells #[.int .i64 x.kind,.int .i64 x.num,.string x.txt,.slice A5 x.keys.length q5,.slice A6 x.vals.length q6] 25) _ (Array.getElem?_eq_some_iff.1 zz).1).trans zz
   have hB0:=hB.go hcd
   rw [<- hW0,<- hXB]
   clear hcd hW0 hXB k0 k1 c3 c4 g0 g1 g2 g3 g4 y0 y1 y2 y3 y4 a0 a1 a2 a3 a4 af b0 b1 b2 b3 b4 bf za zb zz hB hcr
   obtain ⟨a0,a1,a2,a3,a4,af⟩:=cells5 za0
   go_upto_region 9 with fail
   refine (get_any (.map []) _ s _ (h0.chg hc0) (fun m e=>by cases e; exact List.Pairwise.nil) (by simp [T.keys])).mono ?_
   rintro e w3 ⟨v',rfl,hc3,hr3⟩
   rw [show (tget s (T.map [])).isSome=false from rfl]
   have hr3:=Rd.null_of hr3
   obtain ⟨A7,q7,A8,q8,rfl,_⟩:=hr3.five
   clear hr3
   have hc3w:=hc0.trans hc3 New.nil
   have hx3:=box5 hx0 _ hc3
   have za3:=box5 za0 _ hc3
   have zb3:=box5 zb0 _ hc3
   have zz3:=box5 zz0 _ hc3
   have hB3:=hB0.go hc3
   clear hx0 za0 zb0 zz0 hB0 hc3 hc0 a0 a1 a2 a3 a4 af
   go_upto_region 24 with fail
   obtain ⟨W1,hW1⟩ : ∃ W1:World,W1=w3.alloc (.cells #[.int .i64 T.null.kind,.int .i64 T.null.num,.string T.null.txt,.slice A7 T.null.keys.length q7,.slice A8 T.null.vals.length q8] 25):=⟨_,rfl⟩
   rw [<- hW1]
   have hcd:Chg [] w3 W1:=hW1 ▸ (Chg.refl [] w3).al _
   have hc1:Chg [] w W1:=hc3w.trans hcd New.nil
   have hx1:=box5 hx3 _ hcd
   have za1:=box5 za3 _ hcd
   have zb1:=box5 zb3 _ hcd
   have zz1:=box5 zz3 _ hcd
   have hB1:=hB3.go hcd
   clear hW1 hcd hx3 za3 zb3 zz3 hB3 hc3w
   have hsz1:w.heap.size+3 < W1.heap.size:=hB1.lt
   obtain ⟨E5,r5,E6,r6,hb1,hr1⟩:=hB1.box
   obtain ⟨d0,d1,d2,d3,d4,df⟩:=cells5 hb1
   obtain ⟨x0,x1,x2,x3,x4,xf⟩:=cells5 hx1
   have HR1:=Lib.hid hr1
   clear hr1
   go_wp2_with fail
   refine (with_map (o:=Ex o [w.heap.size+2,w.heap.size+3]) (m.take n) x _ _ s W1 HR1.out (hsm.out.take n) ((HRX.out.ex (by simp)).chg hc1) (by have:=hml.out; simp; omega) (Ex.no hno (by omega) (by simp; omega))).mono ?_
   rintro e w4 ⟨v4,rfl,hc4,hr4⟩
   rw [ins_take hsm.out HQ.out] at hr4
   have hcw4:=hc1.trans hc4 New.nil
   have za4:=box5 za1 _ hc4
   have zb4:=box5 zb1 _ hc4
   have zz4:=box5 zz1 _ hc4
   have hB4:=hB1.go hc4
   have hb4:=box5 hb1 _ hc4
   obtain ⟨E7,r7,E8,r8,rfl,_⟩:=hr4.five
   clear d0 d1 d2 d3 d4 df x0 x1 x2 x3 x4 xf hc4
   obtain ⟨d0,d1,d2,d3,d4,df⟩:=cells5 hb4
   obtain ⟨W,hW,hBW,hcW,hne,hszW,_⟩:=hB4.put (by simp) hcw4 (by omega) hr4
   have zaW:=(hne _ (by omega)).trans za4
   have zbW:=(hne _ (by omega)).trans zb4
   have zzW:=(hne _ (by omega)).trans zz4
   have HW:=Lib.hid (And.intro hBW (And.intro hcW (And.intro zaW (And.intro zbW zzW))))
   clear hr4 hBW hcW hne hszW zaW zbW zzW
   go_wp2_with fail
   rw [<- hW]
   clear hW
   go_roundg (m.length - (n+1))
   case measure=>omega
   case rel=>exact ⟨n+1,by omega,rfl,rfl,by go_num,HW.out.2.1,HW.out.2.2.1,HW.out.2.2.2.1,HW.out.2.2.2.2,HW.out.1⟩
  ·have hlk:¬ n < (T.map m).keys.length:=by rw [HKL.out]; exact hlt
   have he:m.take n=m:=List.take_of_length_le (by omega)
   rw [he] at hB
   have hszr:w.heap.size+3 < wr.heap.size:=hB.lt
   obtain ⟨E5,r5,E6,r6,hb1,hr1⟩:=hB.box
   obtain ⟨d0,d1,d2,d3,d4,df⟩:=cells5 hb1
   obtain ⟨e0,e1,e2,e3,e4,ef⟩:=cells5 zz
   have HR:=Lib.hid hr1
   obtain ⟨W,hW,Q,hne,hcW,hszW⟩:=store5 zz hcr (by omega:w.heap.size<=w.heap.size+2) (.int .i64 (T.map m).kind) (.int .i64 (T.map m).num) (.string (T.map m).txt) (.slice E5 (T.map m).keys.length r5) (.slice E6 (T.map m).vals.length r6)
   have HW:=Lib.hid (And.intro hcW hne)
   clear he hr1 hne
   go_wp2_with fail
   rw [<- hW]
   obtain ⟨f0,f1,f2,f3,f4,_⟩:=cells5 Q
   clear hW
   go_wp2
   refine bodyPost_ret (v:=.tuple #[.agg #[.int .i64 (T.map m).kind,.int .i64 (T.map m).num,.string (T.map m).txt,.slice E5 (T.map m).keys.length r5,.slice E6 (T.map m).vals.length r6],.bool true]) (by simp [results,Tryz.results29,go_sem,f0,f1,f2,f3,f4]) rfl ⟨_,rfl,hcW,?_⟩
   exact HR.out.to fun b _ ho=>⟨ho.1,HW.out.2 b (fun e=>ho.2 (by simp [e]))⟩
end Go.Proofs.YtpofkokbmifhgaaGreatDoor
namespace Go.Proofs.YtpofkokbmifhgaaGreatDoor
open Go.RowKit
variable {o:Nat->Prop}
theorem ownsRow_put5 {w:World} {base e size n g cap j:Nat} {cs:List Value} (h:w.ownsRow base e size (.slice (some ⟨g,0,none⟩) n cap) n cs) (hj:j < n * size) (v:Value):(w.setCell ⟨g,j,none⟩ v).ownsRow base e size (.slice (some ⟨g,0,none⟩) n cap) n (cs.set j v):=by
 refine ⟨by simp [h.1],?_⟩
 rcases h.2 with ⟨h1,_⟩ | ⟨g',cap',cur,h1,hb,hh,hc,hm,hs,ht⟩
 ·cases h1
 ·cases h1
  have hlt:g < w.heap.size:=(Array.getElem?_eq_some_iff.1 hh).1
  refine .inr ⟨g,cap,cur.set! j v,rfl,hb,?_,hc,hm,by simpa using hs,?_⟩
  ·show (w.heap.modify g _)[g]?=_
   rw [Array.getElem?_modify,if_pos rfl,hh]
   rfl
  ·rw [<- ht,Array.toList_set!]
   rw [List.take_set]
structure VRow (o:Nat->Prop) (w0:World) (base:Nat) (l:List T) (R:Value) (w:World):Prop where
 chg:Chg [] w0 w
 le:w0.heap.size<=base/\base<=w.heap.size
 row:∃ xs,w.ownsRow base 25 5 R l.length xs/\FlatV (fun b=>o b/\b < w0.heap.size) w l xs
theorem VRow.nil {w0 w:World} {base:Nat} (hc:Chg [] w0 w) (hb:w0.heap.size<=base/\base<=w.heap.size):VRow o w0 base [] (.slice none 0 0) w:=
 ⟨hc,hb,[],⟨rfl,.inl ⟨rfl,rfl⟩⟩,by simp [FlatV]⟩
theorem VRow.slice {w0 w:World} {base:Nat} {l:List T} {R:Value} (h:VRow o w0 base l R w):∃ A c,R=.slice A l.length c:=by
 obtain ⟨xs,hr,_⟩:=h.row
 exact ownsRow_slice hr
theorem VRow.keep {w0 w w':World} {base:Nat} {l:List T} {R:Value} (h:VRow o w0 base l R w) (hc:Chg [] w0 w') (hs:w.heap.size<=w'.heap.size) (hr:∀ g,base<=g->g < w.heap.size->w'.heap[g]?=w.heap[g]?):VRow o w0 base l R w':=by
 obtain ⟨xs,h1,h2⟩:=h.row
 refine ⟨hc,⟨h.le.1,by have:=h.le.2; omega⟩,xs,ownsRow_keep h1 fun g hg=>hr g (ownsRow_own h1 hg).1 (ownsRow_own h1 hg).2,h2.mono fun b _ hb=>?_⟩
 rw [hc.block b hb.2 (by simp),h.chg.block b hb.2 (by simp)]
theorem VRow.go {w0 w w':World} {base:Nat} {l:List T} {R:Value} (h:VRow o w0 base l R w) (hc:Chg [] w w'):VRow o w0 base l R w':=
 h.keep (h.chg.trans hc New.nil) hc.size fun g _ hg=>hc.block g hg (by simp)
theorem VRow.rd {w0 w:World} {base:Nat} {l:List T} {R:Value} (h:VRow o w0 base l R w) (hno:∀ b,w0.heap.size<=b->o b):RdV o w l R:=by
 obtain ⟨xs,h1,h2⟩:=h.row
 exact RdV.of_own' rfl (fun b hb=>hno b (by have:=h.le.1; omega)) h1 (h2.weak fun b hb=>hb.1)
theorem VRow.elem {w0 w:World} {base:Nat} {l:List T} {R:Value} (h:VRow o w0 base l R w) {j:Nat} {x:T} (hx:l[j]?=some x):∃ g c A5 q5 A6 q6,R=.slice (some ⟨g,0,none⟩) l.length c/\base<=g/\g < w.heap.size /\
  Rd (fun _=>True) w x (.agg #[.int .i64 x.kind,.int .i64 x.num,.string x.txt,.slice A5 x.keys.length q5,.slice A6 x.vals.length q6]) /\
  (w.cell? ⟨g,j * 5,none⟩=some (.int .i64 x.kind)/\w.cell? ⟨g,j * 5+1,none⟩=some (.int .i64 x.num)/\w.cell? ⟨g,j * 5+2,none⟩=some (.string x.txt)/\w.cell? ⟨g,j * 5+3,none⟩=some (.slice A5 x.keys.length q5)/\w.cell? ⟨g,j * 5+4,none⟩=some (.slice A6 x.vals.length q6)) /\
  (∀ i,w.frozen? ⟨g,i,none⟩=false):=by
 obtain ⟨xs,h2⟩:=h.row
 have hrd:RdV (fun _=>True) w l R:=RdV.of_own' rfl (fun _ _=>trivial) h2.1 (h2.2.weak fun _ _=>trivial)
 obtain ⟨g,c,A5,q5,A6,q6,rfl,hg,hr,hcell⟩:=hrd.elem hx
 have hgb:=ownsRow_own h2.1 (g:=g) rfl
 refine ⟨g,c,A5,q5,A6,q6,rfl,hgb.1,hg,hr,hcell w (Chg.refl _ _),fun i=>?_⟩
 rcases h2.1.2 with ⟨h',_⟩ | ⟨g',cap',cur,h',hb,hh,_⟩
 ·cases h'
 ·cases h'
  exact frozen_of_row w g i cur _ hh
theorem VRow.app {w0 w:World} {base:Nat} {l:List T} {R:Value} (h:VRow o w0 base l R w) {x:T} {A5 A6:Option Addr} {q5 q6:Nat} (hx:Rd o w0 x (.agg #[.int .i64 x.kind,.int .i64 x.num,.string x.txt,.slice A5 x.keys.length q5,.slice A6 x.vals.length q6])) (hl:l.length<=67108864) (ty:TypeId)
  {W:World} {g1:Nat} (hW:W=w.alloc (.cells #[.int .i64 x.kind,.int .i64 x.num,.string x.txt,.slice A5 x.keys.length q5,.slice A6 x.vals.length q6] 25)) (hg1:g1=w.heap.size) :
  ∃ R' w',(Builtin.append_ #[23,23] ty #[R,.slice (some ⟨g1,0,none⟩) 1 1]).run Tryz.prog W=.ok R' w'/\(VRow o w0 base (l++[x]) R' w'/\(∀ b,b < base->w'.heap[b]?=w.heap[b]?)/\w.heap.size<=w'.heap.size):=by
 have hcW:Chg [] w W:=by rw [hW]; exact (Chg.refl [] w).al _
 have hg:=h.go hcW
 obtain ⟨xs,h1,h2⟩:=hg.row
 have hb:=hg.le
 have hxW:Rd (fun b=>o b/\b < w0.heap.size) W x (.agg #[.int .i64 x.kind,.int .i64 x.num,.string x.txt,.slice A5 x.keys.length q5,.slice A6 x.vals.length q6]):=hx.lo.chg hg.chg
 have hnew:W.heap[g1]?=some (.cells #[.int .i64 x.kind,.int .i64 x.num,.string x.txt,.slice A5 x.keys.length q5,.slice A6 x.vals.length q6] 25):=by rw [hW,hg1]; exact heap_alloc_new _ _
 obtain ⟨c0,c1,c2,c3,c4,_⟩:=cells5 hnew
 obtain ⟨R',w',hr,ho,hc,hor⟩:=run_app (P:=Tryz.prog) base 23 ty 25 _ 5 80 uVs iV rfl (by omega) R l.length xs h1 (some ⟨g1,0,none⟩) 1 1 [.int .i64 x.kind,.int .i64 x.num,.string x.txt,.slice A5 x.keys.length q5,.slice A6 x.vals.length q6] rfl (fun _=>⟨_,rfl,fun j u hu=>by
  rw [show (⟨g1,0,none⟩ : Addr).add j=⟨g1,j,none⟩ by unfold Addr.add; split <;> simp_all]
  rcases j with _ | _ | _ | _ | _ | j
  ·cases hu; exact c0
  ·cases hu; exact c1
  ·cases hu; exact c2
  ·cases hu; exact c3
  ·cases hu; exact c4
  ·simp at hu⟩) (by intro u hu; exact hxW.one u hu) (by omega) (by omega) hb.2
 have hown:∀ y,y∈R.ownBlock.toList->base<=y:=fun y hy=>(ownsRow_own h1 (by simpa using hy)).1
 refine ⟨R',w',hr,⟨hg.chg.trans hc fun y hy=>.inr (by have:=hown y hy; omega),⟨hb.1,by have:=hc.size; omega⟩,xs++_,by simpa using ho,?_⟩,fun b hbb=>?_,?_⟩
 ·have hto:∀ b,b < W.heap.size->(o b/\b < w0.heap.size)->(o b/\b < w0.heap.size)/\w'.heap[b]?=W.heap[b]?:=fun b hb1 hb2=>⟨hb2,hc.block b hb1 fun hm=>by have:=hown b hm; omega⟩
  exact (h2.to hto).snoc (hxW.to hto)
 ·have h3:=h.le.2
  rw [hc.block b (by have:=hcW.size; omega) fun hm=>by have:=hown b hm; omega,hcW.block b (by omega) (by simp)]
 ·have:=hcW.size
  have:=hc.size
  omega
theorem VRow.put {w0 w:World} {base:Nat} {l:List T} {g c:Nat} (h:VRow o w0 base l (.slice (some ⟨g,0,none⟩) l.length c) w) {j:Nat} (hj:j < l.length) {x:T} {A5 A6:Option Addr} {q5 q6:Nat} (hx:Rd o w0 x (.agg #[.int .i64 x.kind,.int .i64 x.num,.string x.txt,.slice A5 x.keys.length q5,.slice A6 x.vals.length q6])) :
  ∃ W,W=(((((w.setCell ⟨g,j * 5,none⟩ (.int .i64 x.kind)).setCell ⟨g,j * 5+1,none⟩ (.int .i64 x.num)).setCell ⟨g,j * 5+2,none⟩ (.string x.txt)).setCell ⟨g,j * 5+3,none⟩ (.slice A5 x.keys.length q5)).setCell ⟨g,j * 5+4,none⟩ (.slice A6 x.vals.length q6)) /\
   VRow o w0 base (l.set j x) (.slice (some ⟨g,0,none⟩) l.length c) W/\(∀ b,b < base->W.heap[b]?=w.heap[b]?)/\W.heap.size=w.heap.size:=by
 refine ⟨_,rfl,?_,?_,by simp⟩
 ·obtain ⟨xs,h1,h2⟩:=h.row
  have hgb:=ownsRow_own h1 (g:=g) rfl
  have hle:=h.le
  have hst:∀ {W:World},Chg [] w0 W->∀ k v,Chg [] w0 (W.setCell ⟨g,k,none⟩ v):=fun hW k v=>hW.st (by show w0.heap.size<=g; omega) v
  refine ⟨hst (hst (hst (hst (hst h.chg _ _) _ _) _ _) _ _) _ _,by simpa using hle,(((((xs.set (j * 5) (.int .i64 x.kind)).set (j * 5+1) (.int .i64 x.num)).set (j * 5+2) (.string x.txt)).set (j * 5+3) (.slice A5 x.keys.length q5)).set (j * 5+4) (.slice A6 x.vals.length q6)),?_,?_⟩
  ·rw [List.length_set]
   exact ownsRow_put5 (ownsRow_put5 (ownsRow_put5 (ownsRow_put5 (ownsRow_put5 h1 (by omega) _) (by omega) _) (by omega) _) (by omega) _) (by omega) _
  ·have hk:∀ b,b < w.heap.size->(o b/\b < w0.heap.size)->(((((w.setCell ⟨g,j * 5,none⟩ (.int .i64 x.kind)).setCell ⟨g,j * 5+1,none⟩ (.int .i64 x.num)).setCell ⟨g,j * 5+2,none⟩ (.string x.txt)).setCell ⟨g,j * 5+3,none⟩ (.slice A5 x.keys.length q5)).setCell ⟨g,j * 5+4,none⟩ (.slice A6 x.vals.length q6)).heap[b]?=w.heap[b]?:=fun b _ hb=>by
    have hbg:b≠g:=by omega
    rw [heap_setCell_other _ _ _ _ hbg,heap_setCell_other _ _ _ _ hbg,heap_setCell_other _ _ _ _ hbg,heap_setCell_other _ _ _ _ hbg,heap_setCell_other _ _ _ _ hbg]
   exact FlatV.set ((hx.lo.chg h.chg).mono hk) j (h2.mono hk)
 ·intro b hb
  obtain ⟨xs,h1,_⟩:=h.row
  have hgb:=ownsRow_own h1 (g:=g) rfl
  have hbg:b≠g:=by omega
  rw [heap_setCell_other _ _ _ _ hbg,heap_setCell_other _ _ _ _ hbg,heap_setCell_other _ _ _ _ hbg,heap_setCell_other _ _ _ _ hbg,heap_setCell_other _ _ _ _ hbg]
theorem ret5 {w wx:World} {R:Nat} {L:List Nat} {e:TypeId} {a0 a1 a2 a3 a4:Value} (hz:wx.heap[R]?=some (.cells #[a0,a1,a2,a3,a4] e)) (hc:Chg [] w wx) (hR:w.heap.size<=R) {t:T} {A5 A6:Option Addr} {q5 q6:Nat} (hr:Rd (Ex o L) wx t (.agg #[.int .i64 t.kind,.int .i64 t.num,.string t.txt,.slice A5 t.keys.length q5,.slice A6 t.vals.length q6])) (hL:R∈L) :
  ∃ W,W=(((((wx.setCell ⟨R,0,none⟩ (.int .i64 t.kind)).setCell ⟨R,1,none⟩ (.int .i64 t.num)).setCell ⟨R,2,none⟩ (.string t.txt)).setCell ⟨R,3,none⟩ (.slice A5 t.keys.length q5)).setCell ⟨R,4,none⟩ (.slice A6 t.vals.length q6)) /\
   W.heap[R]?=some (.cells #[.int .i64 t.kind,.int .i64 t.num,.string t.txt,.slice A5 t.keys.length q5,.slice A6 t.vals.length q6] e)/\Chg [] w W/\Rd o W t (.agg #[.int .i64 t.kind,.int .i64 t.num,.string t.txt,.slice A5 t.keys.length q5,.slice A6 t.vals.length q6]):=by
 obtain ⟨W,hW,Q,hne,hcW,_⟩:=store5 hz hc hR (.int .i64 t.kind) (.int .i64 t.num) (.string t.txt) (.slice A5 t.keys.length q5) (.slice A6 t.vals.length q6)
 exact ⟨W,hW,Q,hcW,hr.to fun b _ ho=>⟨ho.1,hne b fun e=>ho.2 (e ▸ hL)⟩⟩
end Go.Proofs.YtpofkokbmifhgaaGreatDoor
