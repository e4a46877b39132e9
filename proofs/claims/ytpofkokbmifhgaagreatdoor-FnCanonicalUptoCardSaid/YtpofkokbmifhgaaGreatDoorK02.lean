/- Parts of the walk, made small by wip/tools/pack.py: Region, Own. No condition but those in each statement. -/
import Derived.Test.YtpofkokbmifhgaaGreatDoorK01
import Derived.OrdersHeld
import Derived.StillTail
import Derived.Deep.Draws
set_option maxRecDepth 100000
set_option maxHeartbeats 20000000
set_option linter.unusedVariables false
set_option linter.unusedSimpArgs false
namespace Go.Proofs.YtpofkokbmifhgaaGreatDoor
def ordered (ops:Array Oper):Bool:=(List.range ops.size).all fun i=>match ops[i]? with
 | some o=>o.after.all fun e=>!Region.binds .any e || decide (e.on < i)
 | none=>true
section
variable {P:Program} {ops:Array Oper} {Q:Exit->Act->World->Prop}
theorem ordered_spec (h:ordered ops=true) {i:Nat} {o:Oper} (ho:ops[i]?=some o):∀ e∈o.after,Region.binds .any e=true->e.on < i:=by
 intro e he hb
 have hi:i < ops.size:=(Array.getElem?_eq_some_iff.1 ho).1
 have h1:=List.all_eq_true.1 h i (List.mem_range.2 hi)
 rw [ho] at h1
 have h2:=Array.all_eq_true'.1 h1 e he
 rw [hb] at h2
 simpa using h2
theorem all_listed (h:ordered ops=true) {listed:Array Bool} (hsz:listed.size=ops.size) (hr:Region.ready .any ops listed=[]):∀ i,i < ops.size->listed.getD i false=true:=by
 intro i
 induction i using Nat.strongRecOn with
 | _ i ih=>
  intro hi
  cases hl:listed.getD i false with
  | true=>rfl
  | false=>
   exfalso
   have ho:ops[i]?=some ops[i]:=Array.getElem?_eq_getElem hi
   have:i∈Region.ready .any ops listed:=by
    refine mem_ready.2 ⟨?_,ops[i],ho,fun e he hb=>?_⟩
    ·have hi':i < listed.size:=by omega
     simp [hi'] at hl ⊢
     exact hl
    ·have hlt:=ordered_spec h ho e he hb
     exact ih e.on hlt (by omega)
   rw [hr] at this
   cases this
theorem wpAny_inv (hord:ordered ops=true) (G:(Nat->Bool)->Act->World->Prop)
  (step:∀ (L:Nat->Bool) (i:Nat) (o:Oper),ops[i]?=some o->L i=false->(∀ (j:Nat) (oj:Oper),ops[j]?=some oj->L j=true->∀ e∈oj.after,Region.binds .any e=true->L e.on=true) ->
   (∀ e∈o.after,Region.binds .any e=true->L e.on=true)->∀ a w,G L a w->wpOp P ops Q i (fun a' w'=>G (fun j=>L j || j == i) a' w') a w)
  (fin:∀ a w,G (fun j=>decide (j < ops.size)) a w->Q .normal a w) :
  ∀ (fuel:Nat) (listed:Array Bool) (a:Act) (w:World),listed.size=ops.size->(∀ (j:Nat) (oj:Oper),ops[j]?=some oj->listed.getD j false=true->∀ e∈oj.after,Region.binds .any e=true->listed.getD e.on false=true) ->
   listed.toList.count false<=fuel->G (fun j=>listed.getD j false) a w->wpAny P .any ops Q fuel listed a w:=by
 have done:∀ (listed:Array Bool) (a:Act) (w:World),listed.size=ops.size->(∀ i,i < ops.size->listed.getD i false=true)->G (fun j=>listed.getD j false) a w->Q .normal a w:=by
  intro listed a w hsz hall hG
  refine fin a w ?_
  have:(fun j=>listed.getD j false)=(fun j=>decide (j < ops.size)):=by
   funext j
   by_cases hj:j < ops.size
   ·rw [hall j hj]; simp [hj]
   ·have:¬ j < listed.size:=by omega
    simp [this,hj]
  rwa [this] at hG
 intro fuel
 induction fuel with
 | zero=>
  intro listed a w hsz hcl hc hG
  have hall:∀ i,i < ops.size->listed.getD i false=true:=by
   intro i hi
   have h0:listed.toList.count false=0:=by omega
   have hn:=List.count_eq_zero.1 h0
   have hi':i < listed.size:=by omega
   cases hl:listed.getD i false with
   | true=>rfl
   | false=>
    exfalso
    apply hn
    simp [hi'] at hl
    rw [<- hl]
    exact Array.getElem_mem_toList hi'
  refine ⟨?_,done listed a w hsz hall hG⟩
  cases hr:Region.ready .any ops listed with
  | nil=>rfl
  | cons i r=>
   exfalso
   have hi:i∈Region.ready .any ops listed:=by rw [hr]; simp
   obtain ⟨h1,o,ho,_⟩:=mem_ready.1 hi
   have hlt:i < ops.size:=(Array.getElem?_eq_some_iff.1 ho).1
   have h2:=hall i hlt
   have hi':i < listed.size:=by omega
   simp [hi'] at h1 h2
   rw [h1] at h2
   cases h2
 | succ fuel ih=>
  intro listed a w hsz hcl hc hG
  refine ⟨fun hr=>done listed a w hsz (all_listed hord hsz hr) hG,fun i hi=>?_⟩
  obtain ⟨h1,o,ho,hdeps⟩:=mem_ready.1 hi
  have hlt:i < ops.size:=(Array.getElem?_eq_some_iff.1 ho).1
  have hi':i < listed.size:=by omega
  have hli:listed.getD i false=false:=by simp [hi'] at h1 ⊢; exact h1
  refine wpOp_mono (fun a' w' hG'=>?_) (step (fun j=>listed.getD j false) i o ho hli hcl hdeps a w hG)
  have hset:∀ j,(listed.setIfInBounds i true).getD j false=(listed.getD j false || j == i):=by
   intro j
   by_cases hji:j=i
   ·subst hji; simp [hi']
   ·rw [getD_set_ne false (Ne.symm hji)]
    have:(j == i)=false:=by simp [hji]
    rw [this,Bool.or_false]
  refine ih _ a' w' (by simp [hsz]) ?_ ?_ ?_
  ·intro j oj hoj hj e he hb
   rw [hset] at hj ⊢
   simp only [Bool.or_eq_true,beq_iff_eq] at hj ⊢
   rcases hj with hj | rfl
   ·exact .inl (hcl j oj hoj hj e he hb)
   ·have:oj=o:=Option.some.inj (hoj.symm.trans ho)
    subst this
    exact .inl (hdeps e he hb)
  ·have hg:listed.toList[i]'(by simpa using hi')=false:=by
    simp [hi'] at h1
    simpa using h1
   rw [Array.toList_setIfInBounds,List.count_set (by simpa using hi'),hg]
   have hpos:0 < listed.toList.count false:=List.count_pos_iff.2 (hg ▸ List.getElem_mem _)
   have e1:((false == false)=true):=rfl
   have e2:¬ ((true == false)=true):=by simp
   rw [if_pos e1,if_neg e2]
   omega
  ·have:(fun j=>(listed.setIfInBounds i true).getD j false)=(fun j=>listed.getD j false || j == i):=funext hset
   rw [this]
   exact hG'
theorem wp_region_inv {id:Nat} {a:Act} {w:World} (hm:P.follows .mixedOrders=true) (hord:ordered ops=true) (G:(Nat->Bool)->Act->World->Prop)
  (h0:G (fun _=>false) a w.drew)
  (step:∀ (L:Nat->Bool) (i:Nat) (o:Oper),ops[i]?=some o->L i=false->(∀ (j:Nat) (oj:Oper),ops[j]?=some oj->L j=true->∀ e∈oj.after,Region.binds .any e=true->L e.on=true) ->
   (∀ e∈o.after,Region.binds .any e=true->L e.on=true)->∀ a w,G L a w->wpOp P ops Q i (fun a' w'=>G (fun j=>L j || j == i) a' w') a w)
  (fin:∀ a w,G (fun j=>decide (j < ops.size)) a w->Q .normal a w):(Code.region id ops true).wp P Q a w:=by
 refine wp_region_any hm (wpAny_inv hord G step fin _ _ _ _ (by simp) ?_ ?_ ?_)
 ·intro j oj _ hj
  rw [getD_replicate_false] at hj
  cases hj
 ·simp
 ·have:(fun j=>(Array.replicate ops.size false).getD j false)=fun _=>false:=funext fun j=>getD_replicate_false _ j
  rw [this]
  exact h0
end
def Act.g (a:Act) (t:Nat):Value:=a.tmps.getD t undef
theorem g_put_same (a:Act) (d:Nat) (v:Value) (h:d < a.tmps.size):Act.g (a.put (some d) v) d=v:=by
 simp [Act.g,Act.put,h]
theorem g_put_ne (a:Act) (d t:Nat) (v:Value) (h:t≠d):Act.g (a.put (some d) v) t=Act.g a t:=by
 simp [Act.g,Act.put,Ne.symm h]
theorem size_put (a:Act) (d:Option Nat) (v:Value):(a.put d v).tmps.size=a.tmps.size:=by
 cases d <;> simp [Act.put]
def dOf (ops:Array Oper) (i:Nat):Nat:=((ops[i]?).bind (·.dst)).getD 0
def waits (ops:Array Oper) (i j:Nat):Bool:=match ops[i]? with
 | some o=>o.after.any fun e=>Region.binds .any e && e.on == j
 | none=>false
def monoForm (ops:Array Oper) (size:Nat) (st:List Nat):Bool:=
 decide (0 < ops.size) && ops.all (fun o=>o.guard.isNone) &&
 ((List.range (ops.size - 1)).all fun i=>match ops[i]? with
  | some o=>(match o.dst with | some d=>decide (d < size) && !st.contains d | none=>false) && waits ops (ops.size - 1) i
  | none=>false) &&
 decide ((List.range (ops.size - 1)).map (dOf ops)).Nodup
def Value.blk:Value->Option Nat
 | .slice (some a) _ _=>some a.block
 | .pointer (some a)=>some a.block
 | _=>none
def putAll (ops:Array Oper) (u:Nat->Value):Nat->Act->Act
 | 0,a=>a
 | n+1,a=>(putAll ops u n a).put (some (dOf ops n)) (u n)
theorem putAll_size (ops:Array Oper) (u:Nat->Value) (a:Act):∀ n,(putAll ops u n a).tmps.size=a.tmps.size
 | 0=>rfl
 | n+1=>by rw [putAll,size_put,putAll_size ops u a n]
theorem putAll_defers (ops:Array Oper) (u:Nat->Value) (a:Act):∀ n,(putAll ops u n a).defers=a.defers
 | 0=>rfl
 | n+1=>putAll_defers ops u a n
theorem putAll_ne (ops:Array Oper) (u:Nat->Value) (a:Act) (s:Nat):∀ n,(∀ j,j < n->dOf ops j≠s)->Act.g (putAll ops u n a) s=Act.g a s
 | 0,_=>rfl
 | n+1,h=>by rw [putAll,g_put_ne _ _ _ _ (Ne.symm (h n (by omega))),putAll_ne ops u a s n (fun j hj=>h j (by omega))]
theorem putAll_eq (ops:Array Oper) (u:Nat->Value) (a:Act) (i:Nat):∀ n,i < n->(∀ j,j < n->j≠i->dOf ops j≠dOf ops i)->dOf ops i < a.tmps.size->Act.g (putAll ops u n a) (dOf ops i)=u i
 | 0,h,_,_=>absurd h (Nat.not_lt_zero _)
 | n+1,h,hd,hs=>by
  by_cases e:i=n
  ·subst e
   rw [putAll,g_put_same _ _ _ (by rw [putAll_size]; exact hs)]
  ·rw [putAll,g_put_ne _ _ _ _ (Ne.symm (hd n (by omega) (Ne.symm e))),putAll_eq ops u a i n (by omega) (fun j hj=>hd j (by omega)) hs]
theorem act_ext {a b:Act} (hs:a.tmps.size=b.tmps.size) (hd:a.defers=b.defers) (hg:∀ s,Act.g a s=Act.g b s):a=b:=by
 cases a with | mk t d=>cases b with | mk t2 d2=>
 simp only at hs hd
 subst hd
 congr 1
 refine Array.ext hs fun i h1 h2=>?_
 have:=hg i
 simpa [Act.g,h1,h2] using this
section
variable {P:Program} {ops:Array Oper} {Q:Exit->Act->World->Prop}
theorem wp_region_mono {id:Nat} {a:Act} {w:World} (hm:P.follows .mixedOrders=true) (hord:ordered ops=true) (st:List Nat) (hform:monoForm ops a.tmps.size st=true)
  (φ:Nat->Value->World->Prop) (mono:∀ i v w w',Chg [] w w'->φ i v w->φ i v w') (lab:Nat->Option Nat) (bl:Nat->Value->Option Nat)
  (step:∀ (i:Nat) (o:Oper),i < ops.size - 1->ops[i]?=some o->∀ (a':Act) (w':World),(∀ s∈st,Act.g a' s=Act.g a s)->Chg [] w.drew w'->(∀ j,waits ops i j=true->φ j (Act.g a' (dOf ops j)) w') ->
   ∃ v w'',(execOp a'.eval o).run P w'=.ok (.value v) w''/\Chg [] w' w''/\φ i v w'' /\
    ∀ c,lab i=some c->∀ b,bl i v=some b->b < w''.heap.size/\(w'.heap.size<=b∨∃ j,waits ops i j=true/\lab j=some c/\bl j (Act.g a' (dOf ops j))=some b))
  (last:∀ (o:Oper),ops[ops.size - 1]?=some o->∀ (u:Nat->Value) (w':World),Chg [] w.drew w'->(∀ j,j < ops.size - 1->φ j (u j) w') ->
   (∀ i j c d,i < ops.size - 1->j < ops.size - 1->lab i=some c->lab j=some d->c≠d->∀ b,bl i (u i)=some b->bl j (u j)≠some b) ->
   ∀ A2,A2=putAll ops u (ops.size - 1) a->o.wp P A2 w' (Q .normal) Q):(Code.region id ops true).wp P Q a w:=by
 unfold monoForm at hform
 simp only [Bool.and_eq_true,decide_eq_true_eq] at hform
 obtain ⟨⟨⟨h0,hgd⟩,hdst⟩,hnd⟩:=hform
 have guard:∀ (i:Nat) (o:Oper),ops[i]?=some o->o.guard=none:=by
  intro i o ho
  have hi:=(Array.getElem?_eq_some_iff.1 ho)
  obtain ⟨hlt,he⟩:=hi
  have:=Array.all_eq_true.1 hgd i hlt
  rw [he] at this
  simpa using this
 have head:∀ i,i < ops.size - 1->∃ o d,ops[i]?=some o/\o.dst=some d/\dOf ops i=d/\d < a.tmps.size/\d ∉ st/\waits ops (ops.size - 1) i=true:=by
  intro i hi
  have h1:=List.all_eq_true.1 hdst i (List.mem_range.2 hi)
  have ho:ops[i]?=some (ops[i]'(by omega)):=Array.getElem?_eq_getElem (by omega)
  rw [ho] at h1
  simp only [Bool.and_eq_true] at h1
  cases hd:(ops[i]'(by omega)).dst with
  | none=>rw [hd] at h1; simp at h1
  | some d=>
   rw [hd] at h1
   simp only [Bool.and_eq_true,decide_eq_true_eq,Bool.not_eq_true',List.contains_eq_mem,decide_eq_false_iff_not] at h1
   exact ⟨_,d,ho,hd,by unfold dOf; rw [ho]; simp [hd],h1.1.1,h1.1.2,h1.2⟩
 have distinct:∀ i j,i < ops.size - 1->j < ops.size - 1->i≠j->dOf ops i≠dOf ops j:=by
  intro i j hi hj hij he
  have hp:=List.pairwise_iff_getElem.1 hnd
  simp only [List.length_map,List.length_range,List.getElem_map,List.getElem_range] at hp
  rcases Nat.lt_or_gt_of_ne hij with h | h
  ·exact hp i j hi hj h he
  ·exact hp j i hj hi h he.symm
 refine wp_region_inv hm hord (fun L a' w'=>(L (ops.size - 1)=true/\Q .normal a' w')∨(L (ops.size - 1)=false/\(∀ s,(∀ j,j < ops.size - 1->dOf ops j≠s)->Act.g a' s=Act.g a s)/\a'.tmps.size=a.tmps.size/\a'.defers=a.defers/\Chg [] w.drew w'/\(∀ j,j < ops.size - 1->L j=true->φ j (Act.g a' (dOf ops j)) w') /\
   (∀ j c b,j < ops.size - 1->L j=true->lab j=some c->bl j (Act.g a' (dOf ops j))=some b->b < w'.heap.size) /\
   (∀ i j c d,i < ops.size - 1->j < ops.size - 1->L i=true->L j=true->lab i=some c->lab j=some d->c≠d->∀ b,bl i (Act.g a' (dOf ops i))=some b->bl j (Act.g a' (dOf ops j))≠some b)))
  (.inr ⟨rfl,fun _ _=>rfl,rfl,rfl,Chg.refl _ _,fun j _ h=>(by cases h),fun j _ _ _ h=>(by cases h),fun i j _ _ _ _ h=>(by cases h)⟩) ?_ ?_
 ·intro L i o ho hLi hcl hdeps a' w' hG
  have hi:i < ops.size:=(Array.getElem?_eq_some_iff.1 ho).1
  have hwant:Region.wanted o (yielded ops a'.tmps)=true:=by simp [Region.wanted,guard i o ho]
  have hlast:L (ops.size - 1)=false:=by
   cases hl:L (ops.size - 1) with
   | false=>rfl
   | true=>
    exfalso
    by_cases hil:i=ops.size - 1
    ·rw [hil] at hLi
     rw [hl] at hLi
     cases hLi
    ·obtain ⟨o1,d1,_,_,_,_,_,hw⟩:=head i (by omega)
     unfold waits at hw
     have hol:ops[ops.size - 1]?=some (ops[ops.size - 1]'(by omega)):=Array.getElem?_eq_getElem (by omega)
     rw [hol] at hw
     obtain ⟨e,he,hb⟩:=Array.any_eq_true'.1 hw
     simp only [Bool.and_eq_true,beq_iff_eq] at hb
     have:=hcl _ _ hol hl e he hb.1
     rw [hb.2,hLi] at this
     cases this
  rcases hG with ⟨h,_⟩ | ⟨_,hst,hsz,hdf,hch,hφ,hbl,hap⟩
  ·rw [hlast] at h; cases h
  unfold wpOp
  simp only [ho,hwant,if_true]
  refine .inl ?_
  by_cases hil:i=ops.size - 1
  ·subst hil
   have hdone:∀ j,j < ops.size - 1->L j=true:=by
    intro j hj
    obtain ⟨o1,d1,_,_,_,_,_,hw⟩:=head j hj
    unfold waits at hw
    rw [ho] at hw
    obtain ⟨e,he,hb⟩:=Array.any_eq_true'.1 hw
    simp only [Bool.and_eq_true,beq_iff_eq] at hb
    have:=hdeps e he hb.1
    rw [hb.2] at this
    exact this
   refine Oper.wp_mono (fun a2 w2 hq=>.inl ⟨by simp,hq⟩) (by
    have ha:a'=putAll ops (fun j=>Act.g a' (dOf ops j)) (ops.size - 1) a:=act_ext (by rw [putAll_size,hsz]) (by rw [putAll_defers,hdf]) fun s=>by
     by_cases hs:∃ j,j < ops.size - 1/\dOf ops j=s
     ·obtain ⟨j,hj,rfl⟩:=hs
      obtain ⟨o1,d1,_,_,hd1,hdl1,_,_⟩:=head j hj
      rw [putAll_eq ops _ a j _ hj (fun k hk hkj=>distinct k j hk hj hkj) (by rw [hd1]; exact hdl1)]
     ·rw [putAll_ne ops _ a s _ (fun j hj e=>hs ⟨j,hj,e⟩)]
      exact hst s (fun j hj e=>hs ⟨j,hj,e⟩)
    have hl:=last o ho (fun j=>Act.g a' (dOf ops j)) w' hch (fun j hj=>hφ j hj (hdone j hj)) (fun i j c d hi hj=>hap i j c d hi hj (hdone i hi) (hdone j hj)) a' ha
    exact hl)
  ·have hih:i < ops.size - 1:=by omega
   obtain ⟨o1,d,ho1,hd,hdi,hdl,hds,hw⟩:=head i hih
   obtain rfl:o1=o:=Option.some.inj (ho1.symm.trans ho)
   have hL2:∀ j,waits ops i j=true->j < ops.size - 1/\L j=true:=fun j hj=>by
    unfold waits at hj
    rw [ho] at hj
    obtain ⟨e,he,hb⟩:=Array.any_eq_true'.1 hj
    simp only [Bool.and_eq_true,beq_iff_eq] at hb
    have h1:=hdeps e he hb.1
    have h2:=ordered_spec hord ho e he hb.1
    rw [hb.2] at h1 h2
    exact ⟨by omega,h1⟩
   obtain ⟨v,w2,hrun,hc2,hv,hown⟩:=step i o1 hih ho a' w' (fun s hs=>hst s (fun j hj e=>by obtain ⟨_,_,_,_,hd1,_,hds1,_⟩:=head j hj; exact hds1 (by rw [<- hd1,e]; exact hs))) hch (fun j hj=>hφ j (hL2 j hj).1 (hL2 j hj).2)
   have hval:∀ j,j < ops.size - 1->j≠i->Act.g (a'.put (some d) v) (dOf ops j)=Act.g a' (dOf ops j):=fun j hj hji=>
    g_put_ne _ _ _ _ (by rw [<- hdi]; exact distinct j i hj hih hji)
   have hvali:Act.g (a'.put (some d) v) (dOf ops i)=v:=by rw [hdi,g_put_same _ _ _ (by rw [hsz]; exact hdl)]
   have hold:∀ j,j≠i->(L j || j == i)=true->L j=true:=fun j hji hL=>by
    have hb:(j == i)=false:=by simp [hji]
    simpa [hb] using hL
   have hnew:∀ j c e,j < ops.size - 1->L j=true->lab i=some c->lab j=some e->c≠e->∀ b,bl i v=some b->bl j (Act.g a' (dOf ops j))≠some b:=fun j c e hj hLj hc he hce b hvb hjb=>by
    rcases (hown c hc b hvb).2 with h | ⟨j2,hw2,hl2,hb2⟩
    ·exact absurd (hbl j e b hj hLj he hjb) (by omega)
    ·exact hap j2 j c e (hL2 j2 hw2).1 hj (hL2 j2 hw2).2 hLj hl2 he hce b hb2 hjb
   unfold Oper.wp
   rw [hrun]
   simp only [Oper.upon_value,hd]
   refine .inr ⟨?_,fun s hs=>?_,by rw [size_put]; exact hsz,hdf,hch.trans hc2 New.nil,fun j hj hL=>?_,fun j c b hj hL hc hb=>?_,fun i1 j1 c e hi1 hj1 hLi1 hLj1 hc he hce b hb=>?_⟩
   ·rw [hlast]
    have:((ops.size - 1) == i)=false:=by simp; omega
    rw [this]
    rfl
   ·rw [g_put_ne _ _ _ _ (fun e=>by subst e; exact hs i hih hdi)]
    exact hst s hs
   ·by_cases hji:j=i
    ·subst hji
     rw [hvali]
     exact hv
    ·rw [hval j hj hji]
     exact mono _ _ _ _ hc2 (hφ j hj (hold j hji hL))
   ·by_cases hji:j=i
    ·subst hji
     rw [hvali] at hb
     exact (hown c hc b hb).1
    ·rw [hval j hj hji] at hb
     exact Nat.lt_of_lt_of_le (hbl j c b hj (hold j hji hL) hc hb) hc2.size
   ·by_cases h1:i1=i
    ·subst h1
     have h2:j1≠i1:=fun e2=>by
      subst e2
      rw [hc] at he
      exact hce (Option.some.inj he)
     rw [hvali] at hb
     rw [hval j1 hj1 h2]
     exact hnew j1 c e hj1 (hold j1 h2 hLj1) hc he hce b hb
    ·rw [hval i1 hi1 h1] at hb
     by_cases h2:j1=i
     ·subst h2
      rw [hvali]
      exact fun hb2=>hnew i1 e c hi1 (hold i1 h1 hLi1) he hc (Ne.symm hce) b hb2 hb
     ·rw [hval j1 hj1 h2]
      exact hap i1 j1 c e hi1 hj1 (hold i1 h1 hLi1) (hold j1 h2 hLj1) hc he hce b hb
 ·intro a' w' hG
  rcases hG with ⟨_,h⟩ | ⟨h,_⟩
  ·exact h
  ·have:decide (ops.size - 1 < ops.size)=true:=by simp; omega
   exact absurd (h.symm.trans this) (by simp)
def allForm (ops:Array Oper) (size:Nat) (st:List Nat):Bool:=
 ops.all (fun o=>o.guard.isNone) &&
 ((List.range ops.size).all fun i=>match ops[i]? with
  | some o=>(match o.dst with | some d=>decide (d < size) && !st.contains d | none=>false)
  | none=>false) &&
 decide ((List.range ops.size).map (dOf ops)).Nodup
theorem wp_region_all {id:Nat} {a:Act} {w:World} (hm:P.follows .mixedOrders=true) (hord:ordered ops=true) (st:List Nat) (hform:allForm ops a.tmps.size st=true)
  (φ:Nat->Value->World->Prop) (mono:∀ i v w w',Chg [] w w'->φ i v w->φ i v w')
  (step:∀ (i:Nat) (o:Oper),i < ops.size->ops[i]?=some o->∀ (a':Act) (w':World),(∀ s∈st,Act.g a' s=Act.g a s)->Chg [] w.drew w'->(∀ j,waits ops i j=true->φ j (Act.g a' (dOf ops j)) w') ->
   ∀ K:Value->World->Prop,(∀ v w'',Chg [] w' w''->φ i v w''->K v w'')->o.wp P a' w' (fun a2 w2=>∃ v,a2=a'.put o.dst v/\K v w2) Q)
  (fin:∀ (u:Nat->Value) (w':World),Chg [] w.drew w'->(∀ j,j < ops.size->φ j (u j) w')->∀ A2,A2=putAll ops u ops.size a->Q .normal A2 w'):(Code.region id ops true).wp P Q a w:=by
 unfold allForm at hform
 simp only [Bool.and_eq_true,decide_eq_true_eq] at hform
 obtain ⟨⟨hgd,hdst⟩,hnd⟩:=hform
 have guard:∀ (i:Nat) (o:Oper),ops[i]?=some o->o.guard=none:=by
  intro i o ho
  obtain ⟨hlt,he⟩:=(Array.getElem?_eq_some_iff.1 ho)
  have:=Array.all_eq_true.1 hgd i hlt
  rw [he] at this
  simpa using this
 have head:∀ i,i < ops.size->∃ o d,ops[i]?=some o/\o.dst=some d/\dOf ops i=d/\d < a.tmps.size/\d ∉ st:=by
  intro i hi
  have h1:=List.all_eq_true.1 hdst i (List.mem_range.2 hi)
  have ho:ops[i]?=some (ops[i]'(by omega)):=Array.getElem?_eq_getElem (by omega)
  rw [ho] at h1
  simp only at h1
  cases hd:(ops[i]'(by omega)).dst with
  | none=>rw [hd] at h1; simp at h1
  | some d=>
   rw [hd] at h1
   simp only [Bool.and_eq_true,decide_eq_true_eq,Bool.not_eq_true',List.contains_eq_mem,decide_eq_false_iff_not] at h1
   exact ⟨_,d,ho,hd,by unfold dOf; rw [ho]; simp [hd],h1.1,h1.2⟩
 have distinct:∀ i j,i < ops.size->j < ops.size->i≠j->dOf ops i≠dOf ops j:=by
  intro i j hi hj hij he
  have hp:=List.pairwise_iff_getElem.1 hnd
  simp only [List.length_map,List.length_range,List.getElem_map,List.getElem_range] at hp
  rcases Nat.lt_or_gt_of_ne hij with h | h
  ·exact hp i j hi hj h he
  ·exact hp j i hj hi h he.symm
 refine wp_region_inv hm hord (fun L a' w'=>(∀ s,(∀ j,j < ops.size->dOf ops j≠s)->Act.g a' s=Act.g a s)/\a'.tmps.size=a.tmps.size/\a'.defers=a.defers/\Chg [] w.drew w'/\(∀ j,j < ops.size->L j=true->φ j (Act.g a' (dOf ops j)) w'))
  ⟨fun _ _=>rfl,rfl,rfl,Chg.refl _ _,fun j _ h=>by cases h⟩ ?_ ?_
 ·intro L i o ho hLi hcl hdeps a' w' ⟨hst,hsz,hdf,hch,hφ⟩
  have hi:i < ops.size:=(Array.getElem?_eq_some_iff.1 ho).1
  have hwant:Region.wanted o (yielded ops a'.tmps)=true:=by simp [Region.wanted,guard i o ho]
  unfold wpOp
  simp only [ho,hwant,if_true]
  refine .inl ?_
  obtain ⟨o1,d,ho1,hd,hdi,hdl,hds⟩:=head i hi
  obtain rfl:o1=o:=Option.some.inj (ho1.symm.trans ho)
  refine Oper.wp_mono ?_ (step i o1 hi ho a' w' (fun s hs=>hst s (fun j hj e=>by obtain ⟨_,_,_,_,hd1,_,hds1⟩:=head j hj; exact hds1 (by rw [<- hd1,e]; exact hs))) hch (fun j hj=>by
   unfold waits at hj
   rw [ho] at hj
   obtain ⟨e,he,hb⟩:=Array.any_eq_true'.1 hj
   simp only [Bool.and_eq_true,beq_iff_eq] at hb
   have h1:=hdeps e he hb.1
   have h2:=ordered_spec hord ho e he hb.1
   rw [hb.2] at h1 h2
   exact hφ j (by omega) h1) (fun v w2=>Chg [] w' w2/\φ i v w2) (fun v w2 h1 h2=>⟨h1,h2⟩))
  rintro a2 w2 ⟨v,rfl,hc2,hv⟩
  rw [hd]
  refine ⟨fun s hs=>?_,by rw [size_put]; exact hsz,hdf,hch.trans hc2 New.nil,fun j hj hL=>?_⟩
  ·rw [g_put_ne _ _ _ _ (fun e=>by subst e; exact hs i hi hdi)]
   exact hst s hs
  ·by_cases hji:j=i
   ·subst hji
    rw [hdi,g_put_same _ _ _ (by rw [hsz]; exact hdl)]
    exact hv
   ·have hb:(j == i)=false:=by simp [hji]
    rw [g_put_ne _ _ _ _ (by rw [<- hdi]; exact distinct j i hj hi hji)]
    exact mono _ _ _ _ hc2 (hφ j hj (by simpa [hb] using hL))
 ·intro a' w' ⟨hst,hsz,hdf,hch,hφ⟩
  have hd:∀ j,j < ops.size->φ j (Act.g a' (dOf ops j)) w':=fun j hj=>hφ j hj (by simp [hj])
  refine fin (fun j=>Act.g a' (dOf ops j)) w' hch hd a' ?_
  refine act_ext (by rw [putAll_size,hsz]) (by rw [putAll_defers,hdf]) fun s=>?_
  by_cases hs:∃ j,j < ops.size/\dOf ops j=s
  ·obtain ⟨j,hj,rfl⟩:=hs
   obtain ⟨o1,d1,_,_,hd1,hdl1,_⟩:=head j hj
   rw [putAll_eq ops _ a j _ hj (fun k hk hkj=>distinct k j hk hj hkj) (by rw [hd1]; exact hdl1)]
  ·rw [putAll_ne ops _ a s _ (fun j hj e=>hs ⟨j,hj,e⟩)]
   exact hst s (fun j hj e=>hs ⟨j,hj,e⟩)
end
end Go.Proofs.YtpofkokbmifhgaaGreatDoor
namespace Go.Proofs.YtpofkokbmifhgaaGreatDoor
open Go.RowKit
section
variable {P:Program} {ops:Array Oper} {Q:Exit->Act->World->Prop}
def eats (bl:Nat->Value->Option Nat) (cons:Nat->Option Nat) (ops:Array Oper) (a:Act) (i:Nat):List Nat:=match cons i with
 | some j=>(bl j (Act.g a (dOf ops j))).toList
 | none=>[]
def chainForm (ops:Array Oper) (lab cons:Nat->Option Nat):Bool:=
 (List.range (ops.size - 1)).all fun i=>
  (match cons i with
  | some j=>waits ops i j && decide (j < ops.size - 1) && decide (lab j=lab i) && (lab j).isSome && (List.range (ops.size - 1)).all fun k=>!(waits ops k j) || decide (k=i)
  | none=>true) &&
  (List.range (ops.size - 1)).all fun j=>!((lab i).isSome && decide (lab i=lab j) && decide (i < j)) || (List.range (ops.size - 1)).any fun k=>decide (cons k=some i) && (decide (k=j) || waits ops j k)
def sinkForm (ops:Array Oper) (cons:Nat->Option Nat) (sink:Nat->Bool):Bool:=
 (List.range (ops.size - 1)).all fun j=>!(sink j) || (List.range (ops.size - 1)).all fun i=>(cons i).isNone || waits ops j i || (List.range (ops.size - 1)).any fun m=>waits ops j m && waits ops m i
theorem wp_region_own {id:Nat} {a:Act} {w:World} (hm:P.follows .mixedOrders=true) (hord:ordered ops=true) (st:List Nat) (hform:monoForm ops a.tmps.size st=true)
  (φ:Nat->Value->World->Prop) (lab:Nat->Option Nat) (bl:Nat->Value->Option Nat) (cons:Nat->Option Nat) (sink:Nat->Bool) (hchain:chainForm ops lab cons=true) (hsink:sinkForm ops cons sink=true)
  (mono:∀ i v w1 w2 F,(∀ b∈F,w.heap.size<=b)->(sink i=true->F=[])->(∀ c b,lab i=some c->bl i v=some b->b ∉ F)->Chg F w1 w2->φ i v w1->φ i v w2)
  (step:∀ (i:Nat) (o:Oper),i < ops.size - 1->ops[i]?=some o->∀ (a':Act) (w':World),(∀ s∈st,Act.g a' s=Act.g a s)->Chg [] w.drew w'->(∀ j,waits ops i j=true->φ j (Act.g a' (dOf ops j)) w')->(∀ b∈eats bl cons ops a' i,w.heap.size<=b) ->
   ∃ v w'',(execOp a'.eval o).run P w'=.ok (.value v) w''/\Chg (eats bl cons ops a' i) w' w''/\φ i v w'' /\
    ∀ c,lab i=some c->∀ b,bl i v=some b->b < w''.heap.size/\(w'.heap.size<=b∨b∈eats bl cons ops a' i))
  (last:∀ (o:Oper),ops[ops.size - 1]?=some o->∀ (u:Nat->Value) (w':World),Chg [] w.drew w'->(∀ j,j < ops.size - 1->(∀ k,k < ops.size - 1->cons k≠some j)->φ j (u j) w') ->
   ∀ A2,A2=putAll ops u (ops.size - 1) a->o.wp P A2 w' (Q .normal) Q):(Code.region id ops true).wp P Q a w:=by
 unfold monoForm at hform
 simp only [Bool.and_eq_true,decide_eq_true_eq] at hform
 obtain ⟨⟨⟨h0,hgd⟩,hdst⟩,hnd⟩:=hform
 have guard:∀ (i:Nat) (o:Oper),ops[i]?=some o->o.guard=none:=by
  intro i o ho
  have hi:=(Array.getElem?_eq_some_iff.1 ho)
  obtain ⟨hlt,he⟩:=hi
  have:=Array.all_eq_true.1 hgd i hlt
  rw [he] at this
  simpa using this
 have head:∀ i,i < ops.size - 1->∃ o d,ops[i]?=some o/\o.dst=some d/\dOf ops i=d/\d < a.tmps.size/\d ∉ st/\waits ops (ops.size - 1) i=true:=by
  intro i hi
  have h1:=List.all_eq_true.1 hdst i (List.mem_range.2 hi)
  have ho:ops[i]?=some (ops[i]'(by omega)):=Array.getElem?_eq_getElem (by omega)
  rw [ho] at h1
  simp only [Bool.and_eq_true] at h1
  cases hd:(ops[i]'(by omega)).dst with
  | none=>rw [hd] at h1; simp at h1
  | some d=>
   rw [hd] at h1
   simp only [Bool.and_eq_true,decide_eq_true_eq,Bool.not_eq_true',List.contains_eq_mem,decide_eq_false_iff_not] at h1
   exact ⟨_,d,ho,hd,by unfold dOf; rw [ho]; simp [hd],h1.1.1,h1.1.2,h1.2⟩
 have distinct:∀ i j,i < ops.size - 1->j < ops.size - 1->i≠j->dOf ops i≠dOf ops j:=by
  intro i j hi hj hij he
  have hp:=List.pairwise_iff_getElem.1 hnd
  simp only [List.length_map,List.length_range,List.getElem_map,List.getElem_range] at hp
  rcases Nat.lt_or_gt_of_ne hij with h | h
  ·exact hp i j hi hj h he
  ·exact hp j i hj hi h he.symm
 have hC:∀ i j,i < ops.size - 1->cons i=some j->waits ops i j=true/\j < ops.size - 1/\lab j=lab i/\(lab j).isSome=true/\∀ k,k < ops.size - 1->waits ops k j=true->k=i:=by
  intro i j hi hc
  have h1:=List.all_eq_true.1 hchain i (List.mem_range.2 hi)
  rw [hc] at h1
  simp only [Bool.and_eq_true,decide_eq_true_eq] at h1
  refine ⟨h1.1.1.1.1.1,h1.1.1.1.1.2,h1.1.1.1.2,h1.1.1.2,fun k hk hw=>?_⟩
  have h2:=List.all_eq_true.1 h1.1.2 k (List.mem_range.2 hk)
  rw [hw] at h2
  simpa using h2
 have hL0:∀ i j,i < ops.size - 1->j < ops.size - 1->(lab i).isSome=true->lab i=lab j->i < j->∃ k,k < ops.size - 1/\cons k=some i/\(k=j∨waits ops j k=true):=by
  intro i j hi hj hs hl hij
  have h1:=List.all_eq_true.1 hchain i (List.mem_range.2 hi)
  simp only [Bool.and_eq_true] at h1
  have h2:=List.all_eq_true.1 h1.2 j (List.mem_range.2 hj)
  have h3:((lab i).isSome && decide (lab i=lab j) && decide (i < j))=true:=by rw [hs,hl]; simp [hij]
  simp only [Bool.or_eq_true,Bool.not_eq_true'] at h2
  rcases h2 with h2 | h2
  ·rw [h3] at h2; cases h2
  ·obtain ⟨k,hk,h4⟩:=List.any_eq_true.1 h2
   simp only [Bool.and_eq_true,Bool.or_eq_true,decide_eq_true_eq] at h4
   exact ⟨k,List.mem_range.1 hk,h4.1,h4.2⟩
 refine wp_region_inv hm hord (fun L a' w'=>(L (ops.size - 1)=true/\Q .normal a' w')∨(L (ops.size - 1)=false/\(∀ s,(∀ j,j < ops.size - 1->dOf ops j≠s)->Act.g a' s=Act.g a s)/\a'.tmps.size=a.tmps.size/\a'.defers=a.defers/\Chg [] w.drew w'/\(∀ j,j < ops.size - 1->L j=true->(∀ k,k < ops.size - 1->L k=true->cons k≠some j)->φ j (Act.g a' (dOf ops j)) w') /\
   (∀ j c b,j < ops.size - 1->L j=true->lab j=some c->bl j (Act.g a' (dOf ops j))=some b->b < w'.heap.size/\w.heap.size<=b) /\
   (∀ i j c d,i < ops.size - 1->j < ops.size - 1->L i=true->L j=true->lab i=some c->lab j=some d->c≠d->∀ b,bl i (Act.g a' (dOf ops i))=some b->bl j (Act.g a' (dOf ops j))≠some b)))
  (.inr ⟨rfl,fun _ _=>rfl,rfl,rfl,Chg.refl _ _,fun j _ h=>(by cases h),fun j _ _ _ h=>(by cases h),fun i j _ _ _ _ h=>(by cases h)⟩) ?_ ?_
 ·intro L i o ho hLi hcl hdeps a' w' hG
  have hi:i < ops.size:=(Array.getElem?_eq_some_iff.1 ho).1
  have hwant:Region.wanted o (yielded ops a'.tmps)=true:=by simp [Region.wanted,guard i o ho]
  have hlast:L (ops.size - 1)=false:=by
   cases hl:L (ops.size - 1) with
   | false=>rfl
   | true=>
    exfalso
    by_cases hil:i=ops.size - 1
    ·rw [hil] at hLi
     rw [hl] at hLi
     cases hLi
    ·obtain ⟨o1,d1,_,_,_,_,_,hw⟩:=head i (by omega)
     unfold waits at hw
     have hol:ops[ops.size - 1]?=some (ops[ops.size - 1]'(by omega)):=Array.getElem?_eq_getElem (by omega)
     rw [hol] at hw
     obtain ⟨e,he,hb⟩:=Array.any_eq_true'.1 hw
     simp only [Bool.and_eq_true,beq_iff_eq] at hb
     have:=hcl _ _ hol hl e he hb.1
     rw [hb.2,hLi] at this
     cases this
  rcases hG with ⟨h,_⟩ | ⟨_,hst,hsz,hdf,hch,hφ,hbl,hap⟩
  ·rw [hlast] at h; cases h
  unfold wpOp
  simp only [ho,hwant,if_true]
  refine .inl ?_
  by_cases hil:i=ops.size - 1
  ·subst hil
   have hdone:∀ j,j < ops.size - 1->L j=true:=by
    intro j hj
    obtain ⟨o1,d1,_,_,_,_,_,hw⟩:=head j hj
    unfold waits at hw
    rw [ho] at hw
    obtain ⟨e,he,hb⟩:=Array.any_eq_true'.1 hw
    simp only [Bool.and_eq_true,beq_iff_eq] at hb
    have:=hdeps e he hb.1
    rw [hb.2] at this
    exact this
   refine Oper.wp_mono (fun a2 w2 hq=>.inl ⟨by simp,hq⟩) (by
    have ha:a'=putAll ops (fun j=>Act.g a' (dOf ops j)) (ops.size - 1) a:=act_ext (by rw [putAll_size,hsz]) (by rw [putAll_defers,hdf]) fun s=>by
     by_cases hs:∃ j,j < ops.size - 1/\dOf ops j=s
     ·obtain ⟨j,hj,rfl⟩:=hs
      obtain ⟨o1,d1,_,_,hd1,hdl1,_,_⟩:=head j hj
      rw [putAll_eq ops _ a j _ hj (fun k hk hkj=>distinct k j hk hj hkj) (by rw [hd1]; exact hdl1)]
     ·rw [putAll_ne ops _ a s _ (fun j hj e=>hs ⟨j,hj,e⟩)]
      exact hst s (fun j hj e=>hs ⟨j,hj,e⟩)
    have hl:=last o ho (fun j=>Act.g a' (dOf ops j)) w' hch (fun j hj hn=>hφ j hj (hdone j hj) fun k hk _=>hn k hk) a' ha
    exact hl)
  ·have hih:i < ops.size - 1:=by omega
   obtain ⟨o1,d,ho1,hd,hdi,hdl,hds,hw⟩:=head i hih
   obtain rfl:o1=o:=Option.some.inj (ho1.symm.trans ho)
   have hL2:∀ j,waits ops i j=true->j < ops.size - 1/\L j=true:=fun j hj=>by
    unfold waits at hj
    rw [ho] at hj
    obtain ⟨e,he,hb⟩:=Array.any_eq_true'.1 hj
    simp only [Bool.and_eq_true,beq_iff_eq] at hb
    have h1:=hdeps e he hb.1
    have h2:=ordered_spec hord ho e he hb.1
    rw [hb.2] at h1 h2
    exact ⟨by omega,h1⟩
   have hφw:∀ j,waits ops i j=true->φ j (Act.g a' (dOf ops j)) w':=fun j hj=>hφ j (hL2 j hj).1 (hL2 j hj).2 fun k hk hLk hck=>by
    have:=(hC k j hk hck).2.2.2.2 i hih hj
    rw [this,hLk] at hLi
    cases hLi
   have heat:∀ b∈eats bl cons ops a' i,w.heap.size<=b:=fun b hb=>by
    unfold eats at hb
    cases hci:cons i with
    | none=>rw [hci] at hb; cases hb
    | some j=>
     rw [hci] at hb
     obtain ⟨h1,h2,h3,h4,_⟩:=hC i j hih hci
     obtain ⟨c,hc⟩:=Option.isSome_iff_exists.1 h4
     exact (hbl j c b h2 (hL2 j h1).2 hc (by simpa using hb)).2
   obtain ⟨v,w2,hrun,hc2,hv,hown⟩:=step i o1 hih ho a' w' (fun s hs=>hst s (fun j hj e=>by obtain ⟨_,_,_,_,hd1,_,hds1,_⟩:=head j hj; exact hds1 (by rw [<- hd1,e]; exact hs))) hch hφw heat
   have hval:∀ j,j < ops.size - 1->j≠i->Act.g (a'.put (some d) v) (dOf ops j)=Act.g a' (dOf ops j):=fun j hj hji=>
    g_put_ne _ _ _ _ (by rw [<- hdi]; exact distinct j i hj hih hji)
   have hvali:Act.g (a'.put (some d) v) (dOf ops i)=v:=by rw [hdi,g_put_same _ _ _ (by rw [hsz]; exact hdl)]
   have hold:∀ j,j≠i->(L j || j == i)=true->L j=true:=fun j hji hL=>by
    have hb:(j == i)=false:=by simp [hji]
    simpa [hb] using hL
   have hfar:∀ j e b,j < ops.size - 1->L j=true->lab j=some e->lab i≠some e->b∈eats bl cons ops a' i->bl j (Act.g a' (dOf ops j))≠some b:=fun j e b hj hLj he hne hb hjb=>by
    unfold eats at hb
    cases hci:cons i with
    | none=>rw [hci] at hb; cases hb
    | some j2=>
     rw [hci] at hb
     obtain ⟨h1,h2,h3,h4,_⟩:=hC i j2 hih hci
     obtain ⟨c,hc⟩:=Option.isSome_iff_exists.1 h4
     exact hap j2 j c e h2 hj (hL2 j2 h1).2 hLj hc he (fun h=>hne (by rw [<- h3,hc,h])) b (by simpa using hb) hjb
   have hnew:∀ j c e,j < ops.size - 1->L j=true->lab i=some c->lab j=some e->c≠e->∀ b,bl i v=some b->bl j (Act.g a' (dOf ops j))≠some b:=fun j c e hj hLj hc he hce b hvb hjb=>by
    rcases (hown c hc b hvb).2 with h | h
    ·exact absurd (hbl j e b hj hLj he hjb).1 (by omega)
    ·exact hfar j e b hj hLj he (fun h2=>hce (Option.some.inj (hc.symm.trans h2))) h hjb
   have hsw:w.heap.size<=w'.heap.size:=hch.size
   unfold Oper.wp
   rw [hrun]
   simp only [Oper.upon_value,hd]
   refine .inr ⟨?_,fun s hs=>?_,by rw [size_put]; exact hsz,hdf,hch.trans hc2 (fun y hy=>.inr (heat y hy)),fun j hj hL hno=>?_,fun j c b hj hL hc hb=>?_,fun i1 j1 c e hi1 hj1 hLi1 hLj1 hc he hce b hb=>?_⟩
   ·rw [hlast]
    have:((ops.size - 1) == i)=false:=by simp; omega
    rw [this]
    rfl
   ·rw [g_put_ne _ _ _ _ (fun e=>by subst e; exact hs i hih hdi)]
    exact hst s hs
   ·by_cases hji:j=i
    ·subst hji
     rw [hvali]
     exact hv
    ·rw [hval j hj hji]
     have hLj:=hold j hji hL
     have hcl2:∀ x y,x < ops.size - 1->L x=true->waits ops x y=true->L y=true:=fun x y hx hLx hw=>by
      have hox:ops[x]?=some (ops[x]'(by omega)):=Array.getElem?_eq_getElem (by omega)
      unfold waits at hw
      rw [hox] at hw
      obtain ⟨e,he,hb⟩:=Array.any_eq_true'.1 hw
      simp only [Bool.and_eq_true,beq_iff_eq] at hb
      have:=hcl _ _ hox hLx e he hb.1
      rwa [hb.2] at this
     have hsk:sink j=true->eats bl cons ops a' i=[]:=fun hs=>by
      unfold eats
      cases hci:cons i with
      | none=>rfl
      | some q=>
       exfalso
       have h1:=List.all_eq_true.1 hsink j (List.mem_range.2 hj)
       simp only [Bool.or_eq_true,Bool.not_eq_true'] at h1
       rcases h1 with h1 | h1
       ·rw [hs] at h1; cases h1
       ·have h2:=List.all_eq_true.1 h1 i (List.mem_range.2 hih)
        rw [hci] at h2
        simp only [Option.isNone_some,Bool.false_or,Bool.or_eq_true] at h2
        rcases h2 with h2 | h2
        ·have:=hcl2 j i hj hLj h2
         rw [hLi] at this; cases this
        ·obtain ⟨m,hm,h3⟩:=List.any_eq_true.1 h2
         simp only [Bool.and_eq_true] at h3
         have:=hcl2 m i (List.mem_range.1 hm) (hcl2 j m hj hLj h3.1) h3.2
         rw [hLi] at this; cases this
     refine mono _ _ _ _ _ heat hsk (fun c b hcj hbj hbe=>?_) hc2 (hφ j hj hLj fun k hk hLk=>hno k hk (by simp [hLk]))
     by_cases hlab:lab i=some c
     ·
      have hij:i < j∨j < i:=by omega
      rcases hij with hij | hij
      ·obtain ⟨k,hk,hck,hkj⟩:=hL0 i j hih hj (by rw [hlab]; rfl) (by rw [hlab,hcj]) hij
       have hoj:ops[j]?=some (ops[j]'(by omega)):=Array.getElem?_eq_getElem (by omega)
       have hwk:waits ops k i=true:=(hC k i hk hck).1
       have hLk:L k=true:=by
        rcases hkj with rfl | hw2
        ·exact hLj
        ·unfold waits at hw2
         rw [hoj] at hw2
         obtain ⟨e,he,hb⟩:=Array.any_eq_true'.1 hw2
         simp only [Bool.and_eq_true,beq_iff_eq] at hb
         have:=hcl _ _ hoj hLj e he hb.1
         rwa [hb.2] at this
       have hok:ops[k]?=some (ops[k]'(by omega)):=Array.getElem?_eq_getElem (by omega)
       unfold waits at hwk
       rw [hok] at hwk
       obtain ⟨e,he,hb⟩:=Array.any_eq_true'.1 hwk
       simp only [Bool.and_eq_true,beq_iff_eq] at hb
       have:=hcl _ _ hok hLk e he hb.1
       rw [hb.2,hLi] at this
       cases this
      ·obtain ⟨k,hk,hck,hkj⟩:=hL0 j i hj hih (by rw [hcj]; rfl) (by rw [hlab,hcj]) hij
       refine hno k hk ?_ hck
       rcases hkj with rfl | hw2
       ·simp
       ·simp [(hL2 k hw2).2]
     ·exact hfar j c b hj hLj hcj hlab hbe hbj
   ·by_cases hji:j=i
    ·subst hji
     rw [hvali] at hb
     refine ⟨(hown c hc b hb).1,?_⟩
     rcases (hown c hc b hb).2 with h | h
     ·omega
     ·exact heat b h
    ·rw [hval j hj hji] at hb
     have h:=hbl j c b hj (hold j hji hL) hc hb
     exact ⟨Nat.lt_of_lt_of_le h.1 hc2.size,h.2⟩
   ·by_cases h1:i1=i
    ·subst h1
     have h2:j1≠i1:=fun e2=>by
      subst e2
      rw [hc] at he
      exact hce (Option.some.inj he)
     rw [hvali] at hb
     rw [hval j1 hj1 h2]
     exact hnew j1 c e hj1 (hold j1 h2 hLj1) hc he hce b hb
    ·rw [hval i1 hi1 h1] at hb
     by_cases h2:j1=i
     ·subst h2
      rw [hvali]
      exact fun hb2=>hnew i1 e c hi1 (hold i1 h1 hLi1) he hc (Ne.symm hce) b hb2 hb
     ·rw [hval j1 hj1 h2]
      exact hap i1 j1 c e hi1 hj1 (hold i1 h1 hLi1) (hold j1 h2 hLj1) hc he hce b hb
 ·intro a' w' hG
  rcases hG with ⟨_,h⟩ | ⟨h,_⟩
  ·exact h
  ·have:decide (ops.size - 1 < ops.size)=true:=by simp; omega
   exact absurd (h.symm.trans this) (by simp)
end
end Go.Proofs.YtpofkokbmifhgaaGreatDoor
