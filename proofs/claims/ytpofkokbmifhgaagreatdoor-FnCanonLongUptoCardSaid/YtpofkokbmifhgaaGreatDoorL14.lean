/- Parts of the walk, made small by wip/tools/pack.py: Tail, ToMap, ToAny. No condition but those in each statement. -/
import Derived.Test.YtpofkokbmifhgaaGreatDoorL07
import Derived.Test.YtpofkokbmifhgaaGreatDoorL13
set_option maxRecDepth 100000
set_option maxHeartbeats 20000000
set_option linter.unusedVariables false
set_option linter.unusedSimpArgs false
namespace Go.Proofs.YtpofkokbmifhgaaGreatDoor
open Go.RowKit
variable {o:Nat->Prop}
section
variable {P:Program} {ops:Array Oper} {Q:Exit->Act->World->Prop}
theorem wp_region_tail {id:Nat} {a:Act} {w:World} (hm:P.follows .mixedOrders=true) (hord:ordered ops=true) (st:List Nat) (hform:monoForm ops a.tmps.size st=true)
  (φ:Nat->Value->World->Prop) (mono:∀ i v w w',Chg [] w w'->φ i v w->φ i v w')
  (step:∀ (i:Nat) (o:Oper),i < ops.size - 1->ops[i]?=some o->∀ (a':Act) (w':World),(∀ s∈st,Act.g a' s=Act.g a s)->Chg [] w.drew w'->(∀ j,waits ops i j=true->φ j (Act.g a' (dOf ops j)) w') ->
   ∀ K:Value->World->Prop,(∀ v w'',Chg [] w' w''->φ i v w''->K v w'')->o.wp P a' w' (fun a2 w2=>∃ v,a2=a'.put o.dst v/\K v w2) Q)
  (last:∀ (o:Oper),ops[ops.size - 1]?=some o->∀ (u:Nat->Value) (w':World),Chg [] w.drew w'->(∀ j,j < ops.size - 1->φ j (u j) w') ->
   ∀ A2,A2=putAll ops u (ops.size - 1) a->o.wp P A2 w' (Q .normal) Q):(Code.region id ops true).wp P Q a w:=by
 unfold monoForm at hform;simp only [Bool.and_eq_true,decide_eq_true_eq] at hform;obtain ⟨⟨⟨h0,hgd⟩,hdst⟩,hnd⟩:=hform
 have guard:∀ (i:Nat) (o:Oper),ops[i]?=some o->o.guard=none:=by
  intro i o ho
  have hi:=(Array.getElem?_eq_some_iff.1 ho)
  obtain ⟨hlt,he⟩:=hi;have:=Array.all_eq_true.1 hgd i hlt;rw [he] at this
  simpa using this
 have head:∀ i,i < ops.size - 1->∃ o d,ops[i]?=some o/\o.dst=some d/\dOf ops i=d/\d < a.tmps.size/\d ∉ st/\waits ops (ops.size - 1) i=true:=by
  intro i hi
  have h1:=List.all_eq_true.1 hdst i (List.mem_range.2 hi);have ho:ops[i]?=some (ops[i]'(by omega)):=Array.getElem?_eq_getElem (by omega);rw [ho] at h1;simp only [Bool.and_eq_true] at h1
  cases hd:(ops[i]'(by omega)).dst with
  | none=>rw [hd] at h1; simp at h1
  | some d=>
   rw [hd] at h1;simp only [Bool.and_eq_true,decide_eq_true_eq,Bool.not_eq_true',List.contains_eq_mem,decide_eq_false_iff_not] at h1;exact ⟨_,d,ho,hd,by unfold dOf; rw [ho]; simp [hd],h1.1.1,h1.1.2,h1.2⟩
 have distinct:∀ i j,i < ops.size - 1->j < ops.size - 1->i≠j->dOf ops i≠dOf ops j:=by
  intro i j hi hj hij he
  have hp:=List.pairwise_iff_getElem.1 hnd;simp only [List.length_map,List.length_range,List.getElem_map,List.getElem_range] at hp;rcases Nat.lt_or_gt_of_ne hij with h | h
  ·exact hp i j hi hj h he
  ·exact hp j i hj hi h he.symm
 refine wp_region_inv hm hord (fun L a' w'=>(L (ops.size - 1)=true/\Q .normal a' w')∨(L (ops.size - 1)=false/\(∀ s,(∀ j,j < ops.size - 1->dOf ops j≠s)->Act.g a' s=Act.g a s)/\a'.tmps.size=a.tmps.size/\a'.defers=a.defers/\Chg [] w.drew w'/\∀ j,j < ops.size - 1->L j=true->φ j (Act.g a' (dOf ops j)) w'))
  (.inr ⟨rfl,fun _ _=>rfl,rfl,rfl,Chg.refl _ _,fun j _ h=>by cases h⟩) ?_ ?_
 ·intro L i o ho hLi hcl hdeps a' w' hG
  have hi:i < ops.size:=(Array.getElem?_eq_some_iff.1 ho).1
  have hwant:Region.wanted o (yielded ops a'.tmps)=true:=by simp [Region.wanted,guard i o ho]
  have hlast:L (ops.size - 1)=false:=by
   cases hl:L (ops.size - 1) with
   | false=>rfl
   | true=>
    exfalso
    by_cases hil:i=ops.size - 1
    ·rw [hil] at hLi
     rw [hl] at hLi
     cases hLi
    ·obtain ⟨o1,d1,_,_,_,_,_,hw⟩:=head i (by omega)
     unfold waits at hw;have hol:ops[ops.size - 1]?=some (ops[ops.size - 1]'(by omega)):=Array.getElem?_eq_getElem (by omega);rw [hol] at hw;obtain ⟨e,he,hb⟩:=Array.any_eq_true'.1 hw;simp only [Bool.and_eq_true,beq_iff_eq] at hb;have:=hcl _ _ hol hl e he hb.1;rw [hb.2,hLi] at this
     cases this
  rcases hG with ⟨h,_⟩ | ⟨_,hst,hsz,hdf,hch,hφ⟩
  ·rw [hlast] at h; cases h
  unfold wpOp;simp only [ho,hwant,if_true];refine .inl ?_
  by_cases hil:i=ops.size - 1
  ·subst hil
   have hall:∀ j,j < ops.size - 1->φ j (Act.g a' (dOf ops j)) w':=by
    intro j hj
    obtain ⟨o1,d1,_,_,_,_,_,hw⟩:=head j hj;unfold waits at hw;rw [ho] at hw;obtain ⟨e,he,hb⟩:=Array.any_eq_true'.1 hw;simp only [Bool.and_eq_true,beq_iff_eq] at hb;have:=hdeps e he hb.1;rw [hb.2] at this;exact hφ j hj this
   refine Oper.wp_mono (fun a2 w2 hq=>.inl ⟨by simp,hq⟩) (by
    have ha:a'=putAll ops (fun j=>Act.g a' (dOf ops j)) (ops.size - 1) a:=act_ext (by rw [putAll_size,hsz]) (by rw [putAll_defers,hdf]) fun s=>by
     by_cases hs:∃ j,j < ops.size - 1/\dOf ops j=s
     ·obtain ⟨j,hj,rfl⟩:=hs
      obtain ⟨o1,d1,_,_,hd1,hdl1,_,_⟩:=head j hj;rw [putAll_eq ops _ a j _ hj (fun k hk hkj=>distinct k j hk hj hkj) (by rw [hd1]; exact hdl1)]
     ·rw [putAll_ne ops _ a s _ (fun j hj e=>hs ⟨j,hj,e⟩)]
      exact hst s (fun j hj e=>hs ⟨j,hj,e⟩)
    have hl:=last o ho (fun j=>Act.g a' (dOf ops j)) w' hch hall a' ha
    exact hl)
  ·have hih:i < ops.size - 1:=by omega
   obtain ⟨o1,d,ho1,hd,hdi,hdl,hds,hw⟩:=head i hih;obtain rfl:o1=o:=Option.some.inj (ho1.symm.trans ho)
   have hdep:∀ j,waits ops i j=true->φ j (Act.g a' (dOf ops j)) w':=fun j hj=>by
    unfold waits at hj;rw [ho] at hj;obtain ⟨e,he,hb⟩:=Array.any_eq_true'.1 hj;simp only [Bool.and_eq_true,beq_iff_eq] at hb;have h1:=hdeps e he hb.1;have h2:=ordered_spec hord ho e he hb.1;rw [hb.2] at h1 h2;exact hφ j (by omega) h1
   have hlf:(L (ops.size - 1) || ops.size - 1 == i)=false:=by
    rw [hlast]
    have:((ops.size - 1) == i)=false:=by simp; omega
    rw [this]
    rfl
   have hput:∀ (v:Value) (s:Nat),(∀ j,j < ops.size - 1->dOf ops j≠s)->Act.g (a'.put (some d) v) s=Act.g a s:=fun v s hs=>by
    rw [g_put_ne _ _ _ _ (fun e=>by subst e; exact hs i hih hdi)];exact hst s hs
   have hst':∀ s∈st,Act.g a' s=Act.g a s:=fun s hs=>hst s (fun j hj e=>by obtain ⟨_,_,_,_,hd1,_,hds1,_⟩:=head j hj; exact hds1 (by rw [<- hd1,e]; exact hs))
   refine Oper.wp_mono ?_ (step i o1 hih ho a' w' hst' hch hdep (fun v w2=>Chg [] w' w2/\φ i v w2) (fun v w2 h1 h2=>⟨h1,h2⟩));rintro a2 w2 ⟨v,rfl,hc2,hv⟩;rw [hd];refine .inr ⟨hlf,hput v,by rw [size_put]; exact hsz,hdf,hch.trans hc2 New.nil,fun j hj hL=>?_⟩
   by_cases hji:j=i
   ·subst hji
    rw [hdi,g_put_same _ _ _ (by rw [hsz]; exact hdl)];exact hv
   ·have:L j=true:=by
     have hb:(j == i)=false:=by simp [hji]
     simpa [hb] using hL
    rw [g_put_ne _ _ _ _ (by rw [<- hdi]; exact distinct j i hj hih hji)];exact mono _ _ _ _ hc2 (hφ j hj this)
 ·intro a' w' hG
  rcases hG with ⟨_,h⟩ | ⟨h,_⟩
  ·exact h
  ·have:decide (ops.size - 1 < ops.size)=true:=by simp; omega
   exact absurd (h.symm.trans this) (by simp)
def putForm (ops:Array Oper) (size:Nat) (st:List Nat) (p:Nat):Bool:=
 ops.all (fun o=>o.guard.isNone) &&
 ((List.range ops.size).all fun i=>match ops[i]? with
  | some o=>(match o.dst with | some d=>decide (d < size) && !st.contains d && !(i == p) | none=>i == p)
  | none=>false) &&
 decide ((List.range ops.size).map (dOf ops)).Nodup && st.contains 0 && decide (0 < size) && decide (p < ops.size)
end
end Go.Proofs.YtpofkokbmifhgaaGreatDoor
namespace Go.Proofs.YtpofkokbmifhgaaGreatDoor
open Go.RowKit
variable {o:Nat->Prop}
def AnyR (w:World) (t:T) (e:Ending) (w':World):Prop:=∃ a F,e=.returned a/\Chg [] w w'/\Own w' t a F/\F.Nodup/\∀ b∈F,w.heap.size<=b
theorem ins_endP {k:ByteArray} {x:T}:∀ {m:List (ByteArray × T)},(∀ q∈m,blt q.1 k=true)->mins k x m=m++[(k,x)]
 | [],_=>rfl
 | p :: m,h=>by
  have hb:=h p List.mem_cons_self
  have hne:p.1≠k:=fun e=>by rw [e,blt_irrefl] at hb; cases hb
  simp only [mins,hne,if_false,hb,if_true,List.cons_append];rw [ins_endP fun q hq=>h q (List.mem_cons_of_mem _ hq)]
theorem ins_takeP {m:List (ByteArray × T)} {n:Nat} {k:ByteArray} {x:T} (hs:Srt m) (h:m[n]?=some (k,x)):mins k x (m.take n)=m.take (n+1):=by
 rw [take_snoc h]
 refine ins_endP fun q hq=>?_
 obtain ⟨i,hi,e⟩:=List.mem_iff_getElem.1 hq;have hn:=(List.getElem?_eq_some_iff.1 h).1
 have hi':i < n:=by simp at hi; omega
 have he:q=m[i]'(by omega):=by rw [<- e,List.getElem_take]
 have hk:(k,x)=m[n]:=((List.getElem?_eq_some_iff.1 h).2).symm;rw [he,show k=(m[n]).1 from congrArg Prod.fst hk];exact List.pairwise_iff_getElem.1 hs i n (by omega) hn hi'
theorem toMap_step {B:Nat} (nn:Nat) (ih:∀ (t:T) (v:Value) (w:World),T.size t<=nn->WF B t->Rd o w t v->Calls Tryz.prog 54 #[v] w (AnyR w t))
  (m:List (ByteArray × T)) (v:Value) (w:World) (hsz:T.size (.map m)<=nn+1) (h:Rd o w (.map m) v) (hw:WF B (.map m)) (hb:T.size (.map m)<=67108864) :
  Calls Tryz.prog 33 #[v] w fun e w'=>∃ b F,e=.returned (.map (some b))/\Chg [] w w'/\Own w' (.map m) (.iface 50 (.map (some b))) F/\F.Nodup/\∀ x∈F,w.heap.size<=x:=by
 obtain ⟨A3,q3,A4,q4,rfl,hk,hv⟩:=h.five;have hvl:=T.vals_len (.map m)
 have hml:m.length<=67108864:=by simp [T.vals] at hvl; omega
 have HKL:Hid ((T.map m).keys.length=m.length/\(T.map m).vals.length=m.length):=Lib.hid ⟨by simp [T.keys],by simp [T.vals]⟩;have HS:=Lib.hid hw.1;have HWM:=Lib.hid hw.2;clear hw hvl
 go_enter Tryz.func33,Tryz.ntmps33
 go_wp2_with fail
 go_loopg [4] m.length (fun g i wr=>∃ n:Nat,n<=m.length/\g=m.length - n/\i=.int .i64 n/\Chg [] w wr/\wr.heap[w.heap.size]?=some (.cells #[.int .i64 (T.map m).kind,.int .i64 (T.map m).num,.string (T.map m).txt,.slice A3 (T.map m).keys.length q3,.slice A4 (T.map m).vals.length q4] 32)/\∃ Fm,Own wr (.map (m.take n)) (.iface 50 (.map (some (w.heap.size+1)))) Fm/\Fm.Nodup/\∀ b∈Fm,w.heap.size+1<=b)
 case atStart=>
  refine ⟨0,Nat.zero_le _,by omega,rfl,((Chg.refl [] w).al _).al _,heap_al1 w _ _,[w.heap.size+1],?_,by simp,fun b hb=>by simp at hb; omega⟩;have hm:=MapAt.new (w.alloc (.cells #[.int .i64 (T.map m).kind,.int .i64 (T.map m).num,.string (T.map m).txt,.slice A3 (T.map m).keys.length q3,.slice A4 (T.map m).vals.length q4] 32))
  have hsz1:(w.alloc (.cells #[.int .i64 (T.map m).kind,.int .i64 (T.map m).num,.string (T.map m).txt,.slice A3 (T.map m).keys.length q3,.slice A4 (T.map m).vals.length q4] 32)).heap.size=w.heap.size+1:=by simp
  rw [hsz1] at hm;simp only [List.take_zero,Own];exact ⟨_,[],[],rfl,hm,rfl,rfl,rfl⟩
 case round=>
  obtain ⟨n,hn,rfl,rfl,hcr,z1,hom⟩:=hrel;have HOM:=Lib.hid hom;clear hom;have hszr:w.heap.size < wr.heap.size:=(Array.getElem?_eq_some_iff.1 z1).1;obtain ⟨a0,a1,a2,a3,a4,af⟩:=cells5 z1
  by_cases hlt:n < m.length
  ·have hlk:n < (T.map m).keys.length:=by rw [HKL.out.1]; exact hlt
   have hlv:n < (T.map m).vals.length:=by rw [HKL.out.2]; exact hlt
   obtain ⟨q,hq⟩ : ∃ q,m[n]?=some q:=⟨_,List.getElem?_eq_getElem hlt⟩
   obtain ⟨k,x⟩:=q;obtain ⟨gk,ck,ek,hgk,yk⟩:=hk.elem (n:=n) (s:=k) (by simp [T.keys,hq])
   have hxv:(T.map m).vals[n]?=some x:=by simp [T.vals,hq]
   obtain ⟨ge,ce,A5,q5,A6,q6,ee,hge,rx,ye⟩:=hv.elem hxv
   cases ek
   cases ee
   have hxs:=T.sizeL_at hxv;have hts:=T.size_vals (.map m);have YK:=Lib.hid yk;have YE:=Lib.hid ye;have HRX:=Lib.hid rx;have HXM:=Lib.hid hq;clear yk ye rx hq hxv
   go_wp2_with fail
   rename_i K hK;have HK:=Lib.hid hK;clear hK a0 a1 a2 a3 a4 af
   refine wp_region_tail (by rfl) (by kernel_rfl) [1,3,4] (by kernel_rfl)
    (fun j u V=>match j with
     | 0=>u=.map (some (w.heap.size+1))
     | 1=>u=.pointer (some ⟨w.heap.size,3,none⟩)
     | 2=>u=.slice (some ⟨gk,0,none⟩) (T.map m).keys.length q3
     | 3=>u=.int .i64 ↑n
     | 4=>u=.pointer (some ⟨gk,n,none⟩)
     | 5=>u=.string k
     | 6=>u=.pointer (some ⟨w.heap.size,4,none⟩)
     | 7=>u=.slice (some ⟨ge,0,none⟩) (T.map m).vals.length q4
     | 8=>u=.int .i64 ↑n
     | 9=>u=.pointer (some ⟨ge,n * 5,none⟩)
     | 10=>u=.agg #[.int .i64 x.kind,.int .i64 x.num,.string x.txt,.slice A5 x.keys.length q5,.slice A6 x.vals.length q6]
     | 11=>∃ Fv,Own V x u Fv/\Fv.Nodup/\∀ b∈Fv,wr.heap.size<=b
     | _=>True) ?_ ?_ ?_
   ·intro j u V V' hc hφ
    rcases j with _ | _ | _ | _ | _ | _ | _ | _ | _ | _ | _ | _ | j
    all_goals first | exact hφ | (obtain ⟨Fv,h1,h2,h3⟩:=hφ; exact ⟨Fv,h1.frame fun b hb=>hc.block b (h1.lt b hb) (by simp),h2,h3⟩)
   ·intro j oo hj ho a' w' hst hch hdep K2 hK2
    have hsz:wr.heap.size<=w'.heap.size:=hch.size;have hcB:Chg [] wr w':=(Chg.refl [] wr).dr.trans hch New.nil;have hcrw:=hcr.trans hcB New.nil;obtain ⟨b0,b1,b2,b3,b4,bf⟩:=cells5 (box5 z1 _ hcB);have yk:=YK.out _ hcrw;obtain ⟨y0,y1,y2,y3,y4⟩:=YE.out _ hcrw;have hj':j < 12:=hj;rcases j with _ | _ | _ | _ | _ | _ | _ | _ | _ | _ | _ | _ | j
    ·obtain rfl:_=oo:=Option.some.inj ho
     have h3:=g_eq (t:=3) (v:=.map (some (w.heap.size+1))) (hst 3 (by simp));unfold Oper.wp;go_simp;exact ⟨_,rfl,hK2 _ _ (Chg.refl _ _) rfl⟩
    ·obtain rfl:_=oo:=Option.some.inj ho
     have h1:=g_eq (t:=1) (v:=.pointer (some ⟨w.heap.size,0,none⟩)) (hst 1 (by simp));unfold Oper.wp;go_simp;exact ⟨_,rfl,hK2 _ _ (Chg.refl _ _) rfl⟩
    ·obtain rfl:_=oo:=Option.some.inj ho
     have h24:=g_eq (t:=24) (v:=.pointer (some ⟨w.heap.size,3,none⟩)) (hdep 1 (by kernel_rfl));unfold Oper.wp;go_simp;exact ⟨_,rfl,hK2 _ _ (Chg.refl _ _) rfl⟩
    ·obtain rfl:_=oo:=Option.some.inj ho
     have h4:=g_eq (t:=4) (v:=.int .i64 ↑n) (hst 4 (by simp));unfold Oper.wp;go_simp;exact ⟨_,rfl,hK2 _ _ (Chg.refl _ _) rfl⟩
    ·obtain rfl:_=oo:=Option.some.inj ho
     have h25:=g_eq (t:=25) (v:=.slice (some ⟨gk,0,none⟩) (T.map m).keys.length q3) (hdep 2 (by kernel_rfl));have h26:=g_eq (t:=26) (v:=.int .i64 ↑n) (hdep 3 (by kernel_rfl));unfold Oper.wp;go_simp;exact ⟨_,rfl,hK2 _ _ (Chg.refl _ _) rfl⟩
    ·obtain rfl:_=oo:=Option.some.inj ho
     have h27:=g_eq (t:=27) (v:=.pointer (some ⟨gk,n,none⟩)) (hdep 4 (by kernel_rfl));unfold Oper.wp;go_simp;exact ⟨_,rfl,hK2 _ _ (Chg.refl _ _) rfl⟩
    ·obtain rfl:_=oo:=Option.some.inj ho
     have h1:=g_eq (t:=1) (v:=.pointer (some ⟨w.heap.size,0,none⟩)) (hst 1 (by simp));unfold Oper.wp;go_simp;exact ⟨_,rfl,hK2 _ _ (Chg.refl _ _) rfl⟩
    ·obtain rfl:_=oo:=Option.some.inj ho
     have h29:=g_eq (t:=29) (v:=.pointer (some ⟨w.heap.size,4,none⟩)) (hdep 6 (by kernel_rfl));unfold Oper.wp;go_simp;exact ⟨_,rfl,hK2 _ _ (Chg.refl _ _) rfl⟩
    ·obtain rfl:_=oo:=Option.some.inj ho
     have h4:=g_eq (t:=4) (v:=.int .i64 ↑n) (hst 4 (by simp));unfold Oper.wp;go_simp;exact ⟨_,rfl,hK2 _ _ (Chg.refl _ _) rfl⟩
    ·obtain rfl:_=oo:=Option.some.inj ho
     have h30:=g_eq (t:=30) (v:=.slice (some ⟨ge,0,none⟩) (T.map m).vals.length q4) (hdep 7 (by kernel_rfl));have h31:=g_eq (t:=31) (v:=.int .i64 ↑n) (hdep 8 (by kernel_rfl));unfold Oper.wp;go_simp;exact ⟨_,rfl,hK2 _ _ (Chg.refl _ _) rfl⟩
    ·obtain rfl:_=oo:=Option.some.inj ho
     have h32:=g_eq (t:=32) (v:=.pointer (some ⟨ge,n * 5,none⟩)) (hdep 9 (by kernel_rfl));unfold Oper.wp;go_simp;exact ⟨_,rfl,hK2 _ _ (Chg.refl _ _) rfl⟩
    ·obtain rfl:_=oo:=Option.some.inj ho
     have h33:=g_eq (t:=33) (v:=.agg #[.int .i64 x.kind,.int .i64 x.num,.string x.txt,.slice A5 x.keys.length q5,.slice A6 x.vals.length q6]) (hdep 10 (by kernel_rfl));unfold Oper.wp;go_simp;refine (ih x _ w' (by omega) (WFM_iff.1 HWM.out _ (List.mem_of_getElem? HXM.out)).2 (HRX.out.chg hcrw)).mono ?_;rintro e w3 ⟨a,Fv,rfl,hc3,ho3,hn3,hb3⟩;exact ⟨_,rfl,hK2 _ _ hc3 ⟨Fv,ho3,hn3,fun b hb=>Nat.le_trans hsz (hb3 b hb)⟩⟩
    ·omega
   ·intro oo ho u w' hch hφ A2 hA2
    obtain rfl:_=oo:=Option.some.inj ho
    have l11:11 < 12:=by omega
    have hu0:u 0=.map (some (w.heap.size+1)):=hφ 0 (Nat.lt_trans (by decide:0 < 11) l11);have hu5:u 5=.string k:=hφ 5 (Nat.lt_trans (by decide:5 < 11) l11);obtain ⟨Fv,hov,hnv2,hbv⟩ : ∃ Fv,Own w' x (u 11) Fv/\Fv.Nodup/\∀ b∈Fv,wr.heap.size<=b:=hφ 11 l11;have hcB:Chg [] wr w':=(Chg.refl [] wr).dr.trans hch New.nil;have hcrw:=hcr.trans hcB New.nil;obtain ⟨Fm,hom,hnm,hbm⟩:=HOM.out
    have hom2:=hom.frame (w':=w') fun b hb=>hcB.block b (hom.lt b hb) (by simp)
    obtain ⟨W3,F',hrun,ho3,hn3,hF',hon,hdr⟩:=Own.store (P:=Tryz.prog) (K:=9) (E:=20) (ty:=50) (k:=k) (by kernel_rfl) (by kernel_rfl) hom2 HS.out.take hov (List.nodup_append.2 ⟨hnm,hnv2,fun a ha b hb e=>by
     have:=hom.lt a ha;have:=hbv b hb
     omega⟩)
    rw [ins_takeP HS.out HXM.out] at ho3
    have hc3:Chg [] w W3:=⟨hon.os.trans hcrw.os,hon.tape.trans hcrw.tape,hon.output.trans hcrw.output,(by rw [hon.size]; exact hcrw.size),fun i hi _=>(hon.block i (by omega)).trans (hcrw.block i hi (by simp))⟩
    have z3:=(hon.block w.heap.size (by omega)).trans (box5 z1 _ hcB);have HO3:=Lib.hid (And.intro ho3 (And.intro hn3 hF'));simp [putAll,dOf,Act.put,hu0,hu5] at hA2;subst hA2;clear hφ l11 ho hu0 hu5 hch hom2 ho3 hn3 hF';unfold Oper.wp;simp [execOp,Act.eval,hrun,Result.andThen];refine HK.out _ _ ?_;clear HK
    go_wp2_with fail
    go_roundg (m.length - (n+1))
    case measure=>omega
    case rel=>
     refine ⟨n+1,by omega,rfl,by go_num,hc3,z3,?_⟩;obtain ⟨h1,h2,h3⟩:=HO3.out
     exact ⟨_,h1,h2,fun y hy=>by
      rcases List.mem_cons.1 hy with rfl | hy
      ·omega
      ·rcases h3 y hy with h | h
       ·exact hbm y h
       ·have:=hbv y h
        omega⟩
  ·have hlk:¬ n < (T.map m).keys.length:=by rw [HKL.out.1]; exact hlt
   have hE:n=m.length:=by omega
   have HE:=Lib.hid hE;clear hE
   go_wp2_with fail
   go_ret
   obtain ⟨Fm,h1,h2,h3⟩:=HOM.out;rw [HE.out,List.take_length] at h1;exact ⟨_,Fm,rfl,hcr,h1,h2,fun x hx=>by have:=h3 x hx; omega⟩
end Go.Proofs.YtpofkokbmifhgaaGreatDoor
namespace Go.Proofs.YtpofkokbmifhgaaGreatDoor
open Go.RowKit
variable {o:Nat->Prop}
theorem OwnL.snoc {w:World} {t:T} {v:Value} {Fv:List Nat} (hv:Own w t v Fv):∀ {l:List T} {cs:List Value} {F:List Nat},OwnL w l cs F->OwnL w (l++[t]) (cs++[v]) (F++Fv)
 | [],cs,F,h=>by
  simp only [OwnL] at h;obtain ⟨rfl,rfl⟩:=h;simp only [List.nil_append,OwnL];exact ⟨v,[],Fv,[],rfl,hv,⟨rfl,rfl⟩,by simp⟩
 | x :: l,cs,F,h=>by
  simp only [OwnL] at h;obtain ⟨v',r,F1,F2,rfl,h1,h2,rfl⟩:=h;simp only [List.cons_append,OwnL];exact ⟨v',r++[v],F1,F2++Fv,rfl,h1,h2.snoc hv,by rw [List.append_assoc]⟩
theorem Own.shape {w:World} {t:T} {v:Value} {F:List Nat} (h:Own w t v F):v=.nilIface∨∃ ty u,v=.iface ty u:=by
 cases t
 all_goals simp only [Own] at h
 case null=>exact .inl h.1
 case bool=>exact .inr ⟨_,_,h.1⟩
 case int=>exact .inr ⟨_,_,h.1⟩
 case text=>exact .inr ⟨_,_,h.1⟩
 case list=>obtain ⟨_,_,_,_,h,_⟩:=h; exact .inr ⟨_,_,h⟩
 case map=>obtain ⟨_,_,_,h,_⟩:=h; exact .inr ⟨_,_,h⟩
theorem take_set {cur:Array Value} {n:Nat} (h:n < cur.size) (a:Value):(cur.setIfInBounds n a).toList.take (n+1)=cur.toList.take n++[a]:=by
 rw [Array.toList_setIfInBounds,List.take_add_one,List.take_set_of_le (Nat.le_refl n)];simp [h]
theorem iA:(Tryz.prog.info? 20).map (fun i=>(i.zero,i.size,i.bytes))=some (some .nilIface,1,16):=by kernel_rfl
theorem toAny_any {B:Nat} (nn:Nat):∀ (t:T) (v:Value) (w:World),T.size t<=nn->nn<=67108864->WF B t->Rd o w t v->Calls Tryz.prog 54 #[v] w (AnyR w t):=by
 induction nn with
 | zero=>exact fun t _ _ hn=>absurd hn (by have:=T.size_pos t; omega)
 | succ nn ih=>
 intro t v w hn hb hw h
 cases t with
 | null=>
  obtain ⟨ka,va,rfl,hk,hv⟩:=h.open;simp only [T.kind,T.num,T.txt];clear h
  go_enter Tryz.func54,Tryz.ntmps54
  go_wp2
  go_ret
  exact ⟨_,[],rfl,(Chg.refl [] w).al _,ownNull _,by simp,by simp⟩
 | bool b=>
  obtain ⟨ka,va,rfl,hk,hv⟩:=h.open;simp only [T.kind,T.num,T.txt];clear h
  go_enter Tryz.func54,Tryz.ntmps54
  cases b
  all_goals
   go_wp2
   go_ret
   exact ⟨_,[],rfl,(Chg.refl [] w).al _,ownBool _ _,by simp,by simp⟩
 | int n=>
  obtain ⟨ka,va,rfl,hk,hv⟩:=h.open;simp only [T.kind,T.num,T.txt];clear h
  go_enter Tryz.func54,Tryz.ntmps54
  go_wp2
  go_ret
  exact ⟨_,[],rfl,(Chg.refl [] w).al _,ownInt _ _,by simp,by simp⟩
 | text s=>
  obtain ⟨ka,va,rfl,hk,hv⟩:=h.open;simp only [T.kind,T.num,T.txt];clear h
  go_enter Tryz.func54,Tryz.ntmps54
  go_wp2
  go_ret
  exact ⟨_,[],rfl,(Chg.refl [] w).al _,ownText _ _,by simp,by simp⟩
 | map m=>
  have HM:Hid (∀ W,Chg [] w W->Calls Tryz.prog 33 #[v] W fun e w'=>∃ b F,e=.returned (.map (some b))/\Chg [] W w'/\Own w' (.map m) (.iface 50 (.map (some b))) F/\F.Nodup/\∀ x∈F,W.heap.size<=x):=
   Lib.hid fun W hc=>toMap_step (o:=o) nn (fun t v w h1 h2 h3=>ih t v w h1 (by omega) h2 h3) m v W hn (h.chg hc) hw (by omega)
  obtain ⟨A3,q3,A4,q4,rfl,hk,hv⟩:=h.five;have k1:((T.map m).kind == 1)=false:=rfl;have k2:((T.map m).kind == 2)=false:=rfl;have k3:((T.map m).kind == 3)=false:=rfl;have k4:((T.map m).kind == 4)=false:=rfl;have k5:((T.map m).kind == 5)=true:=rfl;clear ih h
  go_enter Tryz.func54,Tryz.ntmps54
  go_wp2_with fail
  refine (HM.out _ ((Chg.refl [] w).al _)).mono ?_;rintro e w1 ⟨b,F,rfl,hc,ho,hn2,hF⟩
  go_wp2
  go_ret
  exact ⟨_,F,rfl,((Chg.refl [] w).al _).trans hc New.nil,ho,hn2,fun x hx=>by have:=hF x hx; simp at this; omega⟩
 | list l=>
  obtain ⟨A3,q3,A4,q4,rfl,hk,hv⟩:=h.five;have k1:((T.list l).kind == 1)=false:=rfl;have k2:((T.list l).kind == 2)=false:=rfl;have k3:((T.list l).kind == 3)=false:=rfl;have k4:((T.list l).kind == 4)=true:=rfl;have hvl:=T.vals_len (.list l)
  have hll:(T.list l).vals.length<=67108864:=by omega
  obtain ⟨i0,hi,hzz⟩:=Option.map_eq_some_iff.1 iA;simp only [Prod.mk.injEq] at hzz;obtain ⟨hz0,hs0,hb0⟩:=hzz;obtain ⟨w1,hmk,hown,hgr⟩:=run_make_full (P:=Tryz.prog) (w:=w.alloc (.cells #[.int .i64 (T.list l).kind,.int .i64 (T.list l).num,.string (T.list l).txt,.slice A3 (T.list l).keys.length q3,.slice A4 (T.list l).vals.length q4] 32)) 0 76 20 i0 .nilIface 1 uL hi hz0 hs0 .i64 .i64 (T.list l).vals.length (by rw [hb0]; omega) (by unfold maxLen; omega) (Nat.zero_le _)
  have hsz1:(w.alloc (.cells #[.int .i64 (T.list l).kind,.int .i64 (T.list l).num,.string (T.list l).txt,.slice A3 (T.list l).keys.length q3,.slice A4 (T.list l).vals.length q4] 32)).heap.size=w.heap.size+1:=by simp
  rw [hsz1] at hmk hown
  have hc1:=(Chg.of_grown hgr)
  have hcw:Chg [] w w1:=((Chg.refl [] w).al _).trans (hc1.mono (by simp)) New.nil;have z1:w1.heap[w.heap.size]?=some (.cells #[.int .i64 (T.list l).kind,.int .i64 (T.list l).num,.string (T.list l).txt,.slice A3 (T.list l).keys.length q3,.slice A4 (T.list l).vals.length q4] 32):=(hc1.block _ (by simp) (by simp)).trans (heap_alloc_new _ _)
  obtain ⟨cur,hcur,hcs⟩ : ∃ cur,w1.heap[w.heap.size+1]?=some (.cells cur 20)/\cur.size=(T.list l).vals.length:=by
   rcases hown.2 with ⟨h',_⟩ | ⟨g',cap',cur,h',hb',hh,hcc,hmm,hsz,htk⟩
   ·cases h'
   ·cases h'
    exact ⟨cur,hh,by simpa using hsz⟩
  obtain ⟨c0,c1,c2,c3,c4,cf⟩:=cells5 z1;have HMK:=Lib.hid (And.intro hcw (And.intro z1 (And.intro hcur hcs)));clear hi hz0 hs0 hb0 hown hgr hc1 hcw z1 hcur hcs hsz1
  go_enter Tryz.func54,Tryz.ntmps54
  go_wp2_with fail
  go_loopg [32] (T.list l).vals.length (fun g i wr=>∃ (n:Nat) (cur:Array Value) (F:List Nat),n<=(T.list l).vals.length/\g=(T.list l).vals.length - n/\i=.int .i64 n/\Chg [] w wr/\wr.heap[w.heap.size]?=some (.cells #[.int .i64 (T.list l).kind,.int .i64 (T.list l).num,.string (T.list l).txt,.slice A3 (T.list l).keys.length q3,.slice A4 (T.list l).vals.length q4] 32) /\
   wr.heap[w.heap.size+1]?=some (.cells cur 20)/\cur.size=(T.list l).vals.length/\OwnL wr ((T.list l).vals.take n) (cur.toList.take n) F/\F.Nodup/\∀ b∈F,w.heap.size+2<=b)
  case atStart=>
   obtain ⟨h1,h2,h3,h4⟩:=HMK.out;exact ⟨0,cur,[],Nat.zero_le _,by omega,rfl,h1,h2,h3,h4,by simp [OwnL],by simp,by simp⟩
  case round=>
   obtain ⟨n,cur,F,hn',rfl,rfl,hcr,z1,hcur,hcs,hol,hnd,hFb⟩:=hrel;have HOL:=Lib.hid (And.intro hol (And.intro hnd hFb));obtain ⟨a0,a1,a2,a3,a4,af⟩:=cells5 z1;have hgs:w.heap.size+1 < wr.heap.size:=(Array.getElem?_eq_some_iff.1 hcur).1;clear hol hnd hFb hmk c0 c1 c2 c3 c4 cf
   by_cases hlt:n < (T.list l).vals.length
   ·obtain ⟨x,hx⟩ : ∃ x,(T.list l).vals[n]?=some x:=⟨_,List.getElem?_eq_getElem hlt⟩
    obtain ⟨ge,ce,A5,q5,A6,q6,ee,hge,rx,ye⟩:=hv.elem hx
    cases ee
    have hxs:=T.sizeL_at hx;have hts:=T.size_vals (.list l);have HX:=Lib.hid hx;have hwx:=hw.vals x (List.mem_of_getElem? hx);obtain ⟨y0,y1,y2,y3,y4⟩:=ye _ hcr;have HRX:=Lib.hid rx;clear rx ye hx
    go_wp2_with fail
    refine (ih x _ wr (by omega) (by omega) hwx (HRX.out.chg hcr)).mono ?_;rintro e w3 ⟨a,Fv,rfl,hc3,ho3,hn3,hb3⟩;have z3:=box5 z1 _ hc3;have hcur3:=(hc3.block _ hgs (by simp)).trans hcur;have hcell:w3.cell? ⟨w.heap.size+1,n,none⟩=cur[n]?:=cell_of_row w3 _ n _ _ (0,0) hcur3;rw [Array.getElem?_eq_getElem (by omega)] at hcell;have hfr:w3.frozen? ⟨w.heap.size+1,n,none⟩=false:=frozen_of_row w3 _ n _ _ hcur3;have ho3s:=ho3.shape;have hc3s:=hc3.size;have HO3:=Lib.hid (And.intro ho3 (And.intro hn3 hb3));have HC3:=Lib.hid (And.intro (hcr.trans hc3 New.nil) (And.intro z3 (And.intro hcur3 hc3)));clear ho3 hn3 hb3 hc3 z3 hcur3 y0 y1 y2 y3 y4 a0 a1 a2 a3 a4 af
    have hz:w3.heap.size > w.heap.size+1:=by have:=hc3s; omega
    clear hc3s
    rcases ho3s with rfl | ⟨ty,u,rfl⟩
    all_goals
     go_wp2_with fail
     obtain ⟨hcw3,z3,hcur3,hc3⟩:=HC3.out;obtain ⟨ho3,hn3,hb3⟩:=HO3.out;obtain ⟨hol,hnd,hFb⟩:=HOL.out
     go_roundg ((T.list l).vals.length - (n+1))
     case measure=>omega
     case rel=>
      have hne:∀ v b,b≠w.heap.size+1->(w3.setCell ⟨w.heap.size+1,n,none⟩ v).heap[b]?=w3.heap[b]?:=fun v b hb=>heap_setCell_other _ _ _ _ hb
      have hcn:n < cur.size:=by omega
      refine ⟨n+1,_,F++Fv,by omega,rfl,by go_num,hcw3.st (by show w.heap.size<=w.heap.size+1; omega) _,(hne _ _ (by omega)).trans z3,heap_setCell_same _ _ n _ _ _ hcur3,by simpa using hcs,?_,?_,?_⟩
      ·rw [take_snoc HX.out,take_set hcn]
       refine OwnL.snoc (ho3.frame fun b hb=>hne _ b (by have:=hb3 b hb; omega)) ?_
       exact hol.frame fun b hb=>(hne _ b (by have:=hFb b hb; omega)).trans (hc3.block b (hol.lt b hb) (by simp))
      ·exact List.nodup_append.2 ⟨hnd,hn3,fun a ha b hb e=>by
        have:=hol.lt a ha;have:=hb3 b hb
        omega⟩
      ·intro b hb
       rcases List.mem_append.1 hb with h | h
       ·exact hFb b h
       ·have:=hb3 b h
        omega
   ·have hE:n=(T.list l).vals.length:=by omega
    have HE:=Lib.hid hE;clear hE
    go_wp2_with fail
    go_ret
    obtain ⟨hol,hnd,hFb⟩:=HOL.out;have hE:=HE.out;rw [hE,List.take_length] at hol
    have hct:cur.toList.take (T.list l).vals.length=cur.toList:=by rw [<- hcs,<- Array.length_toList,List.take_length]
    rw [hct] at hol;refine ⟨_,(w.heap.size+1) :: F,rfl,hcr,?_,?_,?_⟩
    ·simp only [Own]
     have hl1:(T.list l).vals.length=l.length:=rfl;rw [hl1] at hcs hct hll;exact ⟨w.heap.size+1,_,cur.toList,F,rfl,⟨by rw [Array.length_toList,Nat.mul_one]; exact hcs,.inr ⟨w.heap.size+1,_,cur,rfl,by omega,hcur,Nat.le_refl _,(by unfold maxLen; omega),by rw [Nat.mul_one]; exact hcs,by rw [Nat.mul_one]; exact hct⟩⟩,hol,rfl⟩
    ·exact List.nodup_cons.2 ⟨fun h=>by have:=hFb _ h; omega,hnd⟩
    ·intro b hb
     rcases List.mem_cons.1 hb with rfl | h
     ·omega
     ·have:=hFb _ h
      omega
end Go.Proofs.YtpofkokbmifhgaaGreatDoor
