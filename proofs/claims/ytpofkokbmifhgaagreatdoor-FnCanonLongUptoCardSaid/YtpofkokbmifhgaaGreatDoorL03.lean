/- Parts of the walk, made small by wip/tools/pack.py: Copy, Insert. No condition but those in each statement. -/
import Derived.Test.YtpofkokbmifhgaaGreatDoorL02
import Derived.Maps.AppendAt
set_option maxRecDepth 100000
set_option maxHeartbeats 20000000
set_option linter.unusedVariables false
set_option linter.unusedSimpArgs false
namespace Go.Proofs.YtpofkokbmifhgaaGreatDoor
open Go.RowKit
variable {o:Nat->Prop}
theorem uKs:Tryz.prog.underlying 22=some (.slice 9):=by kernel_rfl
theorem uVs:Tryz.prog.underlying 23=some (.slice 25):=by kernel_rfl
theorem uWs:Tryz.prog.underlying 30=some (.slice 32):=by kernel_rfl
theorem iS:(Tryz.prog.info? 9).map (fun i=>(i.zero,i.size,i.bytes))=some (some (.string ⟨#[]⟩),1,16):=by kernel_rfl
theorem iV:(Tryz.prog.info? 25).map (fun i=>(i.zero,i.size,i.bytes))=some (some (.agg #[.int .i64 0,.int .i64 0,.string ⟨#[]⟩,.slice none 0 0,.slice none 0 0]),5,80):=by kernel_rfl
theorem iW:(Tryz.prog.info? 32).map (fun i=>(i.zero,i.size,i.bytes))=some (some (.agg #[.int .i64 0,.int .i64 0,.string ⟨#[]⟩,.slice none 0 0,.slice none 0 0]),5,80):=by kernel_rfl
theorem strC_one (ks:List ByteArray):∀ u∈strC ks,u.oneCell'=true:=by
 intro u hu
 simp only [strC,List.mem_map] at hu;obtain ⟨s,_,rfl⟩:=hu
 rfl
theorem Rd.one {w:World} {t:T} {v:Value} (h:Rd o w t v):∀ u∈v.cells.toList,u.oneCell'=true:=by
 obtain ⟨A3,q3,A4,q4,rfl,_⟩:=h.five
 intro u hu
 simp only [Value.cells,List.mem_cons,List.mem_nil_iff,or_false] at hu
 rcases hu with rfl | rfl | rfl | rfl | rfl <;> rfl
theorem FlatV.one {w:World}:∀ {l:List T} {xs:List Value},FlatV o w l xs->∀ u∈xs,u.oneCell'=true
 | [],xs,h=>by simp only [FlatV] at h; subst h; intro u hu; cases hu
 | t :: l,xs,h=>by
  simp only [FlatV] at h;obtain ⟨v,ys,hv,rfl,hy⟩:=h
  intro u hu
  rcases List.mem_append.1 hu with hu | hu
  ·exact hv.one u hu
  ·exact hy.one u hu
theorem RdL.flat {w:World} {g:Nat}:∀ {l:List T} {j:Nat},RdL o w g l j->∃ xs,FlatV o w l xs/\∀ i u,xs[i]?=some u->w.cell? ⟨g,j * 5+i,none⟩=some u
 | [],j,_=>⟨[],by simp [FlatV],fun i u h=>by simp at h⟩
 | t :: l,j,h=>by
  simp only [RdL] at h;obtain ⟨⟨v,hv,hc⟩,hl⟩:=h
  obtain ⟨ys,hy,hcy⟩:=hl.flat
  have h5:=hv.size;refine ⟨v.cells.toList++ys,by simp only [FlatV]; exact ⟨v,ys,hv,rfl,hy⟩,fun i u hu=>?_⟩;rcases Nat.lt_or_ge i 5 with hi | hi
  ·rw [List.getElem?_append_left (by omega)] at hu
   exact hc i u (by simpa using hu)
  ·rw [List.getElem?_append_right (by omega),h5] at hu
   have:=hcy (i - 5) u hu
   rwa [show (j+1) * 5+(i - 5)=j * 5+i by omega] at this
section
variable {P:Program} {w:World}
theorem run_append_full (base:Nat) (t ty e:TypeId) (z:Value) (size bytes:Nat) (ht:P.underlying t=some (.slice e)) (hinfo:(P.info? e).map (fun i=>(i.zero,i.size,i.bytes))=some (some z,size,bytes)) (hzs:z.cells.size=size)
  (g n:Nat) (xs:List Value) (hown:w.ownsRow base e size (.slice (some ⟨g,0,none⟩) n n) n xs) (A:Option Addr) (m c:Nat) (news:List Value) (hl:news.length=m * size) (hA:0 < m->∃ a,A=some a/\∀ j u,news[j]?=some u->w.cell? (a.add j)=some u)
  (hbytes:(n+m) * bytes<=140737488355328) (hm:n+m<=140737488355328) :
  ∃ v' w',(Builtin.append_ #[t,t] ty #[.slice (some ⟨g,0,none⟩) n n,.slice A m c]).run P w=.ok v' w'/\w'.ownsRow base e size v' (n+m) (xs++news)/\Chg [] w w'/\∃ g' c',v'=.slice (some ⟨g',0,none⟩) (n+m) c'/\g' < w'.heap.size/\(g'=g∨w.heap.size<=g'):=by
 obtain ⟨i0,hi,hzz⟩:=Option.map_eq_some_iff.1 hinfo;simp only [Prod.mk.injEq] at hzz;obtain ⟨hz0,rfl,rfl⟩:=hzz
 have hb:base<=w.heap.size:=by
  have:=hown.lt g rfl
  omega
 by_cases h0:m=0
 ·subst h0
  have:news=[]:=List.eq_nil_of_length_eq_zero (by simpa using hl);subst this;refine ⟨.slice (some ⟨g,0,none⟩) n n,w,?_,by simpa using hown,Chg.refl _ _,_,_,rfl,(hown.lt g rfl).2,.inl rfl⟩
  cases A <;> simp [Builtin.append_,run_underlying ht,sizeOf,typeInfo,hi,Builtin.lenOf,Builtin.firstCells,loadCells,loadCellsFrom,storeCells]
 ·obtain ⟨a,rfl,hc⟩:=hA (by omega)
  have hr:=run_append_grow (P:=P) w t ty e i0 z ht hi hz0 ⟨g,0,none⟩ n n xs hown.1 (hown.cells (g:=g) rfl) a m c news hl hc (by omega) (by omega) (growslice_fits (by omega) hbytes);have hge:=grownCap_ge w (n+m) n e;have hcm:grownCap w (n+m) n e<=maxLen:=grownCap_le_maxLen w (n+m) n e (by simp only [maxLen]; omega);refine ⟨_,_,hr,?_,(Chg.refl [] w).dr.al _,w.heap.size,grownCap w (n+m) n e,rfl,by simp,.inr (Nat.le_refl _)⟩
  have hlen:(xs++news).length=(n+m) * i0.size:=by rw [List.length_append,hown.1,hl,Nat.add_mul]
  refine ⟨hlen,.inr ⟨w.heap.size,_,_,rfl,hb,heap_alloc_new w.drew _,hge,hcm,?_,?_⟩⟩
  ·simp only [Array.size_append,List.size_toArray,size_zeroCells,hzs,hown.1,hl,<- Nat.add_mul]
   congr 1
   omega
  ·simp only [Array.toList_append,List.append_assoc]
   rw [<- List.append_assoc,<- hlen];exact List.take_left
theorem run_append_copy (base:Nat) (t ty e:TypeId) (z:Value) (size bytes:Nat) (ht:P.underlying t=some (.slice e)) (hinfo:(P.info? e).map (fun i=>(i.zero,i.size,i.bytes))=some (some z,size,bytes)) (hzs:z.cells.size=size)
  (g:Nat) (hown:w.ownsRow base e size (.slice (some ⟨g,0,none⟩) 0 0) 0 []) (A:Option Addr) (m c:Nat) (news:List Value) (hl:news.length=m * size) (hA:0 < m->∃ b,A=some ⟨b,0,none⟩/\∀ j u,news[j]?=some u->w.cell? ⟨b,j,none⟩=some u)
  (hbytes:m * bytes<=140737488355328) (hm:m<=140737488355328) :
  ∃ v' w',(Builtin.append_ #[t,t] ty #[.slice (some ⟨g,0,none⟩) 0 0,.slice A m c]).run P w=.ok v' w'/\w'.ownsRow base e size v' m news/\Chg [] w w'/\∃ g' c',v'=.slice (some ⟨g',0,none⟩) m c'/\g' < w'.heap.size/\(g'=g∨w.heap.size<=g'):=by
 obtain ⟨v',w',hr,ho,hc,g',c',hv,h1,h2⟩:=run_append_full (P:=P) (w:=w) base t ty e z size bytes ht hinfo hzs g 0 [] hown A m c news hl (fun h=>by
  obtain ⟨b,hb,hcc⟩:=hA h;refine ⟨_,hb,fun j u hu=>?_⟩
  have:(⟨b,0,none⟩ : Addr).add j=⟨b,j,none⟩:=by unfold Addr.add; split <;> simp_all
  rw [this]
  exact hcc j u hu) (by rw [Nat.zero_add]; exact hbytes) (by rw [Nat.zero_add]; exact hm)
 rw [Nat.zero_add] at ho hv;rw [List.nil_append] at ho;exact ⟨v',w',hr,ho,hc,g',c',hv,h1,h2⟩
theorem Chg.of_grown {w w':World} {row:Option Nat} (h:w.grownBy w' row):Chg row.toList w w':=
 ⟨h.os,h.tape,h.output,h.size,fun k hk hn=>h.block k hk (fun e=>hn (by simp [<- e]))⟩
theorem run_app (base:Nat) (t ty e:TypeId) (z:Value) (size bytes:Nat) (ht:P.underlying t=some (.slice e)) (hinfo:(P.info? e).map (fun i=>(i.zero,i.size,i.bytes))=some (some z,size,bytes)) (hzs:z.cells.size=size) (hsz:0 < size)
  (v:Value) (n:Nat) (xs:List Value) (hown:w.ownsRow base e size v n xs) (A:Option Addr) (m c:Nat) (news:List Value) (hl:news.length=m * size) (hA:0 < m->∃ a,A=some a/\∀ j u,news[j]?=some u->w.cell? (a.add j)=some u) (h1:∀ u∈news,u.oneCell'=true)
  (hbytes:(n+m) * bytes<=140737488355328) (hm:n+m<=140737488355328) (hbase:base<=w.heap.size) :
  ∃ v' w',(Builtin.append_ #[t,t] ty #[v,.slice A m c]).run P w=.ok v' w'/\w'.ownsRow base e size v' (n+m) (xs++news)/\Chg v.ownBlock.toList w w' /\
   ((v=.slice none 0 0/\m=0/\v'=.slice none 0 0)∨∃ g c',v'=.slice (some ⟨g,0,none⟩) (n+m) c'/\base<=g/\g < w'.heap.size/\(v.ownBlock=some g∨w.heap.size<=g)):=by
 obtain ⟨i0,hi,hzz⟩:=Option.map_eq_some_iff.1 hinfo;simp only [Prod.mk.injEq] at hzz;obtain ⟨hz0,hs0,hb0⟩:=hzz
 cases A with
 | none=>
  have h0:m=0:=by
   rcases Nat.eq_zero_or_pos m with h | h
   ·exact h
   ·obtain ⟨a,ha,_⟩:=hA h
    cases ha
  subst h0;have:news=[]:=List.eq_nil_of_length_eq_zero (by simpa using hl);subst this
  rcases hown.2 with ⟨rfl,rfl⟩ | ⟨g,cap,cur,rfl,hbg,hg,hnc,hrest⟩
  ·refine ⟨.slice none 0 0,w,?_,by simpa using hown,Chg.refl _ _,.inl ⟨rfl,rfl,rfl⟩⟩
   simp [Builtin.append_,run_underlying ht,sizeOf,typeInfo,hi,Builtin.lenOf,Builtin.firstCells]
  ·have hlt:=hown.lt g rfl
   refine ⟨.slice (some ⟨g,0,none⟩) n cap,w,?_,by simpa using hown,Chg.refl _ _,.inr ⟨g,cap,rfl,hlt.1,hlt.2,.inl rfl⟩⟩;simp [Builtin.append_,run_underlying ht,sizeOf,typeInfo,hi,Builtin.lenOf,Builtin.firstCells,hnc,storeCells]
 | some a=>
  have hc:∀ j u,news[j]?=some u->w.cell? (a.add j)=some u:=by
   intro j u hj
   have hpos:0 < m:=by
    rcases Nat.eq_zero_or_pos m with h | h
    ·subst h
     have:news=[]:=List.eq_nil_of_length_eq_zero (by simpa using hl);subst this;simp at hj
    ·exact h
   obtain ⟨a',ha,hc⟩:=hA hpos
   cases ha
   exact hc j u hj
  obtain ⟨v',w',hr,hown',hgr,hnil,hblk⟩:=run_append_own_at (P:=P) w base t ty e i0 z size bytes ht hi hz0 hs0 hb0 hzs hsz v n xs hown a m c news hl hc h1 (by simp only [maxLen]; omega) hbytes hbase;refine ⟨v',w',hr,hown',Chg.of_grown hgr,?_⟩
  rcases hown'.2 with ⟨rfl,hnm⟩ | ⟨g,cap,cur,rfl,hbg,hg,hnc,hrest⟩
  ·obtain ⟨hv,h0⟩:=hnil.1 rfl
   exact .inl ⟨hv,h0,rfl⟩
  ·have hlt:=hown'.lt g rfl
   refine .inr ⟨g,cap,rfl,hlt.1,hlt.2,?_⟩;rcases hblk with h | h
   ·exact .inl (h ▸ rfl)
   ·right
    have:some g=some w.heap.size:=h;rw [Option.some.inj this];exact Nat.le_refl _
theorem ownsRow_prefix {base e size g n cap i:Nat} {xs:List Value} (h:w.ownsRow base e size (.slice (some ⟨g,0,none⟩) n cap) n xs) (hi:i<=n) :
  w.ownsRow base e size (.slice (some ⟨g,0,none⟩) i cap) i (xs.take (i * size)):=by
 have hx:=h.1
 rcases h.2 with ⟨h',_⟩ | ⟨g',cap',cur,h',hb,hg,hnc,hcm,hcs,htake⟩
 ·cases h'
 ·cases h'
  have hle:i * size<=n * size:=Nat.mul_le_mul_right _ hi;refine ⟨by rw [List.length_take,hx]; omega,.inr ⟨g,cap,cur,rfl,hb,hg,by omega,hcm,hcs,?_⟩⟩;rw [<- htake,List.take_take]
  congr 1
  omega
theorem ownsRow_cap {base e size g n cap:Nat} {xs:List Value} (h:w.ownsRow base e size (.slice (some ⟨g,0,none⟩) n cap) n xs):n<=cap:=by
 rcases h.2 with ⟨h',_⟩ | ⟨g',cap',cur,h',hb,hg,hnc,hcm,hcs,htake⟩
 ·cases h'
 ·cases h'
  exact hnc
theorem ownsRow_suffix {base e size g n cap i:Nat} {xs:List Value} (h:w.ownsRow base e size (.slice (some ⟨g,0,none⟩) n cap) n xs) (hi:i<=n) :
  0 < n - i->∃ a,(if cap=i then some (⟨g,0,none⟩ : Addr) else some ⟨g,i * size,none⟩)=some a/\∀ j u,(xs.drop (i * size))[j]?=some u->w.cell? (a.add j)=some u:=by
 intro h0
 have hx:=h.1
 have hc:n<=cap:=by
  rcases h.2 with ⟨h',_⟩ | ⟨g',cap',cur,h',hb,hg,hnc,hcm,hcs,htake⟩
  ·cases h'
  ·cases h'
   exact hnc
 refine ⟨⟨g,i * size,none⟩,if_neg (by omega),fun j u hu=>?_⟩;rw [List.getElem?_drop] at hu
 have hj:i * size+j < n * size:=by rw [<- hx]; exact (List.getElem?_eq_some_iff.1 hu).1
 have:(⟨g,i * size,none⟩ : Addr).add j=⟨g,i * size+j,none⟩:=by unfold Addr.add; split <;> simp_all
 rw [this,h.cellAt _ hj];exact hu
end
end Go.Proofs.YtpofkokbmifhgaaGreatDoor
namespace Go.Proofs.YtpofkokbmifhgaaGreatDoor
open Go.RowKit
section
variable {P:Program} {ops:Array Oper} {Q:Exit->Act->World->Prop}
theorem wp_region_pair {id:Nat} {a:Act} {w:World} (hm:P.follows .mixedOrders=true) (hord:ordered ops=true) (st:List Nat) (hform:monoForm ops a.tmps.size st=true)
  (p:Nat) (hp:p < ops.size - 1) (F:List Nat)
  (φ:Nat->Value->World->Prop) (mono:∀ i v w w',Chg [] w w'->φ i v w->φ i v w') (monoF:∀ i v w w',i≠p->Chg F w w'->φ i v w->φ i v w')
  (step:∀ (i:Nat) (o:Oper),i < ops.size - 1->i≠p->ops[i]?=some o->∀ (a':Act) (w':World),(∀ s∈st,Act.g a' s=Act.g a s)->Chg F w.drew w'->(waits ops p i=true->Chg [] w.drew w')->(∀ j,waits ops i j=true->φ j (Act.g a' (dOf ops j)) w') ->
   ∃ v w'',(execOp a'.eval o).run P w'=.ok (.value v) w''/\Chg [] w' w''/\φ i v w'')
  (stepP:∀ (o:Oper),ops[p]?=some o->∀ (a':Act) (w':World),(∀ s∈st,Act.g a' s=Act.g a s)->Chg [] w.drew w'->(∀ j,waits ops p j=true->φ j (Act.g a' (dOf ops j)) w') ->
   ∃ v w'',(execOp a'.eval o).run P w'=.ok (.value v) w''/\Chg F w' w''/\φ p v w'')
  (last:∀ (o:Oper),ops[ops.size - 1]?=some o->∀ (u:Nat->Value) (w':World),Chg F w.drew w'->(∀ j,j < ops.size - 1->φ j (u j) w') ->
   ∀ A2,A2=putAll ops u (ops.size - 1) a->o.wp P A2 w' (Q .normal) Q):(Code.region id ops true).wp P Q a w:=by
 unfold monoForm at hform;simp only [Bool.and_eq_true,decide_eq_true_eq] at hform;obtain ⟨⟨⟨h0,hgd⟩,hdst⟩,hnd⟩:=hform
 have guard:∀ (i:Nat) (o:Oper),ops[i]?=some o->o.guard=none:=by
  intro i o ho
  have hi:=(Array.getElem?_eq_some_iff.1 ho)
  obtain ⟨hlt,he⟩:=hi;have:=Array.all_eq_true.1 hgd i hlt;rw [he] at this
  simpa using this
 have head:∀ i,i < ops.size - 1->∃ o d,ops[i]?=some o/\o.dst=some d/\dOf ops i=d/\d < a.tmps.size/\d ∉ st/\waits ops (ops.size - 1) i=true:=by
  intro i hi
  have h1:=List.all_eq_true.1 hdst i (List.mem_range.2 hi);have ho:ops[i]?=some (ops[i]'(by omega)):=Array.getElem?_eq_getElem (by omega);rw [ho] at h1;simp only [Bool.and_eq_true] at h1
  cases hd:(ops[i]'(by omega)).dst with
  | none=>rw [hd] at h1; simp at h1
  | some d=>
   rw [hd] at h1;simp only [Bool.and_eq_true,decide_eq_true_eq,Bool.not_eq_true',List.contains_eq_mem,decide_eq_false_iff_not] at h1;exact ⟨_,d,ho,hd,by unfold dOf; rw [ho]; simp [hd],h1.1.1,h1.1.2,h1.2⟩
 have distinct:∀ i j,i < ops.size - 1->j < ops.size - 1->i≠j->dOf ops i≠dOf ops j:=by
  intro i j hi hj hij he
  have hp:=List.pairwise_iff_getElem.1 hnd;simp only [List.length_map,List.length_range,List.getElem_map,List.getElem_range] at hp;rcases Nat.lt_or_gt_of_ne hij with h | h
  ·exact hp i j hi hj h he
  ·exact hp j i hj hi h he.symm
 refine wp_region_inv hm hord (fun L a' w'=>(L (ops.size - 1)=true/\Q .normal a' w')∨(L (ops.size - 1)=false/\(∀ s,(∀ j,j < ops.size - 1->dOf ops j≠s)->Act.g a' s=Act.g a s)/\a'.tmps.size=a.tmps.size/\a'.defers=a.defers/\Chg F w.drew w'/\(L p=false->Chg [] w.drew w')/\∀ j,j < ops.size - 1->L j=true->φ j (Act.g a' (dOf ops j)) w'))
  (.inr ⟨rfl,fun _ _=>rfl,rfl,rfl,Chg.refl _ _,fun _=>Chg.refl _ _,fun j _ h=>by cases h⟩) ?_ ?_
 ·intro L i o ho hLi hcl hdeps a' w' hG
  have hi:i < ops.size:=(Array.getElem?_eq_some_iff.1 ho).1
  have hwant:Region.wanted o (yielded ops a'.tmps)=true:=by simp [Region.wanted,guard i o ho]
  have hlast:L (ops.size - 1)=false:=by
   cases hl:L (ops.size - 1) with
   | false=>rfl
   | true=>
    exfalso
    by_cases hil:i=ops.size - 1
    ·rw [hil] at hLi
     rw [hl] at hLi
     cases hLi
    ·obtain ⟨o1,d1,_,_,_,_,_,hw⟩:=head i (by omega)
     unfold waits at hw;have hol:ops[ops.size - 1]?=some (ops[ops.size - 1]'(by omega)):=Array.getElem?_eq_getElem (by omega);rw [hol] at hw;obtain ⟨e,he,hb⟩:=Array.any_eq_true'.1 hw;simp only [Bool.and_eq_true,beq_iff_eq] at hb;have:=hcl _ _ hol hl e he hb.1;rw [hb.2,hLi] at this
     cases this
  rcases hG with ⟨h,_⟩ | ⟨_,hst,hsz,hdf,hch,hpre,hφ⟩
  ·rw [hlast] at h; cases h
  unfold wpOp;simp only [ho,hwant,if_true];refine .inl ?_
  by_cases hil:i=ops.size - 1
  ·subst hil
   have hall:∀ j,j < ops.size - 1->φ j (Act.g a' (dOf ops j)) w':=by
    intro j hj
    obtain ⟨o1,d1,_,_,_,_,_,hw⟩:=head j hj;unfold waits at hw;rw [ho] at hw;obtain ⟨e,he,hb⟩:=Array.any_eq_true'.1 hw;simp only [Bool.and_eq_true,beq_iff_eq] at hb;have:=hdeps e he hb.1;rw [hb.2] at this;exact hφ j hj this
   refine Oper.wp_mono (fun a2 w2 hq=>.inl ⟨by simp,hq⟩) (by
    have ha:a'=putAll ops (fun j=>Act.g a' (dOf ops j)) (ops.size - 1) a:=act_ext (by rw [putAll_size,hsz]) (by rw [putAll_defers,hdf]) fun s=>by
     by_cases hs:∃ j,j < ops.size - 1/\dOf ops j=s
     ·obtain ⟨j,hj,rfl⟩:=hs
      obtain ⟨o1,d1,_,_,hd1,hdl1,_,_⟩:=head j hj;rw [putAll_eq ops _ a j _ hj (fun k hk hkj=>distinct k j hk hj hkj) (by rw [hd1]; exact hdl1)]
     ·rw [putAll_ne ops _ a s _ (fun j hj e=>hs ⟨j,hj,e⟩)]
      exact hst s (fun j hj e=>hs ⟨j,hj,e⟩)
    have hl:=last o ho (fun j=>Act.g a' (dOf ops j)) w' hch hall a' ha
    exact hl)
  ·have hih:i < ops.size - 1:=by omega
   obtain ⟨o1,d,ho1,hd,hdi,hdl,hds,hw⟩:=head i hih;obtain rfl:o1=o:=Option.some.inj (ho1.symm.trans ho)
   have hdep:∀ j,waits ops i j=true->φ j (Act.g a' (dOf ops j)) w':=fun j hj=>by
    unfold waits at hj;rw [ho] at hj;obtain ⟨e,he,hb⟩:=Array.any_eq_true'.1 hj;simp only [Bool.and_eq_true,beq_iff_eq] at hb;have h1:=hdeps e he hb.1;have h2:=ordered_spec hord ho e he hb.1;rw [hb.2] at h1 h2;exact hφ j (by omega) h1
   have hlf:(L (ops.size - 1) || ops.size - 1 == i)=false:=by
    rw [hlast]
    have:((ops.size - 1) == i)=false:=by simp; omega
    rw [this]
    rfl
   have hput:∀ (v:Value) (s:Nat),(∀ j,j < ops.size - 1->dOf ops j≠s)->Act.g (a'.put (some d) v) s=Act.g a s:=fun v s hs=>by
    rw [g_put_ne _ _ _ _ (fun e=>by subst e; exact hs i hih hdi)];exact hst s hs
   have hst':∀ s∈st,Act.g a' s=Act.g a s:=fun s hs=>hst s (fun j hj e=>by obtain ⟨_,_,_,_,hd1,_,hds1,_⟩:=head j hj; exact hds1 (by rw [<- hd1,e]; exact hs))
   by_cases hip:i=p
   ·subst hip
    obtain ⟨v,w2,hrun,hc2,hv⟩:=stepP o1 ho a' w' hst' (hpre hLi) hdep;unfold Oper.wp;rw [hrun];simp only [Oper.upon_value,hd];refine .inr ⟨hlf,hput v,by rw [size_put]; exact hsz,hdf,hch.trans hc2 (New.refl _ _),fun h=>by simp at h,fun j hj hL=>?_⟩
    by_cases hji:j=i
    ·subst hji
     rw [hdi,g_put_same _ _ _ (by rw [hsz]; exact hdl)];exact hv
    ·have:L j=true:=by
      have hb:(j == i)=false:=by simp [hji]
      simpa [hb] using hL
     rw [g_put_ne _ _ _ _ (by rw [<- hdi]; exact distinct j i hj hih hji)];exact monoF _ _ _ _ hji hc2 (hφ j hj this)
   ·have hanc:waits ops p i=true->Chg [] w.drew w':=fun hwp=>by
     refine hpre ?_
     cases hLp:L p with
     | false=>rfl
     | true=>
      exfalso
      unfold waits at hwp;have hop:ops[p]?=some (ops[p]'(by omega)):=Array.getElem?_eq_getElem (by omega);rw [hop] at hwp;obtain ⟨e,he,hb⟩:=Array.any_eq_true'.1 hwp;simp only [Bool.and_eq_true,beq_iff_eq] at hb;have:=hcl _ _ hop hLp e he hb.1;rw [hb.2,hLi] at this
      cases this
    obtain ⟨v,w2,hrun,hc2,hv⟩:=step i o1 hih hip ho a' w' hst' hch hanc hdep;unfold Oper.wp;rw [hrun];simp only [Oper.upon_value,hd];refine .inr ⟨hlf,hput v,by rw [size_put]; exact hsz,hdf,hch.trans hc2 New.nil,fun h=>?_,fun j hj hL=>?_⟩
    ·have:L p=false:=by
      have hb:(p == i)=false:=by simp [Ne.symm hip]
      simpa [hb] using h
     exact (hpre this).trans hc2 New.nil
    ·by_cases hji:j=i
     ·subst hji
      rw [hdi,g_put_same _ _ _ (by rw [hsz]; exact hdl)];exact hv
     ·have:L j=true:=by
       have hb:(j == i)=false:=by simp [hji]
       simpa [hb] using hL
      rw [g_put_ne _ _ _ _ (by rw [<- hdi]; exact distinct j i hj hih hji)];exact mono _ _ _ _ hc2 (hφ j hj this)
 ·intro a' w' hG
  rcases hG with ⟨_,h⟩ | ⟨h,_⟩
  ·exact h
  ·have:decide (ops.size - 1 < ops.size)=true:=by simp; omega
   exact absurd (h.symm.trans this) (by simp)
theorem wp_region_call {id:Nat} {a:Act} {w:World} (hm:P.follows .mixedOrders=true) (hord:ordered ops=true) (st:List Nat) (hform:monoForm ops a.tmps.size st=true)
  (p:Nat) (hp:p < ops.size - 1) (F:List Nat)
  (φ:Nat->Value->World->Prop) (mono:∀ i v w w',Chg [] w w'->φ i v w->φ i v w') (monoF:∀ i v w w',i≠p->Chg F w w'->φ i v w->φ i v w')
  (step:∀ (i:Nat) (o:Oper),i < ops.size - 1->i≠p->ops[i]?=some o->∀ (a':Act) (w':World),(∀ s∈st,Act.g a' s=Act.g a s)->Chg F w.drew w'->(waits ops p i=true->Chg [] w.drew w')->(∀ j,waits ops i j=true->φ j (Act.g a' (dOf ops j)) w') ->
   ∀ K:Value->World->Prop,(∀ v w'',Chg [] w' w''->φ i v w''->K v w'')->o.wp P a' w' (fun a2 w2=>∃ v,a2=a'.put o.dst v/\K v w2) Q)
  (stepP:∀ (o:Oper),ops[p]?=some o->∀ (a':Act) (w':World),(∀ s∈st,Act.g a' s=Act.g a s)->Chg [] w.drew w'->(∀ j,waits ops p j=true->φ j (Act.g a' (dOf ops j)) w') ->
   ∃ v w'',(execOp a'.eval o).run P w'=.ok (.value v) w''/\Chg F w' w''/\φ p v w'')
  (last:∀ (o:Oper),ops[ops.size - 1]?=some o->∀ (u:Nat->Value) (w':World),Chg F w.drew w'->(∀ j,j < ops.size - 1->φ j (u j) w') ->
   ∀ A2,A2=putAll ops u (ops.size - 1) a->o.wp P A2 w' (Q .normal) Q):(Code.region id ops true).wp P Q a w:=by
 unfold monoForm at hform;simp only [Bool.and_eq_true,decide_eq_true_eq] at hform;obtain ⟨⟨⟨h0,hgd⟩,hdst⟩,hnd⟩:=hform
 have guard:∀ (i:Nat) (o:Oper),ops[i]?=some o->o.guard=none:=by
  intro i o ho
  have hi:=(Array.getElem?_eq_some_iff.1 ho)
  obtain ⟨hlt,he⟩:=hi;have:=Array.all_eq_true.1 hgd i hlt;rw [he] at this
  simpa using this
 have head:∀ i,i < ops.size - 1->∃ o d,ops[i]?=some o/\o.dst=some d/\dOf ops i=d/\d < a.tmps.size/\d ∉ st/\waits ops (ops.size - 1) i=true:=by
  intro i hi
  have h1:=List.all_eq_true.1 hdst i (List.mem_range.2 hi);have ho:ops[i]?=some (ops[i]'(by omega)):=Array.getElem?_eq_getElem (by omega);rw [ho] at h1;simp only [Bool.and_eq_true] at h1
  cases hd:(ops[i]'(by omega)).dst with
  | none=>rw [hd] at h1; simp at h1
  | some d=>
   rw [hd] at h1;simp only [Bool.and_eq_true,decide_eq_true_eq,Bool.not_eq_true',List.contains_eq_mem,decide_eq_false_iff_not] at h1;exact ⟨_,d,ho,hd,by unfold dOf; rw [ho]; simp [hd],h1.1.1,h1.1.2,h1.2⟩
 have distinct:∀ i j,i < ops.size - 1->j < ops.size - 1->i≠j->dOf ops i≠dOf ops j:=by
  intro i j hi hj hij he
  have hp:=List.pairwise_iff_getElem.1 hnd;simp only [List.length_map,List.length_range,List.getElem_map,List.getElem_range] at hp;rcases Nat.lt_or_gt_of_ne hij with h | h
  ·exact hp i j hi hj h he
  ·exact hp j i hj hi h he.symm
 refine wp_region_inv hm hord (fun L a' w'=>(L (ops.size - 1)=true/\Q .normal a' w')∨(L (ops.size - 1)=false/\(∀ s,(∀ j,j < ops.size - 1->dOf ops j≠s)->Act.g a' s=Act.g a s)/\a'.tmps.size=a.tmps.size/\a'.defers=a.defers/\Chg F w.drew w'/\(L p=false->Chg [] w.drew w')/\∀ j,j < ops.size - 1->L j=true->φ j (Act.g a' (dOf ops j)) w'))
  (.inr ⟨rfl,fun _ _=>rfl,rfl,rfl,Chg.refl _ _,fun _=>Chg.refl _ _,fun j _ h=>by cases h⟩) ?_ ?_
 ·intro L i o ho hLi hcl hdeps a' w' hG
  have hi:i < ops.size:=(Array.getElem?_eq_some_iff.1 ho).1
  have hwant:Region.wanted o (yielded ops a'.tmps)=true:=by simp [Region.wanted,guard i o ho]
  have hlast:L (ops.size - 1)=false:=by
   cases hl:L (ops.size - 1) with
   | false=>rfl
   | true=>
    exfalso
    by_cases hil:i=ops.size - 1
    ·rw [hil] at hLi
     rw [hl] at hLi
     cases hLi
    ·obtain ⟨o1,d1,_,_,_,_,_,hw⟩:=head i (by omega)
     unfold waits at hw;have hol:ops[ops.size - 1]?=some (ops[ops.size - 1]'(by omega)):=Array.getElem?_eq_getElem (by omega);rw [hol] at hw;obtain ⟨e,he,hb⟩:=Array.any_eq_true'.1 hw;simp only [Bool.and_eq_true,beq_iff_eq] at hb;have:=hcl _ _ hol hl e he hb.1;rw [hb.2,hLi] at this
     cases this
  rcases hG with ⟨h,_⟩ | ⟨_,hst,hsz,hdf,hch,hpre,hφ⟩
  ·rw [hlast] at h; cases h
  unfold wpOp;simp only [ho,hwant,if_true];refine .inl ?_
  by_cases hil:i=ops.size - 1
  ·subst hil
   have hall:∀ j,j < ops.size - 1->φ j (Act.g a' (dOf ops j)) w':=by
    intro j hj
    obtain ⟨o1,d1,_,_,_,_,_,hw⟩:=head j hj;unfold waits at hw;rw [ho] at hw;obtain ⟨e,he,hb⟩:=Array.any_eq_true'.1 hw;simp only [Bool.and_eq_true,beq_iff_eq] at hb;have:=hdeps e he hb.1;rw [hb.2] at this;exact hφ j hj this
   refine Oper.wp_mono (fun a2 w2 hq=>.inl ⟨by simp,hq⟩) (by
    have ha:a'=putAll ops (fun j=>Act.g a' (dOf ops j)) (ops.size - 1) a:=act_ext (by rw [putAll_size,hsz]) (by rw [putAll_defers,hdf]) fun s=>by
     by_cases hs:∃ j,j < ops.size - 1/\dOf ops j=s
     ·obtain ⟨j,hj,rfl⟩:=hs
      obtain ⟨o1,d1,_,_,hd1,hdl1,_,_⟩:=head j hj;rw [putAll_eq ops _ a j _ hj (fun k hk hkj=>distinct k j hk hj hkj) (by rw [hd1]; exact hdl1)]
     ·rw [putAll_ne ops _ a s _ (fun j hj e=>hs ⟨j,hj,e⟩)]
      exact hst s (fun j hj e=>hs ⟨j,hj,e⟩)
    have hl:=last o ho (fun j=>Act.g a' (dOf ops j)) w' hch hall a' ha
    exact hl)
  ·have hih:i < ops.size - 1:=by omega
   obtain ⟨o1,d,ho1,hd,hdi,hdl,hds,hw⟩:=head i hih;obtain rfl:o1=o:=Option.some.inj (ho1.symm.trans ho)
   have hdep:∀ j,waits ops i j=true->φ j (Act.g a' (dOf ops j)) w':=fun j hj=>by
    unfold waits at hj;rw [ho] at hj;obtain ⟨e,he,hb⟩:=Array.any_eq_true'.1 hj;simp only [Bool.and_eq_true,beq_iff_eq] at hb;have h1:=hdeps e he hb.1;have h2:=ordered_spec hord ho e he hb.1;rw [hb.2] at h1 h2;exact hφ j (by omega) h1
   have hlf:(L (ops.size - 1) || ops.size - 1 == i)=false:=by
    rw [hlast]
    have:((ops.size - 1) == i)=false:=by simp; omega
    rw [this]
    rfl
   have hput:∀ (v:Value) (s:Nat),(∀ j,j < ops.size - 1->dOf ops j≠s)->Act.g (a'.put (some d) v) s=Act.g a s:=fun v s hs=>by
    rw [g_put_ne _ _ _ _ (fun e=>by subst e; exact hs i hih hdi)];exact hst s hs
   have hst':∀ s∈st,Act.g a' s=Act.g a s:=fun s hs=>hst s (fun j hj e=>by obtain ⟨_,_,_,_,hd1,_,hds1,_⟩:=head j hj; exact hds1 (by rw [<- hd1,e]; exact hs))
   by_cases hip:i=p
   ·subst hip
    obtain ⟨v,w2,hrun,hc2,hv⟩:=stepP o1 ho a' w' hst' (hpre hLi) hdep;unfold Oper.wp;rw [hrun];simp only [Oper.upon_value,hd];refine .inr ⟨hlf,hput v,by rw [size_put]; exact hsz,hdf,hch.trans hc2 (New.refl _ _),fun h=>by simp at h,fun j hj hL=>?_⟩
    by_cases hji:j=i
    ·subst hji
     rw [hdi,g_put_same _ _ _ (by rw [hsz]; exact hdl)];exact hv
    ·have:L j=true:=by
      have hb:(j == i)=false:=by simp [hji]
      simpa [hb] using hL
     rw [g_put_ne _ _ _ _ (by rw [<- hdi]; exact distinct j i hj hih hji)];exact monoF _ _ _ _ hji hc2 (hφ j hj this)
   ·have hanc:waits ops p i=true->Chg [] w.drew w':=fun hwp=>by
     refine hpre ?_
     cases hLp:L p with
     | false=>rfl
     | true=>
      exfalso
      unfold waits at hwp;have hop:ops[p]?=some (ops[p]'(by omega)):=Array.getElem?_eq_getElem (by omega);rw [hop] at hwp;obtain ⟨e,he,hb⟩:=Array.any_eq_true'.1 hwp;simp only [Bool.and_eq_true,beq_iff_eq] at hb;have:=hcl _ _ hop hLp e he hb.1;rw [hb.2,hLi] at this
      cases this
    refine Oper.wp_mono ?_ (step i o1 hih hip ho a' w' hst' hch hanc hdep (fun v w2=>Chg [] w' w2/\φ i v w2) (fun v w2 h1 h2=>⟨h1,h2⟩));rintro a2 w2 ⟨v,rfl,hc2,hv⟩;rw [hd];refine .inr ⟨hlf,hput v,by rw [size_put]; exact hsz,hdf,hch.trans hc2 New.nil,fun h=>?_,fun j hj hL=>?_⟩
    ·have:L p=false:=by
      have hb:(p == i)=false:=by simp [Ne.symm hip]
      simpa [hb] using h
     exact (hpre this).trans hc2 New.nil
    ·by_cases hji:j=i
     ·subst hji
      rw [hdi,g_put_same _ _ _ (by rw [hsz]; exact hdl)];exact hv
     ·have:L j=true:=by
       have hb:(j == i)=false:=by simp [hji]
       simpa [hb] using hL
      rw [g_put_ne _ _ _ _ (by rw [<- hdi]; exact distinct j i hj hih hji)];exact mono _ _ _ _ hc2 (hφ j hj this)
 ·intro a' w' hG
  rcases hG with ⟨_,h⟩ | ⟨h,_⟩
  ·exact h
  ·have:decide (ops.size - 1 < ops.size)=true:=by simp; omega
   exact absurd (h.symm.trans this) (by simp)
end
end Go.Proofs.YtpofkokbmifhgaaGreatDoor
