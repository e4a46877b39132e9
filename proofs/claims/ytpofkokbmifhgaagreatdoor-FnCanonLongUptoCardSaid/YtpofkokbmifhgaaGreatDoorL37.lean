/- Parts of the walk, made small by wip/tools/pack.py: MrgM, Gho, ImplM. No condition but those in each statement. -/
import Derived.Test.YtpofkokbmifhgaaGreatDoorL36
import Derived.Test.YtpofkokbmifhgaaGreatDoorL14
set_option maxRecDepth 100000
set_option maxHeartbeats 20000000
set_option linter.unusedVariables false
set_option linter.unusedSimpArgs false
namespace Go.Proofs.YtpofkokbmifhgaaGreatDoor
open Go.RowKit
variable {o:Nat->Prop}
def MgR (w:World) (b0:Nat) (m:List (ByteArray × T)) (F:List Nat) (w':World):Prop:=∃ F2,Own w' (.map m) (vM b0) (b0 :: F2)/\(b0 :: F2).Nodup/\(∀ x∈F2,x∈F)/\Chg [b0] w w'
theorem mappings_root (b0 b:Nat) (m:List (ByteArray × T)) (F:List Nat) (w:World) (h0:MapAt w b0 []) (ho:Own w (.map m) (vM b) F) (hn:F.Nodup) (h0F:b0 ∉ F) :
  Calls Tryz.prog 144 #[.map (some b0),.map (some b),.string ⟨#[]⟩] w fun e w'=>e=.returned (.tuple #[.map (some b0),.nilIface])/\MgR w b0 m F w':=by
 obtain ⟨ks,F',hm,hl,hown,rfl⟩:=ho.mapAt;simp only [List.mem_cons,not_or] at h0F;have hn':=(List.nodup_cons.1 hn).2;obtain ⟨w1,hrun,hMG⟩:=MG.start (P:=Tryz.prog) uM hm h0 h0F.1;have HO:=Lib.hid (And.intro hown (And.intro hl (And.intro h0F hn')));clear hm h0 ho hn hl hown h0F hn'
 go_enter Tryz.func144,Tryz.ntmps144
 go_wp2_with fail
 go_loopg [] ks.length (fun g wx=>∃ left,g=left.length/\MG w b0 b w.heap.size ks left wx)
 case atStart=>exact ⟨_,by simp,hMG⟩
 case round=>
  clear hMG;obtain ⟨left,rfl,hM⟩:=hrel
  rcases hM.next (P:=Tryz.prog) uM uS zA 0 with ⟨rfl,hnx⟩ | ⟨k,v,w1,w2,hk,hnx,hent,hlook,hupd,hM2⟩
  ·have HD:=Lib.hid (And.intro (hM.done HO.out.2.1 HO.out.1 HO.out.2.2.1.2) hM.chg)
   clear hM
   go_wp2_with fail
   go_ret2
   exact ⟨rfl,_,HD.out.1,List.nodup_cons.2 ⟨HO.out.2.2.1.2,HO.out.2.2.2⟩,fun x hx=>List.mem_cons_of_mem _ hx,HD.out.2⟩
  ·have hlk:(mdel k left).length < left.length:=by
    have:=del_length hk
    omega
   have HM:=Lib.hid hM2;clear hM hk hM2
   go_wp2_with fail
   go_roundg (mdel k left).length
   case measure=>exact hlk
   case rel=>exact ⟨_,rfl,HM.out⟩
theorem yaml_root (b0 b:Nat) (m:List (ByteArray × T)) (F:List Nat) (w:World) (h0:MapAt w b0 []) (ho:Own w (.map m) (vM b) F) (hn:F.Nodup) (h0F:b0 ∉ F) :
  Calls Tryz.prog 90 #[vM b0,vM b,.string ⟨#[]⟩] w fun e w'=>e=.returned (.tuple #[vM b0,.nilIface])/\MgR w b0 m F w':=by
 have HC:Hid (∀ W,Chg [] w W->Calls Tryz.prog 144 #[.map (some b0),.map (some b),.string ⟨#[]⟩] W fun e w'=>e=.returned (.tuple #[.map (some b0),.nilIface])/\MgR W b0 m F w'):=Lib.hid fun W hc=>
  mappings_root b0 b m F W (h0.frame (hc.block _ h0.lt (by simp))) (ho.frame fun x hx=>hc.block x (ho.lt x hx) (by simp)) hn h0F
 have hlt:Hid (b0 < w.heap.size):=Lib.hid h0.lt;clear h0 ho hn h0F
 go_enter Tryz.func90,Tryz.ntmps90
 go_wp2_with fail
 refine (special_root _).mono ?_;rintro e w1 ⟨rfl,hc1⟩;have HC1:=Lib.hid hc1;clear hc1
 go_wp2_with fail
 refine (HC.out _ HC1.out).mono ?_;rintro e w2 ⟨rfl,F2,ho2,hn2,hs2,hc2⟩;have H2:Hid (MgR w b0 m F w2):=Lib.hid ⟨F2,ho2,hn2,hs2,(HC1.out.mono (by simp)).trans hc2 (New.refl _ _)⟩;clear ho2 hn2 hs2 hc2
 go_wp2_with fail
 go_ret2
 exact ⟨rfl,H2.out⟩
theorem merge_root (b0 b:Nat) (m:List (ByteArray × T)) (F:List Nat) (w:World) (h0:MapAt w b0 []) (ho:Own w (.map m) (vM b) F) (hn:F.Nodup) (h0F:b0 ∉ F) :
  Calls Tryz.prog 61 #[.map (some b0),.map (some b)] w fun e w'=>e=.returned (.tuple #[.map (some b0),.nilIface])/\MgR w b0 m F w':=by
 have HC:=Lib.hid (yaml_root b0 b m F w h0 ho hn h0F);clear h0 ho hn h0F
 go_enter Tryz.func61,Tryz.ntmps61
 go_wp2_with fail
 refine (newPath_any _ _ _).mono ?_;rintro e w1 ⟨rfl,rfl⟩
 go_wp2_with fail
 refine HC.out.mono ?_;rintro e w2 ⟨rfl,h2⟩;have H2:=Lib.hid h2;clear h2
 go_wp2_with fail
 go_ret2
 exact ⟨rfl,H2.out⟩
end Go.Proofs.YtpofkokbmifhgaaGreatDoor
namespace Go.Proofs.YtpofkokbmifhgaaGreatDoor
open Go.RowKit
def ancN (ops:Array Oper):Nat->Nat->Nat->Bool
 | 0,_,_=>false
 | n+1,i,j=>waits ops i j || (List.range ops.size).any fun k=>waits ops i k && ancN ops n k j
def anc (ops:Array Oper) (i j:Nat):Bool:=ancN ops 8 i j
theorem anc_done {ops:Array Oper} {L:Nat->Bool} (hcl:∀ i j,L i=true->waits ops i j=true->L j=true):∀ (n i j:Nat),(∀ k,waits ops i k=true->L k=true)->ancN ops n i j=true->L j=true
 | 0,_,_,_,h=>by simp [ancN] at h
 | n+1,i,j,hd,h=>by
  simp only [ancN,Bool.or_eq_true,List.any_eq_true,Bool.and_eq_true] at h
  rcases h with h | ⟨k,_,hk,h⟩
  ·exact hd j h
  ·exact anc_done hcl n k j (fun l hl=>hcl k l (hd k hk) hl) h
theorem waits_lt {ops:Array Oper} (hord:ordered ops=true) {i j:Nat} (h:waits ops i j=true):j < ops.size:=by
 unfold waits at h
 cases ho:ops[i]? with
 | none=>rw [ho] at h; cases h
 | some o=>
  rw [ho] at h;obtain ⟨e,he,hb⟩:=Array.any_eq_true'.1 h;simp only [Bool.and_eq_true,beq_iff_eq] at hb;have h2:=ordered_spec hord ho e he hb.1;have h3:=(Array.getElem?_eq_some_iff.1 ho).1;rw [hb.2] at h2
  omega
theorem anc_lt {ops:Array Oper} (hord:ordered ops=true):∀ (n i j:Nat),ancN ops n i j=true->j < ops.size
 | 0,_,_,h=>by simp [ancN] at h
 | n+1,i,j,h=>by
  simp only [ancN,Bool.or_eq_true,List.any_eq_true,Bool.and_eq_true] at h
  rcases h with h | ⟨k,_,hk,h⟩
  ·exact waits_lt hord h
  ·exact anc_lt hord n k j h
def ghForm (ops:Array Oper) (size:Nat) (st:List Nat) (sp:List (Nat × Nat)) (need:Nat->List Nat):Bool:=
 ops.all (fun o=>o.guard.isNone) &&
 ((List.range ops.size).all fun i=>match ops[i]? with
  | some o=>(match o.dst with | some d=>decide (d < size) && !st.contains d | none=>true)
  | none=>false) &&
 decide ((List.range ops.size).map (dOf ops)).Nodup && st.contains 0 && decide (0 < size) &&
 ((List.range ops.size).all fun i=>(need i).all fun j=>anc ops i j && decide (j < ops.size) && sp.all fun q=>!(q.2 == j) || q.1 == i || anc ops q.1 i) &&
 sp.all fun q=>(need q.1).contains q.2
section
variable {P:Program} {ops:Array Oper} {Q:Exit->Act->World->Prop}
theorem wp_region_gh {id:Nat} {a:Act} {w:World} (hm:P.follows .mixedOrders=true) (hord:ordered ops=true) (st:List Nat) (sp:List (Nat × Nat)) (need:Nat->List Nat) (hform:ghForm ops a.tmps.size st sp need=true)
  (φ:Nat->Value->List Nat->World->Prop) (π:Nat->Value->Prop) (own:Nat->List Nat) (S:List Nat)
  (hown:∀ i x,x∈own i->x < w.heap.size/\x∈S) (hap:∀ i j,i≠j->∀ x∈own i,x ∉ own j) (hso:∀ i j,(i,j)∈sp->own j=[])
  (mono:∀ i v F D w1 w2,Chg D w1 w2->(∀ x∈F,x ∉ D/\x < w1.heap.size)->φ i v F w1->φ i v F w2)
  (step:∀ (i:Nat) (o:Oper),i < ops.size->ops[i]?=some o->∀ (a':Act) (w':World) (f:Nat->List Nat),(∀ s∈st,Act.g a' s=Act.g a s)->Chg S w.drew w'->(∀ x∈own i,w'.heap[x]?=w.heap[x]?)->(∀ j,anc ops i j=true->π j (Act.g a' (dOf ops j))) ->
   (∀ j∈need i,φ j (Act.g a' (dOf ops j)) (f j) w'/\∀ x∈f j,x < w'.heap.size/\(w.heap.size<=x∨x∈own j))->(∀ j∈need i,∀ k∈need i,j≠k->∀ x∈f j,x ∉ f k) ->
   ∀ K:Value->World->Prop,(∀ v w'' F D,(o.dst=none->v=Act.g a' 0)->Chg D w' w''->(∀ x∈D,x∈own i∨∃ j,(i,j)∈sp/\x∈f j)->π i v->φ i v F w''->(∀ x∈F,x < w''.heap.size/\(w'.heap.size<=x∨x∈own i∨∃ j,(i,j)∈sp/\x∈f j))->K v w'') ->
   o.wp P a' w' (fun a2 w2=>∃ v,a2=a'.put o.dst v/\K v w2) Q)
  (fin:∀ (u:Nat->Value) (f:Nat->List Nat) (w':World),Chg S w.drew w'->(∀ j,j < ops.size->π j (u j))->(∀ j,j < ops.size->(∀ i,(i,j) ∉ sp)->φ j (u j) (f j) w'/\∀ x∈f j,x < w'.heap.size/\(w.heap.size<=x∨x∈own j)) ->
   ∀ A2,A2=putAll ops u ops.size a->Q .normal A2 w'):(Code.region id ops true).wp P Q a w:=by
 unfold ghForm at hform;simp only [Bool.and_eq_true,decide_eq_true_eq] at hform;obtain ⟨⟨⟨⟨⟨⟨hgd,hdst⟩,hnd⟩,h0st⟩,h0s⟩,hneed⟩,hsn⟩:=hform
 have h0st:0∈st:=by simpa using h0st
 have guard:∀ (i:Nat) (o:Oper),ops[i]?=some o->o.guard=none:=by
  intro i o ho
  obtain ⟨hlt,he⟩:=(Array.getElem?_eq_some_iff.1 ho)
  have:=Array.all_eq_true.1 hgd i hlt;rw [he] at this
  simpa using this
 have hsn:∀ i j,(i,j)∈sp->j∈need i:=fun i j h=>by simpa using List.all_eq_true.1 hsn (i,j) h
 have hneed:∀ i,i < ops.size->∀ j∈need i,anc ops i j=true/\j < ops.size/\∀ k,(k,j)∈sp->k=i∨anc ops k i=true:=fun i hi j hj=>by
  have h1:=List.all_eq_true.1 (List.all_eq_true.1 hneed i (List.mem_range.2 hi)) j hj;simp only [Bool.and_eq_true,decide_eq_true_eq] at h1;refine ⟨h1.1.1,h1.1.2,fun k hk=>?_⟩;have:=List.all_eq_true.1 h1.2 (k,j) hk
  simpa using this
 have head:∀ i,i < ops.size->∃ o,ops[i]?=some o/\dOf ops i < a.tmps.size/\((∃ d,o.dst=some d/\dOf ops i=d/\d ∉ st)∨(o.dst=none/\dOf ops i=0)):=by
  intro i hi
  have h1:=List.all_eq_true.1 hdst i (List.mem_range.2 hi);have ho:ops[i]?=some (ops[i]'(by omega)):=Array.getElem?_eq_getElem (by omega);rw [ho] at h1;simp only at h1
  cases hd:(ops[i]'(by omega)).dst with
  | none=>
   have e:dOf ops i=0:=by unfold dOf; rw [ho]; simp [hd]
   exact ⟨_,ho,by rw [e]; exact h0s,.inr ⟨hd,e⟩⟩
  | some d=>
   rw [hd] at h1;simp only [Bool.and_eq_true,decide_eq_true_eq,Bool.not_eq_true',List.contains_eq_mem,decide_eq_false_iff_not] at h1
   have e:dOf ops i=d:=by unfold dOf; rw [ho]; simp [hd]
   exact ⟨_,ho,by rw [e]; exact h1.1,.inl ⟨d,hd,e,h1.2⟩⟩
 have distinct:∀ i j,i < ops.size->j < ops.size->i≠j->dOf ops i≠dOf ops j:=by
  intro i j hi hj hij he
  have hp:=List.pairwise_iff_getElem.1 hnd;simp only [List.length_map,List.length_range,List.getElem_map,List.getElem_range] at hp;rcases Nat.lt_or_gt_of_ne hij with h | h
  ·exact hp i j hi hj h he
  ·exact hp j i hj hi h he.symm
 refine wp_region_inv hm hord (fun L a' w'=>(∀ s,(s=0∨∀ j,j < ops.size->dOf ops j≠s)->Act.g a' s=Act.g a s)/\a'.tmps.size=a.tmps.size/\a'.defers=a.defers/\Chg S w.drew w'/\(∀ j x,L j=false->x∈own j->w'.heap[x]?=w.heap[x]?)/\(∀ j,j < ops.size->L j=true->π j (Act.g a' (dOf ops j))) /\
   ∃ f:Nat->List Nat,(∀ j,j < ops.size->L j=true->(∀ i,L i=true->(i,j) ∉ sp)->φ j (Act.g a' (dOf ops j)) (f j) w'/\∀ x∈f j,x < w'.heap.size/\(w.heap.size<=x∨x∈own j)) /\
    ∀ j k,j < ops.size->k < ops.size->L j=true->L k=true->(∀ i,L i=true->(i,j) ∉ sp)->(∀ i,L i=true->(i,k) ∉ sp)->j≠k->∀ x∈f j,x ∉ f k)
  ⟨fun _ _=>rfl,rfl,rfl,Chg.refl _ _,fun _ _ _ _=>rfl,fun j _ h=>(by cases h),fun _=>[],fun j _ h=>(by cases h),fun j k _ _ h=>(by cases h)⟩ ?_ ?_
 ·intro L i o ho hLi hcl hdeps a' w' ⟨hst,hsz,hdf,hch,hkp,hπ,f,hφ,hfd⟩
  have hi:i < ops.size:=(Array.getElem?_eq_some_iff.1 ho).1
  have hwant:Region.wanted o (yielded ops a'.tmps)=true:=by simp [Region.wanted,guard i o ho]
  have hw1:∀ k,waits ops i k=true->L k=true:=fun k hk=>by
   unfold waits at hk;rw [ho] at hk;obtain ⟨e,he,hb⟩:=Array.any_eq_true'.1 hk;simp only [Bool.and_eq_true,beq_iff_eq] at hb;have h1:=hdeps e he hb.1;rw [hb.2] at h1;exact h1
  have hcl1:∀ j k,L j=true->waits ops j k=true->L k=true:=fun j k hj hk=>by
   unfold waits at hk
   cases hoj:ops[j]? with
   | none=>rw [hoj] at hk; cases hk
   | some oj=>
    rw [hoj] at hk;obtain ⟨e,he,hb⟩:=Array.any_eq_true'.1 hk;simp only [Bool.and_eq_true,beq_iff_eq] at hb;have h1:=hcl j oj hoj hj e he hb.1;rw [hb.2] at h1;exact h1
  have hanc:∀ j,anc ops i j=true->L j=true:=fun j h=>anc_done hcl1 8 i j hw1 h
  have hlive:∀ j∈need i,L j=true/\∀ k,L k=true->(k,j) ∉ sp:=fun j hj=>by
   obtain ⟨h1,h2,h3⟩:=hneed i hi j hj;refine ⟨hanc j h1,fun k hk hkj=>?_⟩;rcases h3 k hkj with rfl | h
   ·rw [hLi] at hk
    cases hk
   ·have:=anc_done hcl1 8 k i (fun l hl=>hcl1 k l hk hl) h
    rw [hLi] at this
    cases this
  unfold wpOp;simp only [ho,hwant,if_true];refine .inl ?_;obtain ⟨o1,ho1,hdl,hd⟩:=head i hi;obtain rfl:o1=o:=Option.some.inj (ho1.symm.trans ho)
  have hst0:∀ s∈st,Act.g a' s=Act.g a s:=fun s hs=>by
   by_cases h0:s=0
   ·exact hst s (.inl h0)
   ·refine hst s (.inr fun j hj e=>?_)
    obtain ⟨_,_,_,⟨d,_,hd1,hds⟩ | ⟨_,hd1⟩⟩:=head j hj
    ·exact hds (by rw [<- hd1,e]; exact hs)
    ·exact h0 (e.symm.trans hd1)
  refine Oper.wp_mono ?_ (step i o1 hi ho a' w' f hst0 hch (fun x hx=>hkp i x hLi hx) (fun j hj=>hπ j (anc_lt hord 8 i j hj) (hanc j hj)) (fun j hj=>hφ j (hneed i hi j hj).2.1 (hlive j hj).1 (hlive j hj).2)
   (fun j hj k hk hjk=>hfd j k (hneed i hi j hj).2.1 (hneed i hi k hk).2.1 (hlive j hj).1 (hlive k hk).1 (hlive j hj).2 (hlive k hk).2 hjk)
   (fun v w2=>∃ F D,(o1.dst=none->v=Act.g a' 0)/\Chg D w' w2/\(∀ x∈D,x∈own i∨∃ j,(i,j)∈sp/\x∈f j)/\π i v/\φ i v F w2/\∀ x∈F,x < w2.heap.size/\(w'.heap.size<=x∨x∈own i∨∃ j,(i,j)∈sp/\x∈f j))
   (fun v w2 F D h1 h2 h3 h4 h5 h6=>⟨F,D,h1,h2,h3,h4,h5,h6⟩))
  rintro a2 w2 ⟨v,rfl,F,D,hv0,hc2,hD,hpv,hv,hF⟩
  have hput:Act.g (a'.put o1.dst v) (dOf ops i)=v/\(∀ s,s≠dOf ops i->Act.g (a'.put o1.dst v) s=Act.g a' s)/\(dOf ops i=0->∀ s,Act.g (a'.put o1.dst v) s=Act.g a' s)/\(a'.put o1.dst v).tmps.size=a'.tmps.size/\(a'.put o1.dst v).defers=a'.defers:=by
   rcases hd with ⟨d,hd,hdi,hds⟩ | ⟨hd,hdi⟩
   ·rw [hd,hdi]
    refine ⟨g_put_same _ _ _ (by rw [hsz,<- hdi]; exact hdl),fun s hs=>g_put_ne _ _ _ _ hs,fun h=>absurd h0st (h ▸ hds),size_put _ _ _,rfl⟩
   ·rw [hd,hdi]
    exact ⟨(hv0 hd).symm,fun s _=>rfl,fun _ s=>rfl,rfl,rfl⟩
  obtain ⟨hp1,hp2,hp3,hp4,hp5⟩:=hput
  have hold:∀ j,j≠i->(L j || j == i)=true->L j=true:=fun j hji h=>by
   have hb:(j == i)=false:=by simp [hji]
   simpa [hb] using h
  have hlv:∀ j,(∀ k,(L k || k == i)=true->(k,j) ∉ sp)->(∀ k,L k=true->(k,j) ∉ sp)/\(i,j) ∉ sp:=fun j h=>⟨fun k hk=>h k (by simp [hk]),h i (by simp)⟩
  have hsL:∀ k,(i,k)∈sp->k < ops.size/\L k=true/\(∀ l,L l=true->(l,k) ∉ sp):=fun k hk=>⟨(hneed i hi k (hsn i k hk)).2.1,(hlive k (hsn i k hk)).1,(hlive k (hsn i k hk)).2⟩
  have hapart:∀ x,(x∈own i∨∃ k,(i,k)∈sp/\x∈f k)->∀ j,j < ops.size->j≠i->L j=true->(∀ k,L k=true->(k,j) ∉ sp)->(i,j) ∉ sp->x ∉ f j:=fun x hx j hj hji hLj hlj hsj hxj=>by
   rcases hx with hx | ⟨k,hk,hx⟩
   ·rcases ((hφ j hj hLj hlj).2 x hxj).2 with h | h
    ·have:=(hown i x hx).1
     omega
    ·exact hap i j (Ne.symm hji) x hx h
   ·obtain ⟨hk1,hk2,hk3⟩:=hsL k hk
    exact hfd k j hk1 hj hk2 hLj hk3 hlj (fun e=>hsj (e ▸ hk)) x hx hxj
  refine ⟨fun s hs=>?_,by rw [hp4]; exact hsz,by rw [hp5]; exact hdf,hch.trans hc2 fun x hx=>?_,fun j x hj hx=>?_,fun j hj hL=>?_,fun j=>if j=i then F else f j,fun j hj hL hl=>?_,fun j k hj hk hLj hLk hlj hlk hjk=>?_⟩
  ·by_cases h0:s=0
   ·subst h0
    by_cases hdi0:dOf ops i=0
    ·rw [hp3 hdi0]
     exact hst 0 (.inl rfl)
    ·rw [hp2 0 (Ne.symm hdi0)]
     exact hst 0 (.inl rfl)
   ·rcases hs with hs | hs
    ·exact absurd hs h0
    ·rw [hp2 s (Ne.symm (hs i hi))]
     exact hst s (.inr hs)
  ·rcases hD x hx with h | ⟨k,hk,h⟩
   ·exact .inl (hown i x h).2
   ·obtain ⟨hk1,hk2,hk3⟩:=hsL k hk
    rcases ((hφ k hk1 hk2 hk3).2 x h).2 with h | h
    ·exact .inr h
    ·rw [hso i k hk] at h
     cases h
  ·have hji:j≠i:=fun e=>by
    subst e;simp at hj
   have hLj:L j=false:=by
    cases h:L j with
    | false=>rfl
    | true=>simp [h] at hj
   refine (hc2.block x (by
    have h1:=(hown j x hx).1;have h2:w.heap.size<=w'.heap.size:=hch.size
    omega) fun hxD=>?_).trans (hkp j x hLj hx)
   rcases hD x hxD with h | ⟨k,hk,h⟩
   ·exact hap i j (Ne.symm hji) x h hx
   ·obtain ⟨hk1,hk2,hk3⟩:=hsL k hk
    rcases ((hφ k hk1 hk2 hk3).2 x h).2 with h | h
    ·have:=(hown j x hx).1
     omega
    ·rw [hso i k hk] at h
     cases h
  ·by_cases hji:j=i
   ·subst hji
    rw [hp1];exact hpv
   ·rw [hp2 _ (distinct j i hj hi hji)]
    exact hπ j hj (hold j hji hL)
  ·obtain ⟨hl1,hl2⟩:=hlv j hl
   by_cases hji:j=i
   ·subst hji
    rw [hp1];simp only [if_true];refine ⟨hv,fun x hx=>⟨(hF x hx).1,?_⟩⟩
    rcases (hF x hx).2 with h | h | ⟨k,hk,h⟩
    ·have:=hch.size
     have h0:w.drew.heap.size=w.heap.size:=rfl;exact .inl (by omega)
    ·exact .inr h
    ·obtain ⟨hk1,hk2,hk3⟩:=hsL k hk
     rcases ((hφ k hk1 hk2 hk3).2 x h).2 with h | h
     ·exact .inl h
     ·rw [hso j k hk] at h
      cases h
   ·have hLj:=hold j hji hL
    obtain ⟨q1,q2⟩:=hφ j hj hLj hl1;rw [hp2 _ (distinct j i hj hi hji)];simp only [hji,if_false];exact ⟨mono _ _ _ _ _ _ hc2 (fun x hx=>⟨fun hxD=>hapart x (hD x hxD) j hj hji hLj hl1 hl2 hx,(q2 x hx).1⟩) q1,fun x hx=>⟨Nat.lt_of_lt_of_le (q2 x hx).1 hc2.size,(q2 x hx).2⟩⟩
  ·obtain ⟨hl1,hl2⟩:=hlv j hlj
   obtain ⟨hl3,hl4⟩:=hlv k hlk
   have hnew:∀ l,l < ops.size->l≠i->L l=true->(∀ k,L k=true->(k,l) ∉ sp)->(i,l) ∉ sp->∀ x∈F,x ∉ f l:=fun l hl hli hLl h1 h2 x hx hxl=>by
    rcases (hF x hx).2 with h | h
    ·have:=((hφ l hl hLl h1).2 x hxl).1
     omega
    ·exact hapart x h l hl hli hLl h1 h2 hxl
   by_cases hji:j=i
   ·have hki:k≠i:=fun e=>hjk (hji.trans e.symm)
    simp only [hji,if_true,hki,if_false];exact hnew k hk hki (hold k hki hLk) hl3 hl4
   ·by_cases hki:k=i
    ·simp only [hji,if_false,hki,if_true]
     exact fun x hx hxF=>hnew j hj hji (hold j hji hLj) hl1 hl2 x hxF hx
    ·simp only [hji,if_false,hki]
     exact hfd j k hj hk (hold j hji hLj) (hold k hki hLk) hl1 hl3 hjk
 ·intro a' w' ⟨hst,hsz,hdf,hch,hkp,hπ,f,hφ,hfd⟩
  refine fin (fun j=>Act.g a' (dOf ops j)) f w' hch (fun j hj=>hπ j hj (by simp [hj])) (fun j hj hs=>hφ j hj (by simp [hj]) fun i _=>hs i) a' ?_
  refine act_ext (by rw [putAll_size,hsz]) (by rw [putAll_defers,hdf]) fun s=>?_
  by_cases hs:∃ j,j < ops.size/\dOf ops j=s
  ·obtain ⟨j,hj,rfl⟩:=hs
   obtain ⟨o1,_,hdl1,_⟩:=head j hj;rw [putAll_eq ops _ a j _ hj (fun k hk hkj=>distinct k j hk hj hkj) hdl1]
  ·rw [putAll_ne ops _ a s _ (fun j hj e=>hs ⟨j,hj,e⟩)]
   exact hst s (.inr fun j hj e=>hs ⟨j,hj,e⟩)
end
end Go.Proofs.YtpofkokbmifhgaaGreatDoor
namespace Go.Proofs.YtpofkokbmifhgaaGreatDoor
open Go.RowKit
variable {o:Nat->Prop}
theorem heap_al3 (w:World) (o1 o2 o3:Obj):(((w.alloc o1).alloc o2).alloc o3).heap[w.heap.size+2]?=some o3:=by
 have:=heap_alloc_new ((w.alloc o1).alloc o2) o3
 simpa using this
theorem implMerge_any (m:List (ByteArray × T)) (v0 v1:Value) (w:World) (h0:Rd o w (.map []) v0) (h1:Rd o w (.map m) v1) (hf:Fine (.map m)) :
  Calls Tryz.prog 43 #[v0,v1] w (FromR w (.map m)):=by
 obtain ⟨A3,q3,A4,q4,rfl,hyz⟩:=h0.five;clear hyz;obtain ⟨C3,r3,C4,r4,rfl,hyz⟩:=h1.five;clear hyz
 have HM0:Hid (∀ W,Chg [] w W->Calls Tryz.prog 33 #[.agg #[.int .i64 (T.map ([]:List (ByteArray × T))).kind,.int .i64 (T.map ([]:List (ByteArray × T))).num,.string (T.map ([]:List (ByteArray × T))).txt,.slice A3 (T.map ([]:List (ByteArray × T))).keys.length q3,.slice A4 (T.map ([]:List (ByteArray × T))).vals.length q4]] W fun e w'=>∃ b F,e=.returned (.map (some b))/\Chg [] W w'/\Own w' (.map []) (vM b) F/\F.Nodup/\∀ x∈F,W.heap.size<=x):=
  Lib.hid fun W hc=>toMap_any [] _ W (h0.chg hc) ⟨WF.empty,by decide⟩
 have HM1:Hid (∀ W,Chg [] w W->Calls Tryz.prog 33 #[.agg #[.int .i64 (T.map m).kind,.int .i64 (T.map m).num,.string (T.map m).txt,.slice C3 (T.map m).keys.length r3,.slice C4 (T.map m).vals.length r4]] W fun e w'=>∃ b F,e=.returned (.map (some b))/\Chg [] W w'/\Own w' (.map m) (vM b) F/\F.Nodup/\∀ x∈F,W.heap.size<=x):=
  Lib.hid fun W hc=>toMap_any m _ W (h1.chg hc) hf
 clear h0 h1
 go_enter Tryz.func43,Tryz.ntmps43
 go_wp2_with fail
 obtain ⟨W3,hW3⟩ : ∃ W3,W3=((w.alloc (.cells #[.int .i64 (T.map ([]:List (ByteArray × T))).kind,.int .i64 (T.map ([]:List (ByteArray × T))).num,.string (T.map ([]:List (ByteArray × T))).txt,.slice A3 (T.map ([]:List (ByteArray × T))).keys.length q3,.slice A4 (T.map ([]:List (ByteArray × T))).vals.length q4] 32)).alloc (.cells #[.int .i64 (T.map m).kind,.int .i64 (T.map m).num,.string (T.map m).txt,.slice C3 (T.map m).keys.length r3,.slice C4 (T.map m).vals.length r4] 32)).alloc (.cells #[.int .i64 0,.int .i64 0,.string ⟨#[]⟩,.slice none 0 0,.slice none 0 0] 32):=⟨_,rfl⟩
 have hc3:Chg [] w W3:=hW3 ▸ (((Chg.refl [] w).al _).al _).al _;have z0:W3.heap[w.heap.size]?=some (.cells #[.int .i64 (T.map ([]:List (ByteArray × T))).kind,.int .i64 (T.map ([]:List (ByteArray × T))).num,.string (T.map ([]:List (ByteArray × T))).txt,.slice A3 (T.map ([]:List (ByteArray × T))).keys.length q3,.slice A4 (T.map ([]:List (ByteArray × T))).vals.length q4] 32):=hW3 ▸ box5 (heap_alloc_new w _) _ (((Chg.refl [] (w.alloc _)).al _).al _);have z1:W3.heap[w.heap.size+1]?=some (.cells #[.int .i64 (T.map m).kind,.int .i64 (T.map m).num,.string (T.map m).txt,.slice C3 (T.map m).keys.length r3,.slice C4 (T.map m).vals.length r4] 32):=hW3 ▸ box5 (heap_al2 w _ _) _ ((Chg.refl [] ((w.alloc _).alloc _)).al _);have z2:W3.heap[w.heap.size+2]?=some (.cells #[.int .i64 0,.int .i64 0,.string ⟨#[]⟩,.slice none 0 0,.slice none 0 0] 32):=hW3 ▸ heap_al3 w _ _ _
 have hs3:W3.heap.size=w.heap.size+3:=by rw [hW3]; simp
 rw [<- hW3];have HW3:=Lib.hid hW3;clear hW3;rename_i K hK
 refine wp_region_gh (by rfl) (by kernel_rfl) [0,2,3,4] [(4,1),(4,3),(5,4),(8,7),(10,8)] (fun i=>match i with | 4=>[1,3] | 5=>[4] | 7=>[5] | 8=>[7] | 10=>[8] | _=>[]) (by kernel_rfl)
  (fun j u F V=>match j with
   | 1=>∃ b,u=.map (some b)/\Own V (.map []) (vM b) F/\F.Nodup
   | 3=>∃ b,u=.map (some b)/\Own V (.map m) (vM b) F/\F.Nodup
   | 4=>∃ b,u=.tuple #[.map (some b),.nilIface]/\Own V (.map m) (vM b) F/\F.Nodup
   | 5=>∃ b,u=.map (some b)/\Own V (.map m) (vM b) F/\F.Nodup
   | 7=>∃ v,u=.tuple #[v,.bool true]/\Rd (fun x=>x∈F) V (.map m) v
   | 8=>Rd (fun x=>x∈F) V (.map m) u
   | 10=>w.heap.size+2∈F/\∃ E5 e5 E6 e6,V.heap[w.heap.size+2]?=some (.cells #[.int .i64 (T.map m).kind,.int .i64 (T.map m).num,.string (T.map m).txt,.slice E5 (T.map m).keys.length e5,.slice E6 (T.map m).vals.length e6] 32)/\Rd (fun x=>x∈F/\x≠w.heap.size+2) V (.map m) (.agg #[.int .i64 (T.map m).kind,.int .i64 (T.map m).num,.string (T.map m).txt,.slice E5 (T.map m).keys.length e5,.slice E6 (T.map m).vals.length e6])
   | _=>True)
  (fun j u=>match j with
   | 0=>u=.agg #[.int .i64 (T.map ([]:List (ByteArray × T))).kind,.int .i64 (T.map ([]:List (ByteArray × T))).num,.string (T.map ([]:List (ByteArray × T))).txt,.slice A3 (T.map ([]:List (ByteArray × T))).keys.length q3,.slice A4 (T.map ([]:List (ByteArray × T))).vals.length q4]
   | 2=>u=.agg #[.int .i64 (T.map m).kind,.int .i64 (T.map m).num,.string (T.map m).txt,.slice C3 (T.map m).keys.length r3,.slice C4 (T.map m).vals.length r4]
   | 4=>∃ b,u=.tuple #[.map (some b),.nilIface]
   | 6=>u=.nilIface
   | 7=>∃ v,u=.tuple #[v,.bool true]
   | 9=>u=.bool true
   | 11=>u=.bool true
   | _=>True) (fun i=>if i=10 then [w.heap.size+2] else []) [w.heap.size+2] ?_ ?_ ?_ ?_ ?_ ?_
 ·intro i x hx
  by_cases h:i=10
  ·simp only [h,if_true,List.mem_singleton] at hx
   exact ⟨by omega,by simp [hx]⟩
  ·simp [h] at hx
 ·intro i j hij x hx
  by_cases h:i=10
  ·have hj:j≠10:=fun e=>hij (h.trans e.symm)
   simp [hj]
  ·simp [h] at hx
 ·intro i j hij
  have:j≠10:=fun e=>by
   subst e;simp at hij
  simp [this]
 ·intro i u F D V V' hc hF hφ
  have hfr:∀ x∈F,V'.heap[x]?=V.heap[x]?:=fun x hx=>hc.block x (hF x hx).2 (hF x hx).1
  rcases i with _ | _ | _ | _ | _ | _ | _ | _ | _ | _ | _ | i
  ·exact hφ
  ·obtain ⟨b,e,h,n⟩:=hφ
   exact ⟨b,e,h.frame hfr,n⟩
  ·exact hφ
  ·obtain ⟨b,e,h,n⟩:=hφ
   exact ⟨b,e,h.frame hfr,n⟩
  ·obtain ⟨b,e,h,n⟩:=hφ
   exact ⟨b,e,h.frame hfr,n⟩
  ·obtain ⟨b,e,h,n⟩:=hφ
   exact ⟨b,e,h.frame hfr,n⟩
  ·exact hφ
  ·obtain ⟨v,e,h⟩:=hφ
   exact ⟨v,e,h.mono fun x _ hx=>hfr x hx⟩
  ·exact Rd.mono (fun x _ hx=>hfr x hx) hφ
  ·exact hφ
  ·obtain ⟨hB,E5,e5,E6,e6,h1,h2⟩:=hφ
   exact ⟨hB,E5,e5,E6,e6,(hfr _ hB).trans h1,h2.mono fun x _ hx=>hfr x hx.1⟩
  ·exact hφ
 ·intro i oo hi ho a' w' f hst hch hown hπ hφ hfd K2 hK2
  have hsz:W3.heap.size<=w'.heap.size:=hch.size
  have hcw:Chg [] w w':=hc3.dr.trans hch fun x hx=>by
   rw [List.mem_singleton.1 hx];exact .inr (by omega)
  have hlow:∀ x,x < w.heap.size+2->w'.heap[x]?=W3.heap[x]?:=fun x hx=>hch.block x (by show x < W3.heap.size; omega) (by simp; omega)
  obtain ⟨a0,a1,a2,a3,a4,af⟩:=cells5 ((hlow w.heap.size (by omega)).trans z0);obtain ⟨b0,b1,b2,b3,b4,bf⟩:=cells5 ((hlow (w.heap.size+1) (by omega)).trans z1);have hi':i < 12:=hi;rcases i with _ | _ | _ | _ | _ | _ | _ | _ | _ | _ | _ | _ | i
  ·obtain rfl:_=oo:=Option.some.inj ho
   have h2:=g_eq (t:=2) (v:=.pointer (some ⟨w.heap.size,0,none⟩)) (hst 2 (by simp));unfold Oper.wp;go_simp;exact ⟨_,rfl,hK2 _ _ [] [] (by simp) (Chg.refl _ _) (by simp) rfl trivial (by simp)⟩
  ·obtain rfl:_=oo:=Option.some.inj ho
   have h6:=g_eq (t:=6) (v:=.agg #[.int .i64 (T.map ([]:List (ByteArray × T))).kind,.int .i64 (T.map ([]:List (ByteArray × T))).num,.string (T.map ([]:List (ByteArray × T))).txt,.slice A3 (T.map ([]:List (ByteArray × T))).keys.length q3,.slice A4 (T.map ([]:List (ByteArray × T))).vals.length q4]) (hπ 0 (by kernel_rfl));unfold Oper.wp;go_simp;refine (HM0.out w' hcw).mono ?_;rintro e w2 ⟨b,F,rfl,hc,hO,hn,hF⟩;exact ⟨_,rfl,hK2 _ _ F [] (by simp) hc (by simp) trivial ⟨b,rfl,hO,hn⟩ fun x hx=>⟨hO.lt x hx,.inl (hF x hx)⟩⟩
  ·obtain rfl:_=oo:=Option.some.inj ho
   have h3:=g_eq (t:=3) (v:=.pointer (some ⟨w.heap.size+1,0,none⟩)) (hst 3 (by simp));unfold Oper.wp;go_simp;exact ⟨_,rfl,hK2 _ _ [] [] (by simp) (Chg.refl _ _) (by simp) rfl trivial (by simp)⟩
  ·obtain rfl:_=oo:=Option.some.inj ho
   have h8:=g_eq (t:=8) (v:=.agg #[.int .i64 (T.map m).kind,.int .i64 (T.map m).num,.string (T.map m).txt,.slice C3 (T.map m).keys.length r3,.slice C4 (T.map m).vals.length r4]) (hπ 2 (by kernel_rfl));unfold Oper.wp;go_simp;refine (HM1.out w' hcw).mono ?_;rintro e w2 ⟨b,F,rfl,hc,hO,hn,hF⟩;exact ⟨_,rfl,hK2 _ _ F [] (by simp) hc (by simp) trivial ⟨b,rfl,hO,hn⟩ fun x hx=>⟨hO.lt x hx,.inl (hF x hx)⟩⟩
  ·obtain rfl:_=oo:=Option.some.inj ho
   obtain ⟨⟨b0',e7,ho7,hn7⟩,hf7⟩:=hφ 1 (by simp);obtain ⟨⟨b1',e9,ho9,hn9⟩,hf9⟩:=hφ 3 (by simp);have hap:=hfd 1 (by simp) 3 (by simp) (by decide);have h7:=g_eq (t:=7) e7;have h9:=g_eq (t:=9) e9;obtain ⟨ks,F',hm0,hl0,hw0,hF0⟩:=ho7.mapAt;have hks:ks=[]:=List.eq_nil_of_length_eq_zero hl0;subst hks
   have hin:b0'∈f 1:=by rw [hF0]; simp
   unfold Oper.wp;go_simp;refine (merge_root b0' b1' m (f 3) w' hm0 ho9 hn9 (hap _ hin)).mono ?_;rintro e w2 ⟨rfl,F2,hO2,hn2,hs2,hc2⟩;refine ⟨_,rfl,hK2 _ _ (b0' :: F2) [b0'] (by simp) hc2 (fun x hx=>.inr ⟨1,by simp,by rw [List.mem_singleton.1 hx]; exact hin⟩) ⟨_,rfl⟩ ⟨_,rfl,hO2,hn2⟩ fun x hx=>⟨hO2.lt x hx,.inr (.inr ?_)⟩⟩;rcases List.mem_cons.1 hx with rfl | hx
   ·exact ⟨1,by simp,hin⟩
   ·exact ⟨3,by simp,hs2 x hx⟩
  ·obtain rfl:_=oo:=Option.some.inj ho
   obtain ⟨⟨b,e10,hO,hn⟩,hF⟩:=hφ 4 (by simp);have h10:=g_eq (t:=10) e10;unfold Oper.wp;go_simp;exact ⟨_,rfl,hK2 _ _ (f 4) [] (by simp) (Chg.refl _ _) (by simp) trivial ⟨b,rfl,hO,hn⟩ fun x hx=>⟨(hF x hx).1,.inr (.inr ⟨4,by simp,hx⟩)⟩⟩
  ·obtain rfl:_=oo:=Option.some.inj ho
   obtain ⟨b,e10⟩:=hπ 4 (by kernel_rfl);have h10:=g_eq (t:=10) e10;unfold Oper.wp;go_simp;exact ⟨_,rfl,hK2 _ _ [] [] (by simp) (Chg.refl _ _) (by simp) rfl trivial (by simp)⟩
  ·obtain rfl:_=oo:=Option.some.inj ho
   obtain ⟨⟨b,e11,hO,hn⟩,hF⟩:=hφ 5 (by simp);have h11:=g_eq (t:=11) e11;have h12:=g_eq (t:=12) (v:=.nilIface) (hπ 6 (by kernel_rfl));unfold Oper.wp;go_simp;refine (model_any m b w' (f 5) hO hf).mono ?_;rintro e w2 ⟨v',rfl,hc,hr⟩;refine ⟨_,rfl,hK2 _ _ (List.range' w'.heap.size (w2.heap.size - w'.heap.size)) [] (by simp) hc (by simp) ⟨_,rfl⟩ ⟨_,rfl,hr.lo.weak fun x hx=>?_⟩ fun x hx=>?_⟩
   ·have h1:=hx.1
    have h2:=hx.2;simp only [List.mem_range'_1]
    omega
   ·simp only [List.mem_range'_1] at hx
    exact ⟨by omega,.inl hx.1⟩
  ·obtain rfl:_=oo:=Option.some.inj ho
   obtain ⟨⟨v,e13,hr⟩,hF⟩:=hφ 7 (by simp);have h13:=g_eq (t:=13) e13;unfold Oper.wp;go_simp;exact ⟨_,rfl,hK2 _ _ (f 7) [] (by simp) (Chg.refl _ _) (by simp) trivial hr fun x hx=>⟨(hF x hx).1,.inr (.inr ⟨7,by simp,hx⟩)⟩⟩
  ·obtain rfl:_=oo:=Option.some.inj ho
   obtain ⟨v,e13⟩:=hπ 7 (by kernel_rfl);have h13:=g_eq (t:=13) e13;unfold Oper.wp;go_simp;exact ⟨_,rfl,hK2 _ _ [] [] (by simp) (Chg.refl _ _) (by simp) rfl trivial (by simp)⟩
  ·obtain rfl:_=oo:=Option.some.inj ho
   obtain ⟨hr,hF⟩:=hφ 8 (by simp);have hbox:=(hown _ (by simp)).trans z2;have hr:Rd (fun x=>x∈f 8) w' (.map m) (Act.g a' 14):=hr;generalize e14:Act.g a' 14=vv at hr;obtain ⟨E5,e5,E6,e6,rfl,_⟩:=hr.five;have h14:=g_eq (t:=14) e14;have h4:=g_eq (t:=4) (v:=.pointer (some ⟨w.heap.size+2,0,none⟩)) (hst 4 (by simp));obtain ⟨d0,d1,d2,d3,d4,df⟩:=cells5 hbox;have hblt:w.heap.size+2 < w'.heap.size:=(Array.getElem?_eq_some_iff.1 hbox).1;obtain ⟨W,hW,Q,hne,_,hszW⟩:=store5 (w0:=w) hbox hcw (by omega) (.int .i64 (T.map m).kind) (.int .i64 (T.map m).num) (.string (T.map m).txt) (.slice E5 (T.map m).keys.length e5) (.slice E6 (T.map m).vals.length e6);have hcB:Chg [w.heap.size+2] w' W:=hW ▸ (((((Chg.refl [w.heap.size+2] w').put (p:=⟨w.heap.size+2,0,none⟩) (by simp) _).put (p:=⟨w.heap.size+2,1,none⟩) (by simp) _).put (p:=⟨w.heap.size+2,2,none⟩) (by simp) _).put (p:=⟨w.heap.size+2,3,none⟩) (by simp) _).put (p:=⟨w.heap.size+2,4,none⟩) (by simp) _
   have h8B:∀ x∈f 8,x≠w.heap.size+2:=fun x hx e=>by
    have:=(hF x hx).2;simp at this
    omega
   unfold Oper.wp;go_simp;rw [<- hW];refine ⟨_,hK2 _ W ((w.heap.size+2) :: f 8) [w.heap.size+2] (fun _=>rfl) hcB (fun x hx=>.inl (by simpa using hx)) trivial ⟨by simp,E5,e5,E6,e6,Q,hr.to fun x hx hm=>⟨⟨List.mem_cons_of_mem _ hm,h8B x hm⟩,hne x (h8B x hm)⟩⟩ fun x hx=>?_⟩;rcases List.mem_cons.1 hx with rfl | hx
   ·exact ⟨by omega,.inr (.inl (by simp))⟩
   ·exact ⟨by have:=(hF x hx).1; omega,.inr (.inr ⟨8,by simp,hx⟩)⟩
  ·obtain rfl:_=oo:=Option.some.inj ho
   have h15:=g_eq (t:=15) (v:=.bool true) (hπ 9 (by kernel_rfl));unfold Oper.wp;go_simp;exact ⟨_,rfl,hK2 _ _ [] [] (by simp) (Chg.refl _ _) (by simp) rfl trivial (by simp)⟩
  ·omega
 ·intro u f w' hch hπ hφ A2 hA2
  have hu:u 11=.bool true:=hπ 11 (by decide);obtain ⟨⟨hB,E5,e5,E6,e6,Q,hr⟩,hF⟩:=hφ 10 (by decide) (by simp)
  have hcw:Chg [] w w':=hc3.dr.trans hch fun x hx=>by
   rw [List.mem_singleton.1 hx];exact .inr (by omega)
  have hR:Rd (fun b=>w.heap.size<=b) w' (.map m) (.agg #[.int .i64 (T.map m).kind,.int .i64 (T.map m).num,.string (T.map m).txt,.slice E5 (T.map m).keys.length e5,.slice E6 (T.map m).vals.length e6]):=hr.weak fun x hx=>by
   have:=(hF x hx.1).2;simp at this
   omega
  simp [putAll,dOf,Act.put,hu] at hA2;subst hA2;have HE:=Lib.hid (And.intro Q (And.intro hcw hR));obtain ⟨e0,e1,e2,e3,e4,ef⟩:=cells5 Q;clear hφ hu hch hcw hr hR Q hπ hF;refine hK _ _ ?_
  go_wp2_with fail
  refine bodyPost_ret (v:=.tuple #[.agg #[.int .i64 (T.map m).kind,.int .i64 (T.map m).num,.string (T.map m).txt,.slice E5 (T.map m).keys.length e5,.slice E6 (T.map m).vals.length e6],.bool true]) (by simp [results,Tryz.results43,go_sem,e0,e1,e2,e3,e4]) rfl ⟨_,rfl,HE.out.2.1,HE.out.2.2⟩
end Go.Proofs.YtpofkokbmifhgaaGreatDoor
