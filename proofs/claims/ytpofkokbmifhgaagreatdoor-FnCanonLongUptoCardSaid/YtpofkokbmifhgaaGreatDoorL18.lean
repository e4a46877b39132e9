/- Parts of the walk, made small by wip/tools/pack.py: Bnd, CanB. No condition but those in each statement. -/
import Derived.Test.YtpofkokbmifhgaaGreatDoorL10
import Derived.Test.YtpofkokbmifhgaaGreatDoorL17
import Derived.Test.YtpofkokbmifhgaaGreatDoorL07
import Derived.Lib.ItoaLen
set_option maxRecDepth 100000
set_option maxHeartbeats 20000000
set_option linter.unusedVariables false
set_option linter.unusedSimpArgs false
namespace Go.Proofs.YtpofkokbmifhgaaGreatDoor
open Classical
theorem sizeL_map {c:Nat} {f:T->T}:∀ {l:List T},(∀ t∈l,T.size (f t)<=c * T.size t)->T.sizeL (l.map f)<=c * T.sizeL l
 | [],_=>Nat.zero_le _
 | t :: l,h=>by
  have h1:=h t (by simp)
  have h2:=sizeL_map (l:=l) fun x hx=>h x (List.mem_cons_of_mem _ hx)
  simp only [List.map_cons,T.sizeL,Nat.mul_add]
  omega
theorem sizeM_map {c:Nat} {f:ByteArray->T->T}:∀ {m:List (ByteArray × T)},(∀ p∈m,T.size (f p.1 p.2)<=c * T.size p.2)->T.sizeM (m.map fun p=>(p.1,f p.1 p.2))<=c * T.sizeM m
 | [],_=>Nat.zero_le _
 | p :: m,h=>by
  have h1:=h p (by simp)
  have h2:=sizeM_map (m:=m) fun x hx=>h x (List.mem_cons_of_mem _ hx)
  simp only [List.map_cons,T.sizeM,Nat.mul_add]
  omega
theorem sizeL_snoc {x:T}:∀ {l:List T},T.sizeL (l++[x])=T.sizeL l+T.size x
 | []=>by simp [T.sizeL]
 | t :: l=>by
  have:=sizeL_snoc (x:=x) (l:=l);simp only [List.cons_append,T.sizeL]
  omega
theorem WF.mapM {B:Nat} {f:ByteArray->T->T} {m:List (ByteArray × T)} (h:WF B (.map m)) (hf:∀ p∈m,WF B p.2->WF B (f p.1 p.2)):WF B (.map (m.map fun p=>(p.1,f p.1 p.2))):=
 ⟨srt_map h.1,WFM_iff.2 fun q hq=>by
  obtain ⟨p,hp,rfl⟩:=List.mem_map.1 hq;have:=WFM_iff.1 h.2 p hp
  exact ⟨this.1,hf p hp this.2⟩⟩
theorem WF.mapL {B:Nat} {f:T->T} {l:List T} (h:WF B (.list l)) (hf:∀ t∈l,WF B t->WF B (f t)):WF B (.list (l.map f)):=
 WFL_iff.2 fun x hx=>by
  obtain ⟨t,ht,rfl⟩:=List.mem_map.1 hx;exact hf t ht (WFL_iff.1 h t ht)
theorem WF.m_ {B:Nat} {t:T} (h:WF B t):WF B (.map t.m):=by
 cases t with
 | map m=>exact h
 | _=>exact WF.empty
theorem size_uniq {K:Type} {key:T->K} (l:List T):T.sizeL (uniqBy key l)<=T.sizeL l:=by
 have hp:∀ (t:T) (l:List T),T.sizeL (putBy key t l)<=T.sizeL l+T.size t:=fun t l=>by
  induction l with
  | nil=>simp [putBy,T.sizeL]
  | cons x l ih=>
   unfold putBy
   split
   ·simp only [T.sizeL]
    omega
   ·simp only [T.sizeL]
    omega
 refine rev_ind (p:=fun l=>T.sizeL (uniqBy key l)<=T.sizeL l) (Nat.le_refl _) (fun l x h=>?_) l;rw [uniq_snoc,sizeL_snoc];have:=hp x (uniqBy key l)
 omega
theorem size_fold {c:Nat} {f:T->ByteArray} {g:T->T}:∀ (l:List T) (m:List (ByteArray × T)),(∀ t∈l,T.size (g t)<=c)->T.sizeM (l.foldl (fun m t=>mins (f t) (g t) m) m)<=T.sizeM m+c * l.length
 | [],m,_=>by simp
 | t :: l,m,h=>by
  have h1:=size_fold (f:=f) (g:=g) l (mins (f t) (g t) m) fun x hx=>h x (List.mem_cons_of_mem _ hx)
  have h2:=sizeM_ins (k:=f t) (x:=g t) (m:=m);have h3:=h t (by simp);simp only [List.foldl_cons,List.length_cons,Nat.mul_add]
  omega
theorem wf_fold {B:Nat} {f:T->ByteArray} {g:T->T}:∀ (l:List T) (m:List (ByteArray × T)),WF B (.map m)->(∀ t∈l,(f t).size<=B/\WF B (g t))->WF B (.map (l.foldl (fun m t=>mins (f t) (g t) m) m))
 | [],m,h,_=>h
 | t :: l,m,h,hl=>wf_fold l _ (h.ins (hl t (by simp)).1 (hl t (by simp)).2) fun x hx=>hl x (List.mem_cons_of_mem _ hx)
mutual
theorem size_uniT:∀ (t:T) (ps:List ByteArray),T.size (uniT ps t)<=T.size t
 | .map m,ps=>by
  simp only [uniT,T.size];have:=size_uniM m ps
  omega
 | .list l,ps=>by
  simp only [uniT]
  split
  ·simp only [T.size]
   have:=size_uniq (key:=ixKey ‹Ix›) l
   omega
  ·exact Nat.le_refl _
 | .null,_=>by simp [uniT]
 | .bool _,_=>by simp [uniT]
 | .int _,_=>by simp [uniT]
 | .text _,_=>by simp [uniT]
theorem size_uniM:∀ (m:List (ByteArray × T)) (ps:List ByteArray),T.sizeM (uniM ps m)<=T.sizeM m
 | [],_=>by simp [uniM]
 | p :: m,ps=>by
  simp only [uniM,T.sizeM];have h1:=size_uniT p.2 (ps++[nxt ps p.1]);have h2:=size_uniM m ps
  omega
end
mutual
theorem wf_uniT {B:Nat}:∀ (t:T) (ps:List ByteArray),WF B t->WF B (uniT ps t)
 | .map m,ps,h=>by
  have h2:=wf_uniM m ps h.2;simp only [uniT];exact ⟨by rw [uniM_eq]; exact srt_map (f:=fun k t=>uniT (ps++[nxt ps k]) t) h.1,h2⟩
 | .list l,ps,h=>by
  simp only [uniT]
  split
  ·exact WFL_iff.2 fun x hx=>WFL_iff.1 h x (mem_uniq hx)
  ·exact h
 | .null,_,h=>by simp [uniT,WF]
 | .bool _,_,h=>by simp [uniT,WF]
 | .int _,_,h=>by simp only [uniT]; exact h
 | .text _,_,h=>by simp only [uniT]; exact h
theorem wf_uniM {B:Nat}:∀ (m:List (ByteArray × T)) (ps:List ByteArray),WFM B m->WFM B (uniM ps m)
 | [],_,_=>trivial
 | p :: m,ps,h=>by
  simp only [uniM];exact ⟨h.1,wf_uniT p.2 _ h.2.1,wf_uniM m ps h.2.2⟩
end
theorem size_needC (d:List (ByteArray × T)):T.size (.map (needC d))<=3+T.sizeM d:=by
 have h1:=sizeM_ins (k:=cCondition) (x:=.text cServiceStarted) (m:=d);simp only [T.size] at h1
 have:∀ e,T.sizeM (if hasK cRequired e then e else mins cRequired (.bool true) e)<=T.sizeM e+1:=fun e=>by
  split
  ·omega
  ·have h1:=sizeM_ins (k:=cRequired) (x:=.bool true) (m:=e)
   simpa only [T.size] using h1
 have h2:=this (if hasK cCondition d then d else mins cCondition (.text cServiceStarted) d)
 have h3:T.sizeM (if hasK cCondition d then d else mins cCondition (.text cServiceStarted) d)<=T.sizeM d+1:=by
  split
  ·omega
  ·exact h1
 simp only [T.size,needC]
 omega
theorem wf_needC {B:Nat} (hB:64<=B) {d:List (ByteArray × T)} (h:WF B (.map d)):WF B (.map (needC d)):=by
 have h1:WF B (.map (if hasK cCondition d then d else mins cCondition (.text cServiceStarted) d)):=by
  split
  ·exact h
  ·exact h.ins (Nat.le_trans (by decide +kernel) hB) (Nat.le_trans (by decide +kernel:cServiceStarted.size<=64) hB)
 unfold needC
 dsimp only
 generalize (if hasK cCondition d then d else mins cCondition (.text cServiceStarted) d)=e at h1 ⊢
 by_cases hk:hasK cRequired e=true
 ·rw [if_pos hk]
  exact h1
 ·rw [if_neg hk]
  exact h1.ins (Nat.le_trans (by decide +kernel) hB) trivial
theorem size_foldK {x:T} (l:List T):T.size (.map (foldK x l))<=1+T.size x * l.length:=by
 have:=size_fold (f:=T.txt) (g:=fun _=>x) (c:=T.size x) l [] fun _ _=>Nat.le_refl _
 simp only [T.sizeM,Nat.zero_add] at this;simp only [T.size,foldK]
 omega
theorem wf_foldK {B:Nat} {x:T} (hx:WF B x) {l:List T} (h:WF B (.list l)):WF B (.map (foldK x l)):=
 wf_fold (f:=T.txt) (g:=fun _=>x) l [] WF.empty fun t ht=>⟨(WFL_iff.1 h t ht).txt,hx⟩
theorem wf_impC {B:Nat} (hB:64<=B):WF B impC:=by
 refine ⟨List.pairwise_pair.2 (by decide +kernel:_),Nat.le_trans (by decide +kernel) hB,Nat.le_trans (by decide +kernel:cServiceStarted.size<=64) hB,Nat.le_trans (by decide +kernel) hB,trivial,trivial⟩
theorem size_impC:T.size impC=3:=by rfl
mutual
theorem size_canT:∀ (t:T) (ps:List ByteArray),T.size (canT ps t)<=4 * T.size t
 | .map m,ps=>by
  have h1:=size_canM m ps;simp only [canT]
  split
  ·simp only [T.size]; omega
  ·simp only [T.size]; omega
  ·simp only [T.size]; omega
  ·simp only [T.size]; omega
  ·have h2:=sizeM_map (c:=4) (f:=fun _ t=>.map (needC t.m)) (m:=m) fun p hp=>by
    have h3:=size_needC p.2.m;have h4:=size_m p.2
    omega
   simp only [T.size]
   omega
  ·omega
 | .list l,ps=>by
  have h1:=size_canL l (ps++[cElems]);simp only [canT]
  split
  ·simp only [T.size]; omega
  ·have h2:=size_foldK (x:=.null) l
   have h3:=sizeL_len' l;simp only [T.size] at h2 ⊢
   omega
  ·have h2:=size_foldK (x:=impC) l
   have h3:=sizeL_len' l;rw [size_impC] at h2;simp only [T.size] at h2 ⊢
   omega
  ·omega
 | .text s,ps=>by
  simp only [canT]
  split <;> simp [T.size,T.sizeM,T.sizeL]
 | .null,_=>by simp [canT]; omega
 | .bool _,_=>by simp [canT]; omega
 | .int _,_=>by simp [canT]; omega
theorem size_canM:∀ (m:List (ByteArray × T)) (ps:List ByteArray),T.sizeM (canM ps m)<=4 * T.sizeM m
 | [],_=>by simp [canM,T.sizeM]
 | p :: m,ps=>by
  simp only [canM,T.sizeM];have h1:=size_canT p.2 (ps++[nxt ps p.1]);have h2:=size_canM m ps
  omega
theorem size_canL:∀ (l:List T) (ps:List ByteArray),T.sizeL (canL ps l)<=4 * T.sizeL l
 | [],_=>by simp [canL,T.sizeL]
 | t :: l,ps=>by
  simp only [canL,T.sizeL];have h1:=size_canT t ps;have h2:=size_canL l ps
  omega
end
mutual
theorem wf_canT {B:Nat} (hB:64<=B):∀ (t:T) (ps:List ByteArray),WF B t->WF B (canT ps t)
 | .map m,ps,h=>by
  have h0:=wf_canM hB m ps h.2
  have h1:WF B (.map (canM ps m)):=⟨by rw [canM_eq]; exact srt_map (f:=fun k t=>canT (ps++[nxt ps k]) t) h.1,h0⟩
  simp only [canT]
  split
  ·exact h1
  ·exact h1
  ·exact h1
  ·exact h1
  ·exact h.mapM (f:=fun _ t=>.map (needC t.m)) fun p _ hw=>wf_needC hB hw.m_
  ·exact h
 | .list l,ps,h=>by
  have h1:WF B (.list (canL (ps++[cElems]) l)):=wf_canL hB l _ h;simp only [canT]
  split
  ·exact h1
  ·exact wf_foldK (B:=B) (x:=.null) trivial h
  ·exact wf_foldK (wf_impC hB) h
  ·exact h
 | .text s,ps,h=>by
  simp only [canT]
  split
  ·exact (WF.empty (B:=B)).ins (k:=cContext) (x:=.text s) (Nat.le_trans (by decide +kernel) hB) h
  ·exact (WF.empty (B:=B)).ins (k:=cSource) (x:=.text s) (Nat.le_trans (by decide +kernel) hB) h
  ·exact ⟨h,trivial⟩
  ·exact h
 | .null,_,h=>by simp only [canT]; exact h
 | .bool _,_,h=>by simp only [canT]; exact h
 | .int _,_,h=>by simp only [canT]; exact h
theorem wf_canM {B:Nat} (hB:64<=B):∀ (m:List (ByteArray × T)) (ps:List ByteArray),WFM B m->WFM B (canM ps m)
 | [],_,_=>trivial
 | p :: m,ps,h=>by
  simp only [canM];exact ⟨h.1,wf_canT hB p.2 _ h.2.1,wf_canM hB m ps h.2.2⟩
theorem wf_canL {B:Nat} (hB:64<=B):∀ (l:List T) (ps:List ByteArray),WFL B l->WFL B (canL ps l)
 | [],_,_=>trivial
 | t :: l,ps,h=>by
  simp only [canL];exact ⟨wf_canT hB t _ h.1,wf_canL hB l ps h.2⟩
end
theorem form_size (m:List (ByteArray × T)):T.size (.map (formP m))<=4 * T.size (.map m):=by
 have h1:=size_canT (uniT [] (.map m)) [];have h2:=size_uniT (.map m) [];rw [form_eq] at h1
 omega
theorem form_wf {B:Nat} (hB:64<=B) {m:List (ByteArray × T)} (h:WF B (.map m)):WF B (.map (formP m)):=by
 have:=wf_canT hB (uniT [] (.map m)) [] (wf_uniT _ _ h)
 rwa [form_eq] at this
theorem size_named (l:List T):T.size (.map (namedL l))<=1+l.length:=by
 have:=size_fold (f:=fun t=>cutK t.txt) (g:=fun t=>cutV t.txt) (c:=1) l [] fun t _=>by unfold cutV; split <;> simp [T.size]
 simp only [T.sizeM,Nat.zero_add,Nat.one_mul] at this;simp only [T.size,namedL]
 omega
theorem wf_named {B:Nat} {l:List T} (h:WF B (.list l)):WF B (.map (namedL l)):=
 wf_fold (f:=fun t=>cutK t.txt) (g:=fun t=>cutV t.txt) l [] WF.empty fun t ht=>by
  have:=(WFL_iff.1 h t ht).txt;refine ⟨Nat.le_trans (extract_size_le _ _ _) this,?_⟩;unfold cutV
  split
  ·exact Nat.le_trans (extract_size_le _ _ _) this
  ·trivial
theorem size_vals_le (t:T):T.sizeL t.vals+1=T.size t:=by
 have:=T.size_vals t
 omega
theorem wf_vals {B:Nat} {t:T} (h:WF B t):WF B (.list t.vals):=WFL_iff.2 h.vals
theorem uniqC_ok {B:Nat} (k:ByteArray) {t:T} (h:WF B t):WF B (uniqC k t)/\T.size (uniqC k t)<=T.size t:=by
 unfold uniqC
 split
 ·refine ⟨WFL_iff.2 fun x hx=>h.vals x (mem_uniq hx),?_⟩
  have h1:=size_uniq (key:=useT k) t.vals;have h2:=size_vals_le t;simp only [T.size]
  omega
 ·exact ⟨h,Nat.le_refl _⟩
theorem canonN_ok {B:Nat} {t:T} (h:WF B t):WF B (canonN t)/\T.size (canonN t)<=4 * T.size t:=by
 cases t with
 | list l=>
  refine ⟨wf_named h,?_⟩;have h1:=size_named l;have h2:=sizeL_len' l;simp only [T.size,canonN] at h1 ⊢
  omega
 | _=>exact ⟨h,by simp only [canonN]; omega⟩
theorem needR_ok {B:Nat} (hB:64<=B) {d:T} (h:WF B d):WF B (needR d)/\T.size (needR d)<=4 * T.size d:=by
 unfold needR
 split
 ·exact ⟨h,by omega⟩
 ·refine ⟨h.m_.ins (Nat.le_trans (by decide +kernel) hB) trivial,?_⟩
  have h1:=sizeM_ins (k:=cRequired) (x:=.bool true) (m:=d.m);have h2:=size_m d;simp only [T.size] at h1 ⊢
  omega
theorem foldK_ok {B:Nat} {x t:T} (hx:WF B x) (h:WF B t) (hs:T.size x<=3):WF B (.map (foldK x t.vals))/\T.size (.map (foldK x t.vals))<=4 * T.size t:=by
 refine ⟨wf_foldK hx (wf_vals h),?_⟩;have h1:=size_foldK (x:=x) t.vals;have h2:=size_vals_le t;have h3:=sizeL_len' t.vals;have h4:T.size x * t.vals.length<=3 * t.vals.length:=Nat.mul_le_mul_right _ hs
 omega
theorem needsC_ok {B:Nat} (hB:64<=B) {t:T} (h:WF B t):WF B (needsC t)/\T.size (needsC t)<=4 * T.size t:=by
 cases t with
 | map m=>
  refine ⟨h.mapM (f:=fun _ t=>needR t) fun p _ hw=>(needR_ok hB hw).1,?_⟩
  have h1:=sizeM_map (c:=4) (f:=fun _ t=>needR t) (m:=m) fun p hp=>(needR_ok hB (WFM_iff.1 h.2 p hp).2).2
  simp only [T.size,needsC]
  omega
 | _=>exact foldK_ok (wf_impC hB) h (by rw [size_impC]; omega)
theorem netsC_ok {B:Nat} {t:T} (h:WF B t):WF B (netsC t)/\T.size (netsC t)<=4 * T.size t:=by
 cases t with
 | map m=>exact ⟨h,by simp only [netsC]; omega⟩
 | _=>exact foldK_ok (B:=B) (x:=.null) trivial h (by simp [T.size])
theorem buildC_ok {B:Nat} (hB:64<=B) {t:T} (h:WF B t):WF B (buildC t)/\T.size (buildC t)<=4 * T.size t:=by
 cases t with
 | text s=>exact ⟨(WF.empty (B:=B)).ins (k:=cContext) (x:=.text s) (Nat.le_trans (by decide +kernel) hB) h,by simp [buildC,T.size,T.sizeM]⟩
 | _=>exact ⟨h,by simp only [buildC]; omega⟩
theorem fileC_ok {B:Nat} (hB:64<=B) {t:T} (h:WF B t):WF B (fileC t)/\T.size (fileC t)<=4 * T.size t:=by
 cases t with
 | text s=>exact ⟨(WF.empty (B:=B)).ins (k:=cSource) (x:=.text s) (Nat.le_trans (by decide +kernel) hB) h,by simp [fileC,T.size,T.sizeM]⟩
 | _=>exact ⟨h,by simp only [fileC]; omega⟩
theorem filesC_ok {B:Nat} (hB:64<=B) {t:T} (h:WF B t):WF B (filesC t)/\T.size (filesC t)<=4 * T.size t:=by
 refine ⟨(wf_vals h).mapL fun x _ hw=>(fileC_ok hB hw).1,?_⟩
 have h1:=sizeL_map (c:=4) (f:=fileC) (l:=t.vals) fun x hx=>(fileC_ok hB (h.vals x hx)).2
 have h2:=size_vals_le t;simp only [T.size,filesC]
 omega
theorem canonA_ok {B:Nat} (hB:64<=B) (k:ByteArray) {t:T} (h:WF B t):WF B (canonA k t)/\T.size (canonA k t)<=4 * T.size t:=by
 obtain ⟨h1,h2⟩:=uniqC_ok k h
 have up:∀ x,WF B x/\T.size x<=4 * T.size (uniqC k t)->WF B x/\T.size x<=4 * T.size t:=fun x hx=>⟨hx.1,by have:=hx.2; omega⟩
 unfold canonA
 dsimp only
 split
 ·exact up _ (canonN_ok h1)
 split
 ·exact up _ (needsC_ok hB h1)
 split
 ·exact up _ (netsC_ok h1)
 split
 ·exact up _ (buildC_ok hB h1)
 split
 ·exact up _ (filesC_ok hB h1)
 ·exact ⟨h1,by omega⟩
theorem canonSvc_ok {B:Nat} (hB:64<=B) {t:T} (h:WF B t):WF B (canonSvc t)/\T.size (canonSvc t)<=4 * T.size t:=by
 refine ⟨h.m_.mapM (f:=canonA) fun p _ hw=>(canonA_ok hB _ hw).1,?_⟩
 have h1:=sizeM_map (c:=4) (f:=canonA) (m:=t.m) fun p hp=>(canonA_ok hB _ (WFM_iff.1 h.m_.2 p hp).2).2
 have h2:=size_m t;simp only [T.size,canonSvc]
 omega
theorem put_ok {B:Nat} {m l l':List (ByteArray × T)} (h:WF B (.map m)) (hg:mget cServices m=some (.map l)) (hl:WF B (.map l')) (hs:T.sizeM l'<=4 * T.sizeM l):WF B (.map (mins cServices (.map l') m))/\T.size (.map (mins cServices (.map l') m))<=4 * T.size (.map m):=by
 refine ⟨h.ins ((WFM_iff.1 h.2 _ (get_some hg)).1) hl,?_⟩;have h1:=sizeM_put (x:=.map l') h.1 hg;have h2:=sizeM_get hg;simp only [T.size] at h1 h2 ⊢
 omega
theorem canonS_ok {B:Nat} (hB:64<=B) {m:List (ByteArray × T)} (h:WF B (.map m)):WF B (.map (canonS m))/\T.size (.map (canonS m))<=4 * T.size (.map m)+4:=by
 unfold canonS
 split
 ·rename_i x hx
  have hwx:WF B x:=h.of_get hx
  have h1:=sizeM_map (c:=4) (f:=fun _ t=>canonSvc t) (m:=x.m) fun p hp=>(canonSvc_ok hB (WFM_iff.1 hwx.m_.2 p hp).2).2
  refine ⟨h.ins ((WFM_iff.1 h.2 _ (get_some hx)).1) (hwx.m_.mapM (f:=fun _ t=>canonSvc t) fun p _ hw=>(canonSvc_ok hB hw).1),?_⟩;have h2:=sizeM_put (x:=.map (x.m.map fun p=>(p.1,canonSvc p.2))) h.1 hx;have h3:=sizeM_get hx;have h4:=size_m x;simp only [T.size] at h2 ⊢
  omega
 ·exact ⟨h,by omega⟩
theorem digits_le (n:Int) (h:-9223372036854775808<=n/\n<=9223372036854775807):(digits n).size<=64:=by
 have h1:=Lib.itoa_length_le n h.1 h.2
 have h2:(digits n).size=(Lib.itoa n).length:=by simp [digits,ByteArray.size]
 omega
theorem viewW_ok {B:Nat} (hB:64<=B) {t:T} (h:WF B t):WF B (viewW t)/\T.size (viewW t)<=4 * T.size t:=by
 cases t with
 | int n=>exact ⟨Nat.le_trans (digits_le n h) hB,by simp [viewW,T.size]⟩
 | bool b=>exact ⟨Nat.le_trans (by cases b <;> decide +kernel:(if b then cTrue else cFalse).size<=64) hB,by simp [viewW,T.size]⟩
 | _=>exact ⟨h,by simp only [viewW]; omega⟩
theorem viewN_ok {B:Nat} (hB:64<=B) {t:T} (h:WF B t):WF B (viewN t)/\T.size (viewN t)<=4 * T.size t:=by
 cases t with
 | list l=>
  refine ⟨wf_named h,?_⟩;have h1:=size_named l;have h2:=sizeL_len' l;simp only [T.size,viewN] at h1 ⊢
  omega
 | map m=>
  refine ⟨h.mapM (f:=fun _ t=>viewW t) fun p _ hw=>(viewW_ok hB hw).1,?_⟩
  have h1:=sizeM_map (c:=4) (f:=fun _ t=>viewW t) (m:=m) fun p hp=>(viewW_ok hB (WFM_iff.1 h.2 p hp).2).2
  simp only [T.size,viewN]
  omega
 | _=>exact ⟨h,by simp only [viewN]; omega⟩
theorem viewA_ok {B:Nat} (hB:64<=B) (k:ByteArray) {t:T} (h:WF B t):WF B (viewA k t)/\T.size (viewA k t)<=4 * T.size t:=by
 unfold viewA
 split
 ·exact viewN_ok hB h
 ·exact ⟨h,by omega⟩
theorem viewSvc_ok {B:Nat} (hB:64<=B) {t:T} (h:WF B t):WF B (viewSvc t)/\T.size (viewSvc t)<=4 * T.size t:=by
 cases t with
 | map m=>
  refine ⟨h.mapM (f:=viewA) fun p _ hw=>(viewA_ok hB _ hw).1,?_⟩
  have h1:=sizeM_map (c:=4) (f:=viewA) (m:=m) fun p hp=>(viewA_ok hB _ (WFM_iff.1 h.2 p hp).2).2
  simp only [T.size,viewSvc]
  omega
 | _=>exact ⟨h,by simp only [viewSvc]; omega⟩
theorem viewM_ok {B:Nat} (hB:64<=B) {m:List (ByteArray × T)} (h:WF B (.map m)):WF B (.map (viewM m))/\T.size (.map (viewM m))<=4 * T.size (.map m):=by
 unfold viewM
 split
 ·rename_i l hl
  have hwl:WF B (.map l):=h.of_get hl;exact put_ok h hl (hwl.mapM (f:=fun _ t=>viewSvc t) fun p _ hw=>(viewSvc_ok hB hw).1) (sizeM_map (c:=4) (f:=fun _ t=>viewSvc t) (m:=l) fun p hp=>(viewSvc_ok hB (WFM_iff.1 hwl.2 p hp).2).2)
 ·exact ⟨h,by omega⟩
theorem top_keys {m:List (ByteArray × T)} (h:SaysOK m):∀ p∈m,NoDot p.1/\p.1≠⟨#[]⟩:=fun p hp=>by
 have:=h p hp;generalize p.1=k at this;generalize p.2=v at this
 cases this with
 | extra hx=>
  obtain ⟨c,h1,h2,rfl⟩:=hx;refine ⟨?_,fun h=>by injection h with h; simp at h⟩;simp only [NoDot,Array.toList,List.mem_cons,List.not_mem_nil,or_false,not_or];refine ⟨by decide,by decide,?_⟩;rintro rfl;exact absurd h1 (by decide)
 | _=>exact ⟨by decide +kernel,by decide +kernel⟩
end Go.Proofs.YtpofkokbmifhgaaGreatDoor
namespace Go.Proofs.YtpofkokbmifhgaaGreatDoor
open Go.RowKit
variable {o:Nat->Prop}
mutual
theorem WFR.mono {B C:Nat} (h:B<=C):∀ {r:Raw},WFR B r->WFR C r
 | .mk _ _ _ _ _,hw=>by
  simp only [WFR] at hw ⊢;exact ⟨by omega,by omega,by omega,fun k hk=>Nat.le_trans (hw.2.2.2.1 k hk) h,hw.2.2.2.2.1,WFRL.mono h hw.2.2.2.2.2⟩
theorem WFRL.mono {B C:Nat} (h:B<=C):∀ {l:List Raw},WFRL B l->WFRL C l
 | [],_=>by simp only [WFRL]
 | _ :: _,hw=>by
  simp only [WFRL] at hw ⊢;exact ⟨WFR.mono h hw.1,WFRL.mono h hw.2⟩
end
structure CanB (m mu:List (ByteArray × T)):Prop where
 uni:uniT [] (.map m)=.map mu
 can:canT [] (.map mu)=.map (formP m)
 wfm:WF 1048576 (.map m)
 szm:T.size (.map m)<=1048576
 okm:UniOK [] (.map m)
 wfu:WF 1048576 (.map mu)
 szu:T.size (.map mu)<=1048576
 oku:CanOK [] (.map mu)
 km:∀ p∈m,NoDot p.1/\p.1≠⟨#[]⟩
 ku:∀ p∈mu,NoDot p.1/\p.1≠⟨#[]⟩
 fm:Fine (.map m)
 fu:Fine (.map mu)
 fp:Fine (.map (formP m))
 fc:Fine (.map (canonS m))
 fv:Fine (.map (viewM (canonS m)))
 fvp:Fine (.map (viewM (formP m)))
theorem canB {m:List (ByteArray × T)} (h:SaysOK m) (hw:WF 1048576 (.map m)) (hz:T.size (.map m)<=1048576):CanB m (m.map fun p=>(p.1,uniT [p.1] p.2)):=by
 have hu:=uniT_root m;have h1:=size_uniT (.map m) [];have h2:=wf_uniT (B:=1048576) (.map m) [] hw;have h3:=form_size m;have h4:=form_wf (B:=1048576) (by decide) hw;have h5:=canonS_ok (B:=1048576) (by decide) hw;have h6:=viewM_ok (B:=1048576) (by decide) h5.1;have h7:=viewM_ok (B:=1048576) (by decide) h4;rw [hu] at h1 h2;refine ⟨hu,?_,hw,hz,model_uniOK h,h2,by omega,?_,top_keys h,fun q hq=>?_,⟨hw.mono (by decide),by omega⟩,⟨h2.mono (by decide),by omega⟩,⟨h4.mono (by decide),by omega⟩,⟨h5.1.mono (by decide),by omega⟩,⟨h6.1.mono (by decide),by omega⟩,⟨h7.1.mono (by decide),by omega⟩⟩
 ·rw [<- hu]
  exact form_eq m
 ·rw [<- hu]
  exact model_canOK h
 ·obtain ⟨p,hp,rfl⟩:=List.mem_map.1 hq
  exact top_keys h p hp
structure LgB (m n:List (ByteArray × T)):Prop where
 can:canT [] (.map (canonS m))=.map n
 wfc:WF 1048576 (.map (canonS m))
 szc:T.size (.map (canonS m))<=8000000
 okc:CanOK [] (.map (canonS m))
 kc:∀ p∈canonS m,NoDot p.1/\p.1≠⟨#[]⟩
 fn:Fine (.map n)
 view:viewM n=viewM (canonS m)
theorem lgB {m:List (ByteArray × T)} (hs:Srt m) (h:SaysOK m) (hsaid:SaidM m) (hw:WF 1048576 (.map m)) (hz:T.size (.map m)<=1048576):∃ n,LgB m n:=by
 obtain ⟨h1,n,h2,h3⟩:=model_long hs h hsaid;have h4:=canonS_ok (B:=1048576) (by decide) hw;have h5:=size_canT (.map (canonS m)) [];have h6:=wf_canT (B:=1048576) (by decide) (.map (canonS m)) [] h4.1;rw [h2] at h5 h6;refine ⟨n,h2,h4.1,by omega,h1,fun q hq=>?_,⟨h6.mono (by decide),by omega⟩,h3⟩;unfold canonS at hq
 split at hq
 ·rcases mem_ins hq with rfl | hq
  ·exact ⟨by simp [NoDot,cServices],(by decide:cServices≠⟨#[]⟩)⟩
  ·exact top_keys h q hq
 ·exact top_keys h q hq
end Go.Proofs.YtpofkokbmifhgaaGreatDoor
