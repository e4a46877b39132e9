/- Parts of the walk, made small by wip/tools/pack.py: Bnd, LawC. No condition but those in each statement. -/
import Derived.Test.YtpofkokbmifhgaaGreatDoorK19
import Derived.Test.YtpofkokbmifhgaaGreatDoorK36
import Derived.Test.YtpofkokbmifhgaaGreatDoorK25
import Derived.Test.YtpofkokbmifhgaaGreatDoorK27
import Derived.Test.YtpofkokbmifhgaaGreatDoorK29
import Derived.Test.YtpofkokbmifhgaaGreatDoorK07
import Derived.Test.YtpofkokbmifhgaaGreatDoorK06
import Derived.Lib.ItoaLen
set_option maxRecDepth 100000
set_option maxHeartbeats 20000000
set_option linter.unusedVariables false
set_option linter.unusedSimpArgs false
namespace Go.Proofs.YtpofkokbmifhgaaGreatDoor
open Classical
theorem sizeL_map {c:Nat} {f:T->T}:∀ {l:List T},(∀ t∈l,T.size (f t)<=c * T.size t)->T.sizeL (l.map f)<=c * T.sizeL l
 | [],_=>Nat.zero_le _
 | t :: l,h=>by
  have h1:=h t (by simp)
  have h2:=sizeL_map (l:=l) fun x hx=>h x (List.mem_cons_of_mem _ hx)
  simp only [List.map_cons,T.sizeL,Nat.mul_add]
  omega
theorem sizeM_map {c:Nat} {f:ByteArray->T->T}:∀ {m:List (ByteArray × T)},(∀ p∈m,T.size (f p.1 p.2)<=c * T.size p.2)->T.sizeM (m.map fun p=>(p.1,f p.1 p.2))<=c * T.sizeM m
 | [],_=>Nat.zero_le _
 | p :: m,h=>by
  have h1:=h p (by simp)
  have h2:=sizeM_map (m:=m) fun x hx=>h x (List.mem_cons_of_mem _ hx)
  simp only [List.map_cons,T.sizeM,Nat.mul_add]
  omega
theorem sizeL_snoc {x:T}:∀ {l:List T},T.sizeL (l++[x])=T.sizeL l+T.size x
 | []=>by simp [T.sizeL]
 | t :: l=>by
  have:=sizeL_snoc (x:=x) (l:=l)
  simp only [List.cons_append,T.sizeL]
  omega
theorem WF.mapM {B:Nat} {f:ByteArray->T->T} {m:List (ByteArray × T)} (h:WF B (.map m)) (hf:∀ p∈m,WF B p.2->WF B (f p.1 p.2)):WF B (.map (m.map fun p=>(p.1,f p.1 p.2))):=
 ⟨srt_map h.1,WFM_iff.2 fun q hq=>by
  obtain ⟨p,hp,rfl⟩:=List.mem_map.1 hq
  have:=WFM_iff.1 h.2 p hp
  exact ⟨this.1,hf p hp this.2⟩⟩
theorem WF.mapL {B:Nat} {f:T->T} {l:List T} (h:WF B (.list l)) (hf:∀ t∈l,WF B t->WF B (f t)):WF B (.list (l.map f)):=
 WFL_iff.2 fun x hx=>by
  obtain ⟨t,ht,rfl⟩:=List.mem_map.1 hx
  exact hf t ht (WFL_iff.1 h t ht)
theorem WF.m_ {B:Nat} {t:T} (h:WF B t):WF B (.map t.m):=by
 cases t with
 | map m=>exact h
 | _=>exact WF.empty
theorem size_uniq {K:Type} {key:T->K} (l:List T):T.sizeL (uniqBy key l)<=T.sizeL l:=by
 have hp:∀ (t:T) (l:List T),T.sizeL (putBy key t l)<=T.sizeL l+T.size t:=fun t l=>by
  induction l with
  | nil=>simp [putBy,T.sizeL]
  | cons x l ih=>
   unfold putBy
   split
   ·simp only [T.sizeL]
    omega
   ·simp only [T.sizeL]
    omega
 refine rev_ind (p:=fun l=>T.sizeL (uniqBy key l)<=T.sizeL l) (Nat.le_refl _) (fun l x h=>?_) l
 rw [uniq_snoc,sizeL_snoc]
 have:=hp x (uniqBy key l)
 omega
theorem size_fold {c:Nat} {f:T->ByteArray} {g:T->T}:∀ (l:List T) (m:List (ByteArray × T)),(∀ t∈l,T.size (g t)<=c)->T.sizeM (l.foldl (fun m t=>mins (f t) (g t) m) m)<=T.sizeM m+c * l.length
 | [],m,_=>by simp
 | t :: l,m,h=>by
  have h1:=size_fold (f:=f) (g:=g) l (mins (f t) (g t) m) fun x hx=>h x (List.mem_cons_of_mem _ hx)
  have h2:=sizeM_ins (k:=f t) (x:=g t) (m:=m)
  have h3:=h t (by simp)
  simp only [List.foldl_cons,List.length_cons,Nat.mul_add]
  omega
theorem wf_fold {B:Nat} {f:T->ByteArray} {g:T->T}:∀ (l:List T) (m:List (ByteArray × T)),WF B (.map m)->(∀ t∈l,(f t).size<=B/\WF B (g t))->WF B (.map (l.foldl (fun m t=>mins (f t) (g t) m) m))
 | [],m,h,_=>h
 | t :: l,m,h,hl=>wf_fold l _ (h.ins (hl t (by simp)).1 (hl t (by simp)).2) fun x hx=>hl x (List.mem_cons_of_mem _ hx)
mutual
theorem size_uniT:∀ (t:T) (ps:List ByteArray),T.size (uniT ps t)<=T.size t
 | .map m,ps=>by
  simp only [uniT,T.size]
  have:=size_uniM m ps
  omega
 | .list l,ps=>by
  simp only [uniT]
  split
  ·simp only [T.size]
   have:=size_uniq (key:=ixKey ‹Ix›) l
   omega
  ·exact Nat.le_refl _
 | .null,_=>by simp [uniT]
 | .bool _,_=>by simp [uniT]
 | .int _,_=>by simp [uniT]
 | .text _,_=>by simp [uniT]
theorem size_uniM:∀ (m:List (ByteArray × T)) (ps:List ByteArray),T.sizeM (uniM ps m)<=T.sizeM m
 | [],_=>by simp [uniM]
 | p :: m,ps=>by
  simp only [uniM,T.sizeM]
  have h1:=size_uniT p.2 (ps++[nxt ps p.1])
  have h2:=size_uniM m ps
  omega
end
mutual
theorem wf_uniT {B:Nat}:∀ (t:T) (ps:List ByteArray),WF B t->WF B (uniT ps t)
 | .map m,ps,h=>by
  have h2:=wf_uniM m ps h.2
  simp only [uniT]
  exact ⟨by rw [uniM_eq]; exact srt_map (f:=fun k t=>uniT (ps++[nxt ps k]) t) h.1,h2⟩
 | .list l,ps,h=>by
  simp only [uniT]
  split
  ·exact WFL_iff.2 fun x hx=>WFL_iff.1 h x (mem_uniq hx)
  ·exact h
 | .null,_,h=>by simp [uniT,WF]
 | .bool _,_,h=>by simp [uniT,WF]
 | .int _,_,h=>by simp only [uniT]; exact h
 | .text _,_,h=>by simp only [uniT]; exact h
theorem wf_uniM {B:Nat}:∀ (m:List (ByteArray × T)) (ps:List ByteArray),WFM B m->WFM B (uniM ps m)
 | [],_,_=>trivial
 | p :: m,ps,h=>by
  simp only [uniM]
  exact ⟨h.1,wf_uniT p.2 _ h.2.1,wf_uniM m ps h.2.2⟩
end
theorem size_needC (d:List (ByteArray × T)):T.size (.map (needC d))<=3+T.sizeM d:=by
 have h1:=sizeM_ins (k:=cCondition) (x:=.text cServiceStarted) (m:=d)
 simp only [T.size] at h1
 have:∀ e,T.sizeM (if hasK cRequired e then e else mins cRequired (.bool true) e)<=T.sizeM e+1:=fun e=>by
  split
  ·omega
  ·have h1:=sizeM_ins (k:=cRequired) (x:=.bool true) (m:=e)
   simpa only [T.size] using h1
 have h2:=this (if hasK cCondition d then d else mins cCondition (.text cServiceStarted) d)
 have h3:T.sizeM (if hasK cCondition d then d else mins cCondition (.text cServiceStarted) d)<=T.sizeM d+1:=by
  split
  ·omega
  ·exact h1
 simp only [T.size,needC]
 omega
theorem wf_needC {B:Nat} (hB:64<=B) {d:List (ByteArray × T)} (h:WF B (.map d)):WF B (.map (needC d)):=by
 have h1:WF B (.map (if hasK cCondition d then d else mins cCondition (.text cServiceStarted) d)):=by
  split
  ·exact h
  ·exact h.ins (Nat.le_trans (by decide +kernel) hB) (Nat.le_trans (by decide +kernel:cServiceStarted.size<=64) hB)
 unfold needC
 dsimp only
 generalize (if hasK cCondition d then d else mins cCondition (.text cServiceStarted) d)=e at h1 ⊢
 by_cases hk:hasK cRequired e=true
 ·rw [if_pos hk]
  exact h1
 ·rw [if_neg hk]
  exact h1.ins (Nat.le_trans (by decide +kernel) hB) trivial
theorem size_foldK {x:T} (l:List T):T.size (.map (foldK x l))<=1+T.size x * l.length:=by
 have:=size_fold (f:=T.txt) (g:=fun _=>x) (c:=T.size x) l [] fun _ _=>Nat.le_refl _
 simp only [T.sizeM,Nat.zero_add] at this
 simp only [T.size,foldK]
 omega
theorem wf_foldK {B:Nat} {x:T} (hx:WF B x) {l:List T} (h:WF B (.list l)):WF B (.map (foldK x l)):=
 wf_fold (f:=T.txt) (g:=fun _=>x) l [] WF.empty fun t ht=>⟨(WFL_iff.1 h t ht).txt,hx⟩
theorem wf_impC {B:Nat} (hB:64<=B):WF B impC:=by
 refine ⟨List.pairwise_pair.2 (by decide +kernel:_),Nat.le_trans (by decide +kernel) hB,Nat.le_trans (by decide +kernel:cServiceStarted.size<=64) hB,Nat.le_trans (by decide +kernel) hB,trivial,trivial⟩
theorem size_impC:T.size impC=3:=by rfl
mutual
theorem size_canT:∀ (t:T) (ps:List ByteArray),T.size (canT ps t)<=4 * T.size t
 | .map m,ps=>by
  have h1:=size_canM m ps
  simp only [canT]
  split
  ·simp only [T.size]; omega
  ·simp only [T.size]; omega
  ·simp only [T.size]; omega
  ·simp only [T.size]; omega
  ·have h2:=sizeM_map (c:=4) (f:=fun _ t=>.map (needC t.m)) (m:=m) fun p hp=>by
    have h3:=size_needC p.2.m
    have h4:=size_m p.2
    omega
   simp only [T.size]
   omega
  ·omega
 | .list l,ps=>by
  have h1:=size_canL l (ps++[cElems])
  simp only [canT]
  split
  ·simp only [T.size]; omega
  ·have h2:=size_foldK (x:=.null) l
   have h3:=sizeL_len' l
   simp only [T.size] at h2 ⊢
   omega
  ·have h2:=size_foldK (x:=impC) l
   have h3:=sizeL_len' l
   rw [size_impC] at h2
   simp only [T.size] at h2 ⊢
   omega
  ·omega
 | .text s,ps=>by
  simp only [canT]
  split <;> simp [T.size,T.sizeM,T.sizeL]
 | .null,_=>by simp [canT]; omega
 | .bool _,_=>by simp [canT]; omega
 | .int _,_=>by simp [canT]; omega
theorem size_canM:∀ (m:List (ByteArray × T)) (ps:List ByteArray),T.sizeM (canM ps m)<=4 * T.sizeM m
 | [],_=>by simp [canM,T.sizeM]
 | p :: m,ps=>by
  simp only [canM,T.sizeM]
  have h1:=size_canT p.2 (ps++[nxt ps p.1])
  have h2:=size_canM m ps
  omega
theorem size_canL:∀ (l:List T) (ps:List ByteArray),T.sizeL (canL ps l)<=4 * T.sizeL l
 | [],_=>by simp [canL,T.sizeL]
 | t :: l,ps=>by
  simp only [canL,T.sizeL]
  have h1:=size_canT t ps
  have h2:=size_canL l ps
  omega
end
mutual
theorem wf_canT {B:Nat} (hB:64<=B):∀ (t:T) (ps:List ByteArray),WF B t->WF B (canT ps t)
 | .map m,ps,h=>by
  have h0:=wf_canM hB m ps h.2
  have h1:WF B (.map (canM ps m)):=⟨by rw [canM_eq]; exact srt_map (f:=fun k t=>canT (ps++[nxt ps k]) t) h.1,h0⟩
  simp only [canT]
  split
  ·exact h1
  ·exact h1
  ·exact h1
  ·exact h1
  ·exact h.mapM (f:=fun _ t=>.map (needC t.m)) fun p _ hw=>wf_needC hB hw.m_
  ·exact h
 | .list l,ps,h=>by
  have h1:WF B (.list (canL (ps++[cElems]) l)):=wf_canL hB l _ h
  simp only [canT]
  split
  ·exact h1
  ·exact wf_foldK (B:=B) (x:=.null) trivial h
  ·exact wf_foldK (wf_impC hB) h
  ·exact h
 | .text s,ps,h=>by
  simp only [canT]
  split
  ·exact (WF.empty (B:=B)).ins (k:=cContext) (x:=.text s) (Nat.le_trans (by decide +kernel) hB) h
  ·exact (WF.empty (B:=B)).ins (k:=cSource) (x:=.text s) (Nat.le_trans (by decide +kernel) hB) h
  ·exact ⟨h,trivial⟩
  ·exact h
 | .null,_,h=>by simp only [canT]; exact h
 | .bool _,_,h=>by simp only [canT]; exact h
 | .int _,_,h=>by simp only [canT]; exact h
theorem wf_canM {B:Nat} (hB:64<=B):∀ (m:List (ByteArray × T)) (ps:List ByteArray),WFM B m->WFM B (canM ps m)
 | [],_,_=>trivial
 | p :: m,ps,h=>by
  simp only [canM]
  exact ⟨h.1,wf_canT hB p.2 _ h.2.1,wf_canM hB m ps h.2.2⟩
theorem wf_canL {B:Nat} (hB:64<=B):∀ (l:List T) (ps:List ByteArray),WFL B l->WFL B (canL ps l)
 | [],_,_=>trivial
 | t :: l,ps,h=>by
  simp only [canL]
  exact ⟨wf_canT hB t _ h.1,wf_canL hB l ps h.2⟩
end
theorem form_size (m:List (ByteArray × T)):T.size (.map (formP m))<=4 * T.size (.map m):=by
 have h1:=size_canT (uniT [] (.map m)) []
 have h2:=size_uniT (.map m) []
 rw [form_eq] at h1
 omega
theorem form_wf {B:Nat} (hB:64<=B) {m:List (ByteArray × T)} (h:WF B (.map m)):WF B (.map (formP m)):=by
 have:=wf_canT hB (uniT [] (.map m)) [] (wf_uniT _ _ h)
 rwa [form_eq] at this
theorem size_named (l:List T):T.size (.map (namedL l))<=1+l.length:=by
 have:=size_fold (f:=fun t=>cutK t.txt) (g:=fun t=>cutV t.txt) (c:=1) l [] fun t _=>by unfold cutV; split <;> simp [T.size]
 simp only [T.sizeM,Nat.zero_add,Nat.one_mul] at this
 simp only [T.size,namedL]
 omega
theorem wf_named {B:Nat} {l:List T} (h:WF B (.list l)):WF B (.map (namedL l)):=
 wf_fold (f:=fun t=>cutK t.txt) (g:=fun t=>cutV t.txt) l [] WF.empty fun t ht=>by
  have:=(WFL_iff.1 h t ht).txt
  refine ⟨Nat.le_trans (extract_size_le _ _ _) this,?_⟩
  unfold cutV
  split
  ·exact Nat.le_trans (extract_size_le _ _ _) this
  ·trivial
theorem size_vals_le (t:T):T.sizeL t.vals+1=T.size t:=by
 have:=T.size_vals t
 omega
theorem wf_vals {B:Nat} {t:T} (h:WF B t):WF B (.list t.vals):=WFL_iff.2 h.vals
theorem uniqC_ok {B:Nat} (k:ByteArray) {t:T} (h:WF B t):WF B (uniqC k t)/\T.size (uniqC k t)<=T.size t:=by
 unfold uniqC
 split
 ·refine ⟨WFL_iff.2 fun x hx=>h.vals x (mem_uniq hx),?_⟩
  have h1:=size_uniq (key:=useT k) t.vals
  have h2:=size_vals_le t
  simp only [T.size]
  omega
 ·exact ⟨h,Nat.le_refl _⟩
theorem canonN_ok {B:Nat} {t:T} (h:WF B t):WF B (canonN t)/\T.size (canonN t)<=4 * T.size t:=by
 cases t with
 | list l=>
  refine ⟨wf_named h,?_⟩
  have h1:=size_named l
  have h2:=sizeL_len' l
  simp only [T.size,canonN] at h1 ⊢
  omega
 | _=>exact ⟨h,by simp only [canonN]; omega⟩
theorem needR_ok {B:Nat} (hB:64<=B) {d:T} (h:WF B d):WF B (needR d)/\T.size (needR d)<=4 * T.size d:=by
 unfold needR
 split
 ·exact ⟨h,by omega⟩
 ·refine ⟨h.m_.ins (Nat.le_trans (by decide +kernel) hB) trivial,?_⟩
  have h1:=sizeM_ins (k:=cRequired) (x:=.bool true) (m:=d.m)
  have h2:=size_m d
  simp only [T.size] at h1 ⊢
  omega
theorem foldK_ok {B:Nat} {x t:T} (hx:WF B x) (h:WF B t) (hs:T.size x<=3):WF B (.map (foldK x t.vals))/\T.size (.map (foldK x t.vals))<=4 * T.size t:=by
 refine ⟨wf_foldK hx (wf_vals h),?_⟩
 have h1:=size_foldK (x:=x) t.vals
 have h2:=size_vals_le t
 have h3:=sizeL_len' t.vals
 have h4:T.size x * t.vals.length<=3 * t.vals.length:=Nat.mul_le_mul_right _ hs
 omega
theorem needsC_ok {B:Nat} (hB:64<=B) {t:T} (h:WF B t):WF B (needsC t)/\T.size (needsC t)<=4 * T.size t:=by
 cases t with
 | map m=>
  refine ⟨h.mapM (f:=fun _ t=>needR t) fun p _ hw=>(needR_ok hB hw).1,?_⟩
  have h1:=sizeM_map (c:=4) (f:=fun _ t=>needR t) (m:=m) fun p hp=>(needR_ok hB (WFM_iff.1 h.2 p hp).2).2
  simp only [T.size,needsC]
  omega
 | _=>exact foldK_ok (wf_impC hB) h (by rw [size_impC]; omega)
theorem netsC_ok {B:Nat} {t:T} (h:WF B t):WF B (netsC t)/\T.size (netsC t)<=4 * T.size t:=by
 cases t with
 | map m=>exact ⟨h,by simp only [netsC]; omega⟩
 | _=>exact foldK_ok (B:=B) (x:=.null) trivial h (by simp [T.size])
theorem buildC_ok {B:Nat} (hB:64<=B) {t:T} (h:WF B t):WF B (buildC t)/\T.size (buildC t)<=4 * T.size t:=by
 cases t with
 | text s=>exact ⟨(WF.empty (B:=B)).ins (k:=cContext) (x:=.text s) (Nat.le_trans (by decide +kernel) hB) h,by simp [buildC,T.size,T.sizeM]⟩
 | _=>exact ⟨h,by simp only [buildC]; omega⟩
theorem fileC_ok {B:Nat} (hB:64<=B) {t:T} (h:WF B t):WF B (fileC t)/\T.size (fileC t)<=4 * T.size t:=by
 cases t with
 | text s=>exact ⟨(WF.empty (B:=B)).ins (k:=cSource) (x:=.text s) (Nat.le_trans (by decide +kernel) hB) h,by simp [fileC,T.size,T.sizeM]⟩
 | _=>exact ⟨h,by simp only [fileC]; omega⟩
theorem filesC_ok {B:Nat} (hB:64<=B) {t:T} (h:WF B t):WF B (filesC t)/\T.size (filesC t)<=4 * T.size t:=by
 refine ⟨(wf_vals h).mapL fun x _ hw=>(fileC_ok hB hw).1,?_⟩
 have h1:=sizeL_map (c:=4) (f:=fileC) (l:=t.vals) fun x hx=>(fileC_ok hB (h.vals x hx)).2
 have h2:=size_vals_le t
 simp only [T.size,filesC]
 omega
theorem canonA_ok {B:Nat} (hB:64<=B) (k:ByteArray) {t:T} (h:WF B t):WF B (canonA k t)/\T.size (canonA k t)<=4 * T.size t:=by
 obtain ⟨h1,h2⟩:=uniqC_ok k h
 have up:∀ x,WF B x/\T.size x<=4 * T.size (uniqC k t)->WF B x/\T.size x<=4 * T.size t:=fun x hx=>⟨hx.1,by have:=hx.2; omega⟩
 unfold canonA
 dsimp only
 split
 ·exact up _ (canonN_ok h1)
 split
 ·exact up _ (needsC_ok hB h1)
 split
 ·exact up _ (netsC_ok h1)
 split
 ·exact up _ (buildC_ok hB h1)
 split
 ·exact up _ (filesC_ok hB h1)
 ·exact ⟨h1,by omega⟩
theorem canonSvc_ok {B:Nat} (hB:64<=B) {t:T} (h:WF B t):WF B (canonSvc t)/\T.size (canonSvc t)<=4 * T.size t:=by
 refine ⟨h.m_.mapM (f:=canonA) fun p _ hw=>(canonA_ok hB _ hw).1,?_⟩
 have h1:=sizeM_map (c:=4) (f:=canonA) (m:=t.m) fun p hp=>(canonA_ok hB _ (WFM_iff.1 h.m_.2 p hp).2).2
 have h2:=size_m t
 simp only [T.size,canonSvc]
 omega
theorem put_ok {B:Nat} {m l l':List (ByteArray × T)} (h:WF B (.map m)) (hg:mget cServices m=some (.map l)) (hl:WF B (.map l')) (hs:T.sizeM l'<=4 * T.sizeM l):WF B (.map (mins cServices (.map l') m))/\T.size (.map (mins cServices (.map l') m))<=4 * T.size (.map m):=by
 refine ⟨h.ins ((WFM_iff.1 h.2 _ (get_some hg)).1) hl,?_⟩
 have h1:=sizeM_put (x:=.map l') h.1 hg
 have h2:=sizeM_get hg
 simp only [T.size] at h1 h2 ⊢
 omega
theorem canonS_ok {B:Nat} (hB:64<=B) {m:List (ByteArray × T)} (h:WF B (.map m)):WF B (.map (canonS m))/\T.size (.map (canonS m))<=4 * T.size (.map m)+4:=by
 unfold canonS
 split
 ·rename_i x hx
  have hwx:WF B x:=h.of_get hx
  have h1:=sizeM_map (c:=4) (f:=fun _ t=>canonSvc t) (m:=x.m) fun p hp=>(canonSvc_ok hB (WFM_iff.1 hwx.m_.2 p hp).2).2
  refine ⟨h.ins ((WFM_iff.1 h.2 _ (get_some hx)).1) (hwx.m_.mapM (f:=fun _ t=>canonSvc t) fun p _ hw=>(canonSvc_ok hB hw).1),?_⟩
  have h2:=sizeM_put (x:=.map (x.m.map fun p=>(p.1,canonSvc p.2))) h.1 hx
  have h3:=sizeM_get hx
  have h4:=size_m x
  simp only [T.size] at h2 ⊢
  omega
 ·exact ⟨h,by omega⟩
theorem digits_le (n:Int) (h:-9223372036854775808<=n/\n<=9223372036854775807):(digits n).size<=64:=by
 have h1:=Lib.itoa_length_le n h.1 h.2
 have h2:(digits n).size=(Lib.itoa n).length:=by simp [digits,ByteArray.size]
 omega
theorem viewW_ok {B:Nat} (hB:64<=B) {t:T} (h:WF B t):WF B (viewW t)/\T.size (viewW t)<=4 * T.size t:=by
 cases t with
 | int n=>exact ⟨Nat.le_trans (digits_le n h) hB,by simp [viewW,T.size]⟩
 | bool b=>exact ⟨Nat.le_trans (by cases b <;> decide +kernel:(if b then cTrue else cFalse).size<=64) hB,by simp [viewW,T.size]⟩
 | _=>exact ⟨h,by simp only [viewW]; omega⟩
theorem viewN_ok {B:Nat} (hB:64<=B) {t:T} (h:WF B t):WF B (viewN t)/\T.size (viewN t)<=4 * T.size t:=by
 cases t with
 | list l=>
  refine ⟨wf_named h,?_⟩
  have h1:=size_named l
  have h2:=sizeL_len' l
  simp only [T.size,viewN] at h1 ⊢
  omega
 | map m=>
  refine ⟨h.mapM (f:=fun _ t=>viewW t) fun p _ hw=>(viewW_ok hB hw).1,?_⟩
  have h1:=sizeM_map (c:=4) (f:=fun _ t=>viewW t) (m:=m) fun p hp=>(viewW_ok hB (WFM_iff.1 h.2 p hp).2).2
  simp only [T.size,viewN]
  omega
 | _=>exact ⟨h,by simp only [viewN]; omega⟩
theorem viewA_ok {B:Nat} (hB:64<=B) (k:ByteArray) {t:T} (h:WF B t):WF B (viewA k t)/\T.size (viewA k t)<=4 * T.size t:=by
 unfold viewA
 split
 ·exact viewN_ok hB h
 ·exact ⟨h,by omega⟩
theorem viewSvc_ok {B:Nat} (hB:64<=B) {t:T} (h:WF B t):WF B (viewSvc t)/\T.size (viewSvc t)<=4 * T.size t:=by
 cases t with
 | map m=>
  refine ⟨h.mapM (f:=viewA) fun p _ hw=>(viewA_ok hB _ hw).1,?_⟩
  have h1:=sizeM_map (c:=4) (f:=viewA) (m:=m) fun p hp=>(viewA_ok hB _ (WFM_iff.1 h.2 p hp).2).2
  simp only [T.size,viewSvc]
  omega
 | _=>exact ⟨h,by simp only [viewSvc]; omega⟩
theorem viewM_ok {B:Nat} (hB:64<=B) {m:List (ByteArray × T)} (h:WF B (.map m)):WF B (.map (viewM m))/\T.size (.map (viewM m))<=4 * T.size (.map m):=by
 unfold viewM
 split
 ·rename_i l hl
  have hwl:WF B (.map l):=h.of_get hl
  exact put_ok h hl (hwl.mapM (f:=fun _ t=>viewSvc t) fun p _ hw=>(viewSvc_ok hB hw).1) (sizeM_map (c:=4) (f:=fun _ t=>viewSvc t) (m:=l) fun p hp=>(viewSvc_ok hB (WFM_iff.1 hwl.2 p hp).2).2)
 ·exact ⟨h,by omega⟩
theorem top_keys {m:List (ByteArray × T)} (h:SaysOK m):∀ p∈m,NoDot p.1/\p.1≠⟨#[]⟩:=fun p hp=>by
 have:=h p hp
 generalize p.1=k at this
 generalize p.2=v at this
 cases this with
 | extra hx=>
  obtain ⟨c,h1,h2,rfl⟩:=hx
  refine ⟨?_,fun h=>by injection h with h; simp at h⟩
  simp only [NoDot,Array.toList,List.mem_cons,List.not_mem_nil,or_false,not_or]
  refine ⟨by decide,by decide,?_⟩
  rintro rfl
  exact absurd h1 (by decide)
 | _=>exact ⟨by decide +kernel,by decide +kernel⟩
end Go.Proofs.YtpofkokbmifhgaaGreatDoor
namespace Go.Proofs.YtpofkokbmifhgaaGreatDoor
open Go.RowKit
variable {o:Nat->Prop}
mutual
theorem WFR.mono {B C:Nat} (h:B<=C):∀ {r:Raw},WFR B r->WFR C r
 | .mk _ _ _ _ _,hw=>by
  simp only [WFR] at hw ⊢
  exact ⟨by omega,by omega,by omega,fun k hk=>Nat.le_trans (hw.2.2.2.1 k hk) h,hw.2.2.2.2.1,WFRL.mono h hw.2.2.2.2.2⟩
theorem WFRL.mono {B C:Nat} (h:B<=C):∀ {l:List Raw},WFRL B l->WFRL C l
 | [],_=>by simp only [WFRL]
 | _ :: _,hw=>by
  simp only [WFRL] at hw ⊢
  exact ⟨WFR.mono h hw.1,WFRL.mono h hw.2⟩
end
structure CanB (m mu:List (ByteArray × T)):Prop where
 uni:uniT [] (.map m)=.map mu
 can:canT [] (.map mu)=.map (formP m)
 wfm:WF 1048576 (.map m)
 szm:T.size (.map m)<=1048576
 okm:UniOK [] (.map m)
 wfu:WF 1048576 (.map mu)
 szu:T.size (.map mu)<=1048576
 oku:CanOK [] (.map mu)
 km:∀ p∈m,NoDot p.1/\p.1≠⟨#[]⟩
 ku:∀ p∈mu,NoDot p.1/\p.1≠⟨#[]⟩
 fm:Fine (.map m)
 fu:Fine (.map mu)
 fp:Fine (.map (formP m))
 fc:Fine (.map (canonS m))
 fv:Fine (.map (viewM (canonS m)))
theorem canB {m:List (ByteArray × T)} (h:SaysOK m) (hw:WF 1048576 (.map m)) (hz:T.size (.map m)<=1048576):CanB m (m.map fun p=>(p.1,uniT [p.1] p.2)):=by
 have hu:=uniT_root m
 have h1:=size_uniT (.map m) []
 have h2:=wf_uniT (B:=1048576) (.map m) [] hw
 have h3:=form_size m
 have h4:=form_wf (B:=1048576) (by decide) hw
 have h5:=canonS_ok (B:=1048576) (by decide) hw
 have h6:=viewM_ok (B:=1048576) (by decide) h5.1
 rw [hu] at h1 h2
 refine ⟨hu,?_,hw,hz,model_uniOK h,h2,by omega,?_,top_keys h,fun q hq=>?_,⟨hw.mono (by decide),by omega⟩,⟨h2.mono (by decide),by omega⟩,⟨h4.mono (by decide),by omega⟩,⟨h5.1.mono (by decide),by omega⟩,⟨h6.1.mono (by decide),by omega⟩⟩
 ·rw [<- hu]
  exact form_eq m
 ·rw [<- hu]
  exact model_canOK h
 ·obtain ⟨p,hp,rfl⟩:=List.mem_map.1 hq
  exact top_keys h p hp
theorem fnCanonical_any (r:Raw) (v:Value) (w:World) (hr:RdR w r v) (hw:WFR 1048576 r) (hz:Raw.size r<=1048576) (hT:TabP w) :
  Calls Tryz.prog 3 #[v] w fun e w'=>e=.returned (.bool true)/\Chg [] w w':=by
 obtain ⟨A3,q3,A4,q4,rfl,hyz⟩:=hr.five
 clear hyz
 have hw2:WFR 67108864 r:=WFR.mono (by decide) hw
 have HR:=Lib.hid (And.intro hr (And.intro hw (And.intro hz (And.intro hT hw2))))
 clear hr hw hz hT hw2
 go_enter Tryz.func3,Tryz.ntmps3
 go_wp2_with fail
 refine (fits1_any r _ _ (HR.out.1.chg ((Chg.refl [] w).al _)) HR.out.2.2.2.2).mono ?_
 rintro e w1 ⟨b1,rfl,hc1⟩
 have hcw2:Chg [] w w1:=((Chg.refl [] w).al _).trans hc1 New.nil
 have z0:w1.heap[w.heap.size]?=some (.cells #[.int .i64 r.kind,.int .i64 r.num,.string r.txt,.slice A3 r.keys.length q3,.slice A4 r.vals.length q4] 25):=box5 (heap_alloc_new w _) _ hc1
 clear hc1
 cases b1 with
 | false=>
  go_wp2_with fail
  go_ret
  exact ⟨rfl,hcw2⟩
 | true=>
   obtain ⟨a0,a1,a2,a3,a4,af⟩:=cells5 z0
   go_wp2_with fail
   refine (fit_any (B:=1048576) (by omega) 1048576 r _ w1 HR.out.2.2.1 (by omega) HR.out.2.1 (HR.out.1.chg hcw2)).mono ?_
   rintro e w3 ⟨v3,t,rfl,hc3,hr3,hwt,hzt⟩
   obtain ⟨X5,x5,X6,x6,rfl,hyz⟩:=hr3.five
   have hzt:T.size t<=1048576:=Nat.le_trans hzt HR.out.2.2.1
   have hlt2:w.heap.size < w1.heap.size:=(Array.getElem?_eq_some_iff.1 z0).1
   have z0:=box5 z0 _ hc3
   have hcw3:=hcw2.trans hc3 New.nil
   have hs23:=hc3.size
   clear hyz a0 a1 a2 a3 a4 af
   obtain ⟨W3,hW3,Q,hne,hcW3,hsz3⟩:=store5 z0 hcw3 (Nat.le_refl _) (.int .i64 t.kind) (.int .i64 t.num) (.string t.txt) (.slice X5 t.keys.length x5) (.slice X6 t.vals.length x6)
   have hr4:Rd (fun b=>b≠w.heap.size) W3 t (.agg #[.int .i64 (t).kind,.int .i64 (t).num,.string (t).txt,.slice X5 (t).keys.length x5,.slice X6 (t).vals.length x6]):=hr3.to fun b hb ho=>⟨by omega,hne b (by omega)⟩
   have hft:Fine t:=⟨hwt.mono (by decide),by omega⟩
   obtain ⟨a0,a1,a2,a3,a4,af⟩:=cells5 z0
   obtain ⟨p0,p1,p2,p3,p4,pf⟩:=cells5 Q
   rw [hW3] at p0 p1 p2 p3 p4 pf
   have HT:=Lib.hid (And.intro Q (And.intro hr4 (And.intro hft (And.intro hcW3 hwt))))
   clear Q hr4 hne hcW3 hr3 hc3 hcw2 hcw3 z0 hwt
   go_wp2_with fail
   rw [<- hW3]
   clear hW3 a0 a1 a2 a3 a4 af p0 p1 p2 p3 p4 pf
   have hsW3:w.heap.size < W3.heap.size:=by omega
   obtain ⟨W5,hW5⟩ : ∃ W5,W5=W3.alloc (.cells #[.int .i64 (t).kind,.int .i64 (t).num,.string (t).txt,.slice X5 (t).keys.length x5,.slice X6 (t).vals.length x6] 25):=⟨_,rfl⟩
   have hc35:Chg [] W3 W5:=hW5 ▸ (Chg.refl [] W3).al _
   have hrow:RdV (fun b=>b≠w.heap.size) W5 [t] (.slice (some ⟨w3.heap.size,0,none⟩) 1 1):=by
    rw [<- hsz3]
    exact RdV.litF (l:=[t]) (by omega) (hW5 ▸ heap_alloc_new W3 _) ⟨_,_,HT.out.2.1.chg hc35,rfl,rfl⟩
   have hs35:w.heap.size < W5.heap.size:=by have:=hc35.size; omega
   rw [<- hW5]
   clear hW5
   refine (models_any (o:=(fun b=>b≠w.heap.size)) t w3.heap.size 1 W5 hrow HT.out.2.2.1 (by omega) (fun b hb=>by omega)).mono ?_
   rintro e w4 ⟨v4,b4,t4,rfl,hc4,hr4,hq⟩
   obtain ⟨C5,c5,C6,c6,rfl,hyz⟩:=hr4.five
   have hc3:Chg [] W3 w4:=hc35.trans hc4 New.nil
   obtain ⟨W4,hW4⟩ : ∃ W4,W4=w4.alloc (.cells #[.int .i64 (t4).kind,.int .i64 (t4).num,.string (t4).txt,.slice C5 (t4).keys.length c5,.slice C6 (t4).vals.length c6] 25):=⟨_,rfl⟩
   have hc44:Chg [] w4 W4:=hW4 ▸ (Chg.refl [] w4).al _
   have hcW4:Chg [] w W4:=(HT.out.2.2.2.1.trans hc3 New.nil).trans hc44 New.nil
   have zC:W4.heap[w4.heap.size]?=some (.cells #[.int .i64 (t4).kind,.int .i64 (t4).num,.string (t4).txt,.slice C5 (t4).keys.length c5,.slice C6 (t4).vals.length c6] 25):=hW4 ▸ heap_alloc_new w4 _
   have zP:=box5 HT.out.1 _ (hc3.trans hc44 New.nil)
   have hs4:W3.heap.size<=w4.heap.size/\w4.heap.size < W4.heap.size:=⟨hc3.size,by rw [hW4]; simp⟩
   have HQ:=Lib.hid (And.intro hq hr4)
   have HT4:=Lib.hid (HT.out.2.1.chg (hc3.trans hc44 New.nil))
   clear hq hr4 hyz hc4 hc3 hc35 hrow hsz3
   cases b4 with
   | false=>
    go_wp2_with fail
    go_ret
    rw [<- hW4]
    exact ⟨rfl,hcW4⟩
   | true=>
    obtain ⟨m,rfl,hok,hsaid,rfl⟩:=HQ.out.1 rfl
    have HB:=Lib.hid (canB hok HT.out.2.2.2.2 hzt)
    have HV:=Lib.hid (model_view HT.out.2.2.2.2.1 hok hsaid)
    obtain ⟨mu,hmu⟩ : ∃ mu,mu=(m.map fun p=>(p.1,uniT [p.1] p.2)):=⟨_,rfl⟩
    rw [<- hmu] at HB
    have HK:=Lib.hid (HQ.out.2.chg hc44)
    have HTP:=Lib.hid (HR.out.2.2.2.1.chg hcW4 (by simp))
    obtain ⟨p0,p1,p2,p3,p4,pf⟩:=cells5 zP
    rw [hW4] at p0 p1 p2 p3 p4 pf
    obtain ⟨CB,hCB⟩ : ∃ CB,CB=w4.heap.size:=⟨_,rfl⟩
    have HZ:=Lib.hid (And.intro zP (And.intro (hCB ▸ zC) hcW4))
    clear hok hsaid hcW4 HQ zC zP hc44 hmu
    go_wp2_with fail
    rw [<- hW4,<- hCB]
    rw [<- hCB] at hs4
    clear hW4 hCB p0 p1 p2 p3 p4 pf
    refine (to_any 67108864 (.map m) _ W4 (by omega) (by omega) HT4.out).mono ?_
    rintro e w5 ⟨v5,rfl,hc5,hr5⟩
    go_wp2_with fail
    refine (implUni_any m mu _ w5 hr5 HB.out.fm HB.out.fu HB.out.uni HB.out.wfm HB.out.szm HB.out.okm HB.out.km (HTP.out.chg hc5 (by simp))).mono ?_
    rintro e w6 ⟨v6,rfl,hc6,hr6⟩
    obtain ⟨U5,u5,U6,u6,rfl,hyz⟩:=hr6.five
    have hc46:Chg [] W4 w6:=hc5.trans hc6 New.nil
    obtain ⟨W6,hW6⟩ : ∃ W6,W6=w6.alloc (.cells #[.int .i64 (T.map mu).kind,.int .i64 (T.map mu).num,.string (T.map mu).txt,.slice U5 (T.map mu).keys.length u5,.slice U6 (T.map mu).vals.length u6] 32):=⟨_,rfl⟩
    have hc66:Chg [] w6 W6:=hW6 ▸ (Chg.refl [] w6).al _
    have zU:W6.heap[w6.heap.size]?=some (.cells #[.int .i64 (T.map mu).kind,.int .i64 (T.map mu).num,.string (T.map mu).txt,.slice U5 (T.map mu).keys.length u5,.slice U6 (T.map mu).vals.length u6] 32):=hW6 ▸ heap_alloc_new w6 _
    have HU:=Lib.hid (And.intro (hr6.chg hc66) (hc46.trans hc66 New.nil))
    obtain ⟨UB,hUB⟩ : ∃ UB,UB=w6.heap.size:=⟨_,rfl⟩
    rw [<- hUB] at zU
    have hsU:W4.heap.size<=w5.heap.size/\w5.heap.size<=UB/\UB < W6.heap.size:=⟨hc5.size,by rw [hUB]; exact hc6.size,by rw [hUB,hW6]; simp⟩
    clear hyz hr5 hr6 hc5 hc6 hc46 hc66
    obtain ⟨i0,i1,i2,i3,i4,iff⟩:=cells5 zU
    rw [hW6] at i0 i1 i2 i3 i4 iff
    have HZU:=Lib.hid zU
    clear zU
    go_wp2_with fail
    rw [<- hW6]
    clear hW6 i0 i1 i2 i3 i4 iff
    refine (implCan_any mu (formP m) _ false W6 HU.out.1 HB.out.fu HB.out.fp HB.out.can HB.out.wfu (by have:=HB.out.szu; omega) HB.out.oku HB.out.ku).mono ?_
    rintro e w8 ⟨v8,rfl,hc8,hr8⟩
    obtain ⟨D5,d5,D6,d6,rfl,hyz⟩:=hr8.five
    have hc48:Chg [] W4 w8:=HU.out.2.trans hc8 New.nil
    obtain ⟨W8,hW8⟩ : ∃ W8,W8=w8.alloc (.cells #[.int .i64 (T.map (formP m)).kind,.int .i64 (T.map (formP m)).num,.string (T.map (formP m)).txt,.slice D5 (T.map (formP m)).keys.length d5,.slice D6 (T.map (formP m)).vals.length d6] 32):=⟨_,rfl⟩
    have hc88:Chg [] w8 W8:=hW8 ▸ (Chg.refl [] w8).al _
    have zI:W8.heap[w8.heap.size]?=some (.cells #[.int .i64 (T.map (formP m)).kind,.int .i64 (T.map (formP m)).num,.string (T.map (formP m)).txt,.slice D5 (T.map (formP m)).keys.length d5,.slice D6 (T.map (formP m)).vals.length d6] 32):=hW8 ▸ heap_alloc_new w8 _
    obtain ⟨IB,hIB⟩ : ∃ IB,IB=w8.heap.size:=⟨_,rfl⟩
    have hc4W:Chg [] W4 W8:=hc48.trans hc88 New.nil
    have hs8:W6.heap.size<=w8.heap.size/\w8.heap.size < W8.heap.size:=⟨hc8.size,by rw [hW8]; simp⟩
    have HY:=Lib.hid (And.intro (hIB ▸ zI) (box5 HZ.out.2.1 _ hc4W))
    have HX:Hid (Chg [] w W8/\Rd (fun b=>b≠w.heap.size) W8 (.map (formP m)) (.agg #[.int .i64 (T.map (formP m)).kind,.int .i64 (T.map (formP m)).num,.string (T.map (formP m)).txt,.slice D5 (T.map (formP m)).keys.length d5,.slice D6 (T.map (formP m)).vals.length d6])/\Rd (fun b=>b≠w.heap.size) W8 (.map (canonS m)) (.agg #[.int .i64 (T.map (canonS m)).kind,.int .i64 (T.map (canonS m)).num,.string (T.map (canonS m)).txt,.slice C5 (T.map (canonS m)).keys.length c5,.slice C6 (T.map (canonS m)).vals.length c6])):=Lib.hid ⟨HZ.out.2.2.trans hc4W New.nil,(hr8.weak fun b hb=>by omega).chg hc88,HK.out.chg hc4W⟩
    clear hyz hr8 hc8 hc48 hc88 zI hc4W
    go_wp2_with fail
    rw [<- hW8,<- hIB]
    clear hW8 hIB
    rename_i K hK
    refine wp_region_allg (by rfl) (by kernel_rfl) [3,6,7,8] [(1,true),(4,true)] (by kernel_rfl)
     (fun j u V=>match j with
      | 0=>u=.bool true
      | 1=>u=.bool true
      | 2=>u=.bool true
      | 3=>u=.bool true
      | 4=>u=.bool true
      | 5=>u=.agg #[.int .i64 (T.map (formP m)).kind,.int .i64 (T.map (formP m)).num,.string (T.map (formP m)).txt,.slice D5 (T.map (formP m)).keys.length d5,.slice D6 (T.map (formP m)).vals.length d6]
      | 6=>Rd (fun b=>b≠w.heap.size) V (.map (formP m)) u
      | 7=>Rd (fun b=>b≠w.heap.size) V (.map (viewM (formP m))) u
      | 8=>u=.agg #[.int .i64 (T.map (canonS m)).kind,.int .i64 (T.map (canonS m)).num,.string (T.map (canonS m)).txt,.slice C5 (T.map (canonS m)).keys.length c5,.slice C6 (T.map (canonS m)).vals.length c6]
      | 9=>Rd (fun b=>b≠w.heap.size) V (.map (viewM (canonS m))) u
      | 10=>u=.bool true
      | 11=>u=.bool true
      | 12=>u=.bool true
      | _=>True) ?_ ?_ ?_ ?_
    ·intro q hq V w' hφ
     simp only [List.mem_cons,List.not_mem_nil,or_false] at hq
     rcases hq with rfl | rfl <;> exact hφ
    ·intro j u V V' hc hφ
     rcases j with _ | _ | _ | _ | _ | _ | _ | _ | _ | _ | _ | _ | _ | j
     all_goals first | exact hφ | exact Rd.chg hφ hc
    ·intro j oo hj ho a' w' hst hch hdep K2 hK2
     have hsz:W8.heap.size<=w'.heap.size:=hch.size
     have hcB:Chg [] W8 w':=(Chg.refl [] W8).dr.trans hch New.nil
     obtain ⟨i0,i1,i2,i3,i4,iff⟩:=cells5 (box5 HY.out.1 _ hcB)
     obtain ⟨s0,s1,s2,s3,s4,sf⟩:=cells5 (box5 HY.out.2 _ hcB)
     have hj':j < 13:=hj
     rcases j with _ | _ | _ | _ | _ | _ | _ | _ | _ | _ | _ | _ | _ | j
     ·obtain rfl:_=oo:=Option.some.inj ho
      have h6:=g_eq (t:=6) (v:=.bool true) (hst 6 (by simp))
      unfold Oper.wp
      go_simp
      exact ⟨_,rfl,hK2 _ _ (Chg.refl _ _) rfl⟩
     ·obtain rfl:_=oo:=Option.some.inj ho
      have h33:=g_eq (t:=33) (v:=.bool true) (hdep 0 (by kernel_rfl))
      unfold Oper.wp
      go_simp
      exact ⟨_,rfl,hK2 _ _ (Chg.refl _ _) rfl⟩
     ·obtain rfl:_=oo:=Option.some.inj ho
      have h8:=g_eq (t:=8) (v:=.bool true) (hst 8 (by simp))
      unfold Oper.wp
      go_simp
      exact ⟨_,rfl,hK2 _ _ (Chg.refl _ _) rfl⟩
     ·obtain rfl:_=oo:=Option.some.inj ho
      have h34:=g_eq (t:=34) (v:=.bool true) (hdep 1 (by kernel_rfl))
      have h35:=g_eq (t:=35) (v:=.bool true) (hdep 2 (by kernel_rfl))
      have h34:=g_eq (t:=34) (v:=.bool true) (hdep 1 (by kernel_rfl))
      have h35:=g_eq (t:=35) (v:=.bool true) (hdep 2 (by kernel_rfl))
      unfold Oper.wp
      go_simp
      exact ⟨_,rfl,hK2 _ _ (Chg.refl _ _) rfl⟩
     ·obtain rfl:_=oo:=Option.some.inj ho
      have h36:=g_eq (t:=36) (v:=.bool true) (hdep 3 (by kernel_rfl))
      unfold Oper.wp
      go_simp
      exact ⟨_,rfl,hK2 _ _ (Chg.refl _ _) rfl⟩
     ·obtain rfl:_=oo:=Option.some.inj ho
      have h7:=g_eq (t:=7) (v:=.pointer (some ⟨IB,0,none⟩)) (hst 7 (by simp))
      unfold Oper.wp
      go_simp
      exact ⟨_,rfl,hK2 _ _ (Chg.refl _ _) rfl⟩
     ·obtain rfl:_=oo:=Option.some.inj ho
      have h38:=g_eq (t:=38) (v:=.agg #[.int .i64 (T.map (formP m)).kind,.int .i64 (T.map (formP m)).num,.string (T.map (formP m)).txt,.slice D5 (T.map (formP m)).keys.length d5,.slice D6 (T.map (formP m)).vals.length d6]) (hdep 5 (by kernel_rfl))
      have h38:=g_eq (t:=38) (v:=.agg #[.int .i64 (T.map (formP m)).kind,.int .i64 (T.map (formP m)).num,.string (T.map (formP m)).txt,.slice D5 (T.map (formP m)).keys.length d5,.slice D6 (T.map (formP m)).vals.length d6]) (hdep 5 (by kernel_rfl))
      unfold Oper.wp
      go_simp
      refine (from_any 67108864 (.map (formP m)) _ w' HB.out.fp.size HB.out.fp.size (HX.out.2.1.chg hcB)).mono ?_
      rintro e w3 ⟨v',rfl,hc3,hr3⟩
      exact ⟨_,rfl,hK2 _ _ hc3 (hr3.weak fun b hb=>by omega)⟩
     ·obtain rfl:_=oo:=Option.some.inj ho
      have hrv:Rd (fun b=>b≠w.heap.size) w' (.map (formP m)) (Act.g a' 39):=hdep 6 (by kernel_rfl)
      generalize h39:Act.g a' 39=vv at hrv
      have h39:=g_eq (t:=39) h39
      unfold Oper.wp
      go_simp
      refine (view_any (o:=(fun b=>b≠w.heap.size)) _ vv w' hrv HB.out.fp (fun b hb=>by omega)).mono ?_
      rintro e w3 ⟨v',rfl,hc3,hr3⟩
      exact ⟨_,rfl,hK2 _ _ hc3 hr3⟩
     ·obtain rfl:_=oo:=Option.some.inj ho
      have h3:=g_eq (t:=3) (v:=.pointer (some ⟨CB,0,none⟩)) (hst 3 (by simp))
      unfold Oper.wp
      go_simp
      exact ⟨_,rfl,hK2 _ _ (Chg.refl _ _) rfl⟩
     ·obtain rfl:_=oo:=Option.some.inj ho
      have h41:=g_eq (t:=41) (v:=.agg #[.int .i64 (T.map (canonS m)).kind,.int .i64 (T.map (canonS m)).num,.string (T.map (canonS m)).txt,.slice C5 (T.map (canonS m)).keys.length c5,.slice C6 (T.map (canonS m)).vals.length c6]) (hdep 8 (by kernel_rfl))
      have h41:=g_eq (t:=41) (v:=.agg #[.int .i64 (T.map (canonS m)).kind,.int .i64 (T.map (canonS m)).num,.string (T.map (canonS m)).txt,.slice C5 (T.map (canonS m)).keys.length c5,.slice C6 (T.map (canonS m)).vals.length c6]) (hdep 8 (by kernel_rfl))
      unfold Oper.wp
      go_simp
      refine (view_any (o:=(fun b=>b≠w.heap.size)) (canonS m) _ w' (HX.out.2.2.chg hcB) HB.out.fc (fun b hb=>by omega)).mono ?_
      rintro e w3 ⟨v',rfl,hc3,hr3⟩
      exact ⟨_,rfl,hK2 _ _ hc3 hr3⟩
     ·obtain rfl:_=oo:=Option.some.inj ho
      have hr40:Rd (fun b=>b≠w.heap.size) w' (.map (viewM (formP m))) (Act.g a' 40):=hdep 7 (by kernel_rfl)
      have hr42:Rd (fun b=>b≠w.heap.size) w' (.map (viewM (canonS m))) (Act.g a' 42):=hdep 9 (by kernel_rfl)
      rw [HV.out] at hr40
      generalize h40:Act.g a' 40=vv at hr40
      generalize h42:Act.g a' 42=vw at hr42
      have h40:=g_eq (t:=40) h40
      have h42:=g_eq (t:=42) h42
      unfold Oper.wp
      go_simp
      refine (same_eq (o:=(fun b=>b≠w.heap.size)) 67108864 (.map (viewM (canonS m))) _ _ w' HB.out.fv.size HB.out.fv.size hr40 hr42).mono ?_
      rintro e w3 ⟨rfl,hc3⟩
      exact ⟨_,rfl,hK2 _ _ hc3 rfl⟩
     ·obtain rfl:_=oo:=Option.some.inj ho
      have h37:=g_eq (t:=37) (v:=.bool true) (hdep 4 (by kernel_rfl))
      have h43:=g_eq (t:=43) (v:=.bool true) (hdep 10 (by kernel_rfl))
      unfold Oper.wp
      go_simp
      exact ⟨_,rfl,hK2 _ _ (Chg.refl _ _) rfl⟩
     ·obtain rfl:_=oo:=Option.some.inj ho
      have h44:=g_eq (t:=44) (v:=.bool true) (hdep 11 (by kernel_rfl))
      unfold Oper.wp
      go_simp
      exact ⟨_,rfl,hK2 _ _ (Chg.refl _ _) rfl⟩
     ·omega
    ·intro u w' hch hφ A2 hA2
     have hu:u 12=.bool true:=hφ 12 (by decide)
     have hcB:Chg [] W8 w':=(Chg.refl [] W8).dr.trans hch New.nil
     have hcE:=HX.out.1.trans hcB New.nil
     simp [putAll,dOf,Act.put,hu] at hA2
     subst hA2
     clear hφ hu hch hcB
     refine hK _ _ ?_
     go_wp2_with fail
     go_ret
     exact ⟨rfl,hcE⟩
end Go.Proofs.YtpofkokbmifhgaaGreatDoor
