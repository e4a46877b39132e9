/- Parts of the walk, made small by wip/tools/pack.py: MU. No condition but those in each statement. -/
import Derived.Test.YtpofkokbmifhgaaGreatDoorL26
import Derived.Test.YtpofkokbmifhgaaGreatDoorL27
set_option maxRecDepth 100000
set_option maxHeartbeats 20000000
set_option linter.unusedVariables false
set_option linter.unusedSimpArgs false
namespace Go.Proofs.YtpofkokbmifhgaaGreatDoor
open Go.RowKit
variable {o:Nat->Prop}
theorem getD_size (k:ByteArray) (t:T):T.size ((tget k t).getD .null)<=T.size t:=by
 cases hg:tget k t with
 | none=>have:=one_le_size t; simpa [T.size] using this
 | some x=>
  cases t with
  | map m=>have:=sizeM_get (show mget k m=some x from hg); simp only [Option.getD_some,T.size]; omega
  | _=>cases hg
theorem size_use {k:ByteArray} {t:T} (h:T.size t<=8388620):T.size (useT k t)<=67108864:=by
 by_cases h3:t.kind=3
 ·obtain ⟨s,rfl⟩:=text_of h3
  simp [useT,T.size]
 ·by_cases hk:k=cPorts
  ·subst hk
   rw [useT_port h3];have h1:=getD_size cTarget t;have h2:=getD_size cPublished t;have h3:=getD_size cProtocol t;have h4:=getD_size cHostIp t;simp only [T.size,T.sizeL]
   omega
  ·rw [useT_other hk h3]
   have h1:=getD_size cTarget t
   omega
theorem orP_fine {k:ByteArray} {s:ByteArray} {m:List (ByteArray × T)} (hk:k.size<=67108864) (hs:s.size<=67108864) (h:WF 67108864 (.map m)):WF 67108864 (.map (orP k (.text s) m)):=by
 unfold orP
 split
 ·exact h
 ·exact h.ins hk hs
theorem orP_size {k:ByteArray} {s:ByteArray} {m:List (ByteArray × T)}:T.sizeM (orP k (.text s) m)<=T.sizeM m+1:=by
 unfold orP
 split
 ·omega
 ·exact sizeM_ins
theorem fine_usual {k:ByteArray} {t:T} (h:Fine t) (hs:T.size t<=8388608) (hm:k=cPorts->∃ m,t=.map m):Fine (usual k t)/\T.size (usual k t)<=8388620:=by
 by_cases hk:k=cPorts
 ·obtain ⟨m,rfl⟩:=hm hk
  subst hk;rw [usual_eq];have h1:=@orP_size cProtocol cTcp m;have h2:=@orP_size cHostIp cAny4 (orP cProtocol (.text cTcp) m);simp only [T.size] at hs
  have h3:T.size (.map (orP cHostIp (.text cAny4) (orP cProtocol (.text cTcp) m)))<=8388620:=by simp only [T.size]; omega
  exact ⟨⟨orP_fine (by decide) (by decide) (orP_fine (by decide) (by decide) h.wf),by omega⟩,h3⟩
 ·unfold usual
  rw [if_neg hk];exact ⟨h,by omega⟩
def PU (k:ByteArray) (y x:T):Prop:=useT k y=useT k x∨useT k (usual k y)≠useT k (usual k x)
def AtI (k:ByteArray) (U:List T) (x:T) (j:Nat) (a:Int):Prop:=(a=-1/\∀ i y,i < j->U[i]?=some y->useT k y≠useT k x)∨∃ i:Nat,∃ y,a=i/\i < j/\U[i]?=some y/\useT k y=useT k x
theorem saidU_step {k:ByteArray} {l:List T} {n:Nat} {x:T} (hx:l[n]?=some x) (h:SaidU k (l.take n)) (hp:∀ (i:Nat) (y:T),(uniqBy (useT k) (l.take n))[i]?=some y->PU k y x):SaidU k (l.take (n+1)):=by
 intro j z hz y hy
 have hj:j < n+1:=by
  have:=(List.getElem?_eq_some_iff.1 hz).1;simp at this
  omega
 rw [List.getElem?_take_of_lt hj] at hz;rw [List.take_take,Nat.min_eq_left (by omega)] at hy;rcases Nat.lt_succ_iff_lt_or_eq.1 hj with hj' | rfl
 ·refine h j z (by rw [List.getElem?_take_of_lt hj']; exact hz) y ?_
  rw [List.take_take,Nat.min_eq_left (by omega)];exact hy
 ·rw [hx] at hz
  cases hz
  obtain ⟨i,hi⟩:=List.getElem?_of_mem hy;exact hp i y hi
theorem saidU_all {k:ByteArray} {l:List T} {n:Nat} (hn:n=l.length) (h:SaidU k (l.take n)):SaidU k l:=by
 rw [hn,List.take_length] at h;exact h
theorem mem_uniqL {k:ByteArray} {l:List T} {n i:Nat} {y:T} (h:(uniqBy (useT k) (l.take n))[i]?=some y):y∈l:=List.mem_of_mem_take (mem_uniq (List.mem_of_getElem? h))
theorem mergeUnique_any (k:ByteArray) (l:List T) (v:Value) (w:World) (h:RdV o w l v) (hf:∀ x∈l,Fine x/\T.size x<=8388608) (hl:l.length<=67108864) (hm:k=cPorts->∀ x∈l,∃ m,x=.map m) (hno:∀ b,w.heap.size<=b->o b) :
  Calls Tryz.prog 99 #[.string k,v] w fun e w'=>∃ v' b,e=.returned (.tuple #[v',.bool b])/\Chg [] w w'/\Rd o w' (.list (uniqBy (useT k) l)) v'/\(b=true->SaidU k l):=by
 obtain ⟨Al,cl,rfl,hlc,hrd⟩:=id h;have HV:=Lib.hid h;have HF:=Lib.hid hf;have HM:=Lib.hid hm;have HNO:=Lib.hid hno;clear hrd hm hno
 go_enter Tryz.func99,Tryz.ntmps99
 go_wp2_with fail
 go_loopg [6,7,8] l.length (fun g s6 s7 s8 wr=>∃ (n:Nat) (bs:Bool) (R:Value),n<=l.length/\g=l.length - n/\s6=R/\s7=.bool bs/\s8=.int .i64 n/\VRow o w (w.heap.size+1) (uniqBy (useT k) (l.take n)) R wr/\wr.heap[w.heap.size]?=some (.cells #[.int .i64 0,.int .i64 0,.string ⟨#[]⟩,.slice none 0 0,.slice none 0 0] 25)/\Hid (bs=true->SaidU k (l.take n)))
 case atStart=>exact ⟨0,true,_,Nat.zero_le _,by omega,rfl,rfl,rfl,VRow.nil ((Chg.refl [] w).al _) (by simp),heap_alloc_new _ _,Lib.hid fun _ j x hx=>by simp at hx⟩
 case round=>
  obtain ⟨n,bs,R,hn,rfl,rfl,rfl,rfl,hVR,zz,hsd⟩:=hrel;obtain ⟨A,c,rfl⟩:=hVR.slice
  by_cases hlt:n < l.length
  ·have hltb:decide ((n:Int) < (l.length:Int))=true:=by simp; omega
   obtain ⟨x,hx⟩ : ∃ x,l[n]?=some x:=⟨_,List.getElem?_eq_getElem hlt⟩
   obtain ⟨gl,cl',A5,q5,A6,q6,el,hgl,rx,ye⟩:=HV.out.elem hx
   cases el
   have HX:=Lib.hid hx;have HRX:=Lib.hid rx;have YE:=Lib.hid ye;have hxl:x∈l:=List.mem_of_getElem? hx;have HFX:=Lib.hid (HF.out x hxl)
   have HMX:Hid (k=cPorts->∃ m,x=.map m):=Lib.hid fun e=>HM.out e x hxl
   obtain ⟨U,hU⟩ : ∃ U,U=uniqBy (useT k) (l.take n):=⟨_,rfl⟩
   have hUl:U.length<=67108864:=by have:=uniq_length (key:=useT k) (l.take n); rw [hU]; simp at this; omega
   have HUF:Hid (∀ i y,U[i]?=some y->Fine y/\T.size y<=8388608/\(k=cPorts->∃ m,y=.map m)):=Lib.hid fun i y hy=>by
    rw [hU] at hy;have:=mem_uniqL hy;exact ⟨(HF.out y this).1,(HF.out y this).2,fun e=>HM.out e y this⟩
   rw [<- hU] at hVR ⊢;have HU:=Lib.hid hU;have HVR:=Lib.hid hVR;clear hU hx rx ye hxl hVR
   go_wp2_with fail
   go_loopg [7,9,10] U.length (fun g s7 s9 s10 wx=>∃ (j:Nat) (bs':Bool) (a:Int),j<=U.length/\g=U.length - j/\s7=.bool bs'/\s9=.int .i64 a/\s10=.int .i64 j/\VRow o w (w.heap.size+1) U (.slice A U.length c) wx/\wx.heap[w.heap.size]?=some (.cells #[.int .i64 0,.int .i64 0,.string ⟨#[]⟩,.slice none 0 0,.slice none 0 0] 25)/\Hid (AtI k U x j a)/\Hid (bs'=true->bs=true/\∀ i y,i < j->U[i]?=some y->PU k y x))
   case atStart=>exact ⟨0,bs,-1,Nat.zero_le _,by omega,rfl,rfl,rfl,HVR.out,zz,Lib.hid (.inl ⟨rfl,fun i y hi=>absurd hi (Nat.not_lt_zero _)⟩),Lib.hid fun hb=>⟨hb,fun i y hi=>absurd hi (Nat.not_lt_zero _)⟩⟩
   case round=>
    clear HVR zz;obtain ⟨j,bs',a,hj,rfl,rfl,rfl,rfl,hVR,zz,hat,hsp⟩:=hrel;have hcr:=hVR.chg;have hsz1:w.heap.size+1<=wr.heap.size:=hVR.le.2
    by_cases hjl:j < U.length
    ·have hjlb:decide ((j:Int) < (U.length:Int))=true:=by simp; omega
     obtain ⟨y,hy⟩ : ∃ y,U[j]?=some y:=⟨_,List.getElem?_eq_getElem hjl⟩
     obtain ⟨gu,cu,A7,q7,A8,q8,eu,hgu1,hgu2,ry,⟨y0,y1,y2,y3,y4⟩,hfr⟩:=hVR.elem hy
     cases eu
     have HY:=Lib.hid hy;have HRY:=Lib.hid ry;have HFY:=Lib.hid (HUF.out j y hy);have HYC:=Lib.hid (And.intro y0 (And.intro y1 (And.intro y2 (And.intro y3 y4))));have HVR:=Lib.hid hVR;clear hy ry y0 y1 y2 y3 y4 hVR hfr
     go_wp2_with fail
     rename_i K hK;have HK:=Lib.hid hK;clear hK
     refine wp_region_all (by rfl) (by kernel_rfl) [0,1,6,8,10] (by kernel_rfl)
      (fun jo u V=>match jo with
       | 0=>u=.string k
       | 1=>u=.slice (some ⟨gu,0,none⟩) U.length c
       | 2=>u=.int .i64 j
       | 3=>u=.pointer (some ⟨gu,j * 5,none⟩)
       | 4=>u=.agg #[.int .i64 y.kind,.int .i64 y.num,.string y.txt,.slice A7 y.keys.length q7,.slice A8 y.vals.length q8]
       | 5=>Rd (fun _=>True) V (useT k y) u
       | 6=>u=.string k
       | 7=>u=.slice (some ⟨gl,0,none⟩) l.length cl
       | 8=>u=.int .i64 n
       | 9=>u=.pointer (some ⟨gl,n * 5,none⟩)
       | 10=>u=.agg #[.int .i64 x.kind,.int .i64 x.num,.string x.txt,.slice A5 x.keys.length q5,.slice A6 x.vals.length q6]
       | 11=>Rd (fun _=>True) V (useT k x) u
       | 12=>u=.bool (sameT (useT k y) (useT k x))
       | _=>True) ?_ ?_ ?_
     ·intro j u V V' hc hφ
      rcases j with _ | _ | _ | _ | _ | _ | _ | _ | _ | _ | _ | _ | _ | j
      ·exact hφ
      ·exact hφ
      ·exact hφ
      ·exact hφ
      ·exact hφ
      ·exact Rd.chg hφ hc
      ·exact hφ
      ·exact hφ
      ·exact hφ
      ·exact hφ
      ·exact hφ
      ·exact Rd.chg hφ hc
      ·exact hφ
      ·exact hφ
     ·intro j oo hj ho a' w' hst hch hdep K2 hK2
      have hcB:Chg [] wr w':=(Chg.refl [] wr).dr.trans hch New.nil;have hcw':Chg [] w w':=hcr.trans hcB New.nil;obtain ⟨y0,y1,y2,y3,y4⟩:=HYC.out;have d0:=(hcB.cells.1 _ _ hgu2).trans y0;have d1:=(hcB.cells.1 _ _ hgu2).trans y1;have d2:=(hcB.cells.1 _ _ hgu2).trans y2;have d3:=(hcB.cells.1 _ _ hgu2).trans y3;have d4:=(hcB.cells.1 _ _ hgu2).trans y4;clear y0 y1 y2 y3 y4;obtain ⟨x0,x1,x2,x3,x4⟩:=YE.out _ hcw';have hRy:=HRY.out.chg hcB;have hRx:=(HRX.out.weak (o':=fun _=>True) (fun _ _=>trivial)).chg hcw';have hj':j < 13:=hj;rcases j with _ | _ | _ | _ | _ | _ | _ | _ | _ | _ | _ | _ | _ | j
      ·obtain rfl:_=oo:=Option.some.inj ho
       have h0:=g_eq (t:=0) (v:=.string k) (hst 0 (by simp));unfold Oper.wp;go_simp;exact ⟨_,rfl,hK2 _ _ (Chg.refl _ _) rfl⟩
      ·obtain rfl:_=oo:=Option.some.inj ho
       have h6:=g_eq (t:=6) (v:=.slice (some ⟨gu,0,none⟩) U.length c) (hst 6 (by simp));unfold Oper.wp;go_simp;exact ⟨_,rfl,hK2 _ _ (Chg.refl _ _) rfl⟩
      ·obtain rfl:_=oo:=Option.some.inj ho
       have h10:=g_eq (t:=10) (v:=.int .i64 j) (hst 10 (by simp));unfold Oper.wp;go_simp;exact ⟨_,rfl,hK2 _ _ (Chg.refl _ _) rfl⟩
      ·obtain rfl:_=oo:=Option.some.inj ho
       have h24:=g_eq (t:=24) (v:=.slice (some ⟨gu,0,none⟩) U.length c) (hdep 1 (by kernel_rfl));have h25:=g_eq (t:=25) (v:=.int .i64 j) (hdep 2 (by kernel_rfl));unfold Oper.wp;go_simp;exact ⟨_,rfl,hK2 _ _ (Chg.refl _ _) rfl⟩
      ·obtain rfl:_=oo:=Option.some.inj ho
       have h26:=g_eq (t:=26) (v:=.pointer (some ⟨gu,j * 5,none⟩)) (hdep 3 (by kernel_rfl));unfold Oper.wp;go_simp;exact ⟨_,rfl,hK2 _ _ (Chg.refl _ _) rfl⟩
      ·obtain rfl:_=oo:=Option.some.inj ho
       have h23:=g_eq (t:=23) (v:=.string k) (hdep 0 (by kernel_rfl));have h27:=g_eq (t:=27) (v:=.agg #[.int .i64 y.kind,.int .i64 y.num,.string y.txt,.slice A7 y.keys.length q7,.slice A8 y.vals.length q8]) (hdep 4 (by kernel_rfl));unfold Oper.wp;go_simp;refine (mergeUse_any (o:=fun _=>True) k y _ _ hRy HFY.out.1 (fun _ _=>trivial)).mono ?_;rintro e w3 ⟨v',rfl,hc3,hr3⟩;exact ⟨_,rfl,hK2 _ _ hc3 hr3⟩
      ·obtain rfl:_=oo:=Option.some.inj ho
       have h0:=g_eq (t:=0) (v:=.string k) (hst 0 (by simp));unfold Oper.wp;go_simp;exact ⟨_,rfl,hK2 _ _ (Chg.refl _ _) rfl⟩
      ·obtain rfl:_=oo:=Option.some.inj ho
       have h1:=g_eq (t:=1) (v:=.slice (some ⟨gl,0,none⟩) l.length cl) (hst 1 (by simp));unfold Oper.wp;go_simp;exact ⟨_,rfl,hK2 _ _ (Chg.refl _ _) rfl⟩
      ·obtain rfl:_=oo:=Option.some.inj ho
       have h8:=g_eq (t:=8) (v:=.int .i64 n) (hst 8 (by simp));unfold Oper.wp;go_simp;exact ⟨_,rfl,hK2 _ _ (Chg.refl _ _) rfl⟩
      ·obtain rfl:_=oo:=Option.some.inj ho
       have h30:=g_eq (t:=30) (v:=.slice (some ⟨gl,0,none⟩) l.length cl) (hdep 7 (by kernel_rfl));have h31:=g_eq (t:=31) (v:=.int .i64 n) (hdep 8 (by kernel_rfl));unfold Oper.wp;go_simp;exact ⟨_,rfl,hK2 _ _ (Chg.refl _ _) rfl⟩
      ·obtain rfl:_=oo:=Option.some.inj ho
       have h32:=g_eq (t:=32) (v:=.pointer (some ⟨gl,n * 5,none⟩)) (hdep 9 (by kernel_rfl));unfold Oper.wp;go_simp;exact ⟨_,rfl,hK2 _ _ (Chg.refl _ _) rfl⟩
      ·obtain rfl:_=oo:=Option.some.inj ho
       have h29:=g_eq (t:=29) (v:=.string k) (hdep 6 (by kernel_rfl));have h33:=g_eq (t:=33) (v:=.agg #[.int .i64 x.kind,.int .i64 x.num,.string x.txt,.slice A5 x.keys.length q5,.slice A6 x.vals.length q6]) (hdep 10 (by kernel_rfl));unfold Oper.wp;go_simp;refine (mergeUse_any (o:=fun _=>True) k x _ _ hRx HFX.out.1 (fun _ _=>trivial)).mono ?_;rintro e w3 ⟨v',rfl,hc3,hr3⟩;exact ⟨_,rfl,hK2 _ _ hc3 hr3⟩
      ·obtain rfl:_=oo:=Option.some.inj ho
       have hr28:Rd (fun _=>True) w' (useT k y) (Act.g a' 28):=hdep 5 (by kernel_rfl);generalize hg28:Act.g a' 28=v28 at hr28;have h28:=g_eq (t:=28) hg28;have hr34:Rd (fun _=>True) w' (useT k x) (Act.g a' 34):=hdep 11 (by kernel_rfl);generalize hg34:Act.g a' 34=v34 at hr34;have h34:=g_eq (t:=34) hg34;unfold Oper.wp;go_simp;refine (same_dec (o:=fun _=>True) _ (useT k y) (useT k x) _ _ w' (Nat.le_refl _) (size_use (by have:=HFY.out.2.1; omega)) hr28 hr34).mono ?_;rintro e w3 ⟨rfl,hc3⟩;exact ⟨_,rfl,hK2 _ _ hc3 rfl⟩
      ·omega
     ·intro u w' hch hφ A2 hA2
      have hu12:u 12=.bool (sameT (useT k y) (useT k x)):=hφ 12 (by decide)
      obtain ⟨hcB2,hV2,zz2⟩ : Chg [] wr w'/\VRow o w (w.heap.size+1) U (.slice (some ⟨gu,0,none⟩) U.length c) w'/\w'.heap[w.heap.size]?=some (.cells #[.int .i64 0,.int .i64 0,.string ⟨#[]⟩,.slice none 0 0,.slice none 0 0] 25):=by
       have hcB:Chg [] wr w':=(Chg.refl [] wr).dr.trans hch New.nil;exact ⟨hcB,HVR.out.go hcB,box5 zz _ hcB⟩
      by_cases e5:useT k y=useT k x
      ·have f5:=sameT_t e5
       have HE5:=Lib.hid e5;rw [f5] at hu12;simp [putAll,dOf,Act.put,hu12] at hA2;subst hA2;clear hφ hu12 f5 e5 hch;refine HK.out _ _ ?_;clear HK
       go_wp2
       go_roundg (U.length - (j+1))
       case measure=>omega
       case rel=>exact ⟨j+1,bs',j,by omega,rfl,rfl,rfl,by go_num,hV2,zz2,Lib.hid (.inr ⟨j,y,rfl,by omega,HY.out,HE5.out⟩),Lib.hid (fun hb=>by
         obtain ⟨h1,h2⟩:=hsp.out hb;refine ⟨h1,fun i z hi hz=>?_⟩;rcases Nat.lt_succ_iff_lt_or_eq.1 hi with h | rfl
         ·exact h2 i z h hz
         ·rw [HY.out] at hz
          cases hz
          exact (.inl HE5.out))⟩
      ·have f5:=sameT_f e5
       have HE5:=Lib.hid e5;rw [f5] at hu12;simp [putAll,dOf,Act.put,hu12] at hA2;subst hA2;clear hφ hu12 f5 e5;refine HK.out _ _ ?_;clear HK;have hYQ:Hid (w'.cell? ⟨gu,j * 5,none⟩=some (.int .i64 y.kind)/\w'.cell? ⟨gu,j * 5+1,none⟩=some (.int .i64 y.num)/\w'.cell? ⟨gu,j * 5+2,none⟩=some (.string y.txt)/\w'.cell? ⟨gu,j * 5+3,none⟩=some (.slice A7 y.keys.length q7)/\w'.cell? ⟨gu,j * 5+4,none⟩=some (.slice A8 y.vals.length q8)):=Lib.hid ⟨(hcB2.cells.1 _ _ hgu2).trans HYC.out.1,(hcB2.cells.1 _ _ hgu2).trans HYC.out.2.1,(hcB2.cells.1 _ _ hgu2).trans HYC.out.2.2.1,(hcB2.cells.1 _ _ hgu2).trans HYC.out.2.2.2.1,(hcB2.cells.1 _ _ hgu2).trans HYC.out.2.2.2.2⟩
       obtain ⟨wq,rfl⟩ : ∃ wq,wq=w':=⟨_,rfl⟩
       have HYQ:=hYQ;have HRQ:=Lib.hid (HRY.out.chg hcB2);have hcq:=hcr.trans hcB2 New.nil
       have hgq:gu < wq.heap.size:=by have:=hcB2.size; omega
       have HV2:=Lib.hid hV2;have ZQ:=Lib.hid zz2;clear hYQ hV2 zz2 hch
       go_wp2_with fail
       rename_i K2 hK2;have HK2:=Lib.hid hK2;clear hK2
       refine wp_region_all (by rfl) (by kernel_rfl) [0,1,6,8,10] (by kernel_rfl)
        (fun jo u V=>match jo with
         | 0=>u=.string k
         | 1=>u=.string k
         | 2=>u=.slice (some ⟨gu,0,none⟩) U.length c
         | 3=>u=.int .i64 j
         | 4=>u=.pointer (some ⟨gu,j * 5,none⟩)
         | 5=>u=.agg #[.int .i64 y.kind,.int .i64 y.num,.string y.txt,.slice A7 y.keys.length q7,.slice A8 y.vals.length q8]
         | 6=>Rd (fun _=>True) V (usual k y) u
         | 7=>Rd (fun _=>True) V (useT k (usual k y)) u
         | 8=>u=.string k
         | 9=>u=.string k
         | 10=>u=.slice (some ⟨gl,0,none⟩) l.length cl
         | 11=>u=.int .i64 n
         | 12=>u=.pointer (some ⟨gl,n * 5,none⟩)
         | 13=>u=.agg #[.int .i64 x.kind,.int .i64 x.num,.string x.txt,.slice A5 x.keys.length q5,.slice A6 x.vals.length q6]
         | 14=>Rd (fun _=>True) V (usual k x) u
         | 15=>Rd (fun _=>True) V (useT k (usual k x)) u
         | 16=>u=.bool (sameT (useT k (usual k y)) (useT k (usual k x)))
         | _=>True) ?_ ?_ ?_
       ·intro j u V V' hc hφ
        rcases j with _ | _ | _ | _ | _ | _ | _ | _ | _ | _ | _ | _ | _ | _ | _ | _ | _ | j
        ·exact hφ
        ·exact hφ
        ·exact hφ
        ·exact hφ
        ·exact hφ
        ·exact hφ
        ·exact Rd.chg hφ hc
        ·exact Rd.chg hφ hc
        ·exact hφ
        ·exact hφ
        ·exact hφ
        ·exact hφ
        ·exact hφ
        ·exact hφ
        ·exact Rd.chg hφ hc
        ·exact Rd.chg hφ hc
        ·exact hφ
        ·exact hφ
       ·intro j oo hj ho a' w' hst hch hdep K2 hK2
        have hcB:Chg [] wq w':=(Chg.refl [] wq).dr.trans hch New.nil;have hcw':Chg [] w w':=hcq.trans hcB New.nil;obtain ⟨y0,y1,y2,y3,y4⟩:=HYQ.out;have d0:=(hcB.cells.1 _ _ hgq).trans y0;have d1:=(hcB.cells.1 _ _ hgq).trans y1;have d2:=(hcB.cells.1 _ _ hgq).trans y2;have d3:=(hcB.cells.1 _ _ hgq).trans y3;have d4:=(hcB.cells.1 _ _ hgq).trans y4;clear y0 y1 y2 y3 y4;obtain ⟨x0,x1,x2,x3,x4⟩:=YE.out _ hcw';have hRy:=HRQ.out.chg hcB;have hRx:=(HRX.out.weak (o':=fun _=>True) (fun _ _=>trivial)).chg hcw';have hj':j < 17:=hj;rcases j with _ | _ | _ | _ | _ | _ | _ | _ | _ | _ | _ | _ | _ | _ | _ | _ | _ | j
        ·obtain rfl:_=oo:=Option.some.inj ho
         have h0:=g_eq (t:=0) (v:=.string k) (hst 0 (by simp));unfold Oper.wp;go_simp;exact ⟨_,rfl,hK2 _ _ (Chg.refl _ _) rfl⟩
        ·obtain rfl:_=oo:=Option.some.inj ho
         have h0:=g_eq (t:=0) (v:=.string k) (hst 0 (by simp));unfold Oper.wp;go_simp;exact ⟨_,rfl,hK2 _ _ (Chg.refl _ _) rfl⟩
        ·obtain rfl:_=oo:=Option.some.inj ho
         have h6:=g_eq (t:=6) (v:=.slice (some ⟨gu,0,none⟩) U.length c) (hst 6 (by simp));unfold Oper.wp;go_simp;exact ⟨_,rfl,hK2 _ _ (Chg.refl _ _) rfl⟩
        ·obtain rfl:_=oo:=Option.some.inj ho
         have h10:=g_eq (t:=10) (v:=.int .i64 j) (hst 10 (by simp));unfold Oper.wp;go_simp;exact ⟨_,rfl,hK2 _ _ (Chg.refl _ _) rfl⟩
        ·obtain rfl:_=oo:=Option.some.inj ho
         have h39:=g_eq (t:=39) (v:=.slice (some ⟨gu,0,none⟩) U.length c) (hdep 2 (by kernel_rfl));have h40:=g_eq (t:=40) (v:=.int .i64 j) (hdep 3 (by kernel_rfl));unfold Oper.wp;go_simp;exact ⟨_,rfl,hK2 _ _ (Chg.refl _ _) rfl⟩
        ·obtain rfl:_=oo:=Option.some.inj ho
         have h41:=g_eq (t:=41) (v:=.pointer (some ⟨gu,j * 5,none⟩)) (hdep 4 (by kernel_rfl));unfold Oper.wp;go_simp;exact ⟨_,rfl,hK2 _ _ (Chg.refl _ _) rfl⟩
        ·obtain rfl:_=oo:=Option.some.inj ho
         have h38:=g_eq (t:=38) (v:=.string k) (hdep 1 (by kernel_rfl));have h42:=g_eq (t:=42) (v:=.agg #[.int .i64 y.kind,.int .i64 y.num,.string y.txt,.slice A7 y.keys.length q7,.slice A8 y.vals.length q8]) (hdep 5 (by kernel_rfl));unfold Oper.wp;go_simp;refine (mergeUsual_any (o:=fun _=>True) k y _ _ hRy HFY.out.1 HFY.out.2.2 (fun _ _=>trivial)).mono ?_;rintro e w3 ⟨v',rfl,hc3,hr3⟩;exact ⟨_,rfl,hK2 _ _ hc3 hr3⟩
        ·obtain rfl:_=oo:=Option.some.inj ho
         have h37:=g_eq (t:=37) (v:=.string k) (hdep 0 (by kernel_rfl));have hr43:Rd (fun _=>True) w' (usual k y) (Act.g a' 43):=hdep 6 (by kernel_rfl);generalize hg43:Act.g a' 43=v43 at hr43;have h43:=g_eq (t:=43) hg43;unfold Oper.wp;go_simp;refine (mergeUse_any (o:=fun _=>True) k (usual k y) _ _ hr43 (fine_usual HFY.out.1 HFY.out.2.1 HFY.out.2.2).1 (fun _ _=>trivial)).mono ?_;rintro e w3 ⟨v',rfl,hc3,hr3⟩;exact ⟨_,rfl,hK2 _ _ hc3 hr3⟩
        ·obtain rfl:_=oo:=Option.some.inj ho
         have h0:=g_eq (t:=0) (v:=.string k) (hst 0 (by simp));unfold Oper.wp;go_simp;exact ⟨_,rfl,hK2 _ _ (Chg.refl _ _) rfl⟩
        ·obtain rfl:_=oo:=Option.some.inj ho
         have h0:=g_eq (t:=0) (v:=.string k) (hst 0 (by simp));unfold Oper.wp;go_simp;exact ⟨_,rfl,hK2 _ _ (Chg.refl _ _) rfl⟩
        ·obtain rfl:_=oo:=Option.some.inj ho
         have h1:=g_eq (t:=1) (v:=.slice (some ⟨gl,0,none⟩) l.length cl) (hst 1 (by simp));unfold Oper.wp;go_simp;exact ⟨_,rfl,hK2 _ _ (Chg.refl _ _) rfl⟩
        ·obtain rfl:_=oo:=Option.some.inj ho
         have h8:=g_eq (t:=8) (v:=.int .i64 n) (hst 8 (by simp));unfold Oper.wp;go_simp;exact ⟨_,rfl,hK2 _ _ (Chg.refl _ _) rfl⟩
        ·obtain rfl:_=oo:=Option.some.inj ho
         have h47:=g_eq (t:=47) (v:=.slice (some ⟨gl,0,none⟩) l.length cl) (hdep 10 (by kernel_rfl));have h48:=g_eq (t:=48) (v:=.int .i64 n) (hdep 11 (by kernel_rfl));unfold Oper.wp;go_simp;exact ⟨_,rfl,hK2 _ _ (Chg.refl _ _) rfl⟩
        ·obtain rfl:_=oo:=Option.some.inj ho
         have h49:=g_eq (t:=49) (v:=.pointer (some ⟨gl,n * 5,none⟩)) (hdep 12 (by kernel_rfl));unfold Oper.wp;go_simp;exact ⟨_,rfl,hK2 _ _ (Chg.refl _ _) rfl⟩
        ·obtain rfl:_=oo:=Option.some.inj ho
         have h46:=g_eq (t:=46) (v:=.string k) (hdep 9 (by kernel_rfl));have h50:=g_eq (t:=50) (v:=.agg #[.int .i64 x.kind,.int .i64 x.num,.string x.txt,.slice A5 x.keys.length q5,.slice A6 x.vals.length q6]) (hdep 13 (by kernel_rfl));unfold Oper.wp;go_simp;refine (mergeUsual_any (o:=fun _=>True) k x _ _ hRx HFX.out.1 HMX.out (fun _ _=>trivial)).mono ?_;rintro e w3 ⟨v',rfl,hc3,hr3⟩;exact ⟨_,rfl,hK2 _ _ hc3 hr3⟩
        ·obtain rfl:_=oo:=Option.some.inj ho
         have h45:=g_eq (t:=45) (v:=.string k) (hdep 8 (by kernel_rfl));have hr51:Rd (fun _=>True) w' (usual k x) (Act.g a' 51):=hdep 14 (by kernel_rfl);generalize hg51:Act.g a' 51=v51 at hr51;have h51:=g_eq (t:=51) hg51;unfold Oper.wp;go_simp;refine (mergeUse_any (o:=fun _=>True) k (usual k x) _ _ hr51 (fine_usual HFX.out.1 HFX.out.2 HMX.out).1 (fun _ _=>trivial)).mono ?_;rintro e w3 ⟨v',rfl,hc3,hr3⟩;exact ⟨_,rfl,hK2 _ _ hc3 hr3⟩
        ·obtain rfl:_=oo:=Option.some.inj ho
         have hr44:Rd (fun _=>True) w' (useT k (usual k y)) (Act.g a' 44):=hdep 7 (by kernel_rfl);generalize hg44:Act.g a' 44=v44 at hr44;have h44:=g_eq (t:=44) hg44;have hr52:Rd (fun _=>True) w' (useT k (usual k x)) (Act.g a' 52):=hdep 15 (by kernel_rfl);generalize hg52:Act.g a' 52=v52 at hr52;have h52:=g_eq (t:=52) hg52;unfold Oper.wp;go_simp;refine (same_dec (o:=fun _=>True) _ (useT k (usual k y)) (useT k (usual k x)) _ _ w' (Nat.le_refl _) (size_use (fine_usual HFY.out.1 HFY.out.2.1 HFY.out.2.2).2) hr44 hr52).mono ?_;rintro e w3 ⟨rfl,hc3⟩;exact ⟨_,rfl,hK2 _ _ hc3 rfl⟩
        ·omega
       ·intro u w' hch hφ A2 hA2
        have hu16:u 16=.bool (sameT (useT k (usual k y)) (useT k (usual k x))):=hφ 16 (by decide)
        obtain ⟨hcB3,hV3,zz3⟩ : Chg [] wq w'/\VRow o w (w.heap.size+1) U (.slice (some ⟨gu,0,none⟩) U.length c) w'/\w'.heap[w.heap.size]?=some (.cells #[.int .i64 0,.int .i64 0,.string ⟨#[]⟩,.slice none 0 0,.slice none 0 0] 25):=by
         have hcB:Chg [] wq w':=(Chg.refl [] wq).dr.trans hch New.nil;exact ⟨hcB,HV2.out.go hcB,box5 ZQ.out _ hcB⟩
        by_cases e6:useT k (usual k y)=useT k (usual k x)
        ·have f6:=sameT_t e6
         rw [f6] at hu16;simp [putAll,dOf,Act.put,hu16] at hA2;subst hA2;clear hφ hu16 f6 hch;refine HK2.out _ _ ?_;clear HK2
         go_wp2
         go_roundg (U.length - (j+1))
         case measure=>omega
         case rel=>exact ⟨j+1,false,a,by omega,rfl,rfl,rfl,by go_num,hV3,zz3,Lib.hid (by
           rcases hat.out with ⟨h1,h2⟩ | ⟨i,z,h1,h2,h3⟩
           ·refine .inl ⟨h1,fun i z hi hz=>?_⟩
            rcases Nat.lt_succ_iff_lt_or_eq.1 hi with h | rfl
            ·exact h2 i z h hz
            ·rw [HY.out] at hz
             cases hz
             exact HE5.out
           ·exact .inr ⟨i,z,h1,by omega,h3⟩),Lib.hid (fun hb=>by cases hb)⟩
        ·have f6:=sameT_f e6
         have HE6:Hid (PU k y x):=Lib.hid (.inr e6);rw [f6] at hu16;simp [putAll,dOf,Act.put,hu16] at hA2;subst hA2;clear hφ hu16 f6 e6 hch;refine HK2.out _ _ ?_;clear HK2
         go_wp2
         go_roundg (U.length - (j+1))
         case measure=>omega
         case rel=>exact ⟨j+1,bs',a,by omega,rfl,rfl,rfl,by go_num,hV3,zz3,Lib.hid (by
           rcases hat.out with ⟨h1,h2⟩ | ⟨i,z,h1,h2,h3⟩
           ·refine .inl ⟨h1,fun i z hi hz=>?_⟩
            rcases Nat.lt_succ_iff_lt_or_eq.1 hi with h | rfl
            ·exact h2 i z h hz
            ·rw [HY.out] at hz
             cases hz
             exact HE5.out
           ·exact .inr ⟨i,z,h1,by omega,h3⟩),Lib.hid (fun hb=>by
           obtain ⟨h1,h2⟩:=hsp.out hb;refine ⟨h1,fun i z hi hz=>?_⟩;rcases Nat.lt_succ_iff_lt_or_eq.1 hi with h | rfl
           ·exact h2 i z h hz
           ·rw [HY.out] at hz
            cases hz
            exact HE6.out)⟩
    ·have hjlb:decide ((j:Int) < (U.length:Int))=false:=by simp; omega
     have hje:j=U.length:=by omega
     rcases hat.out with ⟨ha,hnone⟩ | ⟨i,y,ha,hi,hy,hyx⟩
     ·subst ha
      have HN:Hid (uniqBy (useT k) (l.take (n+1))=U++[x]):=Lib.hid (by
       rw [uniq_take HX.out,<- HU.out]
       refine put_new fun z hz=>?_
       obtain ⟨i,hi⟩:=List.getElem?_of_mem hz
       exact hnone i z (by have:=(List.getElem?_eq_some_iff.1 hi).1; omega) hi)
      have HS:Hid (bs'=true->SaidU k (l.take (n+1))):=Lib.hid fun hb=>by
       obtain ⟨h1,h2⟩:=hsp.out hb
       exact saidU_step HX.out (hsd.out h1) fun i y hi=>by
        rw [<- HU.out] at hi;exact h2 i y (by have:=(List.getElem?_eq_some_iff.1 hi).1; omega) hi
      have HAPP:=Lib.hid (hVR.app HRX.out hUl 23 rfl rfl);obtain ⟨y0,y1,y2,y3,y4⟩:=YE.out _ hcr;clear hnone hVR
      go_wp2_with (first | (at_builtin; refine wpList_app rfl _ _ _ rfl rfl rfl HAPP.out ?_) | fail)
      rintro R' w6 hV6 hlow6 hsz6;have zz6:=(hlow6 w.heap.size (by omega)).trans zz;clear HAPP
      go_wp2_with fail
      go_roundg (l.length - (n+1))
      case measure=>omega
      case rel=>exact ⟨n+1,bs',_,by omega,rfl,rfl,rfl,by go_num,by rw [HN.out]; exact hV6,zz6,HS⟩
     ·subst ha
      have ha1:decide ((i:Int) < 0)=false:=decide_eq_false (by omega);have hiU:i < U.length:=(List.getElem?_eq_some_iff.1 hy).1;obtain ⟨gu,cu,A7,q7,A8,q8,eu,hgu1,hgu2,ry,⟨y0,y1,y2,y3,y4⟩,hfr⟩:=hVR.elem hy
      cases eu
      have HN:Hid (uniqBy (useT k) (l.take (n+1))=U.set i x):=Lib.hid (by
       rw [uniq_take HX.out,<- HU.out]
       exact put_old (by rw [HU.out]; exact uniq_nodup _) hy hyx)
      have HS:Hid (bs'=true->SaidU k (l.take (n+1))):=Lib.hid fun hb=>by
       obtain ⟨h1,h2⟩:=hsp.out hb
       exact saidU_step HX.out (hsd.out h1) fun i y hi=>by
        rw [<- HU.out] at hi;exact h2 i y (by have:=(List.getElem?_eq_some_iff.1 hi).1; omega) hi
      have HRY:=Lib.hid ry;have HFY:=Lib.hid (HUF.out i y hy);have HYC:=Lib.hid (And.intro y0 (And.intro y1 (And.intro y2 (And.intro y3 y4))));have HVR:=Lib.hid hVR;have HFR:=Lib.hid hfr;clear hy hyx ry y0 y1 y2 y3 y4 hVR hfr
      cases bs'
      ·go_wp2_with fail
       rename_i K hK;have HK:=Lib.hid hK;clear hK
       refine wp_region_sa (by rfl) (by kernel_rfl) [1,6,7,8,9] [0,1,2,3,4,5,6,7,8,9,10,11] 1000 (fun j=>[0,1,2,3,4,5,6,7,8,9,10,11].contains j) (fun j=>[2,3,4,5,6,7,8,9,10].contains j) [] [(1,true)] (by kernel_rfl)
        (fun jo u V=>match jo with
         | 0=>u=.bool false
         | 1=>u=.bool false
         | 11=>u=.bool false
         | _=>True)
        (fun _=>True) ?_ ?_ ?_ ?_ ?_ ?_ ?_ ?_
       ·intro q hq
        cases hq
       ·intro q hq v w' h
        rw [List.mem_singleton] at hq;subst hq;exact h
       ·intro i v w' h
        simp only [List.contains_eq_mem,List.mem_cons,List.not_mem_nil,or_false,decide_eq_true_eq] at h;rcases h with rfl | rfl | rfl | rfl | rfl | rfl | rfl | rfl | rfl
        all_goals trivial
       ·intro j u V V' hc hφ
        rcases j with _ | _ | _ | _ | _ | _ | _ | _ | _ | _ | _ | _ | _ | j
        ·exact hφ
        ·exact hφ
        ·trivial
        ·trivial
        ·trivial
        ·trivial
        ·trivial
        ·trivial
        ·trivial
        ·trivial
        ·trivial
        ·exact hφ
        ·trivial
        ·trivial
       ·intro j oo hjB hsk ho a' w' hst hch hdep K2 hK2
        have hcB:Chg [] wr w':=(Chg.refl [] wr).dr.trans hch New.nil;have hcw':Chg [] w w':=hcr.trans hcB New.nil;obtain ⟨y0,y1,y2,y3,y4⟩:=HYC.out;have d0:=(hcB.cells.1 _ _ hgu2).trans y0;have d1:=(hcB.cells.1 _ _ hgu2).trans y1;have d2:=(hcB.cells.1 _ _ hgu2).trans y2;have d3:=(hcB.cells.1 _ _ hgu2).trans y3;have d4:=(hcB.cells.1 _ _ hgu2).trans y4;clear y0 y1 y2 y3 y4;obtain ⟨x0,x1,x2,x3,x4⟩:=YE.out _ hcw';have hRy:=HRY.out.chg hcB;have hRx:=(HRX.out.weak (o':=fun _=>True) (fun _ _=>trivial)).chg hcw';simp only [List.mem_cons,List.not_mem_nil,or_false] at hjB;rcases hjB with rfl | rfl | rfl | rfl | rfl | rfl | rfl | rfl | rfl | rfl | rfl | rfl
        ·obtain rfl:_=oo:=Option.some.inj ho
         have h7:=g_eq (t:=7) (v:=.bool false) (hst 7 (by simp));unfold Oper.wp;go_simp;exact ⟨_,rfl,hK2 _ _ (Chg.refl _ _) rfl⟩
        ·obtain rfl:_=oo:=Option.some.inj ho
         have h63:=g_eq (t:=63) (v:=.bool false) (hdep 0 (by kernel_rfl));unfold Oper.wp;go_simp;exact ⟨_,rfl,hK2 _ _ (Chg.refl _ _) rfl⟩
        ·exact absurd hsk (by decide)
        ·exact absurd hsk (by decide)
        ·exact absurd hsk (by decide)
        ·exact absurd hsk (by decide)
        ·exact absurd hsk (by decide)
        ·exact absurd hsk (by decide)
        ·exact absurd hsk (by decide)
        ·exact absurd hsk (by decide)
        ·exact absurd hsk (by decide)
        ·obtain rfl:_=oo:=Option.some.inj ho
         have h64:=g_eq (t:=64) (v:=.bool false) (hdep 1 (by kernel_rfl));unfold Oper.wp;go_simp;exact ⟨_,rfl,hK2 _ _ (Chg.refl _ _) rfl⟩
       ·intro j oo hjB hsk hpl
        exact absurd hpl (by decide)
       ·intro oo ho
        cases ho
       ·intro oo ho u w' hψ hnp hφ A2 hA2
        obtain rfl:_=oo:=Option.some.inj ho;have hu11:u 11=.bool false:=hφ 11 (by simp) (fun _=>by decide);have hcB:Chg [] wr w':=(Chg.refl [] wr).dr.trans (hnp (by decide)) New.nil;have hcW:Chg [] w w':=hcr.trans hcB New.nil;clear hψ hnp;simp [putL,dOf,Act.put,hu11] at hA2;subst hA2;clear hφ ho;unfold Oper.wp;go_simp;refine HK.out _ _ ?_;clear HK;have hV2:=HVR.out.go hcB;have zz2:=box5 zz _ hcB;obtain ⟨W,hW,hVW,hlowW,hszW⟩:=hV2.put hiU HRX.out;have zzW:=(hlowW w.heap.size (by omega)).trans zz2;obtain ⟨y0,y1,y2,y3,y4⟩:=HYC.out;have d0:=(hcB.cells.1 _ _ hgu2).trans y0;have d1:=(hcB.cells.1 _ _ hgu2).trans y1;have d2:=(hcB.cells.1 _ _ hgu2).trans y2;have d3:=(hcB.cells.1 _ _ hgu2).trans y3;have d4:=(hcB.cells.1 _ _ hgu2).trans y4;have n0:=(hcB.cells.2.1 gu (i * 5) hgu2).trans (HFR.out (i * 5));have n1:=(hcB.cells.2.1 gu (i * 5+1) hgu2).trans (HFR.out (i * 5+1));have n2:=(hcB.cells.2.1 gu (i * 5+2) hgu2).trans (HFR.out (i * 5+2));have n3:=(hcB.cells.2.1 gu (i * 5+3) hgu2).trans (HFR.out (i * 5+3));have n4:=(hcB.cells.2.1 gu (i * 5+4) hgu2).trans (HFR.out (i * 5+4));obtain ⟨x0,x1,x2,x3,x4⟩:=YE.out _ hcW;have HVW:=Lib.hid hVW;clear y0 y1 y2 y3 y4 hV2 hVW hlowW
        go_wp2_with fail
        rw [<- hW];clear hW
        go_roundg (l.length - (n+1))
        case measure=>omega
        case rel=>exact ⟨n+1,_,_,by omega,rfl,rfl,rfl,by go_num,by rw [HN.out]; exact (by simpa using HVW.out),zzW,Lib.hid fun hb=>by cases hb⟩
      ·go_wp2_with fail
       rename_i K hK;have HK:=Lib.hid hK;clear hK
       refine wp_region_sa (by rfl) (by kernel_rfl) [1,6,7,8,9] [0,1,2,3,4,5,6,7,8,9,10,11] 1000 (fun j=>[0,1,2,3,4,5,6,7,8,9,10,11].contains j) (fun j=>[].contains j) [(1,true)] [] (by kernel_rfl)
        (fun jo u V=>match jo with
         | 0=>u=.bool true
         | 1=>u=.bool true
         | 2=>u=.slice (some ⟨gl,0,none⟩) l.length cl
         | 3=>u=.int .i64 n
         | 4=>u=.pointer (some ⟨gl,n * 5,none⟩)
         | 5=>u=.agg #[.int .i64 x.kind,.int .i64 x.num,.string x.txt,.slice A5 x.keys.length q5,.slice A6 x.vals.length q6]
         | 6=>u=.slice (some ⟨gu,0,none⟩) U.length c
         | 7=>u=.int .i64 i
         | 8=>u=.pointer (some ⟨gu,i * 5,none⟩)
         | 9=>u=.agg #[.int .i64 y.kind,.int .i64 y.num,.string y.txt,.slice A7 y.keys.length q7,.slice A8 y.vals.length q8]
         | 10=>∃ b:Bool,u=.bool b
         | 11=>∃ b:Bool,u=.bool b
         | _=>True)
        (fun _=>True) ?_ ?_ ?_ ?_ ?_ ?_ ?_ ?_
       ·intro q hq v w' h
        rw [List.mem_singleton] at hq;subst hq;exact h
       ·intro q hq
        cases hq
       ·intro i v w' h
        exact absurd h (by simp)
       ·intro j u V V' hc hφ
        rcases j with _ | _ | _ | _ | _ | _ | _ | _ | _ | _ | _ | _ | _ | j
        ·exact hφ
        ·exact hφ
        ·exact hφ
        ·exact hφ
        ·exact hφ
        ·exact hφ
        ·exact hφ
        ·exact hφ
        ·exact hφ
        ·exact hφ
        ·exact hφ
        ·exact hφ
        ·trivial
        ·trivial
       ·intro j oo hjB hsk ho a' w' hst hch hdep K2 hK2
        have hcB:Chg [] wr w':=(Chg.refl [] wr).dr.trans hch New.nil;have hcw':Chg [] w w':=hcr.trans hcB New.nil;obtain ⟨y0,y1,y2,y3,y4⟩:=HYC.out;have d0:=(hcB.cells.1 _ _ hgu2).trans y0;have d1:=(hcB.cells.1 _ _ hgu2).trans y1;have d2:=(hcB.cells.1 _ _ hgu2).trans y2;have d3:=(hcB.cells.1 _ _ hgu2).trans y3;have d4:=(hcB.cells.1 _ _ hgu2).trans y4;clear y0 y1 y2 y3 y4;obtain ⟨x0,x1,x2,x3,x4⟩:=YE.out _ hcw';have hRy:=HRY.out.chg hcB;have hRx:=(HRX.out.weak (o':=fun _=>True) (fun _ _=>trivial)).chg hcw';simp only [List.mem_cons,List.not_mem_nil,or_false] at hjB;rcases hjB with rfl | rfl | rfl | rfl | rfl | rfl | rfl | rfl | rfl | rfl | rfl | rfl
        ·obtain rfl:_=oo:=Option.some.inj ho
         have h7:=g_eq (t:=7) (v:=.bool true) (hst 7 (by simp));unfold Oper.wp;go_simp;exact ⟨_,rfl,hK2 _ _ (Chg.refl _ _) rfl⟩
        ·obtain rfl:_=oo:=Option.some.inj ho
         have h63:=g_eq (t:=63) (v:=.bool true) (hdep 0 (by kernel_rfl));unfold Oper.wp;go_simp;exact ⟨_,rfl,hK2 _ _ (Chg.refl _ _) rfl⟩
        ·obtain rfl:_=oo:=Option.some.inj ho
         have h1:=g_eq (t:=1) (v:=.slice (some ⟨gl,0,none⟩) l.length cl) (hst 1 (by simp));unfold Oper.wp;go_simp;exact ⟨_,rfl,hK2 _ _ (Chg.refl _ _) rfl⟩
        ·obtain rfl:_=oo:=Option.some.inj ho
         have h8:=g_eq (t:=8) (v:=.int .i64 n) (hst 8 (by simp));unfold Oper.wp;go_simp;exact ⟨_,rfl,hK2 _ _ (Chg.refl _ _) rfl⟩
        ·obtain rfl:_=oo:=Option.some.inj ho
         have h65:=g_eq (t:=65) (v:=.slice (some ⟨gl,0,none⟩) l.length cl) (hdep 2 (by kernel_rfl));have h66:=g_eq (t:=66) (v:=.int .i64 n) (hdep 3 (by kernel_rfl));unfold Oper.wp;go_simp;exact ⟨_,rfl,hK2 _ _ (Chg.refl _ _) rfl⟩
        ·obtain rfl:_=oo:=Option.some.inj ho
         have h67:=g_eq (t:=67) (v:=.pointer (some ⟨gl,n * 5,none⟩)) (hdep 4 (by kernel_rfl));unfold Oper.wp;go_simp;exact ⟨_,rfl,hK2 _ _ (Chg.refl _ _) rfl⟩
        ·obtain rfl:_=oo:=Option.some.inj ho
         have h6:=g_eq (t:=6) (v:=.slice (some ⟨gu,0,none⟩) U.length c) (hst 6 (by simp));unfold Oper.wp;go_simp;exact ⟨_,rfl,hK2 _ _ (Chg.refl _ _) rfl⟩
        ·obtain rfl:_=oo:=Option.some.inj ho
         have h9:=g_eq (t:=9) (v:=.int .i64 i) (hst 9 (by simp));unfold Oper.wp;go_simp;exact ⟨_,rfl,hK2 _ _ (Chg.refl _ _) rfl⟩
        ·obtain rfl:_=oo:=Option.some.inj ho
         have h69:=g_eq (t:=69) (v:=.slice (some ⟨gu,0,none⟩) U.length c) (hdep 6 (by kernel_rfl));have h70:=g_eq (t:=70) (v:=.int .i64 i) (hdep 7 (by kernel_rfl));unfold Oper.wp;go_simp;exact ⟨_,rfl,hK2 _ _ (Chg.refl _ _) rfl⟩
        ·obtain rfl:_=oo:=Option.some.inj ho
         have h71:=g_eq (t:=71) (v:=.pointer (some ⟨gu,i * 5,none⟩)) (hdep 8 (by kernel_rfl));unfold Oper.wp;go_simp;exact ⟨_,rfl,hK2 _ _ (Chg.refl _ _) rfl⟩
        ·obtain rfl:_=oo:=Option.some.inj ho
         have h68:=g_eq (t:=68) (v:=.agg #[.int .i64 x.kind,.int .i64 x.num,.string x.txt,.slice A5 x.keys.length q5,.slice A6 x.vals.length q6]) (hdep 5 (by kernel_rfl));have h72:=g_eq (t:=72) (v:=.agg #[.int .i64 y.kind,.int .i64 y.num,.string y.txt,.slice A7 y.keys.length q7,.slice A8 y.vals.length q8]) (hdep 9 (by kernel_rfl));unfold Oper.wp;go_simp;refine (mergeCovers_any (o:=fun _=>True) x y _ _ _ hRx hRy HFX.out.1 HFY.out.1).mono ?_;rintro e w3 ⟨b,rfl,hc3⟩;exact ⟨_,rfl,hK2 _ _ hc3 ⟨_,rfl⟩⟩
        ·obtain rfl:_=oo:=Option.some.inj ho
         have h64:=g_eq (t:=64) (v:=.bool true) (hdep 1 (by kernel_rfl));have h64:=g_eq (t:=64) (v:=.bool true) (hdep 1 (by kernel_rfl));obtain ⟨b,hb⟩ : ∃ b:Bool,Act.g a' 73=.bool b:=hdep 10 (by kernel_rfl);have h73:=g_eq hb;unfold Oper.wp;go_simp;exact ⟨_,rfl,hK2 _ _ (Chg.refl _ _) ⟨_,rfl⟩⟩
       ·intro j oo hjB hsk hpl
        exact absurd hpl (by decide)
       ·intro oo ho
        cases ho
       ·intro oo ho u w' hψ hnp hφ A2 hA2
        obtain rfl:_=oo:=Option.some.inj ho;have hu11:∃ b:Bool,(u 11)=.bool b:=hφ 11 (by simp) (fun _=>by decide);have hcB:Chg [] wr w':=(Chg.refl [] wr).dr.trans (hnp (by decide)) New.nil;have hcW:Chg [] w w':=hcr.trans hcB New.nil;clear hψ hnp;obtain ⟨bb,hu11⟩:=hu11;simp [putL,dOf,Act.put,hu11] at hA2;subst hA2;clear hφ ho;unfold Oper.wp;go_simp;refine HK.out _ _ ?_;clear HK;have hV2:=HVR.out.go hcB;have zz2:=box5 zz _ hcB;obtain ⟨W,hW,hVW,hlowW,hszW⟩:=hV2.put hiU HRX.out;have zzW:=(hlowW w.heap.size (by omega)).trans zz2;obtain ⟨y0,y1,y2,y3,y4⟩:=HYC.out;have d0:=(hcB.cells.1 _ _ hgu2).trans y0;have d1:=(hcB.cells.1 _ _ hgu2).trans y1;have d2:=(hcB.cells.1 _ _ hgu2).trans y2;have d3:=(hcB.cells.1 _ _ hgu2).trans y3;have d4:=(hcB.cells.1 _ _ hgu2).trans y4;have n0:=(hcB.cells.2.1 gu (i * 5) hgu2).trans (HFR.out (i * 5));have n1:=(hcB.cells.2.1 gu (i * 5+1) hgu2).trans (HFR.out (i * 5+1));have n2:=(hcB.cells.2.1 gu (i * 5+2) hgu2).trans (HFR.out (i * 5+2));have n3:=(hcB.cells.2.1 gu (i * 5+3) hgu2).trans (HFR.out (i * 5+3));have n4:=(hcB.cells.2.1 gu (i * 5+4) hgu2).trans (HFR.out (i * 5+4));obtain ⟨x0,x1,x2,x3,x4⟩:=YE.out _ hcW;have HVW:=Lib.hid hVW;clear y0 y1 y2 y3 y4 hV2 hVW hlowW
        go_wp2_with fail
        rw [<- hW];clear hW
        go_roundg (l.length - (n+1))
        case measure=>omega
        case rel=>exact ⟨n+1,_,_,by omega,rfl,rfl,rfl,by go_num,by rw [HN.out]; exact (by simpa using HVW.out),zzW,Lib.hid fun _=>HS.out (by first | rfl | trivial)⟩
  ·have hltb:decide ((n:Int) < (l.length:Int))=false:=by simp; omega
   have hne:n=l.length:=by omega
   have HE:Hid (bs=true->SaidU k l):=Lib.hid fun hb=>saidU_all hne (hsd.out hb)
   have hU:uniqBy (useT k) (l.take n)=uniqBy (useT k) l:=by rw [hne,List.take_length]
   rw [hU] at hVR ⊢;clear hU
   obtain ⟨U,hU⟩ : ∃ U,U=uniqBy (useT k) l:=⟨_,rfl⟩
   rw [<- hU] at hVR ⊢;have HU:=Lib.hid hU;have hcr:=hVR.chg
   have hrl:Rd (Ex o [w.heap.size]) wr (.list U) (.agg #[.int .i64 (T.list U).kind,.int .i64 (T.list U).num,.string (T.list U).txt,.slice none (T.list U).keys.length 0,.slice A (T.list U).vals.length c]):=Rd.mk (t:=.list U) (RdK.nil _) (by
    obtain ⟨xs,h1,h2⟩:=hVR.row
    exact RdV.of_own' rfl (fun b hb=>⟨HNO.out b (by omega),by simp; omega⟩) h1 (h2.weak fun b hb=>⟨hb.1,by simp; omega⟩))
   obtain ⟨z0,z1,z2,z3,z4,zf⟩:=cells5 zz;obtain ⟨W,hW,QW,hcW,hrW⟩:=ret5 zz hcr (Nat.le_refl _) hrl (by simp);have HR:=Lib.hid hrW;clear hrl hrW hVR hU
   go_wp2_with fail
   rw [show (((((wr.setCell ⟨w.heap.size,0,none⟩ (.int .i64 4)).setCell ⟨w.heap.size,1,none⟩ (.int .i64 0)).setCell ⟨w.heap.size,2,none⟩ (.string ⟨#[]⟩)).setCell ⟨w.heap.size,3,none⟩ (.slice none 0 0)).setCell ⟨w.heap.size,4,none⟩ (.slice A U.length c))=W from hW.symm];clear hW;obtain ⟨f0,f1,f2,f3,f4,_⟩:=cells5 QW
   go_wp2
   refine bodyPost_ret (v:=.tuple #[.agg #[.int .i64 (T.list U).kind,.int .i64 (T.list U).num,.string (T.list U).txt,.slice none (T.list U).keys.length 0,.slice A (T.list U).vals.length c],.bool bs]) (by simp [results,Tryz.results99,go_sem,f0,f1,f2,f3,f4]) rfl ⟨_,_,rfl,hcW,by rw [<- HU.out]; exact HR.out,HE.out⟩
end Go.Proofs.YtpofkokbmifhgaaGreatDoor
