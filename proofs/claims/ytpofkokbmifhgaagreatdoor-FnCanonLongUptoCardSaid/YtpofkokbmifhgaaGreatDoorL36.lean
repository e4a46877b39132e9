/- Parts of the walk, made small by wip/tools/pack.py: View, Mrg, Mg. No condition but those in each statement. -/
import Derived.Test.YtpofkokbmifhgaaGreatDoorL35
import Derived.Test.YtpofkokbmifhgaaGreatDoorL13
import Derived.Test.YtpofkokbmifhgaaGreatDoorL17
import Derived.Test.YtpofkokbmifhgaaGreatDoorL02
set_option maxRecDepth 100000
set_option maxHeartbeats 20000000
set_option linter.unusedVariables false
set_option linter.unusedSimpArgs false
namespace Go.Proofs.YtpofkokbmifhgaaGreatDoor
open Go.RowKit
variable {o:Nat->Prop}
def fV (_:ByteArray) (x:T):T:=viewSvc x
def svcTo (x:T) (j:Nat):T:=match x with
 | .map s=>.map (mapTo viewA s j)
 | t=>t
theorem svcTo_zero (x:T):svcTo x 0=x:=by cases x <;> first | rfl | (simp only [svcTo,mapTo_zero])
theorem svcTo_kind (x:T) (j:Nat):(svcTo x j).kind=x.kind:=by cases x <;> rfl
theorem svcTo_keys (x:T) (j:Nat):(svcTo x j).keys.length=x.keys.length:=by cases x <;> first | rfl | (simp only [svcTo,T.keys,List.length_map,mapTo_length])
theorem svcTo_all {x:T} {j:Nat} (h:¬ (x.kind=5/\j < x.keys.length)) (hj:j<=x.keys.length):svcTo x j=viewSvc x:=by
 cases x with
 | map s=>
  have hj':j=s.length:=by
   have h1:¬ j < s.length:=fun e=>h ⟨rfl,by simpa [T.keys] using e⟩
   have:j<=s.length:=by simpa [T.keys] using hj
   omega
  simp only [svcTo,viewSvc,hj',mapTo_all]
 | _=>rfl
theorem Bx.less {L L':List Nat} {D:Nat} {z:T} {W:World} (h:Bx o L D z W) (hL:∀ b∈L',b∈L):Bx o L' D z W:=by
 obtain ⟨A5,q5,A6,q6,hb,hr⟩:=h.box;exact ⟨A5,q5,A6,q6,hb,hr.weak fun b hb=>⟨hb.1,fun hm=>hb.2 (hL b hm)⟩⟩
theorem Bx.more {L:List Nat} {S D:Nat} {z:T} {W W':World} (h:Bx o L D z W) (hS:S=W.heap.size) (hc:Chg [] W W'):Bx o (S :: L) D z W':=by
 obtain ⟨A5,q5,A6,q6,hb,hr⟩:=h.box;refine ⟨A5,q5,A6,q6,box5 hb _ hc,(hr.lo.chg hc).weak fun b hb=>⟨hb.1.1,fun hm=>?_⟩⟩;rcases List.mem_cons.1 hm with e | hm
 ·have:=hb.2; omega
 ·exact hb.1.2 hm
theorem viewA_no {k:ByteArray} {t:T} (h:k ∉ namedA):viewA k t=t:=by unfold viewA; rw [if_neg h]
theorem viewA_yes {k:ByteArray} {t:T} (h:k∈namedA):viewA k t=viewN t:=by unfold viewA; rw [if_pos h]
theorem view_any (m:List (ByteArray × T)) (v:Value) (w:World) (h:Rd o w (.map m) v) (hf:Fine (.map m)) (hno:∀ b,w.heap.size<=b->o b) :
  Calls Tryz.prog 15 #[v] w fun e w'=>∃ v',e=.returned v'/\Chg [] w w'/\Rd o w' (.map (viewM m)) v':=by
 obtain ⟨A3,q3,A4,q4,rfl,hk,hv⟩:=h.five;have hml:Hid (m.length<=67108864):=Lib.hid (by have:=hf.len.1; simpa [T.vals] using this);have hsm:Hid (Srt m):=Lib.hid hf.wf.1;clear hk hv
 go_enter Tryz.func15,Tryz.ntmps15
 go_upto_region 1 with fail
 obtain ⟨w1,hw⟩ : ∃ W:World,W=(w.alloc (.cells #[.int .i64 (T.map m).kind,.int .i64 (T.map m).num,.string (T.map m).txt,.slice A3 (T.map m).keys.length q3,.slice A4 (T.map m).vals.length q4] 25)).alloc (.cells #[.int .i64 0,.int .i64 0,.string ⟨#[]⟩,.slice none 0 0,.slice none 0 0] 25):=⟨_,rfl⟩
 rw [<- hw];have c1:Chg [] w w1:=hw ▸ ((Chg.refl [] w).al _).al _;have zt1:w1.heap[w.heap.size]?=some (.cells #[.int .i64 (T.map m).kind,.int .i64 (T.map m).num,.string (T.map m).txt,.slice A3 (T.map m).keys.length q3,.slice A4 (T.map m).vals.length q4] 25):=hw ▸ heap_al1 w _ _;have zz1:w1.heap[w.heap.size+1]?=some (.cells #[.int .i64 0,.int .i64 0,.string ⟨#[]⟩,.slice none 0 0,.slice none 0 0] 25):=hw ▸ heap_al2 w _ _;clear hw
 have HRX:Hid (∀ W,Chg [] w W->Rd (Ex o [w.heap.size+1]) W (.map m) (.agg #[.int .i64 (T.map m).kind,.int .i64 (T.map m).num,.string (T.map m).txt,.slice A3 (T.map m).keys.length q3,.slice A4 (T.map m).vals.length q4])):=Lib.hid fun W hc=>(h.ex (by simp)).chg hc
 obtain ⟨a0,a1,a2,a3,a4,af⟩:=cells5 zt1;have hsz1:=(Array.getElem?_eq_some_iff.1 zz1).1
 go_wp2_with fail
 refine (get_any (T.map m) _ cServices _ (HRX.out _ c1) (fun m' e=>by cases e; exact hsm.out) (by have:=hml.out; simpa [T.keys] using this)).mono ?_;rintro e w2 ⟨v2,rfl,hc2,hr2⟩;have hs12:=hc2.size
 obtain ⟨xs,hxs⟩ : ∃ xs,xs=(tget cServices (T.map m)).getD .null:=⟨_,rfl⟩
 obtain ⟨bq,hbq⟩ : ∃ b,b=(tget cServices (T.map m)).isSome:=⟨_,rfl⟩
 rw [<- hxs] at hr2;rw [<- hbq];have HXS:=Lib.hid (And.intro hxs hbq)
 have hfxs:Fine xs:=by rw [hxs]; exact hf.getD _
 obtain ⟨E5,r5,E6,r6,rfl,hjunk⟩:=hr2.five
 obtain ⟨w3,hw⟩ : ∃ W:World,W=w2.alloc (.cells #[.int .i64 xs.kind,.int .i64 xs.num,.string xs.txt,.slice E5 xs.keys.length r5,.slice E6 xs.vals.length r6] 25):=⟨_,rfl⟩
 have hc13:Chg [] w1 w3:=hw ▸ hc2.al _;have c3:=c1.trans hc13 New.nil;have zt3:=box5 zt1 _ hc13;have zz3:=box5 zz1 _ hc13;have hXB:w3.heap[w2.heap.size]?=some (.cells #[.int .i64 xs.kind,.int .i64 xs.num,.string xs.txt,.slice E5 xs.keys.length r5,.slice E6 xs.vals.length r6] 25):=hw ▸ heap_alloc_new _ _
 have hXR:Rd (Ex o [w.heap.size+1,w2.heap.size]) w3 xs (.agg #[.int .i64 xs.kind,.int .i64 xs.num,.string xs.txt,.slice E5 xs.keys.length r5,.slice E6 xs.vals.length r6]):=by
  have h2:=hr2.to (o':=Ex o [w.heap.size+1,w2.heap.size]) (w':=w2) fun b hb ho=>⟨⟨ho.1,by have:=ho.2; simp at this ⊢; omega⟩,rfl⟩
  exact hw ▸ h2.chg ((Chg.refl [] w2).al _)
 clear hr2 hc2 a0 a1 a2 a3 a4 af hjunk hxs hbq
 go_upto_region 2 with fail
 rw [<- hw];clear hw
 by_cases hsv:bq=true/\xs.kind=5
 case neg=>
  have HE:Hid (viewM m=m):=Lib.hid (by
   obtain ⟨h1,h2⟩:=HXS.out;unfold viewM;rw [show tget cServices (T.map m)=mget cServices m from rfl] at h1 h2
   cases hg:mget cServices m with
   | none=>rfl
   | some x=>
    rw [hg] at h1 h2
    cases x with
    | map l=>exact absurd ⟨h2,by rw [h1]; rfl⟩ hsv
    | _=>rfl)
  have hrx:=HRX.out _ c3;clear h;obtain ⟨a0,a1,a2,a3,a4,af⟩:=cells5 zt3;obtain ⟨z0,z1,z2,z3,z4,zf⟩:=cells5 zz3;obtain ⟨s0,s1,s2,s3,s4,sf⟩:=cells5 hXB
  cases bq
  ·clear hsv
   obtain ⟨W,hW,QW,hcW,hrW⟩:=ret5 zz3 c3 (by omega) hrx (by simp);have HRW:=Lib.hid hrW;clear hrx hrW
   go_wp2_with fail
   rw [<- hW];clear hW;obtain ⟨f0,f1,f2,f3,f4,_⟩:=cells5 QW
   go_wp2
   refine bodyPost_ret (v:=(.agg #[.int .i64 (T.map m).kind,.int .i64 (T.map m).num,.string (T.map m).txt,.slice A3 (T.map m).keys.length q3,.slice A4 (T.map m).vals.length q4])) (by simp [results,Tryz.results15,go_sem,f0,f1,f2,f3,f4]) rfl ⟨_,rfl,hcW,by rw [HE.out]; exact HRW.out⟩
  ·have hk5:xs.kind≠5:=fun e=>hsv ⟨rfl,e⟩
   have n5:((xs.kind:Int) != 5)=true:=by simp; omega
   clear hsv hk5;obtain ⟨W,hW,QW,hcW,hrW⟩:=ret5 zz3 c3 (by omega) hrx (by simp);have HRW:=Lib.hid hrW;clear hrx hrW
   go_wp2_with fail
   rw [<- hW];clear hW;obtain ⟨f0,f1,f2,f3,f4,_⟩:=cells5 QW
   go_wp2
   refine bodyPost_ret (v:=(.agg #[.int .i64 (T.map m).kind,.int .i64 (T.map m).num,.string (T.map m).txt,.slice A3 (T.map m).keys.length q3,.slice A4 (T.map m).vals.length q4])) (by simp [results,Tryz.results15,go_sem,f0,f1,f2,f3,f4]) rfl ⟨_,rfl,hcW,by rw [HE.out]; exact HRW.out⟩
 obtain ⟨hbt,hk5⟩:=hsv;subst hbt
 have n5:((xs.kind:Int) != 5)=false:=by simp; omega
 obtain ⟨l,hxl⟩:=map_of hk5;subst hxl
 have HG:Hid (mget cServices m=some (.map l)):=Lib.hid (by
  obtain ⟨h1,h2⟩:=HXS.out;rw [show tget cServices (T.map m)=mget cServices m from rfl] at h1 h2
  cases hg:mget cServices m with
  | none=>rw [hg] at h2; cases h2
  | some x=>rw [hg] at h1; exact congrArg some h1.symm)
 have hll:l.length<=67108864:=by have:=hfxs.len.1; simpa [T.vals] using this
 have hsl:Hid (Srt l):=Lib.hid hfxs.wf.1
 have hB3:Bx o [w.heap.size+1,w2.heap.size] w2.heap.size (.map (mapTo fV l 0)) w3:=by
  rw [mapTo_zero];exact ⟨E5,r5,E6,r6,hXB,hXR⟩
 obtain ⟨s0,s1,s2,s3,s4,sf⟩:=cells5 hXB;clear hk5 hXR
 go_wp2_with fail
 go_loopg [5] l.length (fun g i wr=>∃ n:Nat,n<=l.length/\g=l.length - n/\i=.int .i64 n/\Chg [] w wr/\wr.heap[w.heap.size]?=some (.cells #[.int .i64 (T.map m).kind,.int .i64 (T.map m).num,.string (T.map m).txt,.slice A3 (T.map m).keys.length q3,.slice A4 (T.map m).vals.length q4] 25)/\wr.heap[w.heap.size+1]?=some (.cells #[.int .i64 0,.int .i64 0,.string ⟨#[]⟩,.slice none 0 0,.slice none 0 0] 25)/\Bx o [w.heap.size+1,w2.heap.size] w2.heap.size (.map (mapTo fV l n)) wr)
 case atStart=>exact ⟨0,Nat.zero_le _,by omega,rfl,c3,zt3,zz3,hB3⟩
 case round=>
  clear zt3 zz3 hB3 zt1 zz1 s0 s1 s2 s3 s4 sf hXB;obtain ⟨n,hn,rfl,rfl,hcr,zt,zz,hB⟩:=hrel;have hszr:w2.heap.size < wr.heap.size:=hB.lt;obtain ⟨E5,r5,E6,r6,hbx,hrx⟩:=hB.box;obtain ⟨hkl1,hkl2⟩:=@mapTo_lens fV l n
  by_cases hlt:n < l.length
  ·have hltb:decide ((n:Int) < ((T.map (mapTo fV l n)).keys.length:Int))=true:=decide_eq_true (by omega)
   have hlv:n < (T.map (mapTo fV l n)).vals.length:=by omega
   have hlk:n < (T.map (mapTo fV l n)).keys.length:=by omega
   clear hkl1 hkl2
   obtain ⟨⟨k,x⟩,hq⟩ : ∃ q,l[n]?=some q:=⟨_,List.getElem?_eq_getElem hlt⟩
   obtain ⟨hqv,hqk⟩:=mapTo_val (f:=fV) hq;obtain ⟨E7,r7,E8,r8,e,hk,hv⟩:=hrx.five
   cases e
   obtain ⟨gk,ck,ek,hgk,yk⟩:=hk.elem hqk;obtain ⟨ge,ce,A5,q5,A6,q6,ee,hge,rx,ye⟩:=hv.elem hqv
   cases ek
   cases ee
   have hfx:Fine x:=hfxs.vals (vals_mem (List.mem_of_getElem? hq));have HQ:=Lib.hid hq;obtain ⟨y0,y1,y2,y3,y4⟩:=ye _ (Chg.refl [] wr);obtain ⟨d0,d1,d2,d3,d4,df⟩:=cells5 hbx
   obtain ⟨wb,hw⟩ : ∃ W:World,W=wr.alloc (.cells #[.int .i64 x.kind,.int .i64 x.num,.string x.txt,.slice A5 x.keys.length q5,.slice A6 x.vals.length q6] 25):=⟨_,rfl⟩
   obtain ⟨S,hS⟩ : ∃ S:Nat,S=wr.heap.size:=⟨_,rfl⟩
   have hcb:Chg [] wr wb:=hw ▸ (Chg.refl [] wr).al _;have cb:=hcr.trans hcb New.nil;have ztb:=box5 zt _ hcb;have zzb:=box5 zz _ hcb;have hBb:Bx o [S,w.heap.size+1,w2.heap.size] w2.heap.size (.map (mapTo fV l n)) wb:=hB.more hS hcb
   have hXb:wb.heap[S]?=some (.cells #[.int .i64 x.kind,.int .i64 x.num,.string x.txt,.slice A5 x.keys.length q5,.slice A6 x.vals.length q6] 25):=by rw [hS,hw]; exact heap_alloc_new _ _
   have hSb:Bx o [S,w.heap.size+1,w2.heap.size] S (svcTo x 0) wb:=by
    rw [svcTo_zero];refine ⟨A5,q5,A6,q6,hXb,(rx.lo.chg hcb).weak fun b hb=>⟨hb.1.1,fun hm=>?_⟩⟩;rcases List.mem_cons.1 hm with e | hm
    ·have:=hb.2; omega
    ·exact hb.1.2 hm
   have hSl:w2.heap.size < S:=by omega
   have hSs:S < wb.heap.size:=(Array.getElem?_eq_some_iff.1 hXb).1;have hfk:=Lib.hid hfx
   obtain ⟨wo,rfl⟩ : ∃ wo,wo=wr:=⟨_,rfl⟩
   clear hq hqv hqk yk ye rx hk hv hbx hrx
   go_upto_region 8 with fail
   rw [<- hw,<- hS];clear hw hS y0 y1 y2 y3 y4 d0 d1 d2 d3 d4 df zt zz hB hcr hcb hXb
   go_wp2_with fail
   go_loopg [7] x.keys.length (fun g i wx=>∃ j:Nat,j<=x.keys.length/\g=x.keys.length - j/\i=.int .i64 j/\Chg [] w wx/\wx.heap[w.heap.size]?=some (.cells #[.int .i64 (T.map m).kind,.int .i64 (T.map m).num,.string (T.map m).txt,.slice A3 (T.map m).keys.length q3,.slice A4 (T.map m).vals.length q4] 25)/\wx.heap[w.heap.size+1]?=some (.cells #[.int .i64 0,.int .i64 0,.string ⟨#[]⟩,.slice none 0 0,.slice none 0 0] 25)/\Bx o [S,w.heap.size+1,w2.heap.size] w2.heap.size (.map (mapTo fV l n)) wx/\Bx o [S,w.heap.size+1,w2.heap.size] S (svcTo x j) wx)
   case atStart=>exact ⟨0,Nat.zero_le _,by omega,rfl,cb,ztb,zzb,hBb,hSb⟩
   case round=>
    clear ztb zzb hBb hSb;obtain ⟨j,hj,rfl,rfl,hcr,zt,zz,hB,hSx⟩:=hrel;have hszr:S < wr.heap.size:=hSx.lt;obtain ⟨F5,f5,F6,f6,hbs,hrs⟩:=hSx.box
    by_cases hin:x.kind=5/\j < x.keys.length
    ·obtain ⟨hx5,hjl⟩:=hin
     obtain ⟨s,hxs⟩:=map_of hx5;have HXS2:=Lib.hid hxs;have hsv:Hid (svcTo x j=.map (mapTo viewA s j)):=Lib.hid (by rw [hxs]; rfl);rw [hsv.out] at hbs hrs hSx
     have hjs:j < s.length:=by rw [hxs] at hjl; simpa [T.keys] using hjl
     have hjx:j+1<=x.keys.length:=hjl;have HJX:=Lib.hid hjx;have hss:Hid (Srt s/\s.length<=67108864/\Fine (.map s)):=Lib.hid (by have h1:=hfk.out; rw [hxs] at h1; exact ⟨h1.wf.1,by have:=h1.len.1; simpa [T.vals] using this,h1⟩)
     have hj64:j<=67108864:=by have:=hss.out.2.1; omega
     obtain ⟨hkl1,hkl2⟩:=@mapTo_lens viewA s j
     have hxk:x.keys.length=s.length:=by rw [hxs]; simp [T.keys]
     have HXK:=Lib.hid hxk;have hjb:decide ((j:Int) < ((T.map (mapTo viewA s j)).keys.length:Int))=true:=decide_eq_true (by omega)
     have hjv:j < (T.map (mapTo viewA s j)).vals.length:=by omega
     have hjk:j < (T.map (mapTo viewA s j)).keys.length:=by omega
     have n5s:(((T.map (mapTo viewA s j)).kind:Int) == 5)=true:=rfl;clear hkl1 hkl2 hx5 hxk hxs
     obtain ⟨⟨k2,y⟩,hq2⟩ : ∃ q,s[j]?=some q:=⟨_,List.getElem?_eq_getElem hjs⟩
     obtain ⟨hqv,hqk⟩:=mapTo_val (f:=viewA) hq2;obtain ⟨E7,r7,E8,r8,e,hk,hv⟩:=hrs.five
     cases e
     obtain ⟨gs,ck,ek,hgs,yk⟩:=hk.elem hqk;obtain ⟨gv,ce,A7,q7,A8,q8,ee,hgv,ry,ye⟩:=hv.elem hqv
     cases ek
     cases ee
     have hfy:Fine y:=hss.out.2.2.vals (vals_mem (List.mem_of_getElem? hq2));have HQ2:=Lib.hid hq2;have hyk:=yk _ (Chg.refl [] wr);have YK:=Lib.hid yk;have YE:=Lib.hid ye;have HRY:=Lib.hid ry;have HBS:=Lib.hid (And.intro hbs hrs);obtain ⟨d0,d1,d2,d3,d4,df⟩:=cells5 hbs;clear hq2 hqv hqk yk ye ry hk hv hbs hrs
     go_wp2_with fail
     refine (sayNamed_any k2 _ rfl _).mono ?_;rintro e w4 ⟨rfl,hc4⟩;have c4:=hcr.trans hc4 New.nil;have zt4:=box5 zt _ hc4;have zz4:=box5 zz _ hc4;have hB4:=hB.go hc4;have hS4:=hSx.go hc4;have hs4:=hc4.size;have HBX:=Lib.hid (And.intro (box5 HBS.out.1 _ hc4) (HBS.out.2.chg hc4));clear d0 d1 d2 d3 d4 df hyk
     by_cases hna:k2∈([⟨#[101,110,118,105,114,111,110,109,101,110,116]⟩,⟨#[108,97,98,101,108,115]⟩,⟨#[97,110,110,111,116,97,116,105,111,110,115]⟩,⟨#[115,121,115,99,116,108,115]⟩]:List ByteArray)
     ·rw [decide_eq_true hna]
      have HVA:Hid (viewA k2 y=viewN y):=Lib.hid (viewA_yes hna);clear hna;obtain ⟨d0,d1,d2,d3,d4,df⟩:=cells5 HBX.out.1
      go_wp2_with fail
      clear d0 d1 d2 d3 d4 df;rename_i K hK;have HK:=Lib.hid hK;clear hK
      refine wp_region_tail (by rfl) (by kernel_rfl) [6,7] (by kernel_rfl)
       (fun jo u V=>match jo with
        | 0=>u=.agg #[.int .i64 (T.map (mapTo viewA s j)).kind,.int .i64 (T.map (mapTo viewA s j)).num,.string (T.map (mapTo viewA s j)).txt,.slice (some ⟨gs,0,none⟩) (T.map (mapTo viewA s j)).keys.length f5,.slice (some ⟨gv,0,none⟩) (T.map (mapTo viewA s j)).vals.length f6]
        | 1=>u=.pointer (some ⟨S,3,none⟩)
        | 2=>u=.slice (some ⟨gs,0,none⟩) (T.map (mapTo viewA s j)).keys.length f5
        | 3=>u=.int .i64 j
        | 4=>u=.pointer (some ⟨gs,j,none⟩)
        | 5=>u=.string k2
        | 6=>u=.pointer (some ⟨S,4,none⟩)
        | 7=>u=.slice (some ⟨gv,0,none⟩) (T.map (mapTo viewA s j)).vals.length f6
        | 8=>u=.int .i64 j
        | 9=>u=.pointer (some ⟨gv,j * 5,none⟩)
        | 10=>u=.agg #[.int .i64 y.kind,.int .i64 y.num,.string y.txt,.slice A7 y.keys.length q7,.slice A8 y.vals.length q8]
        | 11=>Rd (Ex o [S,w.heap.size+1,w2.heap.size]) V (viewN y) u
        | 12=>Rd (Ex o [S,w.heap.size+1,w2.heap.size]) V (.map (mapTo viewA s (j+1))) u
        | _=>True) ?_ ?_ ?_
      ·intro j u V V' hc hφ
       rcases j with _ | _ | _ | _ | _ | _ | _ | _ | _ | _ | _ | _ | _ | j
       ·exact hφ
       ·exact hφ
       ·exact hφ
       ·exact hφ
       ·exact hφ
       ·exact hφ
       ·exact hφ
       ·exact hφ
       ·exact hφ
       ·exact hφ
       ·exact hφ
       ·exact Rd.chg hφ hc
       ·exact Rd.chg hφ hc
       ·exact hφ
      ·intro j oo hj ho a' w' hst hch hdep K2 hK2
       have hcB:Chg [] w4 w':=(Chg.refl [] w4).dr.trans hch New.nil;have hcw':Chg [] w w':=c4.trans hcB New.nil;obtain ⟨d0,d1,d2,d3,d4,df⟩:=cells5 (box5 HBX.out.1 _ hcB);have hrc:=HBX.out.2.chg hcB;have hyk:=YK.out _ (hc4.trans hcB New.nil);obtain ⟨y0,y1,y2,y3,y4⟩:=YE.out _ (hc4.trans hcB New.nil);have hry:=HRY.out.chg (hc4.trans hcB New.nil);have hnoW:∀ b,w'.heap.size<=b->(Ex o [S,w.heap.size+1,w2.heap.size]) b:=Ex.no hno hcw'.size (by have:=hcB.size; simp; omega);have hj':j < 13:=hj;rcases j with _ | _ | _ | _ | _ | _ | _ | _ | _ | _ | _ | _ | _ | j
       ·obtain rfl:_=oo:=Option.some.inj ho
        have h6:=g_eq (t:=6) (v:=.pointer (some ⟨S,0,none⟩)) (hst 6 (by simp));unfold Oper.wp;go_simp;exact ⟨_,rfl,hK2 _ _ (Chg.refl _ _) rfl⟩
       ·obtain rfl:_=oo:=Option.some.inj ho
        have h6:=g_eq (t:=6) (v:=.pointer (some ⟨S,0,none⟩)) (hst 6 (by simp));unfold Oper.wp;go_simp;exact ⟨_,rfl,hK2 _ _ (Chg.refl _ _) rfl⟩
       ·obtain rfl:_=oo:=Option.some.inj ho
        have h52:=g_eq (t:=52) (v:=.pointer (some ⟨S,3,none⟩)) (hdep 1 (by kernel_rfl));unfold Oper.wp;go_simp;exact ⟨_,rfl,hK2 _ _ (Chg.refl _ _) rfl⟩
       ·obtain rfl:_=oo:=Option.some.inj ho
        have h7:=g_eq (t:=7) (v:=.int .i64 j) (hst 7 (by simp));unfold Oper.wp;go_simp;exact ⟨_,rfl,hK2 _ _ (Chg.refl _ _) rfl⟩
       ·obtain rfl:_=oo:=Option.some.inj ho
        have h53:=g_eq (t:=53) (v:=.slice (some ⟨gs,0,none⟩) (T.map (mapTo viewA s j)).keys.length f5) (hdep 2 (by kernel_rfl));have h54:=g_eq (t:=54) (v:=.int .i64 j) (hdep 3 (by kernel_rfl));unfold Oper.wp;go_simp;exact ⟨_,rfl,hK2 _ _ (Chg.refl _ _) rfl⟩
       ·obtain rfl:_=oo:=Option.some.inj ho
        have h55:=g_eq (t:=55) (v:=.pointer (some ⟨gs,j,none⟩)) (hdep 4 (by kernel_rfl));unfold Oper.wp;go_simp;exact ⟨_,rfl,hK2 _ _ (Chg.refl _ _) rfl⟩
       ·obtain rfl:_=oo:=Option.some.inj ho
        have h6:=g_eq (t:=6) (v:=.pointer (some ⟨S,0,none⟩)) (hst 6 (by simp));unfold Oper.wp;go_simp;exact ⟨_,rfl,hK2 _ _ (Chg.refl _ _) rfl⟩
       ·obtain rfl:_=oo:=Option.some.inj ho
        have h57:=g_eq (t:=57) (v:=.pointer (some ⟨S,4,none⟩)) (hdep 6 (by kernel_rfl));unfold Oper.wp;go_simp;exact ⟨_,rfl,hK2 _ _ (Chg.refl _ _) rfl⟩
       ·obtain rfl:_=oo:=Option.some.inj ho
        have h7:=g_eq (t:=7) (v:=.int .i64 j) (hst 7 (by simp));unfold Oper.wp;go_simp;exact ⟨_,rfl,hK2 _ _ (Chg.refl _ _) rfl⟩
       ·obtain rfl:_=oo:=Option.some.inj ho
        have h58:=g_eq (t:=58) (v:=.slice (some ⟨gv,0,none⟩) (T.map (mapTo viewA s j)).vals.length f6) (hdep 7 (by kernel_rfl));have h59:=g_eq (t:=59) (v:=.int .i64 j) (hdep 8 (by kernel_rfl));unfold Oper.wp;go_simp;exact ⟨_,rfl,hK2 _ _ (Chg.refl _ _) rfl⟩
       ·obtain rfl:_=oo:=Option.some.inj ho
        have h60:=g_eq (t:=60) (v:=.pointer (some ⟨gv,j * 5,none⟩)) (hdep 9 (by kernel_rfl));unfold Oper.wp;go_simp;exact ⟨_,rfl,hK2 _ _ (Chg.refl _ _) rfl⟩
       ·obtain rfl:_=oo:=Option.some.inj ho
        have h61:=g_eq (t:=61) (v:=.agg #[.int .i64 y.kind,.int .i64 y.num,.string y.txt,.slice A7 y.keys.length q7,.slice A8 y.vals.length q8]) (hdep 10 (by kernel_rfl));unfold Oper.wp;go_simp;refine (viewNamed_any (o:=Ex o [S,w.heap.size+1,w2.heap.size]) y _ w' hry hfy hnoW).mono ?_;rintro e w3 ⟨v',rfl,hc3,hr3⟩;exact ⟨_,rfl,hK2 _ _ hc3 hr3⟩
       ·obtain rfl:_=oo:=Option.some.inj ho
        have h51:=g_eq (t:=51) (v:=.agg #[.int .i64 (T.map (mapTo viewA s j)).kind,.int .i64 (T.map (mapTo viewA s j)).num,.string (T.map (mapTo viewA s j)).txt,.slice (some ⟨gs,0,none⟩) (T.map (mapTo viewA s j)).keys.length f5,.slice (some ⟨gv,0,none⟩) (T.map (mapTo viewA s j)).vals.length f6]) (hdep 0 (by kernel_rfl));have h56:=g_eq (t:=56) (v:=.string k2) (hdep 5 (by kernel_rfl));have hr62:Rd (Ex o [S,w.heap.size+1,w2.heap.size]) w' (viewN y) (Act.g a' 62):=hdep 11 (by kernel_rfl);generalize hg62:Act.g a' 62=v62 at hr62;have h62:=g_eq (t:=62) hg62;unfold Oper.wp;go_simp;refine (with_map (o:=Ex o [S,w.heap.size+1,w2.heap.size]) (mapTo viewA s j) (viewN y) _ _ k2 w' hrc (mapTo_srt hss.out.1) hr62 (by rw [mapTo_length]; exact hss.out.2.1) hnoW).mono ?_;rintro e w3 ⟨v',rfl,hc3,hr3⟩;rw [<- HVA.out,mapTo_step hss.out.1 HQ2.out] at hr3;exact ⟨_,rfl,hK2 _ _ hc3 hr3⟩
       ·omega
      ·intro oo ho u w' hch hφ A2 hA2
       obtain rfl:_=oo:=Option.some.inj ho;have huS:Rd (Ex o [S,w.heap.size+1,w2.heap.size]) w' (.map (mapTo viewA s (j+1))) (u 12):=hφ 12 (by decide);obtain ⟨e5,n5,e6,n6,hu,_⟩:=huS.five;rw [hu] at huS;have hcB:Chg [] w4 w':=(Chg.refl [] w4).dr.trans hch New.nil;have hcw':Chg [] w w':=c4.trans hcB New.nil;obtain ⟨W,hW,hBW,hcW,hne,hszW,hoth⟩:=(hS4.go hcB).put (by simp) hcw' (by omega) huS;simp [putAll,dOf,Act.put,hu] at hA2;subst hA2;have hbz:=box5 HBX.out.1 _ hcB;obtain ⟨b0,b1,b2,b3,b4,bf⟩:=cells5 hbz;have HW:=Lib.hid (And.intro hBW (And.intro hcW (And.intro hne (And.intro hszW hoth))));clear hφ ho hu huS hbz hBW hcW hne hszW hoth;unfold Oper.wp;go_simp;rw [<- hW];refine HK.out _ _ ?_;clear HK hW b0 b1 b2 b3 b4 bf hch;have zt':=(HW.out.2.2.1 w.heap.size (by omega)).trans (box5 zt4 _ hcB);have zz':=(HW.out.2.2.1 (w.heap.size+1) (by omega)).trans (box5 zz4 _ hcB);have hB':=HW.out.2.2.2.2 w2.heap.size _ (by omega) (hB4.go hcB);have HSM:Hid (svcTo x (j+1)=.map (mapTo viewA s (j+1))):=Lib.hid (by rw [HXS2.out]; rfl)
       go_wp2_with fail
       go_roundg (x.keys.length - (j+1))
       case measure=>(have:=HJX.out; omega)
       case rel=>exact ⟨j+1,HJX.out,rfl,by go_num,HW.out.2.1,zt',zz',hB',by rw [HSM.out]; exact HW.out.1⟩
     ·rw [decide_eq_false hna]
      have HSM:Hid (svcTo x (j+1)=.map (mapTo viewA s j)):=Lib.hid (by rw [HXS2.out]; simp only [svcTo]; rw [mapTo_same HQ2.out (viewA_no hna)]);clear hna
      go_wp2_with fail
      go_roundg (x.keys.length - (j+1))
      case measure=>(have:=HJX.out; omega)
      case rel=>exact ⟨j+1,HJX.out,rfl,by go_num,c4,zt4,zz4,hB4,by rw [HSM.out]; exact hS4⟩
    ·obtain ⟨y,hy⟩ : ∃ y,y=svcTo x j:=⟨_,rfl⟩
     have HVS:Hid (y=viewSvc x):=Lib.hid (by rw [hy]; exact svcTo_all hin hj)
     have hyk:y.kind=x.kind:=by rw [hy]; exact svcTo_kind x j
     have hyl:y.keys.length=x.keys.length:=by rw [hy]; exact svcTo_keys x j
     have hcond:(y.kind≠5)∨(y.kind=5/\¬ j < y.keys.length):=by
      by_cases h5:y.kind=5
      ·exact .inr ⟨h5,fun e=>hin ⟨by omega,by omega⟩⟩
      ·exact .inl h5
     rw [<- hy] at hbs hrs hSx;have HYB:=Lib.hid (And.intro hbs hrs);obtain ⟨y0,y1,y2,y3,y4,yf⟩:=cells5 hbs;obtain ⟨G5,g5,G6,g6,hbx,hrx⟩:=hB.box;obtain ⟨hkl1,hkl2⟩:=@mapTo_lens fV l n
     have hlv:n < (T.map (mapTo fV l n)).vals.length:=by omega
     have hlk:n < (T.map (mapTo fV l n)).keys.length:=by omega
     clear hkl1 hkl2;obtain ⟨hqv,hqk⟩:=mapTo_val (f:=fV) HQ.out;obtain ⟨E7,r7,E8,r8,e,hk,hv⟩:=hrx.five
     cases e
     obtain ⟨gk,ck,ek,hgk,yk⟩:=hk.elem hqk
     cases ek
     have YK:=Lib.hid yk;have HBX:=Lib.hid (And.intro hbx hrx);have hB4:=hB;have hs4:S < wr.heap.size:=hszr;clear hin hy hyk hyl hqv hqk yk hk hv hbx hrx hbs hrs
     rcases hcond with hy5 | ⟨hy5,hyl⟩
     ·have n5y:((y.kind:Int) == 5)=false:=by simp; omega
      clear hy5;obtain ⟨d0,d1,d2,d3,d4,df⟩:=cells5 HBX.out.1
      go_wp2_with fail
      clear d0 d1 d2 d3 d4 df;rename_i K hK K2 J1 K1 a2 a1 K0 a0;have HK:=Lib.hid hK;clear hK a0 a1 a2
      refine wp_region_tail (by rfl) (by kernel_rfl) [3,5,6] (by kernel_rfl)
       (fun jo u V=>match jo with
        | 0=>u=.agg #[.int .i64 (T.map (mapTo fV l n)).kind,.int .i64 (T.map (mapTo fV l n)).num,.string (T.map (mapTo fV l n)).txt,.slice (some ⟨gk,0,none⟩) (T.map (mapTo fV l n)).keys.length g5,.slice G6 (T.map (mapTo fV l n)).vals.length g6]
        | 1=>u=.pointer (some ⟨w2.heap.size,3,none⟩)
        | 2=>u=.slice (some ⟨gk,0,none⟩) (T.map (mapTo fV l n)).keys.length g5
        | 3=>u=.int .i64 n
        | 4=>u=.pointer (some ⟨gk,n,none⟩)
        | 5=>u=.string k
        | 6=>u=.agg #[.int .i64 y.kind,.int .i64 y.num,.string y.txt,.slice F5 y.keys.length f5,.slice F6 y.vals.length f6]
        | 7=>Rd (Ex o [S,w.heap.size+1,w2.heap.size]) V (.map (mapTo fV l (n+1))) u
        | _=>True) ?_ ?_ ?_
      ·intro j u V V' hc hφ
       rcases j with _ | _ | _ | _ | _ | _ | _ | _ | j
       ·exact hφ
       ·exact hφ
       ·exact hφ
       ·exact hφ
       ·exact hφ
       ·exact hφ
       ·exact hφ
       ·exact Rd.chg hφ hc
       ·exact hφ
      ·intro j oo hj ho a' w' hst hch hdep K2 hK2
       have hcB:Chg [] wr w':=(Chg.refl [] wr).dr.trans hch New.nil;have hcw':Chg [] w w':=hcr.trans hcB New.nil;obtain ⟨d0,d1,d2,d3,d4,df⟩:=cells5 (box5 HBX.out.1 _ hcB);have hrc:=HBX.out.2.chg hcB;have hyk:=YK.out _ hcB;obtain ⟨y0,y1,y2,y3,y4,yf⟩:=cells5 (box5 HYB.out.1 _ hcB);have hryS:=HYB.out.2.chg hcB;have hj':j < 8:=hj;rcases j with _ | _ | _ | _ | _ | _ | _ | _ | j
       ·obtain rfl:_=oo:=Option.some.inj ho
        have h3:=g_eq (t:=3) (v:=.pointer (some ⟨w2.heap.size,0,none⟩)) (hst 3 (by simp));unfold Oper.wp;go_simp;exact ⟨_,rfl,hK2 _ _ (Chg.refl _ _) rfl⟩
       ·obtain rfl:_=oo:=Option.some.inj ho
        have h3:=g_eq (t:=3) (v:=.pointer (some ⟨w2.heap.size,0,none⟩)) (hst 3 (by simp));unfold Oper.wp;go_simp;exact ⟨_,rfl,hK2 _ _ (Chg.refl _ _) rfl⟩
       ·obtain rfl:_=oo:=Option.some.inj ho
        have h65:=g_eq (t:=65) (v:=.pointer (some ⟨w2.heap.size,3,none⟩)) (hdep 1 (by kernel_rfl));unfold Oper.wp;go_simp;exact ⟨_,rfl,hK2 _ _ (Chg.refl _ _) rfl⟩
       ·obtain rfl:_=oo:=Option.some.inj ho
        have h5:=g_eq (t:=5) (v:=.int .i64 n) (hst 5 (by simp));unfold Oper.wp;go_simp;exact ⟨_,rfl,hK2 _ _ (Chg.refl _ _) rfl⟩
       ·obtain rfl:_=oo:=Option.some.inj ho
        have h66:=g_eq (t:=66) (v:=.slice (some ⟨gk,0,none⟩) (T.map (mapTo fV l n)).keys.length g5) (hdep 2 (by kernel_rfl));have h67:=g_eq (t:=67) (v:=.int .i64 n) (hdep 3 (by kernel_rfl));unfold Oper.wp;go_simp;exact ⟨_,rfl,hK2 _ _ (Chg.refl _ _) rfl⟩
       ·obtain rfl:_=oo:=Option.some.inj ho
        have h68:=g_eq (t:=68) (v:=.pointer (some ⟨gk,n,none⟩)) (hdep 4 (by kernel_rfl));unfold Oper.wp;go_simp;exact ⟨_,rfl,hK2 _ _ (Chg.refl _ _) rfl⟩
       ·obtain rfl:_=oo:=Option.some.inj ho
        have h6:=g_eq (t:=6) (v:=.pointer (some ⟨S,0,none⟩)) (hst 6 (by simp));unfold Oper.wp;go_simp;exact ⟨_,rfl,hK2 _ _ (Chg.refl _ _) rfl⟩
       ·obtain rfl:_=oo:=Option.some.inj ho
        have h64:=g_eq (t:=64) (v:=.agg #[.int .i64 (T.map (mapTo fV l n)).kind,.int .i64 (T.map (mapTo fV l n)).num,.string (T.map (mapTo fV l n)).txt,.slice (some ⟨gk,0,none⟩) (T.map (mapTo fV l n)).keys.length g5,.slice G6 (T.map (mapTo fV l n)).vals.length g6]) (hdep 0 (by kernel_rfl));have h69:=g_eq (t:=69) (v:=.string k) (hdep 5 (by kernel_rfl));have h70:=g_eq (t:=70) (v:=.agg #[.int .i64 y.kind,.int .i64 y.num,.string y.txt,.slice F5 y.keys.length f5,.slice F6 y.vals.length f6]) (hdep 6 (by kernel_rfl));unfold Oper.wp;go_simp;refine (with_map (o:=Ex o [S,w.heap.size+1,w2.heap.size]) (mapTo fV l n) y _ _ k w' hrc (mapTo_srt hsl.out) hryS (by rw [mapTo_length]; exact hll) (Ex.no hno hcw'.size (by have:=hcB.size; simp; omega))).mono ?_;rintro e w3 ⟨v',rfl,hc3,hr3⟩;rw [HVS.out,show viewSvc x=fV k x from rfl,mapTo_step hsl.out HQ.out] at hr3;exact ⟨_,rfl,hK2 _ _ hc3 hr3⟩
       ·omega
      ·intro oo ho u w' hch hφ A2 hA2
       obtain rfl:_=oo:=Option.some.inj ho;have huS:Rd (Ex o [S,w.heap.size+1,w2.heap.size]) w' (.map (mapTo fV l (n+1))) (u 7):=hφ 7 (by decide);obtain ⟨e5,n5,e6,n6,hu,_⟩:=huS.five;rw [hu] at huS;have hcB:Chg [] wr w':=(Chg.refl [] wr).dr.trans hch New.nil;have hcw':Chg [] w w':=hcr.trans hcB New.nil;obtain ⟨W,hW,hBW,hcW,hne,hszW,hoth⟩:=(hB4.go hcB).put (by simp) hcw' (by omega) huS;simp [putAll,dOf,Act.put,hu] at hA2;subst hA2;have hbz:=box5 HBX.out.1 _ hcB;obtain ⟨b0,b1,b2,b3,b4,bf⟩:=cells5 hbz;have HW:=Lib.hid (And.intro hBW (And.intro hcW (And.intro hne (And.intro hszW hoth))));clear hφ ho hu huS hbz hBW hcW hne hszW hoth;unfold Oper.wp;go_simp;rw [<- hW];refine HK.out _ _ ?_;clear HK hW b0 b1 b2 b3 b4 bf hch;have zt':=(HW.out.2.2.1 w.heap.size (by omega)).trans (box5 zt _ hcB);have zz':=(HW.out.2.2.1 (w.heap.size+1) (by omega)).trans (box5 zz _ hcB);have hB':Bx o [w.heap.size+1,w2.heap.size] w2.heap.size (.map (mapTo fV l (n+1))) W:=HW.out.1.less (by simp)
       go_wp2_with fail
       go_roundg (l.length - (n+1))
       case measure=>omega
       case rel=>exact ⟨n+1,by omega,rfl,by go_num,HW.out.2.1,zt',zz',hB'⟩
     ·have n5y:((y.kind:Int) == 5)=true:=by simp; omega
      clear hy5;obtain ⟨d0,d1,d2,d3,d4,df⟩:=cells5 HBX.out.1
      go_wp2_with fail
      clear d0 d1 d2 d3 d4 df;rename_i K hK K2 J1 K1 a2 a1 K0 a0;have HK:=Lib.hid hK;clear hK a0 a1 a2
      refine wp_region_tail (by rfl) (by kernel_rfl) [3,5,6] (by kernel_rfl)
       (fun jo u V=>match jo with
        | 0=>u=.agg #[.int .i64 (T.map (mapTo fV l n)).kind,.int .i64 (T.map (mapTo fV l n)).num,.string (T.map (mapTo fV l n)).txt,.slice (some ⟨gk,0,none⟩) (T.map (mapTo fV l n)).keys.length g5,.slice G6 (T.map (mapTo fV l n)).vals.length g6]
        | 1=>u=.pointer (some ⟨w2.heap.size,3,none⟩)
        | 2=>u=.slice (some ⟨gk,0,none⟩) (T.map (mapTo fV l n)).keys.length g5
        | 3=>u=.int .i64 n
        | 4=>u=.pointer (some ⟨gk,n,none⟩)
        | 5=>u=.string k
        | 6=>u=.agg #[.int .i64 y.kind,.int .i64 y.num,.string y.txt,.slice F5 y.keys.length f5,.slice F6 y.vals.length f6]
        | 7=>Rd (Ex o [S,w.heap.size+1,w2.heap.size]) V (.map (mapTo fV l (n+1))) u
        | _=>True) ?_ ?_ ?_
      ·intro j u V V' hc hφ
       rcases j with _ | _ | _ | _ | _ | _ | _ | _ | j
       ·exact hφ
       ·exact hφ
       ·exact hφ
       ·exact hφ
       ·exact hφ
       ·exact hφ
       ·exact hφ
       ·exact Rd.chg hφ hc
       ·exact hφ
      ·intro j oo hj ho a' w' hst hch hdep K2 hK2
       have hcB:Chg [] wr w':=(Chg.refl [] wr).dr.trans hch New.nil;have hcw':Chg [] w w':=hcr.trans hcB New.nil;obtain ⟨d0,d1,d2,d3,d4,df⟩:=cells5 (box5 HBX.out.1 _ hcB);have hrc:=HBX.out.2.chg hcB;have hyk:=YK.out _ hcB;obtain ⟨y0,y1,y2,y3,y4,yf⟩:=cells5 (box5 HYB.out.1 _ hcB);have hryS:=HYB.out.2.chg hcB;have hj':j < 8:=hj;rcases j with _ | _ | _ | _ | _ | _ | _ | _ | j
       ·obtain rfl:_=oo:=Option.some.inj ho
        have h3:=g_eq (t:=3) (v:=.pointer (some ⟨w2.heap.size,0,none⟩)) (hst 3 (by simp));unfold Oper.wp;go_simp;exact ⟨_,rfl,hK2 _ _ (Chg.refl _ _) rfl⟩
       ·obtain rfl:_=oo:=Option.some.inj ho
        have h3:=g_eq (t:=3) (v:=.pointer (some ⟨w2.heap.size,0,none⟩)) (hst 3 (by simp));unfold Oper.wp;go_simp;exact ⟨_,rfl,hK2 _ _ (Chg.refl _ _) rfl⟩
       ·obtain rfl:_=oo:=Option.some.inj ho
        have h65:=g_eq (t:=65) (v:=.pointer (some ⟨w2.heap.size,3,none⟩)) (hdep 1 (by kernel_rfl));unfold Oper.wp;go_simp;exact ⟨_,rfl,hK2 _ _ (Chg.refl _ _) rfl⟩
       ·obtain rfl:_=oo:=Option.some.inj ho
        have h5:=g_eq (t:=5) (v:=.int .i64 n) (hst 5 (by simp));unfold Oper.wp;go_simp;exact ⟨_,rfl,hK2 _ _ (Chg.refl _ _) rfl⟩
       ·obtain rfl:_=oo:=Option.some.inj ho
        have h66:=g_eq (t:=66) (v:=.slice (some ⟨gk,0,none⟩) (T.map (mapTo fV l n)).keys.length g5) (hdep 2 (by kernel_rfl));have h67:=g_eq (t:=67) (v:=.int .i64 n) (hdep 3 (by kernel_rfl));unfold Oper.wp;go_simp;exact ⟨_,rfl,hK2 _ _ (Chg.refl _ _) rfl⟩
       ·obtain rfl:_=oo:=Option.some.inj ho
        have h68:=g_eq (t:=68) (v:=.pointer (some ⟨gk,n,none⟩)) (hdep 4 (by kernel_rfl));unfold Oper.wp;go_simp;exact ⟨_,rfl,hK2 _ _ (Chg.refl _ _) rfl⟩
       ·obtain rfl:_=oo:=Option.some.inj ho
        have h6:=g_eq (t:=6) (v:=.pointer (some ⟨S,0,none⟩)) (hst 6 (by simp));unfold Oper.wp;go_simp;exact ⟨_,rfl,hK2 _ _ (Chg.refl _ _) rfl⟩
       ·obtain rfl:_=oo:=Option.some.inj ho
        have h64:=g_eq (t:=64) (v:=.agg #[.int .i64 (T.map (mapTo fV l n)).kind,.int .i64 (T.map (mapTo fV l n)).num,.string (T.map (mapTo fV l n)).txt,.slice (some ⟨gk,0,none⟩) (T.map (mapTo fV l n)).keys.length g5,.slice G6 (T.map (mapTo fV l n)).vals.length g6]) (hdep 0 (by kernel_rfl));have h69:=g_eq (t:=69) (v:=.string k) (hdep 5 (by kernel_rfl));have h70:=g_eq (t:=70) (v:=.agg #[.int .i64 y.kind,.int .i64 y.num,.string y.txt,.slice F5 y.keys.length f5,.slice F6 y.vals.length f6]) (hdep 6 (by kernel_rfl));unfold Oper.wp;go_simp;refine (with_map (o:=Ex o [S,w.heap.size+1,w2.heap.size]) (mapTo fV l n) y _ _ k w' hrc (mapTo_srt hsl.out) hryS (by rw [mapTo_length]; exact hll) (Ex.no hno hcw'.size (by have:=hcB.size; simp; omega))).mono ?_;rintro e w3 ⟨v',rfl,hc3,hr3⟩;rw [HVS.out,show viewSvc x=fV k x from rfl,mapTo_step hsl.out HQ.out] at hr3;exact ⟨_,rfl,hK2 _ _ hc3 hr3⟩
       ·omega
      ·intro oo ho u w' hch hφ A2 hA2
       obtain rfl:_=oo:=Option.some.inj ho;have huS:Rd (Ex o [S,w.heap.size+1,w2.heap.size]) w' (.map (mapTo fV l (n+1))) (u 7):=hφ 7 (by decide);obtain ⟨e5,n5,e6,n6,hu,_⟩:=huS.five;rw [hu] at huS;have hcB:Chg [] wr w':=(Chg.refl [] wr).dr.trans hch New.nil;have hcw':Chg [] w w':=hcr.trans hcB New.nil;obtain ⟨W,hW,hBW,hcW,hne,hszW,hoth⟩:=(hB4.go hcB).put (by simp) hcw' (by omega) huS;simp [putAll,dOf,Act.put,hu] at hA2;subst hA2;have hbz:=box5 HBX.out.1 _ hcB;obtain ⟨b0,b1,b2,b3,b4,bf⟩:=cells5 hbz;have HW:=Lib.hid (And.intro hBW (And.intro hcW (And.intro hne (And.intro hszW hoth))));clear hφ ho hu huS hbz hBW hcW hne hszW hoth;unfold Oper.wp;go_simp;rw [<- hW];refine HK.out _ _ ?_;clear HK hW b0 b1 b2 b3 b4 bf hch;have zt':=(HW.out.2.2.1 w.heap.size (by omega)).trans (box5 zt _ hcB);have zz':=(HW.out.2.2.1 (w.heap.size+1) (by omega)).trans (box5 zz _ hcB);have hB':Bx o [w.heap.size+1,w2.heap.size] w2.heap.size (.map (mapTo fV l (n+1))) W:=HW.out.1.less (by simp)
       go_wp2_with fail
       go_roundg (l.length - (n+1))
       case measure=>omega
       case rel=>exact ⟨n+1,by omega,rfl,by go_num,HW.out.2.1,zt',zz',hB'⟩
  ·have hlk:¬ n < (T.map (mapTo fV l n)).keys.length:=by omega
   clear hkl1 hkl2
   have hne:n=l.length:=by omega
   have he:T.map (mapTo fV l n)=.map (l.map fun p=>(p.1,viewSvc p.2)):=by rw [hne,mapTo_all]; rfl
   obtain ⟨U,hU⟩ : ∃ U,U=T.map (l.map fun p=>(p.1,viewSvc p.2)):=⟨_,rfl⟩
   have hlk':¬ n < U.keys.length:=by rw [hU,<- he]; exact hlk
   rw [he,<- hU] at hbx hrx;have HU:Hid (mins cServices U m=viewM m):=Lib.hid (by rw [hU]; unfold viewM; rw [HG.out]);clear he hU hne hlk;obtain ⟨d0,d1,d2,d3,d4,df⟩:=cells5 hbx;obtain ⟨a0,a1,a2,a3,a4,af⟩:=cells5 zt;have HR:=Lib.hid (And.intro hrx (((h.ex (L:=[w.heap.size+1,w2.heap.size]) (by simp; omega)).chg hcr)));clear hrx hB
   go_wp2_with fail
   refine (with_map (o:=Ex o [w.heap.size+1,w2.heap.size]) m U _ _ cServices wr HR.out.2 hsm.out HR.out.1 hml.out (Ex.no hno hcr.size (by simp; omega))).mono ?_;rintro e w6 ⟨v6,rfl,hc6,hr6⟩;rw [HU.out] at hr6;obtain ⟨e5,n5',e6,n6,rfl,hjunk⟩:=hr6.five;have c6:=hcr.trans hc6 New.nil;have zz6:=box5 zz _ hc6;obtain ⟨z0,z1,z2,z3,z4,zf⟩:=cells5 zz6;obtain ⟨W,hW,QW,hcW,hrW⟩:=ret5 zz6 c6 (by omega) hr6 (by simp);have HRW:=Lib.hid hrW;clear hr6 hrW hjunk
   go_wp2_with fail
   rw [<- hW];clear hW;obtain ⟨f0,f1,f2,f3,f4,_⟩:=cells5 QW
   go_wp2
   refine bodyPost_ret (v:=(.agg #[.int .i64 (T.map (viewM m)).kind,.int .i64 (T.map (viewM m)).num,.string (T.map (viewM m)).txt,.slice e5 (T.map (viewM m)).keys.length n5',.slice e6 (T.map (viewM m)).vals.length n6])) (by simp [results,Tryz.results15,go_sem,f0,f1,f2,f3,f4]) rfl ⟨_,rfl,hcW,HRW.out⟩
end Go.Proofs.YtpofkokbmifhgaaGreatDoor
namespace Go.Proofs.YtpofkokbmifhgaaGreatDoor
open Go.RowKit
variable {o:Nat->Prop}
def splitQ:List UInt8->List UInt8->List ByteArray
 | acc,[]=>[⟨acc.reverse.toArray⟩]
 | acc,b :: r=>if b=46 then ⟨acc.reverse.toArray⟩ :: splitQ [] r else splitQ (b :: acc) r
def partsQ (s:ByteArray):List ByteArray:=splitQ [] s.data.toList
theorem rootM (s:ByteArray) (h1:qokB (partsQ s)=true) (h2:jn (partsQ s)=s) (h3:pm (partsQ s) [⟨#[]⟩]=false) (w:World) :
  Calls Tryz.prog 105 #[.string ⟨#[]⟩,.string s] w fun e w'=>e=.returned (.bool false)/\Chg [] w w':=by
 have h:=matches_q [⟨#[]⟩] (by simp) (by simp [NoDot]) (by decide +kernel) (by simp) (partsQ s) s h1 h2 w;rw [h3] at h;exact h
theorem special_root (w:World):Calls Tryz.prog 142 #[.string ⟨#[]⟩] w fun e w'=>e=.returned (.tuple #[.nilFunc,.bool false])/\Chg [] w w':=by
 have hc:=Chg.refl [] w
 go_enter Tryz.func142,Tryz.ntmps142
 iterate 5
  go_wp2_with fail
  refine (rootM _ (by kernel_rfl) (by kernel_rfl) (by kernel_rfl) _).mono ?_;rintro e w1 ⟨rfl,hd⟩;replace hc:=hc.trans hd New.nil;clear hd
 obtain ⟨wa,hwa⟩ : ∃ wa,wa=w1:=⟨_,rfl⟩
 rw [<- hwa] at hc ⊢;clear hwa;have HCA:=Lib.hid hc;clear hc
 go_wp2_with fail
 go_loopg [18] 2 (fun g i wr=>∃ n:Nat,n<=2/\g=2 - n/\i=.int .i64 n/\Chg [] wa wr/\wr.heap[wa.heap.size]?=some (.cells #[.string ⟨#[115,101,114,118,105,99,101,115]⟩,.string ⟨#[106,111,98,115]⟩] 67))
 case atStart=>exact ⟨0,by omega,rfl,rfl,(Chg.refl [] wa).al _,heap_alloc_new _ _⟩
 case round=>
  obtain ⟨n,hn,rfl,rfl,hcc,hh⟩:=hrel;rcases n with _ | _ | n
  ·have hcell:wr.cell? ⟨wa.heap.size,0,none⟩=some (.string ⟨#[115,101,114,118,105,99,101,115]⟩):=cell_of_row wr _ 0 _ _ (0,0) hh
   have HH:=Lib.hid hh;have HCW:=Lib.hid hcc;have hc:=Chg.refl [] wr;clear hh hcc hn
   iterate 25
    go_wp2_with fail
    refine (rootM _ (by kernel_rfl) (by kernel_rfl) (by kernel_rfl) _).mono ?_;rintro e w1 ⟨rfl,hd⟩;replace hc:=hc.trans hd New.nil;clear hd
   have HCC:=Lib.hid hc;clear hc
   go_wp2_with fail
   go_roundg (2 - (0+1))
   case measure=>omega
   case rel=>exact ⟨0+1,by omega,rfl,by go_num,HCW.out.trans HCC.out New.nil,(HCC.out.block _ (Array.getElem?_eq_some_iff.1 HH.out).1 (by simp)).trans HH.out⟩
  ·have hcell:wr.cell? ⟨wa.heap.size,1,none⟩=some (.string ⟨#[106,111,98,115]⟩):=cell_of_row wr _ 1 _ _ (0,0) hh
   have HH:=Lib.hid hh;have HCW:=Lib.hid hcc;have hc:=Chg.refl [] wr;clear hh hcc hn
   iterate 25
    go_wp2_with fail
    refine (rootM _ (by kernel_rfl) (by kernel_rfl) (by kernel_rfl) _).mono ?_;rintro e w1 ⟨rfl,hd⟩;replace hc:=hc.trans hd New.nil;clear hd
   have HCC:=Lib.hid hc;clear hc
   go_wp2_with fail
   go_roundg (2 - (1+1))
   case measure=>omega
   case rel=>exact ⟨1+1,by omega,rfl,by go_num,HCW.out.trans HCC.out New.nil,(HCC.out.block _ (Array.getElem?_eq_some_iff.1 HH.out).1 (by simp)).trans HH.out⟩
  ·obtain rfl:n=0:=by omega
   have HCW:=Lib.hid hcc;clear hh hn hcc
   go_wp2_with fail
   refine (rootM _ (by kernel_rfl) (by kernel_rfl) (by kernel_rfl) _).mono ?_;rintro e w1 ⟨rfl,hd⟩;have HD:=Lib.hid hd;clear hd
   go_wp2_with fail
   go_ret2
   exact ⟨rfl,HCA.out.trans (HCW.out.trans HD.out New.nil) New.nil⟩
end Go.Proofs.YtpofkokbmifhgaaGreatDoor
namespace Go.Proofs.YtpofkokbmifhgaaGreatDoor
open Go.RowKit
variable {o:Nat->Prop}
theorem OwnM.seen {w:World} {ks ks':List (ByteArray × Value)}:∀ {m:List (ByteArray × T)} {F:List Nat},OwnM w m ks F->(∀ k∈m.map (·.1),mlook k ks'=mlook k ks)->OwnM w m ks' F
 | [],_,h,_=>by
  simp only [OwnM] at h ⊢;exact h
 | p :: m,F,h,he=>by
  simp only [OwnM] at h ⊢;obtain ⟨v,F1,F2,h1,h2,h3,h4⟩:=h;exact ⟨v,F1,F2,(he p.1 (by simp)).trans h1,h2,OwnM.seen h3 fun k hk=>he k (by simp only [List.map_cons,List.mem_cons]; exact .inr hk),h4⟩
theorem del_iff {k x:ByteArray} {l:List ByteArray} (hn:l.Nodup) (hk:k∈l):x∈mdel k l ↔ x∈l/\x≠k:=by
 have hp:=del_perm hk;have hn':(k :: mdel k l).Nodup:=hp.nodup hn;rw [hp.mem_iff,List.mem_cons];refine ⟨fun h=>⟨.inr h,fun e=>(List.nodup_cons.1 hn').1 (e ▸ h)⟩,fun h=>h.1.resolve_left h.2⟩
theorem del_nodup {k:ByteArray} {l:List ByteArray} (hn:l.Nodup) (hk:k∈l):(mdel k l).Nodup:=(List.nodup_cons.1 ((del_perm hk).nodup hn)).2
structure MG (w:World) (b0 b it:Nat) (ks:List (ByteArray × Value)) (left:List ByteArray) (wr:World):Prop where
 iter:IterAt wr it b ks left
 nodup:left.Nodup
 new:w.heap.size<=it
 ne:b0≠b
 lt:b0 < w.heap.size
 map:∃ ks0,MapAt wr b0 ks0/\ks0.length+left.length=ks.length/\∀ k,mlook k ks0=if k∈left then none else mlook k ks
 chg:Chg [b0] w wr
section
variable {P:Program} {K:TypeId} {w:World} {b0 b it:Nat} {ks:List (ByteArray × Value)} {left:List ByteArray} {wr:World}
theorem MG.start {t E:TypeId} (ht:P.underlying t=some (.map K E)) (hb:MapAt w b ks) (h0:MapAt w b0 []) (hne:b0≠b) :
  ∃ w1,(Instr.range t (.map (some b))).run P w=.ok (.pointer (some ⟨w.heap.size,0,none⟩)) w1/\MG w b0 b w.heap.size ks (ks.map (·.1)) w1:=by
 obtain ⟨w1,hrun,hit,o,rfl⟩:=run_range (P:=P) hb ht;refine ⟨_,hrun,hit,hb.nodup,Nat.le_refl _,hne,h0.lt,⟨[],h0.frame ((MapKept.heap_alloc w o).2 b0 h0.lt),by simp,fun k=>?_⟩,Chg.alloc _ _ _⟩
 by_cases hk:k∈ks.map (·.1)
 ·rw [if_pos hk]
  rfl
 ·rw [if_neg hk,look_none.2 hk]
  rfl
theorem MG.next {t E:TypeId} {z:Value} (ht:P.underlying t=some (.map K E)) (hK:P.underlying K=some .string) (hz:∀ w,(zeroValue E).run P w=.ok z w) (h:MG w b0 b it ks left wr) (ty:TypeId) :
  (left=[]/\(Instr.next (.pointer (some ⟨it,0,none⟩)) false ty).run P wr=.ok (.tuple #[.bool false]) wr) ∨
  ∃ k v w1 w2,k∈left/\(Instr.next (.pointer (some ⟨it,0,none⟩)) false ty).run P wr=.ok (.tuple #[.bool true,.string k,v]) w1 /\
   (Instr.entry (.pointer (some ⟨it,0,none⟩))).run P w1=.ok (.tuple #[.string k,v]) w1 /\
   (Instr.lookup t (.map (some b0)) (.string k) true).run P w1=.ok (.tuple #[z,.bool false]) w1 /\
   (Instr.mapUpdate t (.map (some b0)) (.string k) v).run P w1=.ok () w2/\MG w b0 b it ks (mdel k left) w2:=by
 obtain ⟨hit,hn,hnew,hne,hlt,⟨ks0,hm0,hl0,hk0⟩,hchg⟩:=h
 rcases run_next (P:=P) hit ty with ⟨h0,hrun⟩ | ⟨k,v,w1,hk,hlk,hrun,hit',hon,hent⟩
 ·exact .inl ⟨h0,hrun⟩
 ·right
  have hi0:b0≠it:=fun e=>by omega
  have hm1:MapAt w1 b0 ks0:=hm0.frame (hon.block b0 hi0)
  have hkn:mlook k ks0=none:=by rw [hk0,if_pos hk]
  have hlook:=run_lookup_ok (P:=P) hm1 ht hK (hz w1) k;rw [hkn] at hlook;obtain ⟨w2,hupd,hm2,hon2,_,_⟩:=run_update (P:=P) hm1 ht hK k v;have hlen:=del_length hk;refine ⟨k,v,w1,w2,hk,hrun,hent _ rfl rfl,hlook,hupd,?_,del_nodup hn hk,hnew,hne,hlt,⟨_,hm2,?_,fun x=>?_⟩,?_⟩
  ·exact hit'.frame (hon2.block b (Ne.symm hne)) (hon2.block it (Ne.symm hi0))
  ·rw [upd_length_new (look_none.1 hkn)]
   omega
  ·by_cases hx:x=k
   ·subst hx
    rw [look_upd,if_neg (fun h=>((del_iff hn hk).1 h).2 rfl),hlk]
   ·rw [look_upd_ne hx,hk0]
    by_cases hxl:x∈left
    ·rw [if_pos hxl,if_pos ((del_iff hn hk).2 ⟨hxl,hx⟩)]
    ·rw [if_neg hxl,if_neg fun h=>hxl ((del_iff hn hk).1 h).1]
  ·exact ((hchg.trans (Chg.only (F:=[it]) hon (by simp)) (fun x hx=>by
    rw [List.mem_singleton.1 hx]
    exact .inr hnew)).trans (Chg.only (F:=[b0]) hon2 (by simp)) (New.refl _ _))
theorem MG.done {m:List (ByteArray × T)} {F:List Nat} (h:MG w b0 b it ks [] wr) (hl:ks.length=m.length) (ho:OwnM w m ks F) (h0F:b0 ∉ F) :
  Own wr (.map m) (.iface 50 (.map (some b0))) (b0 :: F):=by
 obtain ⟨ks0,hm0,hl0,hk0⟩:=h.map;simp only [Own];refine ⟨b0,ks0,F,rfl,hm0,by simp at hl0; omega,?_,rfl⟩
 refine OwnM.seen (ho.frame fun x hx=>h.chg.block x (ho.lt x hx) (by simp only [List.mem_singleton]; exact fun e=>h0F (e ▸ hx))) fun k _=>?_
 rw [hk0];simp
end
end Go.Proofs.YtpofkokbmifhgaaGreatDoor
