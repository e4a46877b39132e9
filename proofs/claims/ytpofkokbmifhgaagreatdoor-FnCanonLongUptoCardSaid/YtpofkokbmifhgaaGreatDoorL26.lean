/- Parts of the walk, made small by wip/tools/pack.py: Use, Usual. No condition but those in each statement. -/
import Derived.Test.YtpofkokbmifhgaaGreatDoorL25
set_option maxRecDepth 100000
set_option maxHeartbeats 20000000
set_option linter.unusedVariables false
set_option linter.unusedSimpArgs false
namespace Go.Proofs.YtpofkokbmifhgaaGreatDoor
open Go.RowKit
variable {o:Nat->Prop}
theorem tg_eq (k:ByteArray) (t:T):tg k t=tget k t:=by cases t <;> rfl
theorem specL (l:List T) (v:Value) (w:World) (h:RdV o w l v) (hl:l.length<=67108864) (hno:∀ b,w.heap.size<=b->o b):Calls Tryz.prog 66 #[v] w fun e w'=>∃ v',e=.returned v'/\Chg [] w w'/\Rd o w' (.list l) v':=by
 obtain ⟨A,c,rfl,hlc,hrd⟩:=id h;obtain ⟨xs,hxs,hsrc⟩:=h.src
 have HAPP:Hid (∃ v' w',(Builtin.append_ #[23,23] 23 #[.slice (some ⟨w.heap.size+1,0,none⟩) 0 0,.slice A l.length c]).run Tryz.prog ((w.alloc (.cells #[.int .i64 0,.int .i64 0,.string ⟨#[]⟩,.slice none 0 0,.slice none 0 0] 25)).alloc (.cells #[] 25))=.ok v' w'/\(Chg [] w w'/\w'.heap[w.heap.size]?=some (.cells #[.int .i64 0,.int .i64 0,.string ⟨#[]⟩,.slice none 0 0,.slice none 0 0] 25)/\∃ g' c',v'=.slice (some ⟨g',0,none⟩) l.length c'/\RdV (Ex o [w.heap.size]) w' l v')):=Lib.hid (by
  have hown:((w.alloc (.cells #[.int .i64 0,.int .i64 0,.string ⟨#[]⟩,.slice none 0 0,.slice none 0 0] 25)).alloc (.cells #[] 25)).ownsRow (w.heap.size+1) 25 5 (.slice (some ⟨w.heap.size+1,0,none⟩) 0 0) 0 []:=⟨rfl,.inr ⟨_,0,#[],rfl,Nat.le_refl _,heap_alloc_at _ _ _ (by simp),Nat.le_refl _,by simp [maxLen],rfl,rfl⟩⟩
  have hc0:Chg [] w ((w.alloc (.cells #[.int .i64 0,.int .i64 0,.string ⟨#[]⟩,.slice none 0 0,.slice none 0 0] 25)).alloc (.cells #[] 25)):=((Chg.refl [] w).al _).al _
  obtain ⟨v',w',hr,ho,hc,g',c',rfl,hg1,hg2⟩:=run_append_copy (P:=Tryz.prog) (w.heap.size+1) 23 23 25 _ 5 80 uVs iV rfl (w.heap.size+1) hown A l.length c xs (by rw [hxs.length]) (fun h0=>by
   obtain ⟨b,e,hb⟩:=hsrc h0;refine ⟨b,e,fun j u hu=>?_⟩;have hbl:=World.block_lt_of_cell? w _ (hb j u hu)
   exact (hc0.cells.1 _ _ hbl).trans (hb j u hu)) (by omega) (by omega)
  have hcw:=hc0.trans hc New.nil;refine ⟨_,w',hr,hcw,?_,g',c',rfl,?_⟩
  ·rw [hc.block w.heap.size (by simp; omega) (by simp)]
   exact heap_al1 w _ _
  ·refine RdV.of_own' rfl (fun b hb=>⟨hno b (by omega),by simp; omega⟩) ho ?_
   exact (hxs.to (o':=Ex o [w.heap.size]) fun b hb ho=>⟨⟨ho,by simp; omega⟩,hcw.block b hb (by simp)⟩))
 clear h hrd hxs hsrc
 go_enter Tryz.func66,Tryz.ntmps66
 go_wp2_with (first | (at_builtin; refine wpList_app rfl _ _ _ rfl rfl rfl HAPP.out ?_) | fail)
 rintro R' w1 hc1 hz1 g' c' rfl hr1;have hrl:Rd (Ex o [w.heap.size]) w1 (.list l) (.agg #[.int .i64 (T.list l).kind,.int .i64 (T.list l).num,.string (T.list l).txt,.slice none (T.list l).keys.length 0,.slice (some ⟨g',0,none⟩) (T.list l).vals.length c']):=Rd.mk (t:=.list l) (RdK.nil _) hr1;obtain ⟨z0,z1,z2,z3,z4,zf⟩:=cells5 hz1;obtain ⟨W,hW,QW,hcW,hrW⟩:=ret5 hz1 hc1 (Nat.le_refl _) hrl (by simp);have HR:=Lib.hid hrW;clear hrl hr1 hrW HAPP
 go_wp2_with fail
 rw [show (((((w1.setCell ⟨w.heap.size,0,none⟩ (.int .i64 4)).setCell ⟨w.heap.size,1,none⟩ (.int .i64 0)).setCell ⟨w.heap.size,2,none⟩ (.string ⟨#[]⟩)).setCell ⟨w.heap.size,3,none⟩ (.slice none 0 0)).setCell ⟨w.heap.size,4,none⟩ (.slice (some ⟨g',0,none⟩) l.length c'))=W from hW.symm];clear hW;obtain ⟨f0,f1,f2,f3,f4,_⟩:=cells5 QW
 go_wp2
 refine bodyPost_ret (v:=.agg #[.int .i64 (T.list l).kind,.int .i64 (T.list l).num,.string (T.list l).txt,.slice none (T.list l).keys.length 0,.slice (some ⟨g',0,none⟩) (T.list l).vals.length c']) (by simp [results,Tryz.results66,go_sem,f0,f1,f2,f3,f4]) rfl ⟨_,rfl,hcW,HR.out⟩
theorem useT_other {k:ByteArray} {t:T} (hk:k≠cPorts) (h3:t.kind≠3):useT k t=(tget cTarget t).getD .null:=by
 rw [<- tg_eq]
 cases t <;> first | (exact absurd rfl h3) | (simp only [useT,if_neg hk])
theorem useT_port {t:T} (h3:t.kind≠3):useT cPorts t=.list [(tget cTarget t).getD .null,(tget cPublished t).getD .null,(tget cProtocol t).getD .null,(tget cHostIp t).getD .null]:=by
 rw [<- tg_eq,<- tg_eq,<- tg_eq,<- tg_eq]
 cases t <;> first | (exact absurd rfl h3) | (simp only [useT,if_true])
theorem mergeUse_any (k:ByteArray) (t:T) (v:Value) (w:World) (h:Rd o w t v) (hf:Fine t) (hno:∀ b,w.heap.size<=b->o b):Calls Tryz.prog 63 #[.string k,v] w fun e w'=>∃ v',e=.returned v'/\Chg [] w w'/\Rd o w' (useT k t) v':=by
 obtain ⟨A3,q3,A4,q4,rfl,hk,hv⟩:=h.five;have hkl:=hf.len;have hsrt:=Lib.hid hf.wf.srt
 have HR:Hid (∀ W,Chg [] w W->Rd (Ex o [w.heap.size+1]) W t (.agg #[.int .i64 t.kind,.int .i64 t.num,.string t.txt,.slice A3 t.keys.length q3,.slice A4 t.vals.length q4])):=Lib.hid fun W hc=>(h.ex (by simp)).chg hc
 clear h hk hv
 go_enter Tryz.func63,Tryz.ntmps63
 go_upto_region 1 with fail
 obtain ⟨w1,hw⟩ : ∃ W:World,W=(w.alloc (.cells #[.int .i64 t.kind,.int .i64 t.num,.string t.txt,.slice A3 t.keys.length q3,.slice A4 t.vals.length q4] 25)).alloc (.cells #[.int .i64 0,.int .i64 0,.string ⟨#[]⟩,.slice none 0 0,.slice none 0 0] 25):=⟨_,rfl⟩
 rw [<- hw];have c1:Chg [] w w1:=hw ▸ ((Chg.refl [] w).al _).al _;have zt1:w1.heap[w.heap.size]?=some (.cells #[.int .i64 t.kind,.int .i64 t.num,.string t.txt,.slice A3 t.keys.length q3,.slice A4 t.vals.length q4] 25):=hw ▸ heap_al1 w _ _;have zz1:w1.heap[w.heap.size+1]?=some (.cells #[.int .i64 0,.int .i64 0,.string ⟨#[]⟩,.slice none 0 0,.slice none 0 0] 25):=hw ▸ heap_al2 w _ _;clear hw;obtain ⟨a0,a1,a2,a3,a4,af⟩:=cells5 zt1;obtain ⟨z0,z1,z2,z3,z4,zf⟩:=cells5 zz1
 by_cases hk3:t.kind=3
 ·have n3:((t.kind:Int) == 3)=true:=by simp; omega
  have hu:Hid (useT k t=t):=Lib.hid (by obtain ⟨s,rfl⟩:=text_of hk3; rfl);have hrx:Rd (Ex o [w.heap.size+1]) w1 t (.agg #[.int .i64 t.kind,.int .i64 t.num,.string t.txt,.slice A3 t.keys.length q3,.slice A4 t.vals.length q4]):=HR.out _ c1;clear hk3;obtain ⟨W,hW,QW,hcW,hrW⟩:=ret5 zz1 c1 (by omega) hrx (by simp);have HRW:=Lib.hid hrW;clear hrx hrW
  go_wp2_with fail
  rw [<- hW];clear hW;obtain ⟨f0,f1,f2,f3,f4,_⟩:=cells5 QW
  go_wp2
  refine bodyPost_ret (v:=(.agg #[.int .i64 t.kind,.int .i64 t.num,.string t.txt,.slice A3 t.keys.length q3,.slice A4 t.vals.length q4])) (by simp [results,Tryz.results63,go_sem,f0,f1,f2,f3,f4]) rfl ⟨_,rfl,hcW,by rw [hu.out]; exact HRW.out⟩
 have n3:((t.kind:Int) == 3)=false:=by simp; omega
 have HK3:=Lib.hid hk3;clear hk3
 by_cases hp:k=cPorts
 case neg=>
  have f1:(k.toList == [112,111,114,116,115])=false:=ne_toList hp (by kernel_rfl);have HP:=Lib.hid hp;clear hp
  go_wp2_with fail
  refine (get_any t _ ⟨#[116,97,114,103,101,116]⟩ _ (HR.out _ c1) hsrt.out hkl.2.2).mono ?_;rintro e u1 ⟨v',rfl,hcu,hr⟩
  obtain ⟨y1,hy⟩ : ∃ y,y=(tget ⟨#[116,97,114,103,101,116]⟩ t).getD .null:=⟨_,rfl⟩
  rw [<- hy] at hr;generalize (tget ⟨#[116,97,114,103,101,116]⟩ t).isSome=bb1;have HY1:=Lib.hid hy;clear hy;obtain ⟨B1,p1,C1,s1,rfl,_⟩:=hr.five
  obtain ⟨w2,hw⟩ : ∃ W:World,W=u1.alloc (.cells #[.int .i64 y1.kind,.int .i64 y1.num,.string y1.txt,.slice B1 y1.keys.length p1,.slice C1 y1.vals.length s1] 25):=⟨_,rfl⟩
  have hc12:Chg [] w1 w2:=hw ▸ hcu.al _;have c2:=c1.trans hc12 New.nil;have hrE1:Hid (Rd (Ex o [w.heap.size+1]) w2 y1 (.agg #[.int .i64 y1.kind,.int .i64 y1.num,.string y1.txt,.slice B1 y1.keys.length p1,.slice C1 y1.vals.length s1])):=Lib.hid (hw ▸ hr.chg ((Chg.refl [] u1).al _));have zy1:w2.heap[u1.heap.size]?=some (.cells #[.int .i64 y1.kind,.int .i64 y1.num,.string y1.txt,.slice B1 y1.keys.length p1,.slice C1 y1.vals.length s1] 25):=hw ▸ heap_alloc_new _ _;have zt2:=box5 zt1 _ hc12;have zz2:=box5 zz1 _ hc12;clear hr hcu a0 a1 a2 a3 a4 af z0 z1 z2 z3 z4 zf;obtain ⟨z0,z1,z2,z3,z4,zf⟩:=cells5 zz2;have hu:Hid (useT k t=y1):=Lib.hid (by rw [HY1.out]; exact useT_other HP.out HK3.out);have hrx:Rd (Ex o [w.heap.size+1]) w2 y1 (.agg #[.int .i64 y1.kind,.int .i64 y1.num,.string y1.txt,.slice B1 y1.keys.length p1,.slice C1 y1.vals.length s1]):=hrE1.out
  go_upto_region 10 with fail
  rw [<- hw];clear hw;obtain ⟨d0,d1,d2,d3,d4,df⟩:=cells5 zy1;obtain ⟨W,hW,QW,hcW,hrW⟩:=ret5 zz2 c2 (by omega) hrx (by simp);have HRW:=Lib.hid hrW;clear hrx hrW
  go_wp2_with fail
  rw [<- hW];clear hW;obtain ⟨f0,f1,f2,f3,f4,_⟩:=cells5 QW
  go_wp2
  refine bodyPost_ret (v:=(.agg #[.int .i64 y1.kind,.int .i64 y1.num,.string y1.txt,.slice B1 y1.keys.length p1,.slice C1 y1.vals.length s1])) (by simp [results,Tryz.results63,go_sem,f0,f1,f2,f3,f4]) rfl ⟨_,rfl,hcW,by rw [hu.out]; exact HRW.out⟩
 subst hp
 go_wp2_with fail
 refine (get_any t _ ⟨#[104,111,115,116,95,105,112]⟩ _ (HR.out _ c1) hsrt.out hkl.2.2).mono ?_;rintro e u1 ⟨v',rfl,hcu,hr⟩
 obtain ⟨y1,hy⟩ : ∃ y,y=(tget ⟨#[104,111,115,116,95,105,112]⟩ t).getD .null:=⟨_,rfl⟩
 rw [<- hy] at hr;generalize (tget ⟨#[104,111,115,116,95,105,112]⟩ t).isSome=bb1;have HY1:=Lib.hid hy;clear hy;obtain ⟨B1,p1,C1,s1,rfl,_⟩:=hr.five
 obtain ⟨w2,hw⟩ : ∃ W:World,W=u1.alloc (.cells #[.int .i64 y1.kind,.int .i64 y1.num,.string y1.txt,.slice B1 y1.keys.length p1,.slice C1 y1.vals.length s1] 25):=⟨_,rfl⟩
 have hc12:Chg [] w1 w2:=hw ▸ hcu.al _;have c2:=c1.trans hc12 New.nil;have hrE1:Hid (Rd (Ex o [w.heap.size+1]) w2 y1 (.agg #[.int .i64 y1.kind,.int .i64 y1.num,.string y1.txt,.slice B1 y1.keys.length p1,.slice C1 y1.vals.length s1])):=Lib.hid (hw ▸ hr.chg ((Chg.refl [] u1).al _));have zy1:w2.heap[u1.heap.size]?=some (.cells #[.int .i64 y1.kind,.int .i64 y1.num,.string y1.txt,.slice B1 y1.keys.length p1,.slice C1 y1.vals.length s1] 25):=hw ▸ heap_alloc_new _ _;have zt2:=box5 zt1 _ hc12;have zz2:=box5 zz1 _ hc12;clear hr hcu a0 a1 a2 a3 a4 af
 go_upto_region 5 with fail
 rw [<- hw];clear hw;obtain ⟨a0,a1,a2,a3,a4,af⟩:=cells5 zt2
 go_wp2_with fail
 refine (get_any t _ ⟨#[116,97,114,103,101,116]⟩ _ (HR.out _ c2) hsrt.out hkl.2.2).mono ?_;rintro e u2 ⟨v',rfl,hcu,hr⟩
 obtain ⟨y2,hy⟩ : ∃ y,y=(tget ⟨#[116,97,114,103,101,116]⟩ t).getD .null:=⟨_,rfl⟩
 rw [<- hy] at hr;generalize (tget ⟨#[116,97,114,103,101,116]⟩ t).isSome=bb2;have HY2:=Lib.hid hy;clear hy;obtain ⟨B2,p2,C2,s2,rfl,_⟩:=hr.five
 obtain ⟨w3,hw⟩ : ∃ W:World,W=u2.alloc (.cells #[.int .i64 y2.kind,.int .i64 y2.num,.string y2.txt,.slice B2 y2.keys.length p2,.slice C2 y2.vals.length s2] 25):=⟨_,rfl⟩
 have hc23:Chg [] w2 w3:=hw ▸ hcu.al _;have c3:=c2.trans hc23 New.nil;have hrE2:Hid (Rd (Ex o [w.heap.size+1]) w3 y2 (.agg #[.int .i64 y2.kind,.int .i64 y2.num,.string y2.txt,.slice B2 y2.keys.length p2,.slice C2 y2.vals.length s2])):=Lib.hid (hw ▸ hr.chg ((Chg.refl [] u2).al _));have zy2:w3.heap[u2.heap.size]?=some (.cells #[.int .i64 y2.kind,.int .i64 y2.num,.string y2.txt,.slice B2 y2.keys.length p2,.slice C2 y2.vals.length s2] 25):=hw ▸ heap_alloc_new _ _;have zt3:=box5 zt2 _ hc23;have zz3:=box5 zz2 _ hc23;clear hr hcu a0 a1 a2 a3 a4 af
 go_upto_region 6 with fail
 rw [<- hw];clear hw;obtain ⟨a0,a1,a2,a3,a4,af⟩:=cells5 zt3
 go_wp2_with fail
 refine (get_any t _ ⟨#[112,117,98,108,105,115,104,101,100]⟩ _ (HR.out _ c3) hsrt.out hkl.2.2).mono ?_;rintro e u3 ⟨v',rfl,hcu,hr⟩
 obtain ⟨y3,hy⟩ : ∃ y,y=(tget ⟨#[112,117,98,108,105,115,104,101,100]⟩ t).getD .null:=⟨_,rfl⟩
 rw [<- hy] at hr;generalize (tget ⟨#[112,117,98,108,105,115,104,101,100]⟩ t).isSome=bb3;have HY3:=Lib.hid hy;clear hy;obtain ⟨B3,p3,C3,s3,rfl,_⟩:=hr.five
 obtain ⟨w4,hw⟩ : ∃ W:World,W=u3.alloc (.cells #[.int .i64 y3.kind,.int .i64 y3.num,.string y3.txt,.slice B3 y3.keys.length p3,.slice C3 y3.vals.length s3] 25):=⟨_,rfl⟩
 have hc34:Chg [] w3 w4:=hw ▸ hcu.al _;have c4:=c3.trans hc34 New.nil;have hrE3:Hid (Rd (Ex o [w.heap.size+1]) w4 y3 (.agg #[.int .i64 y3.kind,.int .i64 y3.num,.string y3.txt,.slice B3 y3.keys.length p3,.slice C3 y3.vals.length s3])):=Lib.hid (hw ▸ hr.chg ((Chg.refl [] u3).al _));have zy3:w4.heap[u3.heap.size]?=some (.cells #[.int .i64 y3.kind,.int .i64 y3.num,.string y3.txt,.slice B3 y3.keys.length p3,.slice C3 y3.vals.length s3] 25):=hw ▸ heap_alloc_new _ _;have zt4:=box5 zt3 _ hc34;have zz4:=box5 zz3 _ hc34;clear hr hcu a0 a1 a2 a3 a4 af
 go_upto_region 7 with fail
 rw [<- hw];clear hw;obtain ⟨a0,a1,a2,a3,a4,af⟩:=cells5 zt4
 go_wp2_with fail
 refine (get_any t _ ⟨#[112,114,111,116,111,99,111,108]⟩ _ (HR.out _ c4) hsrt.out hkl.2.2).mono ?_;rintro e u4 ⟨v',rfl,hcu,hr⟩
 obtain ⟨y4,hy⟩ : ∃ y,y=(tget ⟨#[112,114,111,116,111,99,111,108]⟩ t).getD .null:=⟨_,rfl⟩
 rw [<- hy] at hr;generalize (tget ⟨#[112,114,111,116,111,99,111,108]⟩ t).isSome=bb4;have HY4:=Lib.hid hy;clear hy;obtain ⟨B4,p4,C4,s4,rfl,_⟩:=hr.five
 obtain ⟨w5,hw⟩ : ∃ W:World,W=u4.alloc (.cells #[.int .i64 y4.kind,.int .i64 y4.num,.string y4.txt,.slice B4 y4.keys.length p4,.slice C4 y4.vals.length s4] 25):=⟨_,rfl⟩
 have hc45:Chg [] w4 w5:=hw ▸ hcu.al _;have c5:=c4.trans hc45 New.nil;have hrE4:Hid (Rd (Ex o [w.heap.size+1]) w5 y4 (.agg #[.int .i64 y4.kind,.int .i64 y4.num,.string y4.txt,.slice B4 y4.keys.length p4,.slice C4 y4.vals.length s4])):=Lib.hid (hw ▸ hr.chg ((Chg.refl [] u4).al _));have zy4:w5.heap[u4.heap.size]?=some (.cells #[.int .i64 y4.kind,.int .i64 y4.num,.string y4.txt,.slice B4 y4.keys.length p4,.slice C4 y4.vals.length s4] 25):=hw ▸ heap_alloc_new _ _;have zt5:=box5 zt4 _ hc45;have zz5:=box5 zz4 _ hc45;clear hr hcu a0 a1 a2 a3 a4 af
 go_upto_region 8 with fail
 rw [<- hw];clear hw;obtain ⟨a0,a1,a2,a3,a4,af⟩:=cells5 zt5;obtain ⟨d10,d11,d12,d13,d14,d1f⟩:=cells5 (box5 zy1 _ ((hc23.trans hc34 New.nil).trans hc45 New.nil));obtain ⟨d20,d21,d22,d23,d24,d2f⟩:=cells5 (box5 zy2 _ (hc34.trans hc45 New.nil));obtain ⟨d30,d31,d32,d33,d34,d3f⟩:=cells5 (box5 zy3 _ hc45);obtain ⟨d40,d41,d42,d43,d44,d4f⟩:=cells5 zy4
 obtain ⟨w6,hw6⟩ : ∃ W:World,W=w5.alloc (.cells #[.int .i64 y2.kind,.int .i64 y2.num,.string y2.txt,.slice B2 y2.keys.length p2,.slice C2 y2.vals.length s2,.int .i64 y3.kind,.int .i64 y3.num,.string y3.txt,.slice B3 y3.keys.length p3,.slice C3 y3.vals.length s3,.int .i64 y4.kind,.int .i64 y4.num,.string y4.txt,.slice B4 y4.keys.length p4,.slice C4 y4.vals.length s4,.int .i64 y1.kind,.int .i64 y1.num,.string y1.txt,.slice B1 y1.keys.length p1,.slice C1 y1.vals.length s1] 25):=⟨_,rfl⟩
 have hrow:w6.heap[w5.heap.size]?=some (.cells #[.int .i64 y2.kind,.int .i64 y2.num,.string y2.txt,.slice B2 y2.keys.length p2,.slice C2 y2.vals.length s2,.int .i64 y3.kind,.int .i64 y3.num,.string y3.txt,.slice B3 y3.keys.length p3,.slice C3 y3.vals.length s3,.int .i64 y4.kind,.int .i64 y4.num,.string y4.txt,.slice B4 y4.keys.length p4,.slice C4 y4.vals.length s4,.int .i64 y1.kind,.int .i64 y1.num,.string y1.txt,.slice B1 y1.keys.length p1,.slice C1 y1.vals.length s1] 25):=by rw [hw6]; exact heap_alloc_new _ _
 have c6:Chg [] w w6:=by rw [hw6]; exact c5.al _
 have hc56:Chg [] w5 w6:=by rw [hw6]; exact (Chg.refl [] w5).al _
 have zz6:=box5 zz5 _ hc56;have hru:Rd (Ex o [w.heap.size+1]) w6 y1 (.agg #[.int .i64 y1.kind,.int .i64 y1.num,.string y1.txt,.slice B1 y1.keys.length p1,.slice C1 y1.vals.length s1]):=hrE1.out.chg ((hc23.trans hc34 New.nil).trans (hc45.trans hc56 New.nil) New.nil);have hru2:Rd (Ex o [w.heap.size+1]) w6 y2 (.agg #[.int .i64 y2.kind,.int .i64 y2.num,.string y2.txt,.slice B2 y2.keys.length p2,.slice C2 y2.vals.length s2]):=hrE2.out.chg (hc34.trans (hc45.trans hc56 New.nil) New.nil);have hru3:Rd (Ex o [w.heap.size+1]) w6 y3 (.agg #[.int .i64 y3.kind,.int .i64 y3.num,.string y3.txt,.slice B3 y3.keys.length p3,.slice C3 y3.vals.length s3]):=hrE3.out.chg (hc45.trans hc56 New.nil);have hru4:Rd (Ex o [w.heap.size+1]) w6 y4 (.agg #[.int .i64 y4.kind,.int .i64 y4.num,.string y4.txt,.slice B4 y4.keys.length p4,.slice C4 y4.vals.length s4]):=hrE4.out.chg hc56;have hszz:w.heap.size+1 < w5.heap.size:=(Array.getElem?_eq_some_iff.1 zz5).1;have hc5s:=hc56.size;have HROW:Hid (RdV (Ex o [w.heap.size+1]) w6 [y2,y3,y4,y1] (.slice (some ⟨w5.heap.size,0,none⟩) 4 4)):=Lib.hid (RdV.litF (l:=[y2,y3,y4,y1]) ⟨hno _ (by omega),by simp; omega⟩ hrow ⟨_,_,hru2,rfl,_,_,hru3,rfl,_,_,hru4,rfl,_,_,hru,rfl,rfl⟩);clear hrow hru hru2 hru3 hru4
 go_wp2_with fail
 rw [<- hw6];clear hw6;refine (specL (o:=Ex o [w.heap.size+1]) [y2,y3,y4,y1] _ _ HROW.out (by simp) (Ex.no hno (by omega) (by simp; omega))).mono ?_;rintro e w7 ⟨v7,rfl,hc67,hr7⟩;have c7:=c6.trans hc67 New.nil;have zz7:=box5 zz6 _ hc67;obtain ⟨E5,r5,E6,r6,rfl,_⟩:=hr7.five;obtain ⟨g0,g1,g2,g3,g4,gf⟩:=cells5 zz7;have hu:Hid (useT cPorts t=.list [y2,y3,y4,y1]):=Lib.hid (by rw [HY1.out,HY2.out,HY3.out,HY4.out]; exact useT_port HK3.out);obtain ⟨W,hW,QW,hcW,hrW⟩:=ret5 zz7 c7 (by omega) hr7 (by simp);have HRW:=Lib.hid hrW;clear hr7 hrW
 go_wp2_with fail
 rw [<- hW];clear hW;obtain ⟨f0,f1,f2,f3,f4,_⟩:=cells5 QW
 go_wp2
 refine bodyPost_ret (v:=(.agg #[.int .i64 (T.list [y2,y3,y4,y1]).kind,.int .i64 (T.list [y2,y3,y4,y1]).num,.string (T.list [y2,y3,y4,y1]).txt,.slice E5 (T.list [y2,y3,y4,y1]).keys.length r5,.slice E6 (T.list [y2,y3,y4,y1]).vals.length r6])) (by simp [results,Tryz.results63,go_sem,f0,f1,f2,f3,f4]) rfl ⟨_,rfl,hcW,by rw [hu.out]; exact HRW.out⟩
end Go.Proofs.YtpofkokbmifhgaaGreatDoor
namespace Go.Proofs.YtpofkokbmifhgaaGreatDoor
open Go.RowKit
variable {o:Nat->Prop}
def orP (k:ByteArray) (x:T) (m:List (ByteArray × T)):List (ByteArray × T):=if hasK k m then m else mins k x m
theorem usual_eq (m:List (ByteArray × T)):usual cPorts (.map m)=.map (orP cHostIp (.text cAny4) (orP cProtocol (.text cTcp) m)):=by
 unfold usual orP;rw [if_pos rfl]
 rfl
theorem mergeUsual_any (k:ByteArray) (t:T) (v:Value) (w:World) (h:Rd o w t v) (hf:Fine t) (hm:k=cPorts->∃ m,t=.map m) (hno:∀ b,w.heap.size<=b->o b):Calls Tryz.prog 64 #[.string k,v] w fun e w'=>∃ v',e=.returned v'/\Chg [] w w'/\Rd o w' (usual k t) v':=by
 by_cases hp:k=cPorts
 case neg=>
  obtain ⟨A3,q3,A4,q4,rfl,hk,hv⟩:=h.five;have HU:Hid (usual k t=t):=Lib.hid (by unfold usual; rw [if_neg hp]);have f1:(k.toList == [112,111,114,116,115])=false:=ne_toList hp (by kernel_rfl);clear hp hm hk hv
  go_enter Tryz.func64,Tryz.ntmps64
  go_upto_region 1 with fail
  obtain ⟨w1,hw⟩ : ∃ W:World,W=(w.alloc (.cells #[.int .i64 t.kind,.int .i64 t.num,.string t.txt,.slice A3 t.keys.length q3,.slice A4 t.vals.length q4] 25)).alloc (.cells #[.int .i64 0,.int .i64 0,.string ⟨#[]⟩,.slice none 0 0,.slice none 0 0] 25):=⟨_,rfl⟩
  rw [<- hw];have c1:Chg [] w w1:=hw ▸ ((Chg.refl [] w).al _).al _;have zt1:w1.heap[w.heap.size]?=some (.cells #[.int .i64 t.kind,.int .i64 t.num,.string t.txt,.slice A3 t.keys.length q3,.slice A4 t.vals.length q4] 25):=hw ▸ heap_al1 w _ _;have zz1:w1.heap[w.heap.size+1]?=some (.cells #[.int .i64 0,.int .i64 0,.string ⟨#[]⟩,.slice none 0 0,.slice none 0 0] 25):=hw ▸ heap_al2 w _ _;clear hw;obtain ⟨a0,a1,a2,a3,a4,af⟩:=cells5 zt1;obtain ⟨z0,z1,z2,z3,z4,zf⟩:=cells5 zz1;have hrx:Rd (Ex o [w.heap.size,w.heap.size+1]) w1 t (.agg #[.int .i64 t.kind,.int .i64 t.num,.string t.txt,.slice A3 t.keys.length q3,.slice A4 t.vals.length q4]):=(h.ex (by simp)).chg c1;obtain ⟨W,hW,QW,hcW,hrW⟩:=ret5 zz1 c1 (by omega) hrx (by simp);have HRW:=Lib.hid hrW;clear hrx hrW
  go_wp2_with fail
  rw [<- hW];clear hW;obtain ⟨f0,f1,f2,f3,f4,_⟩:=cells5 QW
  go_wp2
  refine bodyPost_ret (v:=(.agg #[.int .i64 t.kind,.int .i64 t.num,.string t.txt,.slice A3 t.keys.length q3,.slice A4 t.vals.length q4])) (by simp [results,Tryz.results64,go_sem,f0,f1,f2,f3,f4]) rfl ⟨_,rfl,hcW,by rw [HU.out]; exact HRW.out⟩
 obtain ⟨m,rfl⟩:=hm hp;subst hp;clear hm;have hml:Hid (m.length<=67108863):=Lib.hid (by have h1:=T.vals_len (.map m); have h2:=hf.size; have h3:(T.map m).vals.length=m.length:=(by simp [T.vals]); omega);have hsm:Hid (Srt m):=Lib.hid hf.wf.1;rw [usual_eq];obtain ⟨A3,q3,A4,q4,rfl,hk,hv⟩:=h.five;clear hk hv
 go_enter Tryz.func64,Tryz.ntmps64
 go_upto_region 1 with fail
 obtain ⟨w1,hw⟩ : ∃ W:World,W=(w.alloc (.cells #[.int .i64 (T.map m).kind,.int .i64 (T.map m).num,.string (T.map m).txt,.slice A3 (T.map m).keys.length q3,.slice A4 (T.map m).vals.length q4] 25)).alloc (.cells #[.int .i64 0,.int .i64 0,.string ⟨#[]⟩,.slice none 0 0,.slice none 0 0] 25):=⟨_,rfl⟩
 rw [<- hw];have c1:Chg [] w w1:=hw ▸ ((Chg.refl [] w).al _).al _;have zz1:w1.heap[w.heap.size+1]?=some (.cells #[.int .i64 0,.int .i64 0,.string ⟨#[]⟩,.slice none 0 0,.slice none 0 0] 25):=hw ▸ heap_al2 w _ _
 have hB1:Bx o [w.heap.size,w.heap.size+1] w.heap.size (.map m) w1:=⟨A3,q3,A4,q4,hw ▸ heap_al1 w _ _,(h.ex (by simp)).chg c1⟩
 clear hw h hf;obtain ⟨E5,r5,E6,r6,hbx,hrx⟩:=hB1.box;obtain ⟨d0,d1,d2,d3,d4,df⟩:=cells5 hbx
 go_wp2_with fail
 refine (has_any (.map (m)) _ ⟨#[112,114,111,116,111,99,111,108]⟩ _ hrx (fun m' e=>by cases e; exact hsm.out) (by have:=hml.out; simp [T.keys]; omega)).mono ?_;rintro e w2 ⟨rfl,hc2⟩
 obtain ⟨b1,hb⟩ : ∃ b,(tget ⟨#[112,114,111,116,111,99,111,108]⟩ (.map (m))).isSome=b:=⟨_,rfl⟩
 rw [hb];have hb1:=Lib.hid hb;have c2:=c1.trans hc2 New.nil;have hB2:=hB1.go hc2;have zz2:=box5 zz1 _ hc2;clear hb hbx hrx d0 d1 d2 d3 d4 df
 cases b1
 ·have he1:Hid (mins cProtocol (.text cTcp) m=orP cProtocol (.text cTcp) m):=Lib.hid (by unfold orP; rw [show hasK cProtocol m=false from hb1.out]; rfl)
  obtain ⟨E5,r5,E6,r6,hbx,hrx⟩:=hB2.box;have HBX:=Lib.hid (And.intro hbx hrx);have hszw:w.heap.size+1 < w2.heap.size:=(Array.getElem?_eq_some_iff.1 zz2).1;obtain ⟨d0,d1,d2,d3,d4,df⟩:=cells5 hbx;clear hbx hrx
  go_wp2_with fail
  clear d0 d1 d2 d3 d4 df;rename_i K hK;have HK:=Lib.hid hK;clear hK
  refine wp_region_tail (by rfl) (by kernel_rfl) [3] (by kernel_rfl)
   (fun j u V=>match j with
    | 0=>u=.agg #[.int .i64 (T.map (m)).kind,.int .i64 (T.map (m)).num,.string (T.map (m)).txt,.slice E5 (T.map (m)).keys.length r5,.slice E6 (T.map (m)).vals.length r6]
    | 1=>Rd (Ex o [w.heap.size,w.heap.size+1]) V (.text cTcp) u
    | 2=>Rd (Ex o [w.heap.size,w.heap.size+1]) V (.map (mins cProtocol (.text cTcp) (m))) u
    | _=>True) ?_ ?_ ?_
  ·intro j u V V' hc hφ
   rcases j with _ | _ | _ | j
   ·exact hφ
   ·exact Rd.chg hφ hc
   ·exact Rd.chg hφ hc
   ·exact hφ
  ·intro j oo hj ho a' w' hst hch hdep K2 hK2
   have hcB:Chg [] w2 w':=(Chg.refl [] w2).dr.trans hch New.nil;have hcw':Chg [] w w':=c2.trans hcB New.nil;obtain ⟨d0,d1,d2,d3,d4,df⟩:=cells5 (box5 HBX.out.1 _ hcB);have hrc:=HBX.out.2.chg hcB;have hj':j < 3:=hj;rcases j with _ | _ | _ | j
   ·obtain rfl:_=oo:=Option.some.inj ho
    have h3:=g_eq (t:=3) (v:=.pointer (some ⟨w.heap.size,0,none⟩)) (hst 3 (by simp));unfold Oper.wp;go_simp;exact ⟨_,rfl,hK2 _ _ (Chg.refl _ _) rfl⟩
   ·obtain rfl:_=oo:=Option.some.inj ho
    unfold Oper.wp;go_simp;refine (specT (o:=Ex o [w.heap.size,w.heap.size+1]) cTcp w').mono ?_;rintro e w3 ⟨v',rfl,hc3,hr3⟩;exact ⟨_,rfl,hK2 _ _ hc3 hr3⟩
   ·obtain rfl:_=oo:=Option.some.inj ho
    have h11:=g_eq (t:=11) (v:=.agg #[.int .i64 (T.map (m)).kind,.int .i64 (T.map (m)).num,.string (T.map (m)).txt,.slice E5 (T.map (m)).keys.length r5,.slice E6 (T.map (m)).vals.length r6]) (hdep 0 (by kernel_rfl));have hr12:Rd (Ex o [w.heap.size,w.heap.size+1]) w' (.text cTcp) (Act.g a' 12):=hdep 1 (by kernel_rfl);generalize hg12:Act.g a' 12=v12 at hr12;have h12:=g_eq (t:=12) hg12;unfold Oper.wp;go_simp;refine (with_map (o:=Ex o [w.heap.size,w.heap.size+1]) (m) (.text cTcp) _ _ cProtocol w' hrc hsm.out hr12 (by have:=hml.out; omega) (Ex.no hno (by have:=hcw'.size; omega) (by have:=hcw'.size; have:=hszw; have:=hcB.size; simp; omega))).mono ?_;rintro e w3 ⟨v',rfl,hc3,hr3⟩;exact ⟨_,rfl,hK2 _ _ hc3 hr3⟩
   ·omega
  ·intro oo ho u w' hch hφ A2 hA2
   obtain rfl:_=oo:=Option.some.inj ho;have huS:Rd (Ex o [w.heap.size,w.heap.size+1]) w' (.map (mins cProtocol (.text cTcp) (m))) (u 2):=hφ 2 (by decide);obtain ⟨e5,n5,e6,n6,hu,_⟩:=huS.five;rw [hu] at huS;have hcB:Chg [] w2 w':=(Chg.refl [] w2).dr.trans hch New.nil;have hcw':Chg [] w w':=c2.trans hcB New.nil;obtain ⟨W,hW,hBW,hcW,hne,hszW,hoth⟩:=(hB2.go hcB).put (by simp) hcw' (Nat.le_refl _) huS;simp [putAll,dOf,Act.put,hu] at hA2;subst hA2;have hbz:=box5 HBX.out.1 _ hcB;obtain ⟨b0,b1,b2,b3,b4,bf⟩:=cells5 hbz;have HW:=Lib.hid (And.intro hBW (And.intro hcW (And.intro hne (And.intro hszW hoth))));clear hφ ho hu huS hbz hBW hcW hne hszW hoth;unfold Oper.wp;go_simp;rw [<- hW];refine HK.out _ _ ?_;clear HK hW b0 b1 b2 b3 b4 bf hch;have hB3:=HW.out.1;have c3:=HW.out.2.1;have zz3:=(HW.out.2.2.1 (w.heap.size+1) (by omega)).trans (box5 zz2 _ hcB)
   obtain ⟨w3,rfl⟩ : ∃ w3,w3=W:=⟨_,rfl⟩
   obtain ⟨E5,r5,E6,r6,hbx,hrx⟩:=hB3.box;obtain ⟨d0,d1,d2,d3,d4,df⟩:=cells5 hbx
   go_wp2_with fail
   refine (has_any (.map (mins cProtocol (.text cTcp) m)) _ ⟨#[104,111,115,116,95,105,112]⟩ _ hrx (fun m' e=>by cases e; exact hsm.out.srt_ins) (by have:=(show (mins cProtocol (.text cTcp) m).length<=67108864 from by have h1:=hml.out; have h2:=@ins_len_le T cProtocol (.text cTcp) m; omega); simp [T.keys]; omega)).mono ?_;rintro e w4 ⟨rfl,hc4⟩
   obtain ⟨b4,hb⟩ : ∃ b,(tget ⟨#[104,111,115,116,95,105,112]⟩ (.map (mins cProtocol (.text cTcp) m))).isSome=b:=⟨_,rfl⟩
   rw [hb];have hb4:=Lib.hid hb;have c4:=c3.trans hc4 New.nil;have hB4:=hB3.go hc4;have zz4:=box5 zz3 _ hc4;clear hb hbx hrx d0 d1 d2 d3 d4 df
   cases b4
   ·have he2:Hid (mins cHostIp (.text cAny4) (mins cProtocol (.text cTcp) m)=orP cHostIp (.text cAny4) (orP cProtocol (.text cTcp) m)):=Lib.hid (by rw [<- he1.out]; unfold orP; rw [show hasK cHostIp (mins cProtocol (.text cTcp) m)=false from hb4.out]; rfl)
    obtain ⟨E5,r5,E6,r6,hbx,hrx⟩:=hB4.box;have HBX:=Lib.hid (And.intro hbx hrx);have hszw:w.heap.size+1 < w4.heap.size:=(Array.getElem?_eq_some_iff.1 zz4).1;obtain ⟨d0,d1,d2,d3,d4,df⟩:=cells5 hbx;clear hbx hrx
    go_wp2_with fail
    clear d0 d1 d2 d3 d4 df;rename_i K hK;have HK:=Lib.hid hK;clear hK
    refine wp_region_tail (by rfl) (by kernel_rfl) [3] (by kernel_rfl)
     (fun j u V=>match j with
      | 0=>u=.agg #[.int .i64 (T.map (mins cProtocol (.text cTcp) m)).kind,.int .i64 (T.map (mins cProtocol (.text cTcp) m)).num,.string (T.map (mins cProtocol (.text cTcp) m)).txt,.slice E5 (T.map (mins cProtocol (.text cTcp) m)).keys.length r5,.slice E6 (T.map (mins cProtocol (.text cTcp) m)).vals.length r6]
      | 1=>Rd (Ex o [w.heap.size,w.heap.size+1]) V (.text cAny4) u
      | 2=>Rd (Ex o [w.heap.size,w.heap.size+1]) V (.map (mins cHostIp (.text cAny4) (mins cProtocol (.text cTcp) m))) u
      | _=>True) ?_ ?_ ?_
    ·intro j u V V' hc hφ
     rcases j with _ | _ | _ | j
     ·exact hφ
     ·exact Rd.chg hφ hc
     ·exact Rd.chg hφ hc
     ·exact hφ
    ·intro j oo hj ho a' w' hst hch hdep K2 hK2
     have hcB:Chg [] w4 w':=(Chg.refl [] w4).dr.trans hch New.nil;have hcw':Chg [] w w':=c4.trans hcB New.nil;obtain ⟨d0,d1,d2,d3,d4,df⟩:=cells5 (box5 HBX.out.1 _ hcB);have hrc:=HBX.out.2.chg hcB;have hj':j < 3:=hj;rcases j with _ | _ | _ | j
     ·obtain rfl:_=oo:=Option.some.inj ho
      have h3:=g_eq (t:=3) (v:=.pointer (some ⟨w.heap.size,0,none⟩)) (hst 3 (by simp));unfold Oper.wp;go_simp;exact ⟨_,rfl,hK2 _ _ (Chg.refl _ _) rfl⟩
     ·obtain rfl:_=oo:=Option.some.inj ho
      unfold Oper.wp;go_simp;refine (specT (o:=Ex o [w.heap.size,w.heap.size+1]) cAny4 w').mono ?_;rintro e w3 ⟨v',rfl,hc3,hr3⟩;exact ⟨_,rfl,hK2 _ _ hc3 hr3⟩
     ·obtain rfl:_=oo:=Option.some.inj ho
      have h17:=g_eq (t:=17) (v:=.agg #[.int .i64 (T.map (mins cProtocol (.text cTcp) m)).kind,.int .i64 (T.map (mins cProtocol (.text cTcp) m)).num,.string (T.map (mins cProtocol (.text cTcp) m)).txt,.slice E5 (T.map (mins cProtocol (.text cTcp) m)).keys.length r5,.slice E6 (T.map (mins cProtocol (.text cTcp) m)).vals.length r6]) (hdep 0 (by kernel_rfl));have hr18:Rd (Ex o [w.heap.size,w.heap.size+1]) w' (.text cAny4) (Act.g a' 18):=hdep 1 (by kernel_rfl);generalize hg18:Act.g a' 18=v18 at hr18;have h18:=g_eq (t:=18) hg18;unfold Oper.wp;go_simp;refine (with_map (o:=Ex o [w.heap.size,w.heap.size+1]) (mins cProtocol (.text cTcp) m) (.text cAny4) _ _ cHostIp w' hrc hsm.out.srt_ins hr18 (by have:=(show (mins cProtocol (.text cTcp) m).length<=67108864 from by have h1:=hml.out; have h2:=@ins_len_le T cProtocol (.text cTcp) m; omega); omega) (Ex.no hno (by have:=hcw'.size; omega) (by have:=hcw'.size; have:=hszw; have:=hcB.size; simp; omega))).mono ?_;rintro e w3 ⟨v',rfl,hc3,hr3⟩;exact ⟨_,rfl,hK2 _ _ hc3 hr3⟩
     ·omega
    ·intro oo ho u w' hch hφ A2 hA2
     obtain rfl:_=oo:=Option.some.inj ho;have huS:Rd (Ex o [w.heap.size,w.heap.size+1]) w' (.map (mins cHostIp (.text cAny4) (mins cProtocol (.text cTcp) m))) (u 2):=hφ 2 (by decide);obtain ⟨e5,n5,e6,n6,hu,_⟩:=huS.five;rw [hu] at huS;have hcB:Chg [] w4 w':=(Chg.refl [] w4).dr.trans hch New.nil;have hcw':Chg [] w w':=c4.trans hcB New.nil;obtain ⟨W,hW,hBW,hcW,hne,hszW,hoth⟩:=(hB4.go hcB).put (by simp) hcw' (Nat.le_refl _) huS;simp [putAll,dOf,Act.put,hu] at hA2;subst hA2;have hbz:=box5 HBX.out.1 _ hcB;obtain ⟨b0,b1,b2,b3,b4,bf⟩:=cells5 hbz;have HW:=Lib.hid (And.intro hBW (And.intro hcW (And.intro hne (And.intro hszW hoth))));clear hφ ho hu huS hbz hBW hcW hne hszW hoth;unfold Oper.wp;go_simp;rw [<- hW];refine HK.out _ _ ?_;clear HK hW b0 b1 b2 b3 b4 bf hch;have hB5:=HW.out.1;have c5:=HW.out.2.1;have zz5:=(HW.out.2.2.1 (w.heap.size+1) (by omega)).trans (box5 zz4 _ hcB)
     obtain ⟨w5,rfl⟩ : ∃ w5,w5=W:=⟨_,rfl⟩
     obtain ⟨E5,r5,E6,r6,hbx,hrx⟩:=hB5.box;obtain ⟨d0,d1,d2,d3,d4,df⟩:=cells5 hbx;obtain ⟨z0,z1,z2,z3,z4,zf⟩:=cells5 zz5;obtain ⟨W,hW,QW,hcW,hrW⟩:=ret5 zz5 c5 (by omega) hrx (by simp);have HRW:=Lib.hid hrW;clear hrx hrW hbx
     go_wp2_with fail
     rw [<- hW];clear hW;obtain ⟨f0,f1,f2,f3,f4,_⟩:=cells5 QW
     go_wp2
     refine bodyPost_ret (v:=(.agg #[.int .i64 (T.map (mins cHostIp (.text cAny4) (mins cProtocol (.text cTcp) m))).kind,.int .i64 (T.map (mins cHostIp (.text cAny4) (mins cProtocol (.text cTcp) m))).num,.string (T.map (mins cHostIp (.text cAny4) (mins cProtocol (.text cTcp) m))).txt,.slice E5 (T.map (mins cHostIp (.text cAny4) (mins cProtocol (.text cTcp) m))).keys.length r5,.slice E6 (T.map (mins cHostIp (.text cAny4) (mins cProtocol (.text cTcp) m))).vals.length r6])) (by simp [results,Tryz.results64,go_sem,f0,f1,f2,f3,f4]) rfl ⟨_,rfl,hcW,by rw [<- he2.out]; exact HRW.out⟩
   ·have he2:Hid ((mins cProtocol (.text cTcp) m)=orP cHostIp (.text cAny4) (orP cProtocol (.text cTcp) m)):=Lib.hid (by rw [<- he1.out]; unfold orP; rw [show hasK cHostIp (mins cProtocol (.text cTcp) m)=true from hb4.out]; rfl)
    obtain ⟨E5,r5,E6,r6,hbx,hrx⟩:=hB4.box;obtain ⟨d0,d1,d2,d3,d4,df⟩:=cells5 hbx;obtain ⟨z0,z1,z2,z3,z4,zf⟩:=cells5 zz4;obtain ⟨W,hW,QW,hcW,hrW⟩:=ret5 zz4 c4 (by omega) hrx (by simp);have HRW:=Lib.hid hrW;clear hrx hrW hbx
    go_wp2_with fail
    rw [<- hW];clear hW;obtain ⟨f0,f1,f2,f3,f4,_⟩:=cells5 QW
    go_wp2
    refine bodyPost_ret (v:=(.agg #[.int .i64 (T.map (mins cProtocol (.text cTcp) m)).kind,.int .i64 (T.map (mins cProtocol (.text cTcp) m)).num,.string (T.map (mins cProtocol (.text cTcp) m)).txt,.slice E5 (T.map (mins cProtocol (.text cTcp) m)).keys.length r5,.slice E6 (T.map (mins cProtocol (.text cTcp) m)).vals.length r6])) (by simp [results,Tryz.results64,go_sem,f0,f1,f2,f3,f4]) rfl ⟨_,rfl,hcW,by rw [<- he2.out]; exact HRW.out⟩
 ·have he1:Hid (m=orP cProtocol (.text cTcp) m):=Lib.hid (by unfold orP; rw [show hasK cProtocol m=true from hb1.out]; rfl)
  obtain ⟨E5,r5,E6,r6,hbx,hrx⟩:=hB2.box;obtain ⟨d0,d1,d2,d3,d4,df⟩:=cells5 hbx
  go_wp2_with fail
  refine (has_any (.map (m)) _ ⟨#[104,111,115,116,95,105,112]⟩ _ hrx (fun m' e=>by cases e; exact hsm.out) (by have:=hml.out; simp [T.keys]; omega)).mono ?_;rintro e w3 ⟨rfl,hc3⟩
  obtain ⟨b3,hb⟩ : ∃ b,(tget ⟨#[104,111,115,116,95,105,112]⟩ (.map (m))).isSome=b:=⟨_,rfl⟩
  rw [hb];have hb3:=Lib.hid hb;have c3:=c2.trans hc3 New.nil;have hB3:=hB2.go hc3;have zz3:=box5 zz2 _ hc3;clear hb hbx hrx d0 d1 d2 d3 d4 df
  cases b3
  ·have he2:Hid (mins cHostIp (.text cAny4) (m)=orP cHostIp (.text cAny4) (orP cProtocol (.text cTcp) m)):=Lib.hid (by rw [<- he1.out]; unfold orP; rw [show hasK cHostIp (m)=false from hb3.out]; rfl)
   obtain ⟨E5,r5,E6,r6,hbx,hrx⟩:=hB3.box;have HBX:=Lib.hid (And.intro hbx hrx);have hszw:w.heap.size+1 < w3.heap.size:=(Array.getElem?_eq_some_iff.1 zz3).1;obtain ⟨d0,d1,d2,d3,d4,df⟩:=cells5 hbx;clear hbx hrx
   go_wp2_with fail
   clear d0 d1 d2 d3 d4 df;rename_i K hK;have HK:=Lib.hid hK;clear hK
   refine wp_region_tail (by rfl) (by kernel_rfl) [3] (by kernel_rfl)
    (fun j u V=>match j with
     | 0=>u=.agg #[.int .i64 (T.map (m)).kind,.int .i64 (T.map (m)).num,.string (T.map (m)).txt,.slice E5 (T.map (m)).keys.length r5,.slice E6 (T.map (m)).vals.length r6]
     | 1=>Rd (Ex o [w.heap.size,w.heap.size+1]) V (.text cAny4) u
     | 2=>Rd (Ex o [w.heap.size,w.heap.size+1]) V (.map (mins cHostIp (.text cAny4) (m))) u
     | _=>True) ?_ ?_ ?_
   ·intro j u V V' hc hφ
    rcases j with _ | _ | _ | j
    ·exact hφ
    ·exact Rd.chg hφ hc
    ·exact Rd.chg hφ hc
    ·exact hφ
   ·intro j oo hj ho a' w' hst hch hdep K2 hK2
    have hcB:Chg [] w3 w':=(Chg.refl [] w3).dr.trans hch New.nil;have hcw':Chg [] w w':=c3.trans hcB New.nil;obtain ⟨d0,d1,d2,d3,d4,df⟩:=cells5 (box5 HBX.out.1 _ hcB);have hrc:=HBX.out.2.chg hcB;have hj':j < 3:=hj;rcases j with _ | _ | _ | j
    ·obtain rfl:_=oo:=Option.some.inj ho
     have h3:=g_eq (t:=3) (v:=.pointer (some ⟨w.heap.size,0,none⟩)) (hst 3 (by simp));unfold Oper.wp;go_simp;exact ⟨_,rfl,hK2 _ _ (Chg.refl _ _) rfl⟩
    ·obtain rfl:_=oo:=Option.some.inj ho
     unfold Oper.wp;go_simp;refine (specT (o:=Ex o [w.heap.size,w.heap.size+1]) cAny4 w').mono ?_;rintro e w3 ⟨v',rfl,hc3,hr3⟩;exact ⟨_,rfl,hK2 _ _ hc3 hr3⟩
    ·obtain rfl:_=oo:=Option.some.inj ho
     have h17:=g_eq (t:=17) (v:=.agg #[.int .i64 (T.map (m)).kind,.int .i64 (T.map (m)).num,.string (T.map (m)).txt,.slice E5 (T.map (m)).keys.length r5,.slice E6 (T.map (m)).vals.length r6]) (hdep 0 (by kernel_rfl));have hr18:Rd (Ex o [w.heap.size,w.heap.size+1]) w' (.text cAny4) (Act.g a' 18):=hdep 1 (by kernel_rfl);generalize hg18:Act.g a' 18=v18 at hr18;have h18:=g_eq (t:=18) hg18;unfold Oper.wp;go_simp;refine (with_map (o:=Ex o [w.heap.size,w.heap.size+1]) (m) (.text cAny4) _ _ cHostIp w' hrc hsm.out hr18 (by have:=hml.out; omega) (Ex.no hno (by have:=hcw'.size; omega) (by have:=hcw'.size; have:=hszw; have:=hcB.size; simp; omega))).mono ?_;rintro e w3 ⟨v',rfl,hc3,hr3⟩;exact ⟨_,rfl,hK2 _ _ hc3 hr3⟩
    ·omega
   ·intro oo ho u w' hch hφ A2 hA2
    obtain rfl:_=oo:=Option.some.inj ho;have huS:Rd (Ex o [w.heap.size,w.heap.size+1]) w' (.map (mins cHostIp (.text cAny4) (m))) (u 2):=hφ 2 (by decide);obtain ⟨e5,n5,e6,n6,hu,_⟩:=huS.five;rw [hu] at huS;have hcB:Chg [] w3 w':=(Chg.refl [] w3).dr.trans hch New.nil;have hcw':Chg [] w w':=c3.trans hcB New.nil;obtain ⟨W,hW,hBW,hcW,hne,hszW,hoth⟩:=(hB3.go hcB).put (by simp) hcw' (Nat.le_refl _) huS;simp [putAll,dOf,Act.put,hu] at hA2;subst hA2;have hbz:=box5 HBX.out.1 _ hcB;obtain ⟨b0,b1,b2,b3,b4,bf⟩:=cells5 hbz;have HW:=Lib.hid (And.intro hBW (And.intro hcW (And.intro hne (And.intro hszW hoth))));clear hφ ho hu huS hbz hBW hcW hne hszW hoth;unfold Oper.wp;go_simp;rw [<- hW];refine HK.out _ _ ?_;clear HK hW b0 b1 b2 b3 b4 bf hch;have hB4:=HW.out.1;have c4:=HW.out.2.1;have zz4:=(HW.out.2.2.1 (w.heap.size+1) (by omega)).trans (box5 zz3 _ hcB)
    obtain ⟨w4,rfl⟩ : ∃ w4,w4=W:=⟨_,rfl⟩
    obtain ⟨E5,r5,E6,r6,hbx,hrx⟩:=hB4.box;obtain ⟨d0,d1,d2,d3,d4,df⟩:=cells5 hbx;obtain ⟨z0,z1,z2,z3,z4,zf⟩:=cells5 zz4;obtain ⟨W,hW,QW,hcW,hrW⟩:=ret5 zz4 c4 (by omega) hrx (by simp);have HRW:=Lib.hid hrW;clear hrx hrW hbx
    go_wp2_with fail
    rw [<- hW];clear hW;obtain ⟨f0,f1,f2,f3,f4,_⟩:=cells5 QW
    go_wp2
    refine bodyPost_ret (v:=(.agg #[.int .i64 (T.map (mins cHostIp (.text cAny4) (m))).kind,.int .i64 (T.map (mins cHostIp (.text cAny4) (m))).num,.string (T.map (mins cHostIp (.text cAny4) (m))).txt,.slice E5 (T.map (mins cHostIp (.text cAny4) (m))).keys.length r5,.slice E6 (T.map (mins cHostIp (.text cAny4) (m))).vals.length r6])) (by simp [results,Tryz.results64,go_sem,f0,f1,f2,f3,f4]) rfl ⟨_,rfl,hcW,by rw [<- he2.out]; exact HRW.out⟩
  ·have he2:Hid ((m)=orP cHostIp (.text cAny4) (orP cProtocol (.text cTcp) m)):=Lib.hid (by rw [<- he1.out]; unfold orP; rw [show hasK cHostIp (m)=true from hb3.out]; rfl)
   obtain ⟨E5,r5,E6,r6,hbx,hrx⟩:=hB3.box;obtain ⟨d0,d1,d2,d3,d4,df⟩:=cells5 hbx;obtain ⟨z0,z1,z2,z3,z4,zf⟩:=cells5 zz3;obtain ⟨W,hW,QW,hcW,hrW⟩:=ret5 zz3 c3 (by omega) hrx (by simp);have HRW:=Lib.hid hrW;clear hrx hrW hbx
   go_wp2_with fail
   rw [<- hW];clear hW;obtain ⟨f0,f1,f2,f3,f4,_⟩:=cells5 QW
   go_wp2
   refine bodyPost_ret (v:=(.agg #[.int .i64 (T.map (m)).kind,.int .i64 (T.map (m)).num,.string (T.map (m)).txt,.slice E5 (T.map (m)).keys.length r5,.slice E6 (T.map (m)).vals.length r6])) (by simp [results,Tryz.results64,go_sem,f0,f1,f2,f3,f4]) rfl ⟨_,rfl,hcW,by rw [<- he2.out]; exact HRW.out⟩
theorem mergeCovers_any (a b:T) (va vb:Value) (w:World) (ha:Rd o w a va) (hb:Rd o w b vb) (hfa:Fine a) (hfb:Fine b):Calls Tryz.prog 146 #[va,vb] w (SomeB w):=by
 obtain ⟨A1,q1,A2,q2,rfl,_⟩:=ha.five;obtain ⟨A3,q3,A4,q4,rfl,hk,hv⟩:=hb.five;have hal:=hfa.len.2.2;have hbl:=hfb.len.2.2;have hsrt:=Lib.hid hfa.wf.srt
 have HRA:Hid (∀ W,Chg [] w W->Rd o W a (.agg #[.int .i64 a.kind,.int .i64 a.num,.string a.txt,.slice A1 a.keys.length q1,.slice A2 a.vals.length q2])):=Lib.hid fun W hc=>ha.chg hc
 clear ha hb hv
 go_enter Tryz.func146,Tryz.ntmps146
 go_wp2
 go_loopg [5] b.keys.length (fun g i wr=>∃ n:Nat,n<=b.keys.length/\g=b.keys.length - n/\i=.int .i64 n/\Chg [] w wr/\wr.heap[w.heap.size]?=some (.cells #[.int .i64 a.kind,.int .i64 a.num,.string a.txt,.slice A1 a.keys.length q1,.slice A2 a.vals.length q2] 25)/\wr.heap[w.heap.size+1]?=some (.cells #[.int .i64 b.kind,.int .i64 b.num,.string b.txt,.slice A3 b.keys.length q3,.slice A4 b.vals.length q4] 25))
 case atStart=>exact ⟨0,Nat.zero_le _,by omega,rfl,((Chg.refl [] w).al _).al _,heap_al1 w _ _,heap_al2 w _ _⟩
 case round=>
  obtain ⟨n,hn,rfl,rfl,hcr,za,zb⟩:=hrel;obtain ⟨a0,a1,a2,a3,a4,af⟩:=cells5 za;obtain ⟨b0,b1,b2,b3,b4,bf⟩:=cells5 zb
  by_cases hlt:n < b.keys.length
  ·obtain ⟨s,hs1⟩ : ∃ s,b.keys[n]?=some s:=⟨_,List.getElem?_eq_getElem hlt⟩
   obtain ⟨gk,ck,ek,hgk,yk⟩:=hk.elem hs1
   cases ek
   have YK:=Lib.hid yk;clear hs1 yk
   go_wp2
   clear a0 a1 a2 a3 a4 af b0 b1 b2 b3 b4 bf;rename_i K hK;have HK:=Lib.hid hK;clear hK
   refine wp_region_all (by rfl) (by kernel_rfl) [2,3,5] (by kernel_rfl)
    (fun j u V=>match j with
     | 0=>u=.agg #[.int .i64 a.kind,.int .i64 a.num,.string a.txt,.slice A1 a.keys.length q1,.slice A2 a.vals.length q2]
     | 1=>u=.pointer (some ⟨w.heap.size+1,3,none⟩)
     | 2=>u=.slice (some ⟨gk,0,none⟩) b.keys.length q3
     | 3=>u=.int .i64 n
     | 4=>u=.pointer (some ⟨gk,n,none⟩)
     | 5=>u=.string s
     | 6=>∃ b:Bool,u=.bool b
     | 7=>∃ b:Bool,u=.bool b
     | _=>True) ?_ ?_ ?_
   ·intro j u V V' hc hφ
    rcases j with _ | _ | _ | _ | _ | _ | _ | _ | j
    ·exact hφ
    ·exact hφ
    ·exact hφ
    ·exact hφ
    ·exact hφ
    ·exact hφ
    ·exact hφ
    ·exact hφ
    ·exact hφ
   ·intro j oo hj ho a' w' hst hch hdep K2 hK2
    have hcw:Chg [] w w':=hcr.trans ((Chg.refl [] wr).dr.trans hch New.nil) New.nil;obtain ⟨a0,a1,a2,a3,a4,af⟩:=cells5 (box5 za _ ((Chg.refl [] wr).dr.trans hch New.nil));obtain ⟨b0,b1,b2,b3,b4,bf⟩:=cells5 (box5 zb _ ((Chg.refl [] wr).dr.trans hch New.nil));have hyk:=YK.out _ hcw;have hj':j < 8:=hj;rcases j with _ | _ | _ | _ | _ | _ | _ | _ | j
    ·obtain rfl:_=oo:=Option.some.inj ho
     have h2:=g_eq (t:=2) (v:=.pointer (some ⟨w.heap.size,0,none⟩)) (hst 2 (by simp));unfold Oper.wp;go_simp;exact ⟨_,rfl,hK2 _ _ (Chg.refl _ _) rfl⟩
    ·obtain rfl:_=oo:=Option.some.inj ho
     have h3:=g_eq (t:=3) (v:=.pointer (some ⟨w.heap.size+1,0,none⟩)) (hst 3 (by simp));unfold Oper.wp;go_simp;exact ⟨_,rfl,hK2 _ _ (Chg.refl _ _) rfl⟩
    ·obtain rfl:_=oo:=Option.some.inj ho
     have h14:=g_eq (t:=14) (v:=.pointer (some ⟨w.heap.size+1,3,none⟩)) (hdep 1 (by kernel_rfl));unfold Oper.wp;go_simp;exact ⟨_,rfl,hK2 _ _ (Chg.refl _ _) rfl⟩
    ·obtain rfl:_=oo:=Option.some.inj ho
     have h5:=g_eq (t:=5) (v:=.int .i64 n) (hst 5 (by simp));unfold Oper.wp;go_simp;exact ⟨_,rfl,hK2 _ _ (Chg.refl _ _) rfl⟩
    ·obtain rfl:_=oo:=Option.some.inj ho
     have h15:=g_eq (t:=15) (v:=.slice (some ⟨gk,0,none⟩) b.keys.length q3) (hdep 2 (by kernel_rfl));have h16:=g_eq (t:=16) (v:=.int .i64 n) (hdep 3 (by kernel_rfl));unfold Oper.wp;go_simp;exact ⟨_,rfl,hK2 _ _ (Chg.refl _ _) rfl⟩
    ·obtain rfl:_=oo:=Option.some.inj ho
     have h17:=g_eq (t:=17) (v:=.pointer (some ⟨gk,n,none⟩)) (hdep 4 (by kernel_rfl));unfold Oper.wp;go_simp;exact ⟨_,rfl,hK2 _ _ (Chg.refl _ _) rfl⟩
    ·obtain rfl:_=oo:=Option.some.inj ho
     have h13:=g_eq (t:=13) (v:=.agg #[.int .i64 a.kind,.int .i64 a.num,.string a.txt,.slice A1 a.keys.length q1,.slice A2 a.vals.length q2]) (hdep 0 (by kernel_rfl));have h18:=g_eq (t:=18) (v:=.string s) (hdep 5 (by kernel_rfl));unfold Oper.wp;go_simp;refine (has_any a _ s _ (HRA.out _ hcw) hsrt.out hal).mono ?_;rintro e w3 ⟨rfl,hc3⟩;exact ⟨_,rfl,hK2 _ _ hc3 ⟨_,rfl⟩⟩
    ·obtain rfl:_=oo:=Option.some.inj ho
     obtain ⟨b,hb⟩ : ∃ b:Bool,Act.g a' 19=.bool b:=hdep 6 (by kernel_rfl);have h19:=g_eq hb;unfold Oper.wp;go_simp;exact ⟨_,rfl,hK2 _ _ (Chg.refl _ _) ⟨_,rfl⟩⟩
    ·omega
   ·intro u w' hch hφ A2 hA2
    obtain ⟨bb,hub⟩ : ∃ b:Bool,u 7=.bool b:=hφ 7 (by decide);simp [putAll,dOf,Act.put,hub] at hA2;subst hA2;clear hφ hub;have hcw:Chg [] w w':=hcr.trans ((Chg.refl [] wr).dr.trans hch New.nil) New.nil;have za2:=box5 za _ ((Chg.refl [] wr).dr.trans hch New.nil);have zb2:=box5 zb _ ((Chg.refl [] wr).dr.trans hch New.nil);refine HK.out _ _ ?_;clear HK
    cases bb
    ·go_wp2
     go_roundg (b.keys.length - (n+1))
     case measure=>omega
     case rel=>exact ⟨n+1,by omega,rfl,by go_num,hcw,za2,zb2⟩
    ·go_wp2
     go_ret
     exact ⟨_,rfl,hcw⟩
  ·go_wp2
   go_ret
   exact ⟨_,rfl,hcr⟩
end Go.Proofs.YtpofkokbmifhgaaGreatDoor
