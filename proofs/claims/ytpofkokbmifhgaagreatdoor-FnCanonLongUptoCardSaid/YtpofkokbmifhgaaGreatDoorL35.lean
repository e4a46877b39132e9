/- Parts of the walk, made small by wip/tools/pack.py: ViewN. No condition but those in each statement. -/
import Derived.Test.YtpofkokbmifhgaaGreatDoorL34
set_option maxRecDepth 100000
set_option maxHeartbeats 20000000
set_option linter.unusedVariables false
set_option linter.unusedSimpArgs false
namespace Go.Proofs.YtpofkokbmifhgaaGreatDoor
open Go.RowKit
variable {o:Nat->Prop}
def isSc (x:T):Bool:=x.kind == 3 || x.kind == 2 || x.kind == 1
def wordT (x:T):T:=if isSc x then viewW x else .null
theorem Rd.leaf {w:World} {x:T} (hk:x.keys=[]) (hv:x.vals=[]) (A5 A6:Option Addr) (q5 q6:Nat):Rd o w x (.agg #[.int .i64 x.kind,.int .i64 x.num,.string x.txt,.slice A5 x.keys.length q5,.slice A6 x.vals.length q6]):=by
 refine Rd.mk ?_ ?_
 ·rw [hk]
  exact ⟨A5,q5,rfl,Nat.zero_le _,fun h=>absurd h (by simp)⟩
 ·rw [hv]
  exact ⟨A6,q6,rfl,Nat.zero_le _,fun h=>absurd h (by simp)⟩
theorem viewW_leaf {x:T} (h:isSc x=true):(viewW x).keys=[]/\(viewW x).vals=[]:=by
 cases x <;> first | exact ⟨rfl,rfl⟩ | (simp [isSc,T.kind] at h)
theorem viewW_other {x:T} (h:isSc x=false):viewW x=x:=by
 cases x <;> first | rfl | (simp [isSc,T.kind] at h)
theorem word_true {x:T} (h:isSc x=true):wordT x=viewW x:=by unfold wordT; rw [if_pos h]
theorem mergeWord_any (t:T) (v:Value) (w:World) (h:Rd o w t v) (hr:∀ n,t=.int n->-9223372036854775808<=n/\n<=9223372036854775807):Calls Tryz.prog 58 #[v] w fun e w'=>∃ v',e=.returned (.tuple #[v',.bool (isSc t)])/\Chg [] w w'/\Rd o w' (wordT t) v':=by
 obtain ⟨A3,q3,A4,q4,rfl,hk,hv⟩:=h.five
 go_enter Tryz.func58,Tryz.ntmps58
 go_upto_region 1 with fail
 obtain ⟨w1,hw⟩ : ∃ W:World,W=(w.alloc (.cells #[.int .i64 t.kind,.int .i64 t.num,.string t.txt,.slice A3 t.keys.length q3,.slice A4 t.vals.length q4] 25)).alloc (.cells #[.int .i64 0,.int .i64 0,.string ⟨#[]⟩,.slice none 0 0,.slice none 0 0] 25):=⟨_,rfl⟩
 rw [<- hw];have c1:Chg [] w w1:=hw ▸ ((Chg.refl [] w).al _).al _;have zt1:w1.heap[w.heap.size]?=some (.cells #[.int .i64 t.kind,.int .i64 t.num,.string t.txt,.slice A3 t.keys.length q3,.slice A4 t.vals.length q4] 25):=hw ▸ heap_al1 w _ _;have zz1:w1.heap[w.heap.size+1]?=some (.cells #[.int .i64 0,.int .i64 0,.string ⟨#[]⟩,.slice none 0 0,.slice none 0 0] 25):=hw ▸ heap_al2 w _ _;clear hw;obtain ⟨a0,a1,a2,a3,a4,af⟩:=cells5 zt1;obtain ⟨z0,z1,z2,z3,z4,zf⟩:=cells5 zz1
 by_cases h3:t.kind=3
 ·have n3:((t.kind:Int) == 3)=true:=by simp; omega
  have hE:Hid (isSc t=true/\wordT t=t):=Lib.hid (by obtain ⟨s,rfl⟩:=text_of h3; exact ⟨rfl,rfl⟩);have hrx:Rd (Ex o [w.heap.size+1]) w1 t (.agg #[.int .i64 t.kind,.int .i64 t.num,.string t.txt,.slice A3 t.keys.length q3,.slice A4 t.vals.length q4]):=(h.ex (by simp)).chg c1;clear h3 hk hv h;obtain ⟨W,hW,QW,hcW,hrW⟩:=ret5 zz1 c1 (by omega) hrx (by simp);have HRW:=Lib.hid hrW;clear hrx hrW
  go_wp2_with fail
  rw [<- hW];clear hW;obtain ⟨f0,f1,f2,f3,f4,_⟩:=cells5 QW
  go_wp2
  refine bodyPost_ret (v:=(.tuple #[(.agg #[.int .i64 t.kind,.int .i64 t.num,.string t.txt,.slice A3 t.keys.length q3,.slice A4 t.vals.length q4]),.bool true])) (by simp [results,Tryz.results58,go_sem,f0,f1,f2,f3,f4]) rfl ⟨_,congrArg (fun b=>Ending.returned (Value.tuple #[_,Value.bool b])) hE.out.1.symm,hcW,by rw [hE.out.2]; exact HRW.out⟩
 have n3:((t.kind:Int) == 3)=false:=by simp; omega
 by_cases h2:t.kind=2
 ·have n2:((t.kind:Int) == 2)=true:=by simp; omega
  obtain ⟨n,rfl⟩ : ∃ n,t=.int n:=by cases t <;> first | exact ⟨_,rfl⟩ | simp [T.kind] at h2
  obtain ⟨r1,r2⟩:=hr n rfl;have hE:Hid (isSc (.int n)=true/\wordT (.int n)=.text (digits n)):=Lib.hid ⟨rfl,rfl⟩;have hnum:(T.int n).num=n:=rfl;rw [hnum] at a1;have HDZ:=Lib.hid (digits_size r1 r2);clear hk hv h h3 h2 hnum
  go_wp2_with fail
  refine (mergeDigits_any n.natAbs n _ (Nat.le_refl _) r1 r2).mono ?_;rintro e w2 ⟨rfl,hc2⟩
  obtain ⟨sd,hsd⟩ : ∃ sd,sd=digits n:=⟨_,rfl⟩
  rw [<- hsd];have HSD:=Lib.hid hsd;have c2:=c1.trans hc2 New.nil;have zz2:=box5 zz1 _ hc2;clear hsd
  go_wp2_with fail
  refine (specT (o:=Ex o [w.heap.size+1]) sd _).mono ?_;rintro e w3 ⟨v3,rfl,hc3,hr3⟩;obtain ⟨E5,r5,E6,r6,rfl,hjunk⟩:=hr3.five;have c3:=c2.trans hc3 New.nil;have zz3:=box5 zz2 _ hc3;clear hjunk hc3 hc2 z0 z1 z2 z3 z4 zf a0 a1 a2 a3 a4 af;obtain ⟨z0,z1,z2,z3,z4,zf⟩:=cells5 zz3;obtain ⟨W,hW,QW,hcW,hrW⟩:=ret5 zz3 c3 (by omega) hr3 (by simp);have HRW:=Lib.hid hrW;clear hr3 hrW
  go_wp2_with fail
  rw [<- hW];clear hW;obtain ⟨f0,f1,f2,f3,f4,_⟩:=cells5 QW
  go_wp2
  refine bodyPost_ret (v:=(.tuple #[(.agg #[.int .i64 (T.text sd).kind,.int .i64 (T.text sd).num,.string (T.text sd).txt,.slice E5 (T.text sd).keys.length r5,.slice E6 (T.text sd).vals.length r6]),.bool true])) (by simp [results,Tryz.results58,go_sem,f0,f1,f2,f3,f4]) rfl ⟨_,congrArg (fun b=>Ending.returned (Value.tuple #[_,Value.bool b])) hE.out.1.symm,hcW,by rw [hE.out.2,<- HSD.out]; exact HRW.out⟩
 have n2:((t.kind:Int) == 2)=false:=by simp; omega
 by_cases h1:t.kind=1
 ·have n1:((t.kind:Int) == 1)=true:=by simp; omega
  obtain ⟨b,rfl⟩ : ∃ b,t=.bool b:=by cases t <;> first | exact ⟨_,rfl⟩ | simp [T.kind] at h1
  clear hk hv h h3 h2 h1
  cases b
  ·rw [show (T.bool false).num=0 from rfl] at a1
   go_wp2_with fail
   refine (specT (o:=Ex o [w.heap.size+1]) cFalse _).mono ?_;rintro e w3 ⟨v3,rfl,hc3,hr3⟩;obtain ⟨E5,r5,E6,r6,rfl,hjunk⟩:=hr3.five;have c3:=c1.trans hc3 New.nil;have zz3:=box5 zz1 _ hc3;clear hjunk hc3 z0 z1 z2 z3 z4 zf a0 a1 a2 a3 a4 af;obtain ⟨z0,z1,z2,z3,z4,zf⟩:=cells5 zz3;obtain ⟨W,hW,QW,hcW,hrW⟩:=ret5 zz3 c3 (by omega) hr3 (by simp);have HRW:=Lib.hid hrW;clear hr3 hrW
   go_wp2_with fail
   rw [<- hW];clear hW;obtain ⟨f0,f1,f2,f3,f4,_⟩:=cells5 QW
   go_wp2
   refine bodyPost_ret (v:=(.tuple #[(.agg #[.int .i64 (T.text cFalse).kind,.int .i64 (T.text cFalse).num,.string (T.text cFalse).txt,.slice E5 (T.text cFalse).keys.length r5,.slice E6 (T.text cFalse).vals.length r6]),.bool true])) (by simp [results,Tryz.results58,go_sem,f0,f1,f2,f3,f4]) rfl ⟨_,rfl,hcW,HRW.out⟩
  ·rw [show (T.bool true).num=1 from rfl] at a1
   go_wp2_with fail
   refine (specT (o:=Ex o [w.heap.size+1]) cTrue _).mono ?_;rintro e w3 ⟨v3,rfl,hc3,hr3⟩;obtain ⟨E5,r5,E6,r6,rfl,hjunk⟩:=hr3.five;have c3:=c1.trans hc3 New.nil;have zz3:=box5 zz1 _ hc3;clear hjunk hc3 z0 z1 z2 z3 z4 zf a0 a1 a2 a3 a4 af;obtain ⟨z0,z1,z2,z3,z4,zf⟩:=cells5 zz3;obtain ⟨W,hW,QW,hcW,hrW⟩:=ret5 zz3 c3 (by omega) hr3 (by simp);have HRW:=Lib.hid hrW;clear hr3 hrW
   go_wp2_with fail
   rw [<- hW];clear hW;obtain ⟨f0,f1,f2,f3,f4,_⟩:=cells5 QW
   go_wp2
   refine bodyPost_ret (v:=(.tuple #[(.agg #[.int .i64 (T.text cTrue).kind,.int .i64 (T.text cTrue).num,.string (T.text cTrue).txt,.slice E5 (T.text cTrue).keys.length r5,.slice E6 (T.text cTrue).vals.length r6]),.bool true])) (by simp [results,Tryz.results58,go_sem,f0,f1,f2,f3,f4]) rfl ⟨_,rfl,hcW,HRW.out⟩
 have n1:((t.kind:Int) == 1)=false:=by simp; omega
 have hE:Hid (isSc t=false/\wordT t=.null):=Lib.hid (by
  have:isSc t=false:=by unfold isSc; simp; exact ⟨⟨h3,h2⟩,h1⟩
  exact ⟨this,by unfold wordT; rw [this]; rfl⟩)
 obtain ⟨W,hW,QW,hcW,hrW⟩:=ret5 (L:=[w.heap.size+1]) zz1 c1 (by omega) (Rd.zero w1:Rd (Ex o [w.heap.size+1]) w1 .null (.agg #[.int .i64 T.null.kind,.int .i64 T.null.num,.string T.null.txt,.slice none T.null.keys.length 0,.slice none T.null.vals.length 0])) (by simp);have HRW:=Lib.hid hrW;clear hrW hk hv h h3 h2 h1
 go_wp2_with fail
 rw [show (((((w1.setCell ⟨w.heap.size+1,0,none⟩ (.int .i64 0)).setCell ⟨w.heap.size+1,1,none⟩ (.int .i64 0)).setCell ⟨w.heap.size+1,2,none⟩ (.string ⟨#[]⟩)).setCell ⟨w.heap.size+1,3,none⟩ (.slice none 0 0)).setCell ⟨w.heap.size+1,4,none⟩ (.slice none 0 0))=W from hW.symm];clear hW;obtain ⟨f0,f1,f2,f3,f4,_⟩:=cells5 QW
 go_wp2
 refine bodyPost_ret (v:=(.tuple #[.agg #[.int .i64 T.null.kind,.int .i64 T.null.num,.string T.null.txt,.slice none T.null.keys.length 0,.slice none T.null.vals.length 0],.bool false])) (by simp [results,Tryz.results58,go_sem,f0,f1,f2,f3,f4]) rfl ⟨_,congrArg (fun b=>Ending.returned (Value.tuple #[_,Value.bool b])) hE.out.1.symm,hcW,by rw [hE.out.2]; exact HRW.out⟩
theorem viewNamedL_any (t:T) (v:Value) (w:World) (h:Rd o w t v) (hf:Fine t) (h4:t.kind=4) (hno:∀ b,w.heap.size<=b->o b):Calls Tryz.prog 37 #[v] w fun e w'=>∃ v',e=.returned v'/\Chg [] w w'/\Rd o w' (.map (namedL t.vals)) v':=by
 obtain ⟨A3,q3,A4,q4,rfl,hk,hv⟩:=h.five;have hkl:=hf.len
 have n4:((t.kind:Int) == 4)=true:=by simp; omega
 have n4':((t.kind:Int) != 4)=false:=by simp; omega
 clear h4
 go_enter Tryz.func37,Tryz.ntmps37
 go_upto_region 1 with fail
 obtain ⟨w1,hw⟩ : ∃ W:World,W=(w.alloc (.cells #[.int .i64 t.kind,.int .i64 t.num,.string t.txt,.slice A3 t.keys.length q3,.slice A4 t.vals.length q4] 25)).alloc (.cells #[.int .i64 0,.int .i64 0,.string ⟨#[]⟩,.slice none 0 0,.slice none 0 0] 25):=⟨_,rfl⟩
 rw [<- hw];have c1:Chg [] w w1:=hw ▸ ((Chg.refl [] w).al _).al _;have zt1:w1.heap[w.heap.size]?=some (.cells #[.int .i64 t.kind,.int .i64 t.num,.string t.txt,.slice A3 t.keys.length q3,.slice A4 t.vals.length q4] 25):=hw ▸ heap_al1 w _ _;have zz1:w1.heap[w.heap.size+1]?=some (.cells #[.int .i64 0,.int .i64 0,.string ⟨#[]⟩,.slice none 0 0,.slice none 0 0] 25):=hw ▸ heap_al2 w _ _;clear hw;obtain ⟨a0,a1,a2,a3,a4,af⟩:=cells5 zt1;obtain ⟨z0,z1,z2,z3,z4,zf⟩:=cells5 zz1
 go_wp2_with fail
 refine (specEmpty (o:=fun _=>False) _).mono ?_;rintro e w2 ⟨v2,rfl,hc12,hr2⟩;obtain ⟨E5,r5,E6,r6,rfl,_⟩:=hr2.five
 have hsz2:w.heap.size+1 < w2.heap.size:=by have:=(Array.getElem?_eq_some_iff.1 zz1).1; have:=hc12.size; omega
 obtain ⟨w3,hw⟩ : ∃ W:World,W=w2.alloc (.cells #[.int .i64 (T.map []).kind,.int .i64 (T.map []).num,.string (T.map []).txt,.slice E5 (T.map []).keys.length r5,.slice E6 (T.map []).vals.length r6] 25):=⟨_,rfl⟩
 have hc13:Chg [] w1 w3:=hw ▸ hc12.al _;have c3:=c1.trans hc13 New.nil;have zt3:=box5 zt1 _ hc13;have zz3:=box5 zz1 _ hc13
 have hB3:Bx o [w.heap.size+1,w2.heap.size] w2.heap.size (.map []) w3:=⟨E5,r5,E6,r6,hw ▸ heap_alloc_new _ _,(hw ▸ hr2.chg ((Chg.refl [] w2).al _):Rd (fun _=>False) w3 _ _).weak fun _ h=>h.elim⟩
 clear hr2 hc12 a0 a1 a2 a3 a4 af z0 z1 z2 z3 z4 zf
 go_upto_region 4 with fail
 rw [<- hw];clear hw
 go_wp2_with fail
 go_loopg [4] t.vals.length (fun g i wr=>∃ n:Nat,n<=t.vals.length/\g=t.vals.length - n/\i=.int .i64 n/\Chg [] w wr/\wr.heap[w.heap.size]?=some (.cells #[.int .i64 t.kind,.int .i64 t.num,.string t.txt,.slice A3 t.keys.length q3,.slice A4 t.vals.length q4] 25)/\wr.heap[w.heap.size+1]?=some (.cells #[.int .i64 0,.int .i64 0,.string ⟨#[]⟩,.slice none 0 0,.slice none 0 0] 25)/\Bx o [w.heap.size+1,w2.heap.size] w2.heap.size (.map (namedL (t.vals.take n))) wr)
 case atStart=>exact ⟨0,Nat.zero_le _,by omega,rfl,c3,zt3,zz3,by rw [show namedL (t.vals.take 0)=[] from rfl]; exact hB3⟩
 case round=>
  clear zt3 zz3 hB3;obtain ⟨n,hn,rfl,rfl,hcr,zt,zz,hB⟩:=hrel;obtain ⟨a0,a1,a2,a3,a4,af⟩:=cells5 zt;have hszr:w2.heap.size < wr.heap.size:=hB.lt
  by_cases hlt:n < t.vals.length
  ·have hltb:decide ((n:Int) < (t.vals.length:Int))=true:=by simp; omega
   obtain ⟨x,hx⟩ : ∃ x,t.vals[n]?=some x:=⟨_,List.getElem?_eq_getElem hlt⟩
   obtain ⟨ge,c1',A5,q5,A6,q6,e1,hge,rx,ye⟩:=hv.elem hx
   cases e1
   have hfx:=hf.vals (List.mem_of_getElem? hx);have HX:=Lib.hid hx;have HRX:=Lib.hid rx;obtain ⟨y0,y1,y2,y3,y4⟩:=ye _ hcr
   obtain ⟨wb,hw⟩ : ∃ W:World,W=wr.alloc (.cells #[.int .i64 x.kind,.int .i64 x.num,.string x.txt,.slice A5 x.keys.length q5,.slice A6 x.vals.length q6] 25):=⟨_,rfl⟩
   obtain ⟨XB,hXB⟩ : ∃ XB:Nat,XB=wr.heap.size:=⟨_,rfl⟩
   have hcb:Chg [] wr wb:=hw ▸ (Chg.refl [] wr).al _;have cb:=hcr.trans hcb New.nil
   have hXb:wb.heap[XB]?=some (.cells #[.int .i64 x.kind,.int .i64 x.num,.string x.txt,.slice A5 x.keys.length q5,.slice A6 x.vals.length q6] 25):=by rw [hXB,hw]; exact heap_alloc_new _ _
   have ztb:=box5 zt _ hcb;have zzb:=box5 zz _ hcb;have hBb:=hB.go hcb
   have HBLOW0:Hid (∃ G5 g5 G6 g6,wb.heap[w2.heap.size]?=some (.cells #[.int .i64 (T.map (namedL (t.vals.take n))).kind,.int .i64 (T.map (namedL (t.vals.take n))).num,.string (T.map (namedL (t.vals.take n))).txt,.slice G5 (T.map (namedL (t.vals.take n))).keys.length g5,.slice G6 (T.map (namedL (t.vals.take n))).vals.length g6] 25)/\Rd (fun b=>Ex o [w.heap.size+1,w2.heap.size] b/\b < XB) wb (.map (namedL (t.vals.take n))) (.agg #[.int .i64 (T.map (namedL (t.vals.take n))).kind,.int .i64 (T.map (namedL (t.vals.take n))).num,.string (T.map (namedL (t.vals.take n))).txt,.slice G5 (T.map (namedL (t.vals.take n))).keys.length g5,.slice G6 (T.map (namedL (t.vals.take n))).vals.length g6])):=Lib.hid (by
    obtain ⟨G5,g5,G6,g6,hb,hr⟩:=hB.box
    exact ⟨G5,g5,G6,g6,box5 hb _ hcb,by rw [hXB]; exact hr.lo.chg hcb⟩)
   have hXl:w2.heap.size < XB:=by omega
   have hXs:XB < wb.heap.size:=(Array.getElem?_eq_some_iff.1 hXb).1;clear hx rx ye
   go_upto_region 8 with fail
   rw [<- hw,<- hXB];clear hw hXB a0 a1 a2 a3 a4 af y0 y1 y2 y3 y4 zt zz hB hcr hcb;obtain ⟨x0,x1,x2,x3,x4,xf⟩:=cells5 hXb;obtain ⟨a0,a1,a2,a3,a4,af⟩:=cells5 ztb
   go_wp2_with fail
   refine (mergeSplit_any x.txt _ hfx.txt).mono ?_;rintro e w4 ⟨v',rfl,hc4,hr4⟩
   obtain ⟨kk,hkk⟩ : ∃ kk,kk=cutK x.txt:=⟨_,rfl⟩
   obtain ⟨vv,hvv⟩ : ∃ vv,vv=cutV x.txt:=⟨_,rfl⟩
   rw [<- hkk];rw [<- hvv] at hr4;have HKV:=Lib.hid (And.intro hkk hvv)
   have hleaf:vv.keys=[]/\vv.vals=[]:=by rw [hvv]; unfold cutV; split <;> exact ⟨rfl,rfl⟩
   clear hkk hvv;obtain ⟨A7,q7,A8,q8,rfl,hjunk⟩:=hr4.five;have c4:=cb.trans hc4 New.nil;have hX4:=box5 hXb _ hc4;have hB4:=hBb.go hc4;have zt4:=box5 ztb _ hc4;have zz4:=box5 zzb _ hc4;have hs4:=hc4.size;obtain ⟨w6,hw6,hX6,hne6,c6,hsz6⟩:=store5 hX4 c4 (by omega:w.heap.size<=XB) (.int .i64 vv.kind) (.int .i64 vv.num) (.string vv.txt) (.slice A7 vv.keys.length q7) (.slice A8 vv.vals.length q8);have zt6:=(hne6 w.heap.size (by omega)).trans zt4;have zz6:=(hne6 (w.heap.size+1) (by omega)).trans zz4
   have hB6:Bx o [w.heap.size+1,w2.heap.size] w2.heap.size (.map (namedL (t.vals.take n))) w6:=by
    obtain ⟨G5,g5,G6,g6,hb,hr⟩:=HBLOW0.out;have hb:=box5 hb _ hc4;have hr:=hr.chg hc4;exact ⟨G5,g5,G6,g6,(hne6 _ (by omega)).trans hb,hr.to fun b hb ho=>⟨ho.1,hne6 b (by have:=ho.2; omega)⟩⟩
   have hrv:Rd (Ex o [w.heap.size+1,w2.heap.size]) w6 vv (.agg #[.int .i64 vv.kind,.int .i64 vv.num,.string vv.txt,.slice A7 vv.keys.length q7,.slice A8 vv.vals.length q8]):=Rd.leaf hleaf.1 hleaf.2 _ _ _ _;have HRV:=Lib.hid hrv;clear hr4 hc4 hjunk hrv hleaf x0 x1 x2 x3 x4 xf a0 a1 a2 a3 a4 af;obtain ⟨x0,x1,x2,x3,x4,xf⟩:=cells5 hX4
   have hs6:wb.heap.size<=w6.heap.size:=by omega
   clear hne6 hsz6
   go_upto_region 15 with fail
   rw [<- hw6];clear hw6 x0 x1 x2 x3 x4 xf hX4;obtain ⟨E5,r5,E6,r6,hbx,hrx⟩:=hB6.box;obtain ⟨d0,d1,d2,d3,d4,df⟩:=cells5 hbx;obtain ⟨x0,x1,x2,x3,x4,xf⟩:=cells5 hX6;have HR:=Lib.hid (And.intro hrx (HRV.out));have hsn:=c6.size;have hD9:w2.heap.size < w6.heap.size:=hB6.lt;clear hrx
   go_wp2_with fail
   refine (with_map (o:=Ex o [w.heap.size+1,w2.heap.size]) (namedL (t.vals.take n)) vv _ _ kk w6 HR.out.1 (named_srt _) HR.out.2 (by have h1:=@named_len (t.vals.take n); simp at h1; omega) (Ex.no hno (by omega) (by simp; omega))).mono ?_;rintro e w8 ⟨v8,rfl,hc8,hr8⟩;rw [HKV.out.1,HKV.out.2,<- named_take HX.out] at hr8;obtain ⟨e5,n5,e6,n6,rfl,hjunk⟩:=hr8.five;have c8:=c6.trans hc8 New.nil;obtain ⟨W,hW,hBW,hcW,hne,hszW,_⟩:=(hB6.go hc8).put (by simp) c8 (by omega) hr8;have ztW:=(hne w.heap.size (by omega)).trans (box5 zt6 _ hc8);have zzW:=(hne (w.heap.size+1) (by omega)).trans (box5 zz6 _ hc8);have hb8:=box5 hbx _ hc8;have HW:=Lib.hid (And.intro hBW (And.intro hcW (And.intro ztW zzW)));clear hr8 hBW hcW hne hszW ztW zzW d0 d1 d2 d3 d4 df hbx hjunk x0 x1 x2 x3 x4 xf;obtain ⟨d0,d1,d2,d3,d4,df⟩:=cells5 hb8
   go_wp2_with fail
   rw [<- hW];clear hW
   go_roundg (t.vals.length - (n+1))
   case measure=>omega
   case rel=>exact ⟨n+1,by omega,rfl,by go_num,HW.out.2.1,HW.out.2.2.1,HW.out.2.2.2,HW.out.1⟩
  ·have hltb:¬ n < t.vals.length:=hlt
   have he:namedL (t.vals.take n)=namedL t.vals:=by rw [show n=t.vals.length by omega]; rw [List.take_length]
   obtain ⟨U,hU⟩ : ∃ U,U=namedL t.vals:=⟨_,rfl⟩
   rw [he,<- hU] at hB;have HU:=Lib.hid hU;obtain ⟨E5,r5,E6,r6,hbx,hrx⟩:=hB.box;obtain ⟨d0,d1,d2,d3,d4,df⟩:=cells5 hbx;obtain ⟨z0,z1,z2,z3,z4,zf⟩:=cells5 zz;clear he hU;obtain ⟨W,hW,QW,hcW,hrW⟩:=ret5 zz hcr (by omega) hrx (by simp);have HRW:=Lib.hid hrW;clear hrx hrW hbx
   go_wp2_with fail
   rw [<- hW];clear hW;obtain ⟨f0,f1,f2,f3,f4,_⟩:=cells5 QW
   go_wp2
   refine bodyPost_ret (v:=(.agg #[.int .i64 (T.map U).kind,.int .i64 (T.map U).num,.string (T.map U).txt,.slice E5 (T.map U).keys.length r5,.slice E6 (T.map U).vals.length r6])) (by simp [results,Tryz.results37,go_sem,f0,f1,f2,f3,f4]) rfl ⟨_,rfl,hcW,by rw [<- HU.out]; exact HRW.out⟩
def vwM (m:List (ByteArray × T)):List (ByteArray × T):=m.map fun p=>(p.1,viewW p.2)
theorem vwM_srt {m:List (ByteArray × T)} (h:Srt m):Srt (vwM m):=srt_map (f:=fun _ x=>viewW x) h
theorem vwM_step {m:List (ByteArray × T)} {n:Nat} {k:ByteArray} {x:T} (hs:Srt m) (h:m[n]?=some (k,x)):mins k (viewW x) ((vwM m).take n)=(vwM m).take (n+1):=ins_take (vwM_srt hs) (by simp [vwM,h])
theorem viewNamedM_any (t:T) (m:List (ByteArray × T)) (hm:t=.map m) (v:Value) (w:World) (h:Rd o w t v) (hf:Fine t) (hno:∀ b,w.heap.size<=b->o b):Calls Tryz.prog 37 #[v] w fun e w'=>∃ v',e=.returned v'/\Chg [] w w'/\Rd o w' (.map (vwM m)) v':=by
 obtain ⟨A3,q3,A4,q4,rfl,hk,hv⟩:=h.five;have hkl:=hf.len;have HM:=Lib.hid hm;have hsm:Hid (Srt m):=Lib.hid (hf.wf.srt m hm);have hml:Hid (t.vals.length=m.length/\t.keys.length=m.length):=Lib.hid (by rw [hm]; simp [T.vals,T.keys])
 have h5:t.kind=5:=by rw [hm]; rfl
 have n4:((t.kind:Int) == 4)=false:=by simp; omega
 have n4':((t.kind:Int) != 4)=true:=by simp; omega
 have n5:((t.kind:Int) != 5)=false:=by simp; omega
 clear h5 hm
 go_enter Tryz.func37,Tryz.ntmps37
 go_upto_region 1 with fail
 obtain ⟨w1,hw⟩ : ∃ W:World,W=(w.alloc (.cells #[.int .i64 t.kind,.int .i64 t.num,.string t.txt,.slice A3 t.keys.length q3,.slice A4 t.vals.length q4] 25)).alloc (.cells #[.int .i64 0,.int .i64 0,.string ⟨#[]⟩,.slice none 0 0,.slice none 0 0] 25):=⟨_,rfl⟩
 rw [<- hw];have c1:Chg [] w w1:=hw ▸ ((Chg.refl [] w).al _).al _;have zt1:w1.heap[w.heap.size]?=some (.cells #[.int .i64 t.kind,.int .i64 t.num,.string t.txt,.slice A3 t.keys.length q3,.slice A4 t.vals.length q4] 25):=hw ▸ heap_al1 w _ _;have zz1:w1.heap[w.heap.size+1]?=some (.cells #[.int .i64 0,.int .i64 0,.string ⟨#[]⟩,.slice none 0 0,.slice none 0 0] 25):=hw ▸ heap_al2 w _ _;clear hw;obtain ⟨a0,a1,a2,a3,a4,af⟩:=cells5 zt1;obtain ⟨z0,z1,z2,z3,z4,zf⟩:=cells5 zz1
 go_wp2_with fail
 refine (specEmpty (o:=fun _=>False) _).mono ?_;rintro e w2 ⟨v2,rfl,hc12,hr2⟩;obtain ⟨E5,r5,E6,r6,rfl,_⟩:=hr2.five
 have hsz2:w.heap.size+1 < w2.heap.size:=by have:=(Array.getElem?_eq_some_iff.1 zz1).1; have:=hc12.size; omega
 obtain ⟨w3,hw⟩ : ∃ W:World,W=w2.alloc (.cells #[.int .i64 (T.map []).kind,.int .i64 (T.map []).num,.string (T.map []).txt,.slice E5 (T.map []).keys.length r5,.slice E6 (T.map []).vals.length r6] 25):=⟨_,rfl⟩
 have hc13:Chg [] w1 w3:=hw ▸ hc12.al _;have c3:=c1.trans hc13 New.nil;have zt3:=box5 zt1 _ hc13;have zz3:=box5 zz1 _ hc13
 have hB3:Bx o [w.heap.size+1,w2.heap.size] w2.heap.size (.map []) w3:=⟨E5,r5,E6,r6,hw ▸ heap_alloc_new _ _,(hw ▸ hr2.chg ((Chg.refl [] w2).al _):Rd (fun _=>False) w3 _ _).weak fun _ h=>h.elim⟩
 clear hr2 hc12 a0 a1 a2 a3 a4 af z0 z1 z2 z3 z4 zf
 go_upto_region 4 with fail
 rw [<- hw];clear hw
 go_wp2_with fail
 go_loopg [4] t.vals.length (fun g i wr=>∃ n:Nat,n<=t.vals.length/\g=t.vals.length - n/\i=.int .i64 n/\Chg [] w wr/\wr.heap[w.heap.size]?=some (.cells #[.int .i64 t.kind,.int .i64 t.num,.string t.txt,.slice A3 t.keys.length q3,.slice A4 t.vals.length q4] 25)/\wr.heap[w.heap.size+1]?=some (.cells #[.int .i64 0,.int .i64 0,.string ⟨#[]⟩,.slice none 0 0,.slice none 0 0] 25)/\Bx o [w.heap.size+1,w2.heap.size] w2.heap.size (.map ((vwM m).take n)) wr)
 case atStart=>exact ⟨0,Nat.zero_le _,by omega,rfl,c3,zt3,zz3,by rw [show (vwM m).take 0=[] from rfl]; exact hB3⟩
 case round=>
  clear zt3 zz3 hB3;obtain ⟨n,hn,rfl,rfl,hcr,zt,zz,hB⟩:=hrel;obtain ⟨a0,a1,a2,a3,a4,af⟩:=cells5 zt;have hszr:w2.heap.size < wr.heap.size:=hB.lt
  by_cases hlt:n < t.vals.length
  ·have hltb:decide ((n:Int) < (t.vals.length:Int))=true:=by simp; omega
   obtain ⟨x,hx⟩ : ∃ x,t.vals[n]?=some x:=⟨_,List.getElem?_eq_getElem hlt⟩
   obtain ⟨ge,c1',A5,q5,A6,q6,e1,hge,rx,ye⟩:=hv.elem hx
   cases e1
   have hfx:=hf.vals (List.mem_of_getElem? hx);have HX:=Lib.hid hx;have HRX:=Lib.hid rx;obtain ⟨y0,y1,y2,y3,y4⟩:=ye _ hcr
   obtain ⟨q,hq⟩ : ∃ q,m[n]?=some q:=⟨_,List.getElem?_eq_getElem (by have:=hml.out.1; omega)⟩
   obtain ⟨kk,x'⟩:=q
   have hxe:x'=x:=by
    have h1:(T.map m).vals[n]?=some x':=by simp [T.vals,hq]
    rw [<- HM.out,hx] at h1;exact (Option.some.inj h1).symm
   rw [hxe] at hq;clear hxe x';have HQ:=Lib.hid hq;obtain ⟨gk,ck,ek,hgk,yk⟩:=hk.elem (n:=n) (s:=kk) (by rw [HM.out]; simp [T.keys,hq])
   cases ek
   have YK:=Lib.hid yk
   have hrng:∀ nn,x=.int nn->-9223372036854775808<=nn/\nn<=9223372036854775807:=fun nn e=>by have:=hfx.wf; rw [e] at this; exact this
   have HRNG:=Lib.hid hrng
   have hlk:n < t.keys.length:=by have:=hml.out; omega
   clear hq yk hrng
   obtain ⟨wb,hw⟩ : ∃ W:World,W=wr.alloc (.cells #[.int .i64 x.kind,.int .i64 x.num,.string x.txt,.slice A5 x.keys.length q5,.slice A6 x.vals.length q6] 25):=⟨_,rfl⟩
   obtain ⟨XB,hXB⟩ : ∃ XB:Nat,XB=wr.heap.size:=⟨_,rfl⟩
   have hcb:Chg [] wr wb:=hw ▸ (Chg.refl [] wr).al _;have cb:=hcr.trans hcb New.nil
   have hXb:wb.heap[XB]?=some (.cells #[.int .i64 x.kind,.int .i64 x.num,.string x.txt,.slice A5 x.keys.length q5,.slice A6 x.vals.length q6] 25):=by rw [hXB,hw]; exact heap_alloc_new _ _
   have ztb:=box5 zt _ hcb;have zzb:=box5 zz _ hcb;have hBb:=hB.go hcb
   have HBLOW0:Hid (∃ G5 g5 G6 g6,wb.heap[w2.heap.size]?=some (.cells #[.int .i64 (T.map ((vwM m).take n)).kind,.int .i64 (T.map ((vwM m).take n)).num,.string (T.map ((vwM m).take n)).txt,.slice G5 (T.map ((vwM m).take n)).keys.length g5,.slice G6 (T.map ((vwM m).take n)).vals.length g6] 25)/\Rd (fun b=>Ex o [w.heap.size+1,w2.heap.size] b/\b < XB) wb (.map ((vwM m).take n)) (.agg #[.int .i64 (T.map ((vwM m).take n)).kind,.int .i64 (T.map ((vwM m).take n)).num,.string (T.map ((vwM m).take n)).txt,.slice G5 (T.map ((vwM m).take n)).keys.length g5,.slice G6 (T.map ((vwM m).take n)).vals.length g6])):=Lib.hid (by
    obtain ⟨G5,g5,G6,g6,hb,hr⟩:=hB.box
    exact ⟨G5,g5,G6,g6,box5 hb _ hcb,by rw [hXB]; exact hr.lo.chg hcb⟩)
   have hXl:w2.heap.size < XB:=by omega
   have hXs:XB < wb.heap.size:=(Array.getElem?_eq_some_iff.1 hXb).1;clear hx rx ye
   go_upto_region 8 with fail
   rw [<- hw,<- hXB];clear hw hXB a0 a1 a2 a3 a4 af y0 y1 y2 y3 y4 zt zz hB hcr hcb;obtain ⟨x0,x1,x2,x3,x4,xf⟩:=cells5 hXb;obtain ⟨a0,a1,a2,a3,a4,af⟩:=cells5 ztb;have hyk:=YK.out _ cb
   go_wp2_with fail
   refine (mergeWord_any (o:=Ex o [w.heap.size+1,w2.heap.size]) x _ wb (((HRX.out.ex (by simp; omega)).chg cb)) HRNG.out).mono ?_;rintro e w4 ⟨v4,rfl,hc4,hr4⟩
   obtain ⟨bq,hbq⟩ : ∃ b,b=isSc x:=⟨_,rfl⟩
   rw [<- hbq];have HBQ:=Lib.hid hbq
   obtain ⟨vv,hvv⟩ : ∃ vv,vv=wordT x:=⟨_,rfl⟩
   rw [<- hvv] at hr4;have HVV:=Lib.hid hvv;clear hbq hvv;obtain ⟨A7,q7,A8,q8,rfl,hjunk⟩:=hr4.five
   obtain ⟨w5,hw⟩ : ∃ W:World,W=w4.alloc (.cells #[.int .i64 vv.kind,.int .i64 vv.num,.string vv.txt,.slice A7 vv.keys.length q7,.slice A8 vv.vals.length q8] 25):=⟨_,rfl⟩
   have hcb5:Chg [] wb w5:=hw ▸ hc4.al _;have c5:=cb.trans hcb5 New.nil;have hV5:w5.heap[w4.heap.size]?=some (.cells #[.int .i64 vv.kind,.int .i64 vv.num,.string vv.txt,.slice A7 vv.keys.length q7,.slice A8 vv.vals.length q8] 25):=hw ▸ heap_alloc_new _ _;have hX5:=box5 hXb _ hcb5;have hB5:=hBb.go hcb5;have zt5:=box5 ztb _ hcb5;have zz5:=box5 zzb _ hcb5;have hs5:=hcb5.size;have hs4:=hc4.size;clear hr4 hc4 hjunk x0 x1 x2 x3 x4 xf a0 a1 a2 a3 a4 af hyk
   go_upto_region 13 with fail
   rw [<- hw];clear hw
   have HBLOW:Hid (∃ G5 g5 G6 g6,w5.heap[w2.heap.size]?=some (.cells #[.int .i64 (T.map ((vwM m).take n)).kind,.int .i64 (T.map ((vwM m).take n)).num,.string (T.map ((vwM m).take n)).txt,.slice G5 (T.map ((vwM m).take n)).keys.length g5,.slice G6 (T.map ((vwM m).take n)).vals.length g6] 25)/\Rd (fun b=>Ex o [w.heap.size+1,w2.heap.size] b/\b < XB) w5 (.map ((vwM m).take n)) (.agg #[.int .i64 (T.map ((vwM m).take n)).kind,.int .i64 (T.map ((vwM m).take n)).num,.string (T.map ((vwM m).take n)).txt,.slice G5 (T.map ((vwM m).take n)).keys.length g5,.slice G6 (T.map ((vwM m).take n)).vals.length g6])):=Lib.hid (by
    obtain ⟨G5,g5,G6,g6,hb,hr⟩:=HBLOW0.out
    exact ⟨G5,g5,G6,g6,box5 hb _ hcb5,hr.chg hcb5⟩)
   cases bq
   ·have HVW:Hid (viewW x=x):=Lib.hid (viewW_other (by have:=HBQ.out; first | exact this.symm | simpa using this))
    go_upto_region 15 with fail
    obtain ⟨E5,r5,E6,r6,hbx,hrx⟩:=hB5.box;obtain ⟨d0,d1,d2,d3,d4,df⟩:=cells5 hbx;obtain ⟨x0,x1,x2,x3,x4,xf⟩:=cells5 hX5;have HR:=Lib.hid (And.intro hrx (((HRX.out.ex (L:=[w.heap.size+1,w2.heap.size]) (by simp; omega)).chg c5)));have hsn:=c5.size;have hD9:w2.heap.size < w5.heap.size:=hB5.lt;clear hrx
    go_wp2_with fail
    refine (with_map (o:=Ex o [w.heap.size+1,w2.heap.size]) ((vwM m).take n) x _ _ kk w5 HR.out.1 ((vwM_srt hsm.out).take n) HR.out.2 (by have:=hml.out; simp [vwM]; omega) (Ex.no hno (by omega) (by simp; omega))).mono ?_;rintro e w8 ⟨v8,rfl,hc8,hr8⟩;rw [show mins kk x ((vwM m).take n)=(vwM m).take (n+1) by rw [<- vwM_step hsm.out HQ.out,HVW.out]] at hr8;obtain ⟨e5,n5,e6,n6,rfl,hjunk⟩:=hr8.five;have c8:=c5.trans hc8 New.nil;obtain ⟨W,hW,hBW,hcW,hne,hszW,_⟩:=(hB5.go hc8).put (by simp) c8 (by omega) hr8;have ztW:=(hne w.heap.size (by omega)).trans (box5 zt5 _ hc8);have zzW:=(hne (w.heap.size+1) (by omega)).trans (box5 zz5 _ hc8);have hb8:=box5 hbx _ hc8;have HW:=Lib.hid (And.intro hBW (And.intro hcW (And.intro ztW zzW)));clear hr8 hBW hcW hne hszW ztW zzW d0 d1 d2 d3 d4 df hbx hjunk x0 x1 x2 x3 x4 xf;obtain ⟨d0,d1,d2,d3,d4,df⟩:=cells5 hb8
    go_wp2_with fail
    rw [<- hW];clear hW
    go_roundg (t.vals.length - (n+1))
    case measure=>omega
    case rel=>exact ⟨n+1,by omega,rfl,by go_num,HW.out.2.1,HW.out.2.2.1,HW.out.2.2.2,HW.out.1⟩
   ·have HVW:Hid (vv=viewW x/\vv.keys=[]/\vv.vals=[]):=Lib.hid (by
     have hb:isSc x=true:=by have:=HBQ.out; first | exact this.symm | simpa using this
     have h1:=word_true hb;have h2:=viewW_leaf hb;rw [HVV.out,h1]
     exact ⟨rfl,h2⟩)
    obtain ⟨w6,hw6,hX6,hne6,c6,hsz6⟩:=store5 hX5 c5 (by omega:w.heap.size<=XB) (.int .i64 vv.kind) (.int .i64 vv.num) (.string vv.txt) (.slice A7 vv.keys.length q7) (.slice A8 vv.vals.length q8);have zt6:=(hne6 w.heap.size (by omega)).trans zt5;have zz6:=(hne6 (w.heap.size+1) (by omega)).trans zz5
    have hB6:Bx o [w.heap.size+1,w2.heap.size] w2.heap.size (.map ((vwM m).take n)) w6:=by
     obtain ⟨G5,g5,G6,g6,hb,hr⟩:=HBLOW.out;exact ⟨G5,g5,G6,g6,(hne6 _ (by omega)).trans hb,hr.to fun b hb ho=>⟨ho.1,hne6 b (by have:=ho.2; omega)⟩⟩
    have hrv:Rd (Ex o [w.heap.size+1,w2.heap.size]) w6 vv (.agg #[.int .i64 vv.kind,.int .i64 vv.num,.string vv.txt,.slice A7 vv.keys.length q7,.slice A8 vv.vals.length q8]):=Rd.leaf HVW.out.2.1 HVW.out.2.2 _ _ _ _;have HRV:=Lib.hid hrv
    have hs6:wb.heap.size<=w6.heap.size:=by omega
    clear hrv hne6 hsz6;obtain ⟨x0,x1,x2,x3,x4,xf⟩:=cells5 hX5;obtain ⟨b0,b1,b2,b3,b4,bf⟩:=cells5 hV5
    go_upto_region 15 with fail
    rw [<- hw6];clear hw6 x0 x1 x2 x3 x4 xf b0 b1 b2 b3 b4 bf hX5;obtain ⟨E5,r5,E6,r6,hbx,hrx⟩:=hB6.box;obtain ⟨d0,d1,d2,d3,d4,df⟩:=cells5 hbx;obtain ⟨x0,x1,x2,x3,x4,xf⟩:=cells5 hX6;have HR:=Lib.hid (And.intro hrx (HRV.out));have hsn:=c6.size;have hD9:w2.heap.size < w6.heap.size:=hB6.lt;clear hrx
    go_wp2_with fail
    refine (with_map (o:=Ex o [w.heap.size+1,w2.heap.size]) ((vwM m).take n) vv _ _ kk w6 HR.out.1 ((vwM_srt hsm.out).take n) HR.out.2 (by have:=hml.out; simp [vwM]; omega) (Ex.no hno (by omega) (by simp; omega))).mono ?_;rintro e w8 ⟨v8,rfl,hc8,hr8⟩;rw [show mins kk vv ((vwM m).take n)=(vwM m).take (n+1) by rw [<- vwM_step hsm.out HQ.out,HVW.out.1]] at hr8;obtain ⟨e5,n5,e6,n6,rfl,hjunk⟩:=hr8.five;have c8:=c6.trans hc8 New.nil;obtain ⟨W,hW,hBW,hcW,hne,hszW,_⟩:=(hB6.go hc8).put (by simp) c8 (by omega) hr8;have ztW:=(hne w.heap.size (by omega)).trans (box5 zt6 _ hc8);have zzW:=(hne (w.heap.size+1) (by omega)).trans (box5 zz6 _ hc8);have hb8:=box5 hbx _ hc8;have HW:=Lib.hid (And.intro hBW (And.intro hcW (And.intro ztW zzW)));clear hr8 hBW hcW hne hszW ztW zzW d0 d1 d2 d3 d4 df hbx hjunk x0 x1 x2 x3 x4 xf;obtain ⟨d0,d1,d2,d3,d4,df⟩:=cells5 hb8
    go_wp2_with fail
    rw [<- hW];clear hW
    go_roundg (t.vals.length - (n+1))
    case measure=>omega
    case rel=>exact ⟨n+1,by omega,rfl,by go_num,HW.out.2.1,HW.out.2.2.1,HW.out.2.2.2,HW.out.1⟩
  ·have hltb:¬ n < t.vals.length:=hlt
   have he:(vwM m).take n=vwM m:=by rw [show n=t.vals.length by omega]; rw [hml.out.1]; exact List.take_of_length_le (by simp [vwM])
   obtain ⟨U,hU⟩ : ∃ U,U=vwM m:=⟨_,rfl⟩
   rw [he,<- hU] at hB;have HU:=Lib.hid hU;obtain ⟨E5,r5,E6,r6,hbx,hrx⟩:=hB.box;obtain ⟨d0,d1,d2,d3,d4,df⟩:=cells5 hbx;obtain ⟨z0,z1,z2,z3,z4,zf⟩:=cells5 zz;clear he hU;obtain ⟨W,hW,QW,hcW,hrW⟩:=ret5 zz hcr (by omega) hrx (by simp);have HRW:=Lib.hid hrW;clear hrx hrW hbx
   go_wp2_with fail
   rw [<- hW];clear hW;obtain ⟨f0,f1,f2,f3,f4,_⟩:=cells5 QW
   go_wp2
   refine bodyPost_ret (v:=(.agg #[.int .i64 (T.map U).kind,.int .i64 (T.map U).num,.string (T.map U).txt,.slice E5 (T.map U).keys.length r5,.slice E6 (T.map U).vals.length r6])) (by simp [results,Tryz.results37,go_sem,f0,f1,f2,f3,f4]) rfl ⟨_,rfl,hcW,by rw [<- HU.out]; exact HRW.out⟩
theorem viewNamed_any (t:T) (v:Value) (w:World) (h:Rd o w t v) (hf:Fine t) (hno:∀ b,w.heap.size<=b->o b):Calls Tryz.prog 37 #[v] w fun e w'=>∃ v',e=.returned v'/\Chg [] w w'/\Rd o w' (viewN t) v':=by
 by_cases h4:t.kind=4
 ·obtain ⟨l,rfl⟩:=list_of h4
  exact viewNamedL_any _ v w h hf h4 hno
 by_cases h5:t.kind=5
 ·obtain ⟨m,rfl⟩:=map_of h5
  exact viewNamedM_any _ m rfl v w h hf hno
 obtain ⟨A3,q3,A4,q4,rfl,hk,hv⟩:=h.five
 have n4:((t.kind:Int) != 4)=true:=by simp; omega
 have n5:((t.kind:Int) != 5)=true:=by simp; omega
 have hu:Hid (viewN t=t):=Lib.hid (by cases t <;> first | rfl | exact absurd rfl h4 | exact absurd rfl h5)
 go_enter Tryz.func37,Tryz.ntmps37
 go_upto_region 1 with fail
 obtain ⟨w1,hw⟩ : ∃ W:World,W=(w.alloc (.cells #[.int .i64 t.kind,.int .i64 t.num,.string t.txt,.slice A3 t.keys.length q3,.slice A4 t.vals.length q4] 25)).alloc (.cells #[.int .i64 0,.int .i64 0,.string ⟨#[]⟩,.slice none 0 0,.slice none 0 0] 25):=⟨_,rfl⟩
 rw [<- hw];have c1:Chg [] w w1:=hw ▸ ((Chg.refl [] w).al _).al _;have zt1:w1.heap[w.heap.size]?=some (.cells #[.int .i64 t.kind,.int .i64 t.num,.string t.txt,.slice A3 t.keys.length q3,.slice A4 t.vals.length q4] 25):=hw ▸ heap_al1 w _ _;have zz1:w1.heap[w.heap.size+1]?=some (.cells #[.int .i64 0,.int .i64 0,.string ⟨#[]⟩,.slice none 0 0,.slice none 0 0] 25):=hw ▸ heap_al2 w _ _;clear hw;obtain ⟨a0,a1,a2,a3,a4,af⟩:=cells5 zt1;obtain ⟨z0,z1,z2,z3,z4,zf⟩:=cells5 zz1;have hrx:Rd (Ex o [w.heap.size+1]) w1 t (.agg #[.int .i64 t.kind,.int .i64 t.num,.string t.txt,.slice A3 t.keys.length q3,.slice A4 t.vals.length q4]):=(h.ex (by simp)).chg c1;clear h4 h5 hk hv h;obtain ⟨W,hW,QW,hcW,hrW⟩:=ret5 zz1 c1 (by omega) hrx (by simp);have HRW:=Lib.hid hrW;clear hrx hrW
 go_wp2_with fail
 rw [<- hW];clear hW;obtain ⟨f0,f1,f2,f3,f4,_⟩:=cells5 QW
 go_wp2
 refine bodyPost_ret (v:=(.agg #[.int .i64 t.kind,.int .i64 t.num,.string t.txt,.slice A3 t.keys.length q3,.slice A4 t.vals.length q4])) (by simp [results,Tryz.results37,go_sem,f0,f1,f2,f3,f4]) rfl ⟨_,rfl,hcW,by rw [hu.out]; exact HRW.out⟩
end Go.Proofs.YtpofkokbmifhgaaGreatDoor
