/- Parts of the walk, made small by wip/tools/pack.py: CFiles, CAttr. No condition but those in each statement. -/
import Derived.Test.YtpofkokbmifhgaaGreatDoorL30
set_option maxRecDepth 100000
set_option maxHeartbeats 20000000
set_option linter.unusedVariables false
set_option linter.unusedSimpArgs false
namespace Go.Proofs.YtpofkokbmifhgaaGreatDoor
open Go.RowKit
variable {o:Nat->Prop}
theorem fileC_other {x:T} (h:x.kind≠3):fileC x=x:=by cases x <;> first | rfl | exact absurd rfl h
theorem fileC_text {x:T} (h:x.kind=3):fileC x=.map [(cSource,x)]:=by obtain ⟨s,rfl⟩:=text_of h; rfl
theorem al3b (w:World) (o1 o2 o3:Obj):(((w.alloc o1).alloc o2).alloc o3).heap[w.heap.size]?=some o1/\(((w.alloc o1).alloc o2).alloc o3).heap[w.heap.size+1]?=some o2/\(((w.alloc o1).alloc o2).alloc o3).heap[w.heap.size+2]?=some o3:=
 ⟨(heap_alloc_old _ _ _ (by simp; omega)).trans (heap_al1 w o1 o2),(heap_alloc_old _ _ _ (by simp)).trans (heap_al2 w o1 o2),heap_alloc_at _ _ _ (by simp)⟩
theorem canonFiles_any (t:T) (v:Value) (w:World) (h:Rd o w t v) (hf:Fine t) (hno:∀ b,w.heap.size<=b->o b):Calls Tryz.prog 102 #[v] w fun e w'=>∃ v',e=.returned v'/\Chg [] w w'/\Rd o w' (filesC t) v':=by
 obtain ⟨A3,q3,A4,q4,rfl,hk,hv⟩:=h.five;have hkl:=hf.len
 go_enter Tryz.func102,Tryz.ntmps102
 go_wp2_with fail
 go_loopg [4] t.vals.length (fun g i wr=>∃ (n:Nat) (A:Option Addr) (c:Nat) (V:List T),Hid (V=(t.vals.take n).map fileC)/\V.length<=67108864/\n<=t.vals.length/\g=t.vals.length - n/\i=.int .i64 n/\Chg [] w wr/\wr.heap[w.heap.size]?=some (.cells #[.int .i64 t.kind,.int .i64 t.num,.string t.txt,.slice A3 t.keys.length q3,.slice A4 t.vals.length q4] 25)/\wr.heap[w.heap.size+1]?=some (.cells #[.int .i64 0,.int .i64 0,.string ⟨#[]⟩,.slice none 0 0,.slice none 0 0] 25)/\wr.heap[w.heap.size+2]?=some (.cells #[.int .i64 4,.int .i64 0,.string ⟨#[]⟩,.slice none 0 0,.slice A V.length c] 25)/\WRow o [w.heap.size+1,w.heap.size+2] w (w.heap.size+3) V (.slice A V.length c) wr)
 case atStart=>
  obtain ⟨z1,z2,z3⟩:=al3b w (.cells #[.int .i64 t.kind,.int .i64 t.num,.string t.txt,.slice A3 t.keys.length q3,.slice A4 t.vals.length q4] 25) (.cells #[.int .i64 0,.int .i64 0,.string ⟨#[]⟩,.slice none 0 0,.slice none 0 0] 25) (.cells #[.int .i64 4,.int .i64 0,.string ⟨#[]⟩,.slice none 0 0,.slice none 0 0] 25);exact ⟨0,none,0,[],Lib.hid rfl,by simp,Nat.zero_le _,by omega,rfl,(((Chg.refl [] w).al _).al _).al _,z1,z2,z3,WRow.nil ((((Chg.refl [] w).al _).al _).al _) (by simp) (by simp)⟩
 case round=>
  obtain ⟨n,A,c,V,hVe,hln,hn,rfl,rfl,hcr,zt,zz,hD,hWR⟩:=hrel;obtain ⟨a0,a1,a2,a3,a4,af⟩:=cells5 zt;have hszr:w.heap.size+3<=wr.heap.size:=hWR.le.2
  by_cases hlt:n < t.vals.length
  ·have hltb:decide ((n:Int) < (t.vals.length:Int))=true:=by simp; omega
   obtain ⟨x,hx⟩ : ∃ x,t.vals[n]?=some x:=⟨_,List.getElem?_eq_getElem hlt⟩
   obtain ⟨ge,c1',A5,q5,A6,q6,e1,hge,rx,ye⟩:=hv.elem hx
   cases e1
   have HX:=Lib.hid hx;obtain ⟨y0,y1,y2,y3,y4⟩:=ye _ hcr;have hlow:=rx.lo;clear hx rx ye
   obtain ⟨wb,hw⟩ : ∃ W:World,W=wr.alloc (.cells #[.int .i64 x.kind,.int .i64 x.num,.string x.txt,.slice A5 x.keys.length q5,.slice A6 x.vals.length q6] 25):=⟨_,rfl⟩
   obtain ⟨XB,hXB⟩ : ∃ XB:Nat,XB=wr.heap.size:=⟨_,rfl⟩
   have hcb:Chg [] wr wb:=hw ▸ (Chg.refl [] wr).al _;have cb:=hcr.trans hcb New.nil
   have hXb:wb.heap[XB]?=some (.cells #[.int .i64 x.kind,.int .i64 x.num,.string x.txt,.slice A5 x.keys.length q5,.slice A6 x.vals.length q6] 25):=by rw [hXB,hw]; exact heap_alloc_new _ _
   have ztb:=box5 zt _ hcb;have zzb:=box5 zz _ hcb;have hDb:=box5 hD _ hcb;have hWxb:=hWR.go hcb
   have hXl:w.heap.size+3<=XB:=by omega
   have HLOW:Hid (∃ xs,wr.ownsRow (w.heap.size+3) 25 5 (.slice A V.length c) V.length xs/\FlatV (fun b=>Wx o [w.heap.size+1,w.heap.size+2] (.slice A V.length c) b/\b < XB) wr V xs):=Lib.hid (by
    obtain ⟨xs,h1,h2⟩:=hWR.row
    exact ⟨xs,h1,by rw [hXB]; exact h2.lo⟩)
   have hcbh:=hcb;have hXs:XB < wb.heap.size:=(Array.getElem?_eq_some_iff.1 hXb).1
   have hRX:∀ g,(.slice A V.length c:Value).ownBlock=some g->g < XB:=fun g hg=>by rw [hXB]; exact (hWR.own hg).2
   have hrb:Rd (Wx o (XB :: [w.heap.size+1,w.heap.size+2]) (.slice A V.length c)) wb x (.agg #[.int .i64 x.kind,.int .i64 x.num,.string x.txt,.slice A5 x.keys.length q5,.slice A6 x.vals.length q6]):=by
    refine (hlow.chg cb).weak fun b hb=>⟨⟨hb.1,by simp; omega⟩,fun e=>?_⟩
    have:=(hWR.own e).1
    omega
   go_upto_region 6 with fail
   rw [<- hw,<- hXB];clear hw hXB hlow a0 a1 a2 a3 a4 af y0 y1 y2 y3 y4 zt zz hD hWR hcr hcb;have HRB:=Lib.hid hrb;clear hrb;obtain ⟨x0,x1,x2,x3,x4,xf⟩:=cells5 hXb
   by_cases h3:x.kind=3
   case neg=>
    have n3:((x.kind:Int) == 3)=false:=by simp; omega
    have HFX:=Lib.hid (fileC_other h3);clear h3
    go_upto_region 8 with fail
    have happ:=WRow.app hWxb (HRB.out.weak fun b hb=>⟨⟨hb.1.1,fun hm=>hb.1.2 (List.mem_cons_of_mem _ hm)⟩,hb.2⟩) hln 23 rfl rfl
    obtain ⟨V2,hV2⟩ : ∃ V2,V2=V++[x]:=⟨_,rfl⟩
    rw [<- hV2] at happ;have HAPP:=Lib.hid happ;have hfy:Hid (V2=(t.vals.take (n+1)).map fileC):=Lib.hid (by rw [hV2,hVe.out,take_snoc HX.out,List.map_append]; simp [HFX.out])
    have hV2l:V2.length<=67108864:=by rw [hfy.out]; simp; omega
    clear happ hV2;have hDb:=hDb;obtain ⟨o0,o1,o2,o3,o4,of⟩:=cells5 hDb;obtain ⟨x0,x1,x2,x3,x4,xf⟩:=cells5 hXb;have p0:=cell_al o0;have p4:=cell_al o4
    go_wp2_with (first | (at_builtin; refine wpList_app rfl _ _ _ rfl rfl rfl HAPP.out ?_) | fail)
    rintro R' w8 hV8 hlow8 hsz8;obtain ⟨A',c',rfl⟩:=hV8.slice;have zt8:=(hlow8 w.heap.size (by omega)).trans ztb;have zz8:=(hlow8 (w.heap.size+1) (by omega)).trans zzb;have hD8:=(hlow8 (w.heap.size+2) (by omega)).trans hDb;have hc8:=hV8.chg
    obtain ⟨W,hW⟩ : ∃ W:World,W=w8.setCell ⟨w.heap.size+2,4,none⟩ (.slice A' V2.length c'):=⟨_,rfl⟩
    have hneW:∀ b,b≠w.heap.size+2->W.heap[b]?=w8.heap[b]?:=fun b hb=>hW ▸ heap_setCell_other _ _ _ _ hb
    have hDW:W.heap[w.heap.size+2]?=some (.cells #[.int .i64 4,.int .i64 0,.string ⟨#[]⟩,.slice none 0 0,.slice A' V2.length c'] 25):=by rw [hW]; simpa using heap_setCell_same _ _ 4 _ _ (.slice A' V2.length c') hD8
    have hcW:Chg [] w W:=hW ▸ hc8.st (by show w.heap.size<=w.heap.size+2; omega) _
    have hVW:=hV8.keep hcW (by rw [hW]; simp) fun b hb hm=>hneW b (fun e=>hm (by simp [e]))
    have HW:=Lib.hid (And.intro hcW (And.intro ((hneW w.heap.size (by omega)).trans zt8) (And.intro ((hneW (w.heap.size+1) (by omega)).trans zz8) (And.intro hDW hVW))));clear hV8 hlow8 zt8 zz8 hc8 hneW hDW hcW hVW o0 o1 o2 o3 o4 of x0 x1 x2 x3 x4 xf p0 p4 HAPP;obtain ⟨o0,o1,o2,o3,o4,of⟩:=cells5 hD8
    go_wp2_with fail
    rw [<- hW];clear hW
    go_roundg (t.vals.length - (n+1))
    case measure=>omega
    case rel=>exact ⟨n+1,A',c',V2,hfy,hV2l,by omega,rfl,by go_num,HW.out.1,HW.out.2.1,HW.out.2.2.1,HW.out.2.2.2.1,HW.out.2.2.2.2⟩
   have n3:((x.kind:Int) == 3)=true:=by simp; omega
   have HFX:=Lib.hid (fileC_text h3);have hrow:=AnyRow.one (k1:=cSource) wb HRB.out
   obtain ⟨w4,hw⟩ : ∃ W:World,W=wb.alloc (.cells #[.iface 9 (.string cSource),.iface 25 (.agg #[.int .i64 x.kind,.int .i64 x.num,.string x.txt,.slice A5 x.keys.length q5,.slice A6 x.vals.length q6])] 20):=⟨_,rfl⟩
   rw [<- hw] at hrow;have hcb4:Chg [] wb w4:=hw ▸ (Chg.refl [] wb).al _;obtain ⟨gR,C,eg,hg,hrow⟩:=hrow
   cases eg
   have HROW:=Lib.hid hrow;have hRXh:=Lib.hid hRX;have hs4:=hcb4.size;clear h3 hrow hRX
   go_wp2_with fail
   rw [<- hw];clear hw;refine (specM (o:=Wx o (XB :: [w.heap.size+1,w.heap.size+2]) (.slice A V.length c)) [(cSource,x)] _ 2 w4 hg HROW.out (by simp) (fun b hb=>⟨⟨hno b (by have:=cb.size; omega),by simp; omega⟩,fun e=>by have:=hRXh.out b e; omega⟩)).mono ?_;rintro e w5 ⟨v5,rfl,hc45,hr5⟩;rw [insAll_one] at hr5
   obtain ⟨y,hy⟩ : ∃ y:T,y=.map [(cSource,x)]:=⟨_,rfl⟩
   rw [<- hy] at hr5;have HFY:Hid (fileC x=y):=Lib.hid (by rw [hy]; exact HFX.out);clear hy;obtain ⟨E5,r5,E6,r6,rfl,_⟩:=hr5.five;have hcb5:=hcb4.trans hc45 New.nil;have c5:=cb.trans hcb5 New.nil;have hX5:=box5 hXb _ hcb5;obtain ⟨w6,hw6,hX6,hne6,c6,hsz6⟩:=store5 hX5 c5 (by omega:w.heap.size<=XB) (.int .i64 y.kind) (.int .i64 y.num) (.string y.txt) (.slice E5 y.keys.length r5) (.slice E6 y.vals.length r6);have zt6:=(hne6 w.heap.size (by omega)).trans (box5 ztb _ hcb5);have zz6:=(hne6 (w.heap.size+1) (by omega)).trans (box5 zzb _ hcb5);have hD6:=(hne6 (w.heap.size+2) (by omega)).trans (box5 hDb _ hcb5)
   have hr6:Rd (Wx o [w.heap.size+1,w.heap.size+2] (.slice A V.length c)) w6 y (.agg #[.int .i64 y.kind,.int .i64 y.num,.string y.txt,.slice E5 y.keys.length r5,.slice E6 y.vals.length r6]):=hr5.to fun b hb ho=>⟨⟨⟨ho.1.1,fun hm=>ho.1.2 (List.mem_cons_of_mem _ hm)⟩,ho.2⟩,hne6 b fun e=>ho.1.2 (by simp [e])⟩
   have hWx6:WRow o [w.heap.size+1,w.heap.size+2] w (w.heap.size+3) V (.slice A V.length c) w6:=by
    have h5:=hWxb.go hcb5;obtain ⟨xs,h1,h2⟩:=HLOW.out;refine ⟨c6,⟨by omega,by have:=h5.le.2; omega⟩,hWxb.far,xs,ownsRow_keep h1 fun g hg=>?_,h2.to fun b hb ho=>⟨ho.1,?_⟩⟩
    ·have h7:=hRXh.out g hg
     have h8:=hcbh.size;rw [hne6 g (by omega),hcb5.block g (by omega) (by simp),hcbh.block g (ownsRow_own h1 hg).2 (by simp)]
    ·have h8:=hcbh.size
     have h9:=ho.2;rw [hne6 b (by omega),hcb5.block b (by omega) (by simp),hcbh.block b hb (by simp)]
   clear x0 x1 x2 x3 x4 xf hr5;obtain ⟨x0,x1,x2,x3,x4,xf⟩:=cells5 hX5;have HR6:=Lib.hid hr6;clear hr6 hne6 hsz6
   go_upto_region 8 with fail
   rw [<- hw6];clear hw6 x0 x1 x2 x3 x4 xf;have happ:=WRow.app hWx6 HR6.out hln 23 rfl rfl
   obtain ⟨V2,hV2⟩ : ∃ V2,V2=V++[y]:=⟨_,rfl⟩
   rw [<- hV2] at happ;have HAPP:=Lib.hid happ;have hfy:Hid (V2=(t.vals.take (n+1)).map fileC):=Lib.hid (by rw [hV2,hVe.out,take_snoc HX.out,List.map_append]; simp [HFY.out])
   have hV2l:V2.length<=67108864:=by rw [hfy.out]; simp; omega
   clear happ hV2;have hD6:=hD6;obtain ⟨o0,o1,o2,o3,o4,of⟩:=cells5 hD6;obtain ⟨x0,x1,x2,x3,x4,xf⟩:=cells5 hX6;have p0:=cell_al o0;have p4:=cell_al o4
   go_wp2_with (first | (at_builtin; refine wpList_app rfl _ _ _ rfl rfl rfl HAPP.out ?_) | fail)
   rintro R' w8 hV8 hlow8 hsz8;obtain ⟨A',c',rfl⟩:=hV8.slice;have zt8:=(hlow8 w.heap.size (by omega)).trans zt6;have zz8:=(hlow8 (w.heap.size+1) (by omega)).trans zz6;have hD8:=(hlow8 (w.heap.size+2) (by omega)).trans hD6;have hc8:=hV8.chg
   obtain ⟨W,hW⟩ : ∃ W:World,W=w8.setCell ⟨w.heap.size+2,4,none⟩ (.slice A' V2.length c'):=⟨_,rfl⟩
   have hneW:∀ b,b≠w.heap.size+2->W.heap[b]?=w8.heap[b]?:=fun b hb=>hW ▸ heap_setCell_other _ _ _ _ hb
   have hDW:W.heap[w.heap.size+2]?=some (.cells #[.int .i64 4,.int .i64 0,.string ⟨#[]⟩,.slice none 0 0,.slice A' V2.length c'] 25):=by rw [hW]; simpa using heap_setCell_same _ _ 4 _ _ (.slice A' V2.length c') hD8
   have hcW:Chg [] w W:=hW ▸ hc8.st (by show w.heap.size<=w.heap.size+2; omega) _
   have hVW:=hV8.keep hcW (by rw [hW]; simp) fun b hb hm=>hneW b (fun e=>hm (by simp [e]))
   have HW:=Lib.hid (And.intro hcW (And.intro ((hneW w.heap.size (by omega)).trans zt8) (And.intro ((hneW (w.heap.size+1) (by omega)).trans zz8) (And.intro hDW hVW))));clear hV8 hlow8 zt8 zz8 hc8 hneW hDW hcW hVW o0 o1 o2 o3 o4 of x0 x1 x2 x3 x4 xf p0 p4 HAPP;obtain ⟨o0,o1,o2,o3,o4,of⟩:=cells5 hD8
   go_wp2_with fail
   rw [<- hW];clear hW
   go_roundg (t.vals.length - (n+1))
   case measure=>omega
   case rel=>exact ⟨n+1,A',c',V2,hfy,hV2l,by omega,rfl,by go_num,HW.out.1,HW.out.2.1,HW.out.2.2.1,HW.out.2.2.2.1,HW.out.2.2.2.2⟩
  ·have hltb:¬ n < t.vals.length:=hlt
   have hne:n=t.vals.length:=by omega
   obtain ⟨U,rfl⟩ : ∃ U,U=V:=⟨_,rfl⟩
   have HU:Hid (filesC t=.list U):=Lib.hid (by rw [hVe.out,hne,List.take_length]; rfl);have hrl:Rd (Ex o [w.heap.size+1,w.heap.size+2]) wr (.list U) (.agg #[.int .i64 (T.list U).kind,.int .i64 (T.list U).num,.string (T.list U).txt,.slice none (T.list U).keys.length 0,.slice A (T.list U).vals.length c]):=Rd.mk (t:=.list U) (RdK.nil _) (hWR.rd hno);obtain ⟨z0,z1,z2,z3,z4,zf⟩:=cells5 zz;obtain ⟨o0,o1,o2,o3,o4,of⟩:=cells5 hD;obtain ⟨W,hW,QW,hcW,hrW⟩:=ret5 zz hcr (by omega) hrl (by simp);have HR:=Lib.hid hrW;clear hrl hrW hWR hne
   go_wp2_with fail
   rw [show (((((wr.setCell ⟨w.heap.size+1,0,none⟩ (.int .i64 4)).setCell ⟨w.heap.size+1,1,none⟩ (.int .i64 0)).setCell ⟨w.heap.size+1,2,none⟩ (.string ⟨#[]⟩)).setCell ⟨w.heap.size+1,3,none⟩ (.slice none 0 0)).setCell ⟨w.heap.size+1,4,none⟩ (.slice A U.length c))=W from hW.symm];clear hW;obtain ⟨f0,f1,f2,f3,f4,_⟩:=cells5 QW
   go_wp2
   refine bodyPost_ret (v:=.agg #[.int .i64 (T.list U).kind,.int .i64 (T.list U).num,.string (T.list U).txt,.slice none (T.list U).keys.length 0,.slice A (T.list U).vals.length c]) (by simp [results,Tryz.results102,go_sem,f0,f1,f2,f3,f4]) rfl ⟨_,rfl,hcW,by rw [HU.out]; exact HR.out⟩
end Go.Proofs.YtpofkokbmifhgaaGreatDoor
namespace Go.Proofs.YtpofkokbmifhgaaGreatDoor
open Go.RowKit
variable {o:Nat->Prop}
theorem sayUnique_any (s:ByteArray) (b:Bool) (hb:decide (s∈([⟨#[118,111,108,117,109,101,115]⟩,⟨#[112,111,114,116,115]⟩,⟨#[99,97,112,95,97,100,100]⟩,⟨#[99,97,112,95,100,114,111,112]⟩,⟨#[100,110,115]⟩,⟨#[100,110,115,95,115,101,97,114,99,104]⟩,⟨#[100,110,115,95,111,112,116]⟩,⟨#[101,120,112,111,115,101]⟩,⟨#[115,101,99,114,101,116,115]⟩,⟨#[99,111,110,102,105,103,115]⟩]:List ByteArray))=b) (w:World):Calls Tryz.prog 62 #[.string s] w fun e w'=>e=.returned (.bool b)/\Chg [] w w':=by
 go_enter Tryz.func62,Tryz.ntmps62
 go_wp2_with fail
 refine (sayIn_any (o:=fun _=>True) s [⟨#[118,111,108,117,109,101,115]⟩,⟨#[112,111,114,116,115]⟩,⟨#[99,97,112,95,97,100,100]⟩,⟨#[99,97,112,95,100,114,111,112]⟩,⟨#[100,110,115]⟩,⟨#[100,110,115,95,115,101,97,114,99,104]⟩,⟨#[100,110,115,95,111,112,116]⟩,⟨#[101,120,112,111,115,101]⟩,⟨#[115,101,99,114,101,116,115]⟩,⟨#[99,111,110,102,105,103,115]⟩] _ _ (RdK.lit [⟨#[118,111,108,117,109,101,115]⟩,⟨#[112,111,114,116,115]⟩,⟨#[99,97,112,95,97,100,100]⟩,⟨#[99,97,112,95,100,114,111,112]⟩,⟨#[100,110,115]⟩,⟨#[100,110,115,95,115,101,97,114,99,104]⟩,⟨#[100,110,115,95,111,112,116]⟩,⟨#[101,120,112,111,115,101]⟩,⟨#[115,101,99,114,101,116,115]⟩,⟨#[99,111,110,102,105,103,115]⟩] (heap_alloc_new w _) rfl) (by decide)).mono ?_;rintro e w1 ⟨rfl,rfl⟩;rw [hb];clear hb
 go_wp2
 go_ret
 exact ⟨rfl,(Chg.refl [] w).al _⟩
theorem uniq_inv {k:ByteArray} {t:T} (h:AttrOK k t) (hk:k∈uniqA):∃ l,t=.list l/\(k=cPorts->∀ x∈l,∃ m,x=.map m):=by
 cases h with
 | plain hp=>exact absurd hk (plain_notin hp).2.2.2.1
 | named h1 _=>exact absurd hk ((by decide +kernel:∀ k∈namedA,k ∉ uniqA) k h1)
 | namedList h1 _=>exact absurd hk ((by decide +kernel:∀ k∈namedA,k ∉ uniqA) k h1)
 | words h1 hl=>exact ⟨_,rfl,fun e=>absurd h1 (by rw [e]; decide +kernel)⟩
 | files h1 hl=>exact ⟨_,rfl,fun e=>absurd h1 (by rw [e]; decide +kernel)⟩
 | expose hl=>exact ⟨_,rfl,fun e=>absurd e (by decide +kernel)⟩
 | needsList hl=>exact absurd hk (by decide +kernel)
 | needs hm=>exact absurd hk (by decide +kernel)
 | netsList hl=>exact absurd hk (by decide +kernel)
 | nets hm=>exact absurd hk (by decide +kernel)
 | buildText=>exact absurd hk (by decide +kernel)
 | build hm=>exact absurd hk (by decide +kernel)
 | volumes hl=>exact ⟨_,rfl,fun e=>absurd e (by decide +kernel)⟩
 | ports hne hl=>exact ⟨_,rfl,fun _ x hx=>by obtain ⟨m,n,e,_⟩:=hl x hx; exact ⟨m,e⟩⟩
theorem needs_inv {k:ByteArray} {t:T} (h:AttrOK k t) (hk:k=cDependsOn) (hs:T.size t<=8388608):∀ p∈needsD t,(∃ r,p.2=.map r)/\p.2.vals.length<=67108863:=by
 have hl:∀ l:List T,∀ p∈foldK impC l,(∃ r,p.2=.map r)/\p.2.vals.length<=67108863:=fun l p hp=>by
  rw [foldK_val p hp];exact ⟨⟨_,rfl⟩,by decide⟩
 cases h with
 | plain hp=>exact absurd hk (plain_notin hp).2.2.2.2.1
 | named h1 _=>exact absurd h1 (by rw [hk]; decide +kernel)
 | namedList h1 _=>exact absurd h1 (by rw [hk]; decide +kernel)
 | words h1 _=>exact absurd h1 (by rw [hk]; decide +kernel)
 | files h1 _=>exact absurd h1 (by rw [hk]; decide +kernel)
 | needsList _=>exact hl _
 | needs hm=>
  rename_i mm
  intro p hp
  obtain ⟨d,hd,_⟩:=hm p hp;refine ⟨⟨d,hd⟩,?_⟩;have h1:=T.vals_len p.2;obtain ⟨j,hj⟩:=List.getElem?_of_mem (vals_mem (m:=mm) hp);have h2:=T.sizeL_at hj;have h3:=T.size_vals (.map mm)
  omega
 | _=>exact absurd hk (by decide +kernel)
theorem put_size {K:Type} (key:T->K) (t:T):∀ l:List T,T.sizeL (putBy key t l)<=T.sizeL l+T.size t
 | []=>by simp [putBy,T.sizeL]
 | x :: r=>by
  have:=put_size key t r;unfold putBy
  split
  ·simp only [T.sizeL]; omega
  ·simp only [T.sizeL]; omega
theorem uniq_size {K:Type} (key:T->K) (l:List T):T.sizeL (uniqBy key l)<=T.sizeL l:=by
 have gen:∀ (l acc:List T),T.sizeL (l.foldl (fun acc t=>putBy key t acc) acc)<=T.sizeL acc+T.sizeL l:=by
  intro l
  induction l with
  | nil=>intro acc; simp [T.sizeL]
  | cons x l ih=>
   intro acc
   have h1:=ih (putBy key x acc);have h2:=put_size key x acc;simp only [List.foldl_cons,T.sizeL]
   omega
 have:=gen l []
 simpa [uniqBy,T.sizeL] using this
theorem uniqC_other {k:ByteArray} {t:T} (hu:k ∉ uniqA):uniqC k t=t:=by unfold uniqC; rw [if_neg hu]
theorem uniqC_list {k:ByteArray} {l:List T} (hu:k∈uniqA):uniqC k (.list l)=.list (uniqBy (useT k) l):=by unfold uniqC; rw [if_pos hu]; rfl
theorem disj_uniq:∀ k∈uniqA,k ∉ namedA/\k≠cDependsOn/\k≠cNetworks/\k≠cBuild:=by decide +kernel
theorem canonA_uniq {k:ByteArray} {l:List T} (hu:k∈uniqA):canonA k (.list l)=if k=cSecrets∨k=cConfigs then filesC (.list (uniqBy (useT k) l)) else .list (uniqBy (useT k) l):=by
 obtain ⟨h1,h2,h3,h4⟩:=disj_uniq k hu;unfold canonA;rw [uniqC_list hu];simp only [if_neg h1,if_neg h2,if_neg h3,if_neg h4]
theorem canonA_named {k:ByteArray} {t:T} (hu:k ∉ uniqA) (hn:k∈namedA):canonA k t=canonN t:=by
 unfold canonA;rw [uniqC_other hu];simp only [if_pos hn]
theorem canonA_needs {t:T}:canonA cDependsOn t=needsC t:=by
 unfold canonA;rw [uniqC_other (by decide +kernel)];simp only [if_neg (by decide +kernel:cDependsOn ∉ namedA),if_true]
theorem canonA_nets {t:T}:canonA cNetworks t=netsC t:=by
 unfold canonA;rw [uniqC_other (by decide +kernel)];simp only [if_neg (by decide +kernel:cNetworks ∉ namedA),if_neg (by decide +kernel:cNetworks≠cDependsOn),if_true]
theorem canonA_build {t:T}:canonA cBuild t=buildC t:=by
 unfold canonA;rw [uniqC_other (by decide +kernel)];simp only [if_neg (by decide +kernel:cBuild ∉ namedA),if_neg (by decide +kernel:cBuild≠cDependsOn),if_neg (by decide +kernel:cBuild≠cNetworks),if_true]
theorem canonAttr_any (k:ByteArray) (t:T) (v:Value) (w:World) (h:Rd o w t v) (hf:Fine t) (hs:T.size t<=8388608) (hok:AttrOK k t) (hno:∀ b,w.heap.size<=b->o b) :
  Calls Tryz.prog 68 #[.string k,v] w fun e w'=>∃ v' b,e=.returned (.tuple #[v',.bool b])/\Chg [] w w'/\Rd o w' (canonA k t) v'/\(b=true->k∈uniqA->SaidU k t.vals):=by
 obtain ⟨A3,q3,A4,q4,rfl,hk,hv⟩:=h.five;have hkl:=hf.len;have HOK:=Lib.hid hok;have HV:=Lib.hid hv;have HS:=Lib.hid hs
 go_enter Tryz.func68,Tryz.ntmps68
 go_upto_region 1 with fail
 obtain ⟨w1,hw⟩ : ∃ W:World,W=(w.alloc (.cells #[.int .i64 t.kind,.int .i64 t.num,.string t.txt,.slice A3 t.keys.length q3,.slice A4 t.vals.length q4] 25)).alloc (.cells #[.int .i64 0,.int .i64 0,.string ⟨#[]⟩,.slice none 0 0,.slice none 0 0] 25):=⟨_,rfl⟩
 rw [<- hw];have c1:Chg [] w w1:=hw ▸ ((Chg.refl [] w).al _).al _;have zt1:w1.heap[w.heap.size]?=some (.cells #[.int .i64 t.kind,.int .i64 t.num,.string t.txt,.slice A3 t.keys.length q3,.slice A4 t.vals.length q4] 25):=hw ▸ heap_al1 w _ _;have zz1:w1.heap[w.heap.size+1]?=some (.cells #[.int .i64 0,.int .i64 0,.string ⟨#[]⟩,.slice none 0 0,.slice none 0 0] 25):=hw ▸ heap_al2 w _ _;have HRX1:=Lib.hid ((h.ex (L:=[w.heap.size,w.heap.size+1]) (by simp)).chg c1);clear hw h hk hv hok hs
 go_wp2_with fail
 refine (sayUnique_any k _ rfl _).mono ?_;rintro e w2 ⟨rfl,hc2⟩;have c2:=c1.trans hc2 New.nil;have zt2:=box5 zt1 _ hc2;have zz2:=box5 zz1 _ hc2;have HRX2:=Lib.hid (HRX1.out.chg hc2);have hsz2:=(Array.getElem?_eq_some_iff.1 zz2).1;clear zt1 zz1 hc2 HRX1
 by_cases hu:k∈([⟨#[118,111,108,117,109,101,115]⟩,⟨#[112,111,114,116,115]⟩,⟨#[99,97,112,95,97,100,100]⟩,⟨#[99,97,112,95,100,114,111,112]⟩,⟨#[100,110,115]⟩,⟨#[100,110,115,95,115,101,97,114,99,104]⟩,⟨#[100,110,115,95,111,112,116]⟩,⟨#[101,120,112,111,115,101]⟩,⟨#[115,101,99,114,101,116,115]⟩,⟨#[99,111,110,102,105,103,115]⟩]:List ByteArray)
 ·rw [decide_eq_true hu]
  have HU:Hid (k∈uniqA):=Lib.hid hu;clear hu;obtain ⟨l,hl,hports⟩:=uniq_inv HOK.out HU.out;have HL:=Lib.hid hl;have HPO:=Lib.hid hports
  have HLF:Hid (∀ x∈l,Fine x/\T.size x<=8388608):=Lib.hid fun x hx=>by
   have hx':x∈t.vals:=by rw [HL.out]; exact hx
   refine ⟨hf.vals hx',?_⟩;obtain ⟨j,hj⟩:=List.getElem?_of_mem hx';have h1:=T.sizeL_at hj;have h2:=T.size_vals t;have h3:=HS.out
   omega
  have hvv:Hid (RdV (Ex o [w.heap.size,w.heap.size+1]) w2 l (.slice A4 t.vals.length q4)):=Lib.hid (by
   have:=(HV.out.to (o':=Ex o [w.heap.size,w.heap.size+1]) (w':=w2) fun b hb ho=>⟨⟨ho,by simp; omega⟩,c2.block b hb (by simp)⟩)
   rw [hl] at this ⊢
   exact this)
  have hll:l.length<=67108864:=by have:=hkl.1; rw [hl] at this; exact this
  obtain ⟨a0,a1,a2,a3,a4,af⟩:=cells5 zt2;clear hl hports
  go_wp2_with fail
  refine (mergeUnique_any (o:=Ex o [w.heap.size,w.heap.size+1]) k l _ _ hvv.out HLF.out hll HPO.out (Ex.no hno c2.size (by simp; omega))).mono ?_;rintro e w3 ⟨v3,b,rfl,hc3,hr3,hsd⟩;have HSD:=Lib.hid hsd
  obtain ⟨U,hU⟩ : ∃ U,U=T.list (uniqBy (useT k) l):=⟨_,rfl⟩
  rw [<- hU] at hr3;have HUU:=Lib.hid hU;obtain ⟨E5,r5,E6,r6,rfl,_⟩:=hr3.five;have c3:=c2.trans hc3 New.nil;have zt3:=box5 zt2 _ hc3;have zz3:=box5 zz2 _ hc3;have hs3:=hc3.size;obtain ⟨w4,hw4,zt4,hne4,c4,hsz4⟩:=store5 zt3 c3 (Nat.le_refl _) (.int .i64 U.kind) (.int .i64 U.num) (.string U.txt) (.slice E5 U.keys.length r5) (.slice E6 U.vals.length r6);have zz4:=(hne4 (w.heap.size+1) (by omega)).trans zz3
  have hr4:Rd (Ex o [w.heap.size,w.heap.size+1]) w4 U (.agg #[.int .i64 U.kind,.int .i64 U.num,.string U.txt,.slice E5 U.keys.length r5,.slice E6 U.vals.length r6]):=hr3.to fun b _ ho=>⟨ho,hne4 b fun e=>ho.2 (by simp [e])⟩
  have hs4:w3.heap.size<=w4.heap.size:=by omega
  have HRX4:=Lib.hid hr4;clear hr3 hr4 hsd hU hne4 hsz4 a0 a1 a2 a3 a4 af hvv HLF;obtain ⟨a0,a1,a2,a3,a4,af⟩:=cells5 zt3
  go_upto_region 4 with fail
  rw [<- hw4];clear hw4 a0 a1 a2 a3 a4 af zt3
  have hfU:Fine U:=by
   rw [HUU.out];have hwf:WF 67108864 t:=hf.wf
   have h1:T.size (.list l)<=8388608:=by have:=HS.out; rw [HL.out] at this; exact this
   rw [HL.out] at hwf;have hsz:=uniq_size (useT k) l;refine ⟨WFL_iff.2 fun x hx=>WFL_iff.1 hwf x (mem_uniq hx),?_⟩;simp only [T.size] at h1 ⊢
   omega
  go_wp2_with fail
  refine (sayNamed_any k false (by have:=(disj_uniq k HU.out).1; simpa [namedA] using this) _).mono ?_;rintro e w5 ⟨rfl,hc5⟩;have c5:=c4.trans hc5 New.nil;have zt5:=box5 zt4 _ hc5;have zz5:=box5 zz4 _ hc5;have HRX5:=Lib.hid (HRX4.out.chg hc5);have hs5:=hc5.size;have f1:(k.toList == [100,101,112,101,110,100,115,95,111,110])=false:=ne_toList (disj_uniq k HU.out).2.1 (by kernel_rfl);have f2:(k.toList == [110,101,116,119,111,114,107,115])=false:=ne_toList (disj_uniq k HU.out).2.2.1 (by kernel_rfl);have f3:(k.toList == [98,117,105,108,100])=false:=ne_toList (disj_uniq k HU.out).2.2.2 (by kernel_rfl);clear zt4 zz4 hc5 HRX4 zt2 zz2
  by_cases hsc:k=cSecrets
  ·have HQ:Hid (canonA k t=filesC U):=Lib.hid (by rw [HL.out,canonA_uniq HU.out,if_pos (.inl hsc),HUU.out])
   have g1:(k.toList == [115,101,99,114,101,116,115])=true:=by rw [hsc]; kernel_rfl
   clear hsc;obtain ⟨a0,a1,a2,a3,a4,af⟩:=cells5 zt5
   go_wp2_with fail
   refine (canonFiles_any (o:=Ex o [w.heap.size,w.heap.size+1]) U _ _ HRX5.out hfU (Ex.no hno c5.size (by simp; omega))).mono ?_;rintro e w9 ⟨v9,rfl,hc9,hr9⟩;rw [<- HQ.out] at hr9
   obtain ⟨rt,hrt⟩ : ∃ rt,rt=canonA k t:=⟨_,rfl⟩
   rw [<- hrt] at hr9;have HRT:=Lib.hid hrt;clear hrt;obtain ⟨E5,r5,E6,r6,rfl,_⟩:=hr9.five;have c9:=c5.trans hc9 New.nil;have zz9:=box5 zz5 _ hc9;clear a0 a1 a2 a3 a4 af hc9;obtain ⟨z0,z1,z2,z3,z4,zf⟩:=cells5 zz9;obtain ⟨W,hW,QW,hcW,hrW⟩:=ret5 zz9 c9 (by omega) hr9 (by simp);have HRW:=Lib.hid hrW;clear hr9 hrW
   go_wp2_with fail
   rw [<- hW];clear hW;obtain ⟨f0,f1,f2,f3,f4,_⟩:=cells5 QW
   go_wp2
   refine bodyPost_ret (v:=(.tuple #[(.agg #[.int .i64 rt.kind,.int .i64 rt.num,.string rt.txt,.slice E5 rt.keys.length r5,.slice E6 rt.vals.length r6]),.bool b])) (by simp [results,Tryz.results68,go_sem,f0,f1,f2,f3,f4]) rfl ⟨_,_,rfl,hcW,by rw [<- HRT.out]; exact HRW.out,fun hb _=>by rw [HL.out]; exact HSD.out hb⟩
  have g1:(k.toList == [115,101,99,114,101,116,115])=false:=ne_toList hsc (by kernel_rfl)
  by_cases hco:k=cConfigs
  ·have HQ:Hid (canonA k t=filesC U):=Lib.hid (by rw [HL.out,canonA_uniq HU.out,if_pos (.inr hco),HUU.out])
   have g2:(k.toList == [99,111,110,102,105,103,115])=true:=by rw [hco]; kernel_rfl
   clear hsc hco;obtain ⟨a0,a1,a2,a3,a4,af⟩:=cells5 zt5
   go_wp2_with fail
   refine (canonFiles_any (o:=Ex o [w.heap.size,w.heap.size+1]) U _ _ HRX5.out hfU (Ex.no hno c5.size (by simp; omega))).mono ?_;rintro e w9 ⟨v9,rfl,hc9,hr9⟩;rw [<- HQ.out] at hr9
   obtain ⟨rt,hrt⟩ : ∃ rt,rt=canonA k t:=⟨_,rfl⟩
   rw [<- hrt] at hr9;have HRT:=Lib.hid hrt;clear hrt;obtain ⟨E5,r5,E6,r6,rfl,_⟩:=hr9.five;have c9:=c5.trans hc9 New.nil;have zz9:=box5 zz5 _ hc9;clear a0 a1 a2 a3 a4 af hc9;obtain ⟨z0,z1,z2,z3,z4,zf⟩:=cells5 zz9;obtain ⟨W,hW,QW,hcW,hrW⟩:=ret5 zz9 c9 (by omega) hr9 (by simp);have HRW:=Lib.hid hrW;clear hr9 hrW
   go_wp2_with fail
   rw [<- hW];clear hW;obtain ⟨f0,f1,f2,f3,f4,_⟩:=cells5 QW
   go_wp2
   refine bodyPost_ret (v:=(.tuple #[(.agg #[.int .i64 rt.kind,.int .i64 rt.num,.string rt.txt,.slice E5 rt.keys.length r5,.slice E6 rt.vals.length r6]),.bool b])) (by simp [results,Tryz.results68,go_sem,f0,f1,f2,f3,f4]) rfl ⟨_,_,rfl,hcW,by rw [<- HRT.out]; exact HRW.out,fun hb _=>by rw [HL.out]; exact HSD.out hb⟩
  have g2:(k.toList == [99,111,110,102,105,103,115])=false:=ne_toList hco (by kernel_rfl);have HQ:Hid (canonA k t=U):=Lib.hid (by rw [HL.out,canonA_uniq HU.out,if_neg (by rintro (e | e); exact hsc e; exact hco e),HUU.out]);clear hsc hco;obtain ⟨a0,a1,a2,a3,a4,af⟩:=cells5 zt5;obtain ⟨z0,z1,z2,z3,z4,zf⟩:=cells5 zz5;have hrx:=HRX5.out;obtain ⟨W,hW,QW,hcW,hrW⟩:=ret5 zz5 c5 (by omega) hrx (by simp);have HRW:=Lib.hid hrW;clear hrx hrW
  go_wp2_with fail
  rw [<- hW];clear hW;obtain ⟨f0,f1,f2,f3,f4,_⟩:=cells5 QW
  go_wp2
  refine bodyPost_ret (v:=(.tuple #[(.agg #[.int .i64 U.kind,.int .i64 U.num,.string U.txt,.slice E5 U.keys.length r5,.slice E6 U.vals.length r6]),.bool b])) (by simp [results,Tryz.results68,go_sem,f0,f1,f2,f3,f4]) rfl ⟨_,_,rfl,hcW,by rw [HQ.out]; exact HRW.out,fun hb _=>by rw [HL.out]; exact HSD.out hb⟩
 rw [decide_eq_false hu];have HU:Hid (k ∉ uniqA):=Lib.hid hu;clear hu
 go_wp2_with fail
 refine (sayNamed_any k _ rfl _).mono ?_;rintro e w5 ⟨rfl,hc5⟩;have c5:=c2.trans hc5 New.nil;have zt5:=box5 zt2 _ hc5;have zz5:=box5 zz2 _ hc5;have HRX5:=Lib.hid (HRX2.out.chg hc5);have hs5:=hc5.size;clear zt2 zz2 hc5 HRX2
 by_cases hn:k∈([⟨#[101,110,118,105,114,111,110,109,101,110,116]⟩,⟨#[108,97,98,101,108,115]⟩,⟨#[97,110,110,111,116,97,116,105,111,110,115]⟩,⟨#[115,121,115,99,116,108,115]⟩]:List ByteArray)
 ·rw [decide_eq_true hn]
  have HQ:Hid (canonA k t=canonN t):=Lib.hid (canonA_named HU.out hn);clear hn;obtain ⟨a0,a1,a2,a3,a4,af⟩:=cells5 zt5
  go_wp2_with fail
  refine (canonNamed_any (o:=Ex o [w.heap.size,w.heap.size+1]) t _ _ HRX5.out hf (Ex.no hno c5.size (by simp; omega))).mono ?_;rintro e w9 ⟨v9,rfl,hc9,hr9⟩;rw [<- HQ.out] at hr9
  obtain ⟨rt,hrt⟩ : ∃ rt,rt=canonA k t:=⟨_,rfl⟩
  rw [<- hrt] at hr9;have HRT:=Lib.hid hrt;clear hrt;obtain ⟨E5,r5,E6,r6,rfl,_⟩:=hr9.five;have c9:=c5.trans hc9 New.nil;have zz9:=box5 zz5 _ hc9;clear a0 a1 a2 a3 a4 af hc9;obtain ⟨z0,z1,z2,z3,z4,zf⟩:=cells5 zz9;obtain ⟨W,hW,QW,hcW,hrW⟩:=ret5 zz9 c9 (by omega) hr9 (by simp);have HRW:=Lib.hid hrW;clear hr9 hrW
  go_wp2_with fail
  rw [<- hW];clear hW;obtain ⟨f0,f1,f2,f3,f4,_⟩:=cells5 QW
  go_wp2
  refine bodyPost_ret (v:=(.tuple #[(.agg #[.int .i64 rt.kind,.int .i64 rt.num,.string rt.txt,.slice E5 rt.keys.length r5,.slice E6 rt.vals.length r6]),.bool true])) (by simp [results,Tryz.results68,go_sem,f0,f1,f2,f3,f4]) rfl ⟨_,_,rfl,hcW,by rw [<- HRT.out]; exact HRW.out,fun _ hu=>absurd hu HU.out⟩
 rw [decide_eq_false hn];have HN:Hid (k ∉ namedA):=Lib.hid hn;clear hn
 by_cases hd:k=cDependsOn
 ·have HQ:Hid (canonA k t=needsC t):=Lib.hid (by rw [hd]; exact canonA_needs)
  have g1:(k.toList == [100,101,112,101,110,100,115,95,111,110])=true:=by rw [hd]; kernel_rfl
  have HNI:=Lib.hid (needs_inv HOK.out hd HS.out);clear hd;obtain ⟨a0,a1,a2,a3,a4,af⟩:=cells5 zt5
  go_wp2_with fail
  refine (canonNeeds_any (o:=Ex o [w.heap.size,w.heap.size+1]) t _ _ HRX5.out hf (fun p hp=>(HNI.out p hp).1) (fun p hp=>(HNI.out p hp).2) (Ex.no hno c5.size (by simp; omega))).mono ?_;rintro e w9 ⟨v9,rfl,hc9,hr9⟩;rw [<- HQ.out] at hr9
  obtain ⟨rt,hrt⟩ : ∃ rt,rt=canonA k t:=⟨_,rfl⟩
  rw [<- hrt] at hr9;have HRT:=Lib.hid hrt;clear hrt;obtain ⟨E5,r5,E6,r6,rfl,_⟩:=hr9.five;have c9:=c5.trans hc9 New.nil;have zz9:=box5 zz5 _ hc9;clear a0 a1 a2 a3 a4 af hc9;obtain ⟨z0,z1,z2,z3,z4,zf⟩:=cells5 zz9;obtain ⟨W,hW,QW,hcW,hrW⟩:=ret5 zz9 c9 (by omega) hr9 (by simp);have HRW:=Lib.hid hrW;clear hr9 hrW
  go_wp2_with fail
  rw [<- hW];clear hW;obtain ⟨f0,f1,f2,f3,f4,_⟩:=cells5 QW
  go_wp2
  refine bodyPost_ret (v:=(.tuple #[(.agg #[.int .i64 rt.kind,.int .i64 rt.num,.string rt.txt,.slice E5 rt.keys.length r5,.slice E6 rt.vals.length r6]),.bool true])) (by simp [results,Tryz.results68,go_sem,f0,f1,f2,f3,f4]) rfl ⟨_,_,rfl,hcW,by rw [<- HRT.out]; exact HRW.out,fun _ hu=>absurd hu HU.out⟩
 have f1:(k.toList == [100,101,112,101,110,100,115,95,111,110])=false:=ne_toList hd (by kernel_rfl)
 by_cases he:k=cNetworks
 ·have HQ:Hid (canonA k t=netsC t):=Lib.hid (by rw [he]; exact canonA_nets)
  have g2:(k.toList == [110,101,116,119,111,114,107,115])=true:=by rw [he]; kernel_rfl
  clear hd he;obtain ⟨a0,a1,a2,a3,a4,af⟩:=cells5 zt5
  go_wp2_with fail
  refine (mergeNets_any (o:=Ex o [w.heap.size,w.heap.size+1]) t _ _ HRX5.out hf (Ex.no hno c5.size (by simp; omega))).mono ?_;rintro e w9 ⟨v9,rfl,hc9,hr9⟩;rw [<- HQ.out] at hr9
  obtain ⟨rt,hrt⟩ : ∃ rt,rt=canonA k t:=⟨_,rfl⟩
  rw [<- hrt] at hr9;have HRT:=Lib.hid hrt;clear hrt;obtain ⟨E5,r5,E6,r6,rfl,_⟩:=hr9.five;have c9:=c5.trans hc9 New.nil;have zz9:=box5 zz5 _ hc9;clear a0 a1 a2 a3 a4 af hc9;obtain ⟨z0,z1,z2,z3,z4,zf⟩:=cells5 zz9;obtain ⟨W,hW,QW,hcW,hrW⟩:=ret5 zz9 c9 (by omega) hr9 (by simp);have HRW:=Lib.hid hrW;clear hr9 hrW
  go_wp2_with fail
  rw [<- hW];clear hW;obtain ⟨f0,f1,f2,f3,f4,_⟩:=cells5 QW
  go_wp2
  refine bodyPost_ret (v:=(.tuple #[(.agg #[.int .i64 rt.kind,.int .i64 rt.num,.string rt.txt,.slice E5 rt.keys.length r5,.slice E6 rt.vals.length r6]),.bool true])) (by simp [results,Tryz.results68,go_sem,f0,f1,f2,f3,f4]) rfl ⟨_,_,rfl,hcW,by rw [<- HRT.out]; exact HRW.out,fun _ hu=>absurd hu HU.out⟩
 have f2:(k.toList == [110,101,116,119,111,114,107,115])=false:=ne_toList he (by kernel_rfl)
 by_cases hb:k=cBuild
 ·have HQ:Hid (canonA k t=buildC t):=Lib.hid (by rw [hb]; exact canonA_build)
  have g3:(k.toList == [98,117,105,108,100])=true:=by rw [hb]; kernel_rfl
  clear hd he hb;obtain ⟨a0,a1,a2,a3,a4,af⟩:=cells5 zt5
  go_wp2_with fail
  refine (mergeBuild_any (o:=Ex o [w.heap.size,w.heap.size+1]) t _ _ HRX5.out hf (Ex.no hno c5.size (by simp; omega))).mono ?_;rintro e w9 ⟨v9,rfl,hc9,hr9⟩;rw [<- HQ.out] at hr9
  obtain ⟨rt,hrt⟩ : ∃ rt,rt=canonA k t:=⟨_,rfl⟩
  rw [<- hrt] at hr9;have HRT:=Lib.hid hrt;clear hrt;obtain ⟨E5,r5,E6,r6,rfl,_⟩:=hr9.five;have c9:=c5.trans hc9 New.nil;have zz9:=box5 zz5 _ hc9;clear a0 a1 a2 a3 a4 af hc9;obtain ⟨z0,z1,z2,z3,z4,zf⟩:=cells5 zz9;obtain ⟨W,hW,QW,hcW,hrW⟩:=ret5 zz9 c9 (by omega) hr9 (by simp);have HRW:=Lib.hid hrW;clear hr9 hrW
  go_wp2_with fail
  rw [<- hW];clear hW;obtain ⟨f0,f1,f2,f3,f4,_⟩:=cells5 QW
  go_wp2
  refine bodyPost_ret (v:=(.tuple #[(.agg #[.int .i64 rt.kind,.int .i64 rt.num,.string rt.txt,.slice E5 rt.keys.length r5,.slice E6 rt.vals.length r6]),.bool true])) (by simp [results,Tryz.results68,go_sem,f0,f1,f2,f3,f4]) rfl ⟨_,_,rfl,hcW,by rw [<- HRT.out]; exact HRW.out,fun _ hu=>absurd hu HU.out⟩
 have f3:(k.toList == [98,117,105,108,100])=false:=ne_toList hb (by kernel_rfl)
 have hsc:k≠cSecrets:=fun e=>HU.out (by rw [e]; decide +kernel)
 have hco:k≠cConfigs:=fun e=>HU.out (by rw [e]; decide +kernel)
 have g1:(k.toList == [115,101,99,114,101,116,115])=false:=ne_toList hsc (by kernel_rfl);have g2:(k.toList == [99,111,110,102,105,103,115])=false:=ne_toList hco (by kernel_rfl);have HQ:Hid (canonA k t=t):=Lib.hid (canonA_plain HU.out HN.out hd he hb hsc hco);clear hd he hb hsc hco;obtain ⟨a0,a1,a2,a3,a4,af⟩:=cells5 zt5;obtain ⟨z0,z1,z2,z3,z4,zf⟩:=cells5 zz5;have hrx:=HRX5.out;obtain ⟨W,hW,QW,hcW,hrW⟩:=ret5 zz5 c5 (by omega) hrx (by simp);have HRW:=Lib.hid hrW;clear hrx hrW
 go_wp2_with fail
 rw [<- hW];clear hW;obtain ⟨f0,f1,f2,f3,f4,_⟩:=cells5 QW
 go_wp2
 refine bodyPost_ret (v:=(.tuple #[(.agg #[.int .i64 t.kind,.int .i64 t.num,.string t.txt,.slice A3 t.keys.length q3,.slice A4 t.vals.length q4]),.bool true])) (by simp [results,Tryz.results68,go_sem,f0,f1,f2,f3,f4]) rfl ⟨_,_,rfl,hcW,by rw [HQ.out]; exact HRW.out,fun _ hu=>absurd hu HU.out⟩
end Go.Proofs.YtpofkokbmifhgaaGreatDoor
