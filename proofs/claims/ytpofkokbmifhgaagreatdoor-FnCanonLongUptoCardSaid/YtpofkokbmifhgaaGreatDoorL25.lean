/- Parts of the walk, made small by wip/tools/pack.py: Bx, Two, VRow, SameD. No condition but those in each statement. -/
import Derived.Test.YtpofkokbmifhgaaGreatDoorL24
import Derived.Test.YtpofkokbmifhgaaGreatDoorL05
set_option maxRecDepth 100000
set_option maxHeartbeats 20000000
set_option linter.unusedVariables false
set_option linter.unusedSimpArgs false
namespace Go.Proofs.YtpofkokbmifhgaaGreatDoor
open Go.RowKit
variable {o:Nat->Prop}
def Ex (o:Nat->Prop) (L:List Nat) (b:Nat):Prop:=o b/\b ∉ L
structure Bx (o:Nat->Prop) (L:List Nat) (D:Nat) (x:T) (wx:World):Prop where
 box:∃ A5 q5 A6 q6,wx.heap[D]?=some (.cells #[.int .i64 x.kind,.int .i64 x.num,.string x.txt,.slice A5 x.keys.length q5,.slice A6 x.vals.length q6] 25)/\Rd (Ex o L) wx x (.agg #[.int .i64 x.kind,.int .i64 x.num,.string x.txt,.slice A5 x.keys.length q5,.slice A6 x.vals.length q6])
theorem Bx.go {L:List Nat} {D:Nat} {x:T} {wx wy:World} (h:Bx o L D x wx) (hc:Chg [] wx wy):Bx o L D x wy:=by
 obtain ⟨A5,q5,A6,q6,hb,hr⟩:=h.box;exact ⟨A5,q5,A6,q6,(hc.block _ (Array.getElem?_eq_some_iff.1 hb).1 (by simp)).trans hb,hr.chg hc⟩
theorem Bx.lt {L:List Nat} {D:Nat} {x:T} {wx:World} (h:Bx o L D x wx):D < wx.heap.size:=by
 obtain ⟨A5,q5,A6,q6,hb,hr⟩:=h.box;exact (Array.getElem?_eq_some_iff.1 hb).1
theorem Bx.new {L:List Nat} {x:T} {A5 A6:Option Addr} {q5 q6:Nat} (wx:World) (hr:Rd (Ex o L) wx x (.agg #[.int .i64 x.kind,.int .i64 x.num,.string x.txt,.slice A5 x.keys.length q5,.slice A6 x.vals.length q6])) :
  Bx o L wx.heap.size x (wx.alloc (.cells #[.int .i64 x.kind,.int .i64 x.num,.string x.txt,.slice A5 x.keys.length q5,.slice A6 x.vals.length q6] 25)):=
 ⟨A5,q5,A6,q6,heap_alloc_new _ _,hr.chg ((Chg.refl [] wx).al _)⟩
theorem Rd.ex {L:List Nat} {w:World} {t:T} {v:Value} (h:Rd o w t v) (hL:∀ b∈L,w.heap.size<=b):Rd (Ex o L) w t v:=
 h.to fun b hb ho=>⟨⟨ho,fun hm=>by have:=hL b hm; omega⟩,rfl⟩
theorem Ex.no {L:List Nat} {w:World} (hno:∀ b,w.heap.size<=b->o b) {W:World} (hW:w.heap.size<=W.heap.size) (hL:∀ b∈L,b < W.heap.size):∀ b,W.heap.size<=b->Ex o L b:=fun b hb=>
 ⟨hno b (by omega),fun hm=>by have:=hL b hm; omega⟩
theorem Bx.put {L:List Nat} {w0 wx:World} {D:Nat} {x y:T} (h:Bx o L D x wx) (hD:D∈L) (hc:Chg [] w0 wx) (hlt:w0.heap.size<=D) {A5 A6:Option Addr} {q5 q6:Nat} (hr:Rd (Ex o L) wx y (.agg #[.int .i64 y.kind,.int .i64 y.num,.string y.txt,.slice A5 y.keys.length q5,.slice A6 y.vals.length q6])) :
  ∃ W,W=(((((wx.setCell ⟨D,0,none⟩ (.int .i64 y.kind)).setCell ⟨D,1,none⟩ (.int .i64 y.num)).setCell ⟨D,2,none⟩ (.string y.txt)).setCell ⟨D,3,none⟩ (.slice A5 y.keys.length q5)).setCell ⟨D,4,none⟩ (.slice A6 y.vals.length q6)) /\
   Bx o L D y W/\Chg [] w0 W/\(∀ b,b≠D->W.heap[b]?=wx.heap[b]?)/\W.heap.size=wx.heap.size/\∀ D' z,D'≠D->Bx o L D' z wx->Bx o L D' z W:=by
 obtain ⟨A7,q7,A8,q8,hb,_⟩:=h.box;obtain ⟨W',hW',Q,hne,hcW,hs⟩:=store5 hb hc hlt (.int .i64 y.kind) (.int .i64 y.num) (.string y.txt) (.slice A5 y.keys.length q5) (.slice A6 y.vals.length q6)
 have hk:∀ t v,Rd (Ex o L) wx t v->Rd (Ex o L) W' t v:=fun t v hr=>hr.to fun b _ ho=>⟨ho,hne b (fun e=>ho.2 (e ▸ hD))⟩
 refine ⟨W',hW',⟨A5,q5,A6,q6,Q,hk _ _ hr⟩,hcW,hne,hs,fun D' z hn hz=>?_⟩;obtain ⟨B5,p5,B6,p6,hb',hr'⟩:=hz.box;exact ⟨B5,p5,B6,p6,(hne D' hn).trans hb',hk _ _ hr'⟩
theorem Bx.far {L:List Nat} {D D':Nat} {z:T} {W0 V:World} (h:Bx o L D' z W0) (hD:D∈L) (hne:D'≠D) (hs:∀ b,b < W0.heap.size->b≠D->V.heap[b]?=W0.heap[b]?):Bx o L D' z V:=by
 obtain ⟨A5,q5,A6,q6,hb,hr⟩:=h.box;exact ⟨A5,q5,A6,q6,(hs D' h.lt hne).trans hb,hr.to fun b hb ho=>⟨ho,hs b hb fun e=>ho.2 (e ▸ hD)⟩⟩
theorem RdV.litF {w:World} {g:Nat} {xs:Array Value} {e:TypeId} {l:List T} (ho:o g) (h:w.heap[g]?=some (.cells xs e)) (hx:FlatV o w l xs.toList):RdV o w l (.slice (some ⟨g,0,none⟩) l.length l.length):=by
 refine ⟨_,_,rfl,Nat.le_refl _,fun _=>⟨g,rfl,ho,hx.row 0 fun i u hu=>?_⟩⟩;rw [Nat.zero_mul,Nat.zero_add]
 have hu':xs[i]?=some u:=by simpa using hu
 simp only [World.cell?,h]
 simpa using hu'
end Go.Proofs.YtpofkokbmifhgaaGreatDoor
namespace Go.Proofs.YtpofkokbmifhgaaGreatDoor
open Go.RowKit
variable {o:Nat->Prop}
theorem ins_end {α:Type} {k:ByteArray} {x:α}:∀ {m:List (ByteArray × α)},(∀ p∈m,blt p.1 k=true)->mins k x m=m++[(k,x)]
 | [],_=>rfl
 | p :: m,h=>by
  have h1:=h p (by simp)
  have hne:p.1≠k:=fun e=>by rw [e,blt_irrefl] at h1; cases h1
  unfold mins;rw [if_neg hne,if_pos h1,ins_end fun q hq=>h q (List.mem_cons_of_mem _ hq)]
  rfl
theorem ins_take {α:Type} {k:ByteArray} {x:α} {m:List (ByteArray × α)} {n:Nat} (hs:Srt m) (h:m[n]?=some (k,x)):mins k x (m.take n)=m.take (n+1):=by
 rw [take_snoc h,ins_end]
 intro p hp
 obtain ⟨j,hj⟩:=List.getElem?_of_mem hp
 have hjn:j < n:=by
  have:=(List.getElem?_eq_some_iff.1 hj).1;simp at this
  omega
 have hn:=(List.getElem?_eq_some_iff.1 h).1;rw [List.getElem?_take_of_lt hjn] at hj;have:=List.pairwise_iff_getElem.1 hs j n (by omega) hn hjn;rw [(List.getElem?_eq_some_iff.1 hj).2,(List.getElem?_eq_some_iff.1 h).2] at this;exact this
theorem Srt.take {α:Type} {m:List (ByteArray × α)} (h:Srt m) (n:Nat):Srt (m.take n):=List.Pairwise.sublist (List.take_sublist n m) h
theorem al4 (w:World) (o1 o2 o3 o4:Obj):((((w.alloc o1).alloc o2).alloc o3).alloc o4).heap[w.heap.size]?=some o1/\((((w.alloc o1).alloc o2).alloc o3).alloc o4).heap[w.heap.size+1]?=some o2/\((((w.alloc o1).alloc o2).alloc o3).alloc o4).heap[w.heap.size+2]?=some o3/\((((w.alloc o1).alloc o2).alloc o3).alloc o4).heap[w.heap.size+3]?=some o4:=
 ⟨(heap_alloc_old _ _ _ (by simp; omega)).trans ((heap_alloc_old _ _ _ (by simp; omega)).trans (heap_al1 w o1 o2)),(heap_alloc_old _ _ _ (by simp)).trans ((heap_alloc_old _ _ _ (by simp)).trans (heap_al2 w o1 o2)),(heap_alloc_old _ _ _ (by simp)).trans (heap_alloc_at _ _ _ (by simp)),heap_alloc_at _ _ _ (by simp)⟩
theorem Rd.null_of {w:World} {v:Value} {k:ByteArray} (h:Rd o w ((tget k (.map [])).getD .null) v):Rd o w .null v:=h
theorem mergeTwo_empty (m:List (ByteArray × T)) (v0 v:Value) (w:World) (h0:Rd o w (.map []) v0) (h:Rd o w (.map m) v) (hf:Fine (.map m)) (hno:∀ b,w.heap.size<=b->o b) :
  Calls Tryz.prog 29 #[v0,v] w fun e w'=>∃ v',e=.returned (.tuple #[v',.bool true])/\Chg [] w w'/\Rd o w' (.map m) v':=by
 obtain ⟨A1,q1,A2,q2,rfl,_⟩:=h0.five;obtain ⟨A3,q3,A4,q4,rfl,hk,hv⟩:=h.five;have hml:Hid (m.length<=67108864):=Lib.hid (by have:=hf.len.1; simpa [T.vals] using this);have hsm:Hid (Srt m):=Lib.hid hf.wf.1
 have hkl:(T.map m).keys.length=m.length:=by simp [T.keys]
 have HKL:=Lib.hid hkl;clear hkl
 go_enter Tryz.func29,Tryz.ntmps29
 go_wp2_with fail
 go_loopg [7,8] m.length (fun g sd i wr=>∃ n:Nat,n<=m.length/\g=m.length - n/\sd=.bool true/\i=.int .i64 n/\Chg [] w wr/\wr.heap[w.heap.size]?=some (.cells #[.int .i64 (T.map []).kind,.int .i64 (T.map []).num,.string (T.map []).txt,.slice A1 (T.map []).keys.length q1,.slice A2 (T.map []).vals.length q2] 25)/\wr.heap[w.heap.size+1]?=some (.cells #[.int .i64 (T.map m).kind,.int .i64 (T.map m).num,.string (T.map m).txt,.slice A3 (T.map m).keys.length q3,.slice A4 (T.map m).vals.length q4] 25)/\wr.heap[w.heap.size+2]?=some (.cells #[.int .i64 0,.int .i64 0,.string ⟨#[]⟩,.slice none 0 0,.slice none 0 0] 25)/\Bx o [w.heap.size+2,w.heap.size+3] (w.heap.size+3) (.map (m.take n)) wr)
 case atStart=>
  obtain ⟨z1,z2,z3,z4⟩:=al4 w (.cells #[.int .i64 (T.map []).kind,.int .i64 (T.map []).num,.string (T.map []).txt,.slice A1 (T.map []).keys.length q1,.slice A2 (T.map []).vals.length q2] 25) (.cells #[.int .i64 (T.map m).kind,.int .i64 (T.map m).num,.string (T.map m).txt,.slice A3 (T.map m).keys.length q3,.slice A4 (T.map m).vals.length q4] 25) (.cells #[.int .i64 0,.int .i64 0,.string ⟨#[]⟩,.slice none 0 0,.slice none 0 0] 25) (.cells #[.int .i64 (T.map []).kind,.int .i64 (T.map []).num,.string (T.map []).txt,.slice A1 (T.map []).keys.length q1,.slice A2 (T.map []).vals.length q2] 25);refine ⟨0,Nat.zero_le _,by omega,rfl,rfl,((((Chg.refl [] w).al _).al _).al _).al _,z1,z2,z3,A1,q1,A2,q2,z4,?_⟩;exact ((h0.ex (L:=[w.heap.size+2,w.heap.size+3]) (by simp)).chg (((((Chg.refl [] w).al _).al _).al _).al _))
 case round=>
  obtain ⟨n,hn,rfl,rfl,rfl,hcr,za,zb,zz,hB⟩:=hrel;obtain ⟨a0,a1,a2,a3,a4,af⟩:=cells5 za;obtain ⟨b0,b1,b2,b3,b4,bf⟩:=cells5 zb
  by_cases hlt:n < m.length
  ·have hn64:n<=67108864:=by have:=hml.out; omega
   have hlk:n < (T.map m).keys.length:=by rw [HKL.out]; exact hlt
   have hlv:n < (T.map m).vals.length:=by simp [T.vals]; exact hlt
   obtain ⟨⟨s,x⟩,hq⟩ : ∃ q,m[n]?=some q:=⟨_,List.getElem?_eq_getElem hlt⟩
   obtain ⟨gk,ck,ek,hgk,yk⟩:=hk.elem (n:=n) (s:=s) (by simp [T.keys,hq]);obtain ⟨ge,ce,A5,q5,A6,q6,ee,hge,rx,ye⟩:=hv.elem (n:=n) (x:=x) (by simp [T.vals,hq])
   cases ek
   cases ee
   have HQ:=Lib.hid hq;have HRX:=Lib.hid rx;obtain ⟨y0,y1,y2,y3,y4⟩:=ye _ hcr;have k0:=yk _ hcr;have k1:=cell_al k0;have c3:=cell_al b3;have c4:=cell_al b4;have g0:=cell_al y0;have g1:=cell_al y1;have g2:=cell_al y2;have g3:=cell_al y3;have g4:=cell_al y4;clear hq rx ye yk
   go_upto_region 5 with fail
   go_region
   obtain ⟨W0,hW0⟩ : ∃ W0:World,W0=(wr.alloc (.cells #[.int .i64 x.kind,.int .i64 x.num,.string x.txt,.slice A5 x.keys.length q5,.slice A6 x.vals.length q6] 25)).drew:=⟨_,rfl⟩
   obtain ⟨XB,hXB⟩ : ∃ XB:Nat,XB=wr.heap.size:=⟨_,rfl⟩
   have hcd:Chg [] wr W0:=hW0 ▸ ((Chg.refl [] wr).al _).dr;have hc0:Chg [] w W0:=hcr.trans hcd New.nil
   have hx0:W0.heap[XB]?=some (.cells #[.int .i64 x.kind,.int .i64 x.num,.string x.txt,.slice A5 x.keys.length q5,.slice A6 x.vals.length q6] 25):=by rw [hXB,hW0]; exact heap_alloc_new wr _
   have za0:W0.heap[w.heap.size]?=some (.cells #[.int .i64 (T.map []).kind,.int .i64 (T.map []).num,.string (T.map []).txt,.slice A1 (T.map []).keys.length q1,.slice A2 (T.map []).vals.length q2] 25):=by rw [hW0]; exact (heap_alloc_old wr (.cells #[.int .i64 x.kind,.int .i64 x.num,.string x.txt,.slice A5 x.keys.length q5,.slice A6 x.vals.length q6] 25) _ (Array.getElem?_eq_some_iff.1 za).1).trans za
   have zb0:W0.heap[w.heap.size+1]?=some (.cells #[.int .i64 (T.map m).kind,.int .i64 (T.map m).num,.string (T.map m).txt,.slice (some ⟨gk,0,none⟩) (T.map m).keys.length q3,.slice (some ⟨ge,0,none⟩) (T.map m).vals.length q4] 25):=by rw [hW0]; exact (heap_alloc_old wr (.cells #[.int .i64 x.kind,.int .i64 x.num,.string x.txt,.slice A5 x.keys.length q5,.slice A6 x.vals.length q6] 25) _ (Array.getElem?_eq_some_iff.1 zb).1).trans zb
   have zz0:W0.heap[w.heap.size+2]?=some (.cells #[.int .i64 0,.int .i64 0,.string ⟨#[]⟩,.slice none 0 0,.slice none 0 0] 25):=by rw [hW0]; exact (heap_alloc_old wr (.cells #[.int .i64 x.kind,.int .i64 x.num,.string x.txt,.slice A5 x.keys.length q5,.slice A6 x.vals.length q6] 25) _ (Array.getElem?_eq_some_iff.1 zz).1).trans zz
   have hB0:=hB.go hcd;rw [<- hW0,<- hXB];clear hcd hW0 hXB k0 k1 c3 c4 g0 g1 g2 g3 g4 y0 y1 y2 y3 y4 a0 a1 a2 a3 a4 af b0 b1 b2 b3 b4 bf za zb zz hB hcr;obtain ⟨a0,a1,a2,a3,a4,af⟩:=cells5 za0
   go_upto_region 9 with fail
   refine (get_any (.map []) _ s _ (h0.chg hc0) (fun m e=>by cases e; exact List.Pairwise.nil) (by simp [T.keys])).mono ?_;rintro e w3 ⟨v',rfl,hc3,hr3⟩;rw [show (tget s (T.map [])).isSome=false from rfl];have hr3:=Rd.null_of hr3;obtain ⟨A7,q7,A8,q8,rfl,_⟩:=hr3.five;clear hr3;have hc3w:=hc0.trans hc3 New.nil;have hx3:=box5 hx0 _ hc3;have za3:=box5 za0 _ hc3;have zb3:=box5 zb0 _ hc3;have zz3:=box5 zz0 _ hc3;have hB3:=hB0.go hc3;clear hx0 za0 zb0 zz0 hB0 hc3 hc0 a0 a1 a2 a3 a4 af
   go_upto_region 24 with fail
   obtain ⟨W1,hW1⟩ : ∃ W1:World,W1=w3.alloc (.cells #[.int .i64 T.null.kind,.int .i64 T.null.num,.string T.null.txt,.slice A7 T.null.keys.length q7,.slice A8 T.null.vals.length q8] 25):=⟨_,rfl⟩
   rw [<- hW1];have hcd:Chg [] w3 W1:=hW1 ▸ (Chg.refl [] w3).al _;have hc1:Chg [] w W1:=hc3w.trans hcd New.nil;have hx1:=box5 hx3 _ hcd;have za1:=box5 za3 _ hcd;have zb1:=box5 zb3 _ hcd;have zz1:=box5 zz3 _ hcd;have hB1:=hB3.go hcd;clear hW1 hcd hx3 za3 zb3 zz3 hB3 hc3w;have hsz1:w.heap.size+3 < W1.heap.size:=hB1.lt;obtain ⟨E5,r5,E6,r6,hb1,hr1⟩:=hB1.box;obtain ⟨d0,d1,d2,d3,d4,df⟩:=cells5 hb1;obtain ⟨x0,x1,x2,x3,x4,xf⟩:=cells5 hx1;have HR1:=Lib.hid hr1;clear hr1
   go_wp2_with fail
   refine (with_map (o:=Ex o [w.heap.size+2,w.heap.size+3]) (m.take n) x _ _ s W1 HR1.out (hsm.out.take n) ((HRX.out.ex (by simp)).chg hc1) (by have:=hml.out; simp; omega) (Ex.no hno (by omega) (by simp; omega))).mono ?_;rintro e w4 ⟨v4,rfl,hc4,hr4⟩;rw [ins_take hsm.out HQ.out] at hr4;have hcw4:=hc1.trans hc4 New.nil;have za4:=box5 za1 _ hc4;have zb4:=box5 zb1 _ hc4;have zz4:=box5 zz1 _ hc4;have hB4:=hB1.go hc4;have hb4:=box5 hb1 _ hc4;obtain ⟨E7,r7,E8,r8,rfl,_⟩:=hr4.five;clear d0 d1 d2 d3 d4 df x0 x1 x2 x3 x4 xf hc4;obtain ⟨d0,d1,d2,d3,d4,df⟩:=cells5 hb4;obtain ⟨W,hW,hBW,hcW,hne,hszW,_⟩:=hB4.put (by simp) hcw4 (by omega) hr4;have zaW:=(hne _ (by omega)).trans za4;have zbW:=(hne _ (by omega)).trans zb4;have zzW:=(hne _ (by omega)).trans zz4;have HW:=Lib.hid (And.intro hBW (And.intro hcW (And.intro zaW (And.intro zbW zzW))));clear hr4 hBW hcW hne hszW zaW zbW zzW
   go_wp2_with fail
   rw [<- hW];clear hW
   go_roundg (m.length - (n+1))
   case measure=>omega
   case rel=>exact ⟨n+1,by omega,rfl,rfl,by go_num,HW.out.2.1,HW.out.2.2.1,HW.out.2.2.2.1,HW.out.2.2.2.2,HW.out.1⟩
  ·have hlk:¬ n < (T.map m).keys.length:=by rw [HKL.out]; exact hlt
   have he:m.take n=m:=List.take_of_length_le (by omega);rw [he] at hB;have hszr:w.heap.size+3 < wr.heap.size:=hB.lt;obtain ⟨E5,r5,E6,r6,hb1,hr1⟩:=hB.box;obtain ⟨d0,d1,d2,d3,d4,df⟩:=cells5 hb1;obtain ⟨e0,e1,e2,e3,e4,ef⟩:=cells5 zz;have HR:=Lib.hid hr1;obtain ⟨W,hW,Q,hne,hcW,hszW⟩:=store5 zz hcr (by omega:w.heap.size<=w.heap.size+2) (.int .i64 (T.map m).kind) (.int .i64 (T.map m).num) (.string (T.map m).txt) (.slice E5 (T.map m).keys.length r5) (.slice E6 (T.map m).vals.length r6);have HW:=Lib.hid (And.intro hcW hne);clear he hr1 hne
   go_wp2_with fail
   rw [<- hW];obtain ⟨f0,f1,f2,f3,f4,_⟩:=cells5 Q;clear hW
   go_wp2
   refine bodyPost_ret (v:=.tuple #[.agg #[.int .i64 (T.map m).kind,.int .i64 (T.map m).num,.string (T.map m).txt,.slice E5 (T.map m).keys.length r5,.slice E6 (T.map m).vals.length r6],.bool true]) (by simp [results,Tryz.results29,go_sem,f0,f1,f2,f3,f4]) rfl ⟨_,rfl,hcW,?_⟩
   exact HR.out.to fun b _ ho=>⟨ho.1,HW.out.2 b (fun e=>ho.2 (by simp [e]))⟩
end Go.Proofs.YtpofkokbmifhgaaGreatDoor
namespace Go.Proofs.YtpofkokbmifhgaaGreatDoor
open Go.RowKit
variable {o:Nat->Prop}
theorem ownsRow_put5 {w:World} {base e size n g cap j:Nat} {cs:List Value} (h:w.ownsRow base e size (.slice (some ⟨g,0,none⟩) n cap) n cs) (hj:j < n * size) (v:Value):(w.setCell ⟨g,j,none⟩ v).ownsRow base e size (.slice (some ⟨g,0,none⟩) n cap) n (cs.set j v):=by
 refine ⟨by simp [h.1],?_⟩
 rcases h.2 with ⟨h1,_⟩ | ⟨g',cap',cur,h1,hb,hh,hc,hm,hs,ht⟩
 ·cases h1
 ·cases h1
  have hlt:g < w.heap.size:=(Array.getElem?_eq_some_iff.1 hh).1;refine .inr ⟨g,cap,cur.set! j v,rfl,hb,?_,hc,hm,by simpa using hs,?_⟩
  ·show (w.heap.modify g _)[g]?=_
   rw [Array.getElem?_modify,if_pos rfl,hh]
   rfl
  ·rw [<- ht,Array.toList_set!]
   rw [List.take_set]
structure VRow (o:Nat->Prop) (w0:World) (base:Nat) (l:List T) (R:Value) (w:World):Prop where
 chg:Chg [] w0 w
 le:w0.heap.size<=base/\base<=w.heap.size
 row:∃ xs,w.ownsRow base 25 5 R l.length xs/\FlatV (fun b=>o b/\b < w0.heap.size) w l xs
theorem VRow.nil {w0 w:World} {base:Nat} (hc:Chg [] w0 w) (hb:w0.heap.size<=base/\base<=w.heap.size):VRow o w0 base [] (.slice none 0 0) w:=
 ⟨hc,hb,[],⟨rfl,.inl ⟨rfl,rfl⟩⟩,by simp [FlatV]⟩
theorem VRow.slice {w0 w:World} {base:Nat} {l:List T} {R:Value} (h:VRow o w0 base l R w):∃ A c,R=.slice A l.length c:=by
 obtain ⟨xs,hr,_⟩:=h.row;exact ownsRow_slice hr
theorem VRow.keep {w0 w w':World} {base:Nat} {l:List T} {R:Value} (h:VRow o w0 base l R w) (hc:Chg [] w0 w') (hs:w.heap.size<=w'.heap.size) (hr:∀ g,base<=g->g < w.heap.size->w'.heap[g]?=w.heap[g]?):VRow o w0 base l R w':=by
 obtain ⟨xs,h1,h2⟩:=h.row;refine ⟨hc,⟨h.le.1,by have:=h.le.2; omega⟩,xs,ownsRow_keep h1 fun g hg=>hr g (ownsRow_own h1 hg).1 (ownsRow_own h1 hg).2,h2.mono fun b _ hb=>?_⟩;rw [hc.block b hb.2 (by simp),h.chg.block b hb.2 (by simp)]
theorem VRow.go {w0 w w':World} {base:Nat} {l:List T} {R:Value} (h:VRow o w0 base l R w) (hc:Chg [] w w'):VRow o w0 base l R w':=
 h.keep (h.chg.trans hc New.nil) hc.size fun g _ hg=>hc.block g hg (by simp)
theorem VRow.rd {w0 w:World} {base:Nat} {l:List T} {R:Value} (h:VRow o w0 base l R w) (hno:∀ b,w0.heap.size<=b->o b):RdV o w l R:=by
 obtain ⟨xs,h1,h2⟩:=h.row;exact RdV.of_own' rfl (fun b hb=>hno b (by have:=h.le.1; omega)) h1 (h2.weak fun b hb=>hb.1)
theorem VRow.elem {w0 w:World} {base:Nat} {l:List T} {R:Value} (h:VRow o w0 base l R w) {j:Nat} {x:T} (hx:l[j]?=some x):∃ g c A5 q5 A6 q6,R=.slice (some ⟨g,0,none⟩) l.length c/\base<=g/\g < w.heap.size /\
  Rd (fun _=>True) w x (.agg #[.int .i64 x.kind,.int .i64 x.num,.string x.txt,.slice A5 x.keys.length q5,.slice A6 x.vals.length q6]) /\
  (w.cell? ⟨g,j * 5,none⟩=some (.int .i64 x.kind)/\w.cell? ⟨g,j * 5+1,none⟩=some (.int .i64 x.num)/\w.cell? ⟨g,j * 5+2,none⟩=some (.string x.txt)/\w.cell? ⟨g,j * 5+3,none⟩=some (.slice A5 x.keys.length q5)/\w.cell? ⟨g,j * 5+4,none⟩=some (.slice A6 x.vals.length q6)) /\
  (∀ i,w.frozen? ⟨g,i,none⟩=false):=by
 obtain ⟨xs,h2⟩:=h.row;have hrd:RdV (fun _=>True) w l R:=RdV.of_own' rfl (fun _ _=>trivial) h2.1 (h2.2.weak fun _ _=>trivial);obtain ⟨g,c,A5,q5,A6,q6,rfl,hg,hr,hcell⟩:=hrd.elem hx;have hgb:=ownsRow_own h2.1 (g:=g) rfl;refine ⟨g,c,A5,q5,A6,q6,rfl,hgb.1,hg,hr,hcell w (Chg.refl _ _),fun i=>?_⟩
 rcases h2.1.2 with ⟨h',_⟩ | ⟨g',cap',cur,h',hb,hh,_⟩
 ·cases h'
 ·cases h'
  exact frozen_of_row w g i cur _ hh
theorem VRow.app {w0 w:World} {base:Nat} {l:List T} {R:Value} (h:VRow o w0 base l R w) {x:T} {A5 A6:Option Addr} {q5 q6:Nat} (hx:Rd o w0 x (.agg #[.int .i64 x.kind,.int .i64 x.num,.string x.txt,.slice A5 x.keys.length q5,.slice A6 x.vals.length q6])) (hl:l.length<=67108864) (ty:TypeId)
  {W:World} {g1:Nat} (hW:W=w.alloc (.cells #[.int .i64 x.kind,.int .i64 x.num,.string x.txt,.slice A5 x.keys.length q5,.slice A6 x.vals.length q6] 25)) (hg1:g1=w.heap.size) :
  ∃ R' w',(Builtin.append_ #[23,23] ty #[R,.slice (some ⟨g1,0,none⟩) 1 1]).run Tryz.prog W=.ok R' w'/\(VRow o w0 base (l++[x]) R' w'/\(∀ b,b < base->w'.heap[b]?=w.heap[b]?)/\w.heap.size<=w'.heap.size):=by
 have hcW:Chg [] w W:=by rw [hW]; exact (Chg.refl [] w).al _
 have hg:=h.go hcW;obtain ⟨xs,h1,h2⟩:=hg.row;have hb:=hg.le;have hxW:Rd (fun b=>o b/\b < w0.heap.size) W x (.agg #[.int .i64 x.kind,.int .i64 x.num,.string x.txt,.slice A5 x.keys.length q5,.slice A6 x.vals.length q6]):=hx.lo.chg hg.chg
 have hnew:W.heap[g1]?=some (.cells #[.int .i64 x.kind,.int .i64 x.num,.string x.txt,.slice A5 x.keys.length q5,.slice A6 x.vals.length q6] 25):=by rw [hW,hg1]; exact heap_alloc_new _ _
 obtain ⟨c0,c1,c2,c3,c4,_⟩:=cells5 hnew
 obtain ⟨R',w',hr,ho,hc,hor⟩:=run_app (P:=Tryz.prog) base 23 ty 25 _ 5 80 uVs iV rfl (by omega) R l.length xs h1 (some ⟨g1,0,none⟩) 1 1 [.int .i64 x.kind,.int .i64 x.num,.string x.txt,.slice A5 x.keys.length q5,.slice A6 x.vals.length q6] rfl (fun _=>⟨_,rfl,fun j u hu=>by
  rw [show (⟨g1,0,none⟩ : Addr).add j=⟨g1,j,none⟩ by unfold Addr.add; split <;> simp_all];rcases j with _ | _ | _ | _ | _ | j
  ·cases hu; exact c0
  ·cases hu; exact c1
  ·cases hu; exact c2
  ·cases hu; exact c3
  ·cases hu; exact c4
  ·simp at hu⟩) (by intro u hu; exact hxW.one u hu) (by omega) (by omega) hb.2
 have hown:∀ y,y∈R.ownBlock.toList->base<=y:=fun y hy=>(ownsRow_own h1 (by simpa using hy)).1
 refine ⟨R',w',hr,⟨hg.chg.trans hc fun y hy=>.inr (by have:=hown y hy; omega),⟨hb.1,by have:=hc.size; omega⟩,xs++_,by simpa using ho,?_⟩,fun b hbb=>?_,?_⟩
 ·have hto:∀ b,b < W.heap.size->(o b/\b < w0.heap.size)->(o b/\b < w0.heap.size)/\w'.heap[b]?=W.heap[b]?:=fun b hb1 hb2=>⟨hb2,hc.block b hb1 fun hm=>by have:=hown b hm; omega⟩
  exact (h2.to hto).snoc (hxW.to hto)
 ·have h3:=h.le.2
  rw [hc.block b (by have:=hcW.size; omega) fun hm=>by have:=hown b hm; omega,hcW.block b (by omega) (by simp)]
 ·have:=hcW.size
  have:=hc.size
  omega
theorem VRow.put {w0 w:World} {base:Nat} {l:List T} {g c:Nat} (h:VRow o w0 base l (.slice (some ⟨g,0,none⟩) l.length c) w) {j:Nat} (hj:j < l.length) {x:T} {A5 A6:Option Addr} {q5 q6:Nat} (hx:Rd o w0 x (.agg #[.int .i64 x.kind,.int .i64 x.num,.string x.txt,.slice A5 x.keys.length q5,.slice A6 x.vals.length q6])) :
  ∃ W,W=(((((w.setCell ⟨g,j * 5,none⟩ (.int .i64 x.kind)).setCell ⟨g,j * 5+1,none⟩ (.int .i64 x.num)).setCell ⟨g,j * 5+2,none⟩ (.string x.txt)).setCell ⟨g,j * 5+3,none⟩ (.slice A5 x.keys.length q5)).setCell ⟨g,j * 5+4,none⟩ (.slice A6 x.vals.length q6)) /\
   VRow o w0 base (l.set j x) (.slice (some ⟨g,0,none⟩) l.length c) W/\(∀ b,b < base->W.heap[b]?=w.heap[b]?)/\W.heap.size=w.heap.size:=by
 refine ⟨_,rfl,?_,?_,by simp⟩
 ·obtain ⟨xs,h1,h2⟩:=h.row
  have hgb:=ownsRow_own h1 (g:=g) rfl;have hle:=h.le
  have hst:∀ {W:World},Chg [] w0 W->∀ k v,Chg [] w0 (W.setCell ⟨g,k,none⟩ v):=fun hW k v=>hW.st (by show w0.heap.size<=g; omega) v
  refine ⟨hst (hst (hst (hst (hst h.chg _ _) _ _) _ _) _ _) _ _,by simpa using hle,(((((xs.set (j * 5) (.int .i64 x.kind)).set (j * 5+1) (.int .i64 x.num)).set (j * 5+2) (.string x.txt)).set (j * 5+3) (.slice A5 x.keys.length q5)).set (j * 5+4) (.slice A6 x.vals.length q6)),?_,?_⟩
  ·rw [List.length_set]
   exact ownsRow_put5 (ownsRow_put5 (ownsRow_put5 (ownsRow_put5 (ownsRow_put5 h1 (by omega) _) (by omega) _) (by omega) _) (by omega) _) (by omega) _
  ·have hk:∀ b,b < w.heap.size->(o b/\b < w0.heap.size)->(((((w.setCell ⟨g,j * 5,none⟩ (.int .i64 x.kind)).setCell ⟨g,j * 5+1,none⟩ (.int .i64 x.num)).setCell ⟨g,j * 5+2,none⟩ (.string x.txt)).setCell ⟨g,j * 5+3,none⟩ (.slice A5 x.keys.length q5)).setCell ⟨g,j * 5+4,none⟩ (.slice A6 x.vals.length q6)).heap[b]?=w.heap[b]?:=fun b _ hb=>by
    have hbg:b≠g:=by omega
    rw [heap_setCell_other _ _ _ _ hbg,heap_setCell_other _ _ _ _ hbg,heap_setCell_other _ _ _ _ hbg,heap_setCell_other _ _ _ _ hbg,heap_setCell_other _ _ _ _ hbg]
   exact FlatV.set ((hx.lo.chg h.chg).mono hk) j (h2.mono hk)
 ·intro b hb
  obtain ⟨xs,h1,_⟩:=h.row;have hgb:=ownsRow_own h1 (g:=g) rfl
  have hbg:b≠g:=by omega
  rw [heap_setCell_other _ _ _ _ hbg,heap_setCell_other _ _ _ _ hbg,heap_setCell_other _ _ _ _ hbg,heap_setCell_other _ _ _ _ hbg,heap_setCell_other _ _ _ _ hbg]
theorem ret5 {w wx:World} {R:Nat} {L:List Nat} {e:TypeId} {a0 a1 a2 a3 a4:Value} (hz:wx.heap[R]?=some (.cells #[a0,a1,a2,a3,a4] e)) (hc:Chg [] w wx) (hR:w.heap.size<=R) {t:T} {A5 A6:Option Addr} {q5 q6:Nat} (hr:Rd (Ex o L) wx t (.agg #[.int .i64 t.kind,.int .i64 t.num,.string t.txt,.slice A5 t.keys.length q5,.slice A6 t.vals.length q6])) (hL:R∈L) :
  ∃ W,W=(((((wx.setCell ⟨R,0,none⟩ (.int .i64 t.kind)).setCell ⟨R,1,none⟩ (.int .i64 t.num)).setCell ⟨R,2,none⟩ (.string t.txt)).setCell ⟨R,3,none⟩ (.slice A5 t.keys.length q5)).setCell ⟨R,4,none⟩ (.slice A6 t.vals.length q6)) /\
   W.heap[R]?=some (.cells #[.int .i64 t.kind,.int .i64 t.num,.string t.txt,.slice A5 t.keys.length q5,.slice A6 t.vals.length q6] e)/\Chg [] w W/\Rd o W t (.agg #[.int .i64 t.kind,.int .i64 t.num,.string t.txt,.slice A5 t.keys.length q5,.slice A6 t.vals.length q6]):=by
 obtain ⟨W,hW,Q,hne,hcW,_⟩:=store5 hz hc hR (.int .i64 t.kind) (.int .i64 t.num) (.string t.txt) (.slice A5 t.keys.length q5) (.slice A6 t.vals.length q6);exact ⟨W,hW,Q,hcW,hr.to fun b _ ho=>⟨ho.1,hne b fun e=>ho.2 (e ▸ hL)⟩⟩
end Go.Proofs.YtpofkokbmifhgaaGreatDoor
namespace Go.Proofs.YtpofkokbmifhgaaGreatDoor
open Go.RowKit
variable {o:Nat->Prop}
theorem T.ext5:∀ {a b:T},a.kind=b.kind->a.num=b.num->a.txt=b.txt->a.keys=b.keys->a.vals=b.vals->a=b:=by
 intro a b h0 h1 h2 h3 h4
 cases a with
 | null=>cases b with
  | null=>rfl
  | _=>simp [T.kind] at h0
 | bool p=>cases b with
  | bool q=>cases p <;> cases q <;> simp [T.num] at h1 ⊢
  | _=>simp [T.kind] at h0
 | int p=>cases b with
  | int q=>simp only [T.num] at h1; rw [h1]
  | _=>simp [T.kind] at h0
 | text p=>cases b with
  | text q=>simp only [T.txt] at h2; rw [h2]
  | _=>simp [T.kind] at h0
 | list p=>cases b with
  | list q=>simp only [T.vals] at h4; rw [h4]
  | _=>simp [T.kind] at h0
 | map m=>cases b with
  | map n=>
   simp only [T.keys,T.vals] at h3 h4;have e1:=List.zip_unzip m;have e2:=List.zip_unzip n;rw [List.unzip_eq_map] at e1 e2;simp only [h3,h4] at e1;exact congrArg T.map (e1.symm.trans e2)
  | _=>simp [T.kind] at h0
noncomputable def sameT (a b:T):Bool:=@decide (a=b) (Classical.propDecidable _)
theorem sameT_t {a b:T} (h:a=b):sameT a b=true:=by unfold sameT; exact @decide_eq_true (a=b) (Classical.propDecidable _) h
theorem sameT_f {a b:T} (h:a≠b):sameT a b=false:=by unfold sameT; exact @decide_eq_false (a=b) (Classical.propDecidable _) h
theorem list_ext_of {α:Type} {l l':List α} {n:Nat} (hl:l'.length=l.length) (hn:n=l.length) (h:∀ j,j < n->l[j]?=l'[j]?):l=l':=List.ext_getElem? fun j=>by
 by_cases hj:j < n
 ·exact h j hj
 ·rw [List.getElem?_eq_none (by omega),List.getElem?_eq_none (by omega)]
theorem same_dec (n:Nat):∀ (t t2:T) (va vb:Value) (w:World),T.size t<=n->T.size t<=67108864->Rd o w t va->Rd o w t2 vb ->
  Calls Tryz.prog 14 #[va,vb] w fun e w'=>e=.returned (.bool (sameT t t2))/\Chg [] w w':=by
 induction n with
 | zero=>exact fun t _ _ _ _ hn=>absurd hn (by have:=T.size_pos t; omega)
 | succ nn ih=>
  intro t t2 va vb w hn hb h h'
  have hvl:=T.vals_len t;have hkl:=T.keys_vals t;obtain ⟨Ak,qk,Av,qv,rfl,hk,hv⟩:=h.five;obtain ⟨Bk,pk,Bv,pv,rfl,hk',hv'⟩:=h'.five
  by_cases hne:t.kind=t2.kind/\t.num=t2.num/\t.txt=t2.txt/\t2.keys.length=t.keys.length/\t2.vals.length=t.vals.length
  case neg=>
   have hn2:Hid (t≠t2):=Lib.hid fun e=>hne (by rw [e]; exact ⟨rfl,rfl,rfl,rfl,rfl⟩)
   go_enter Tryz.func14,Tryz.ntmps14
   have leave:∀ W,Chg [] w W->(Ending.returned (.bool false):Ending)=.returned (.bool (sameT t t2))/\Chg [] w W:=fun W hW=>⟨by rw [sameT_f hn2.out],hW⟩
   have LV:=Lib.hid leave;clear leave
   by_cases e0:t.kind=t2.kind
   case neg=>
    have f0:(t.kind != t2.kind)=true:=by simpa using e0
    clear hne e0
    go_wp2
    go_ret
    exact LV.out _ (((Chg.refl [] w).al _).al _)
   have f0:(t.kind != t2.kind)=false:=by simpa using e0
   by_cases e1:t.num=t2.num
   case neg=>
    have f1:(t.num != t2.num)=true:=by simpa using e1
    clear hne e0 e1
    go_wp2
    go_ret
    exact LV.out _ (((Chg.refl [] w).al _).al _)
   have f1:(t.num != t2.num)=false:=by simpa using e1
   by_cases e2:t.txt=t2.txt
   case neg=>
    have f2:(t.txt.toList == t2.txt.toList)=false:=by rw [eqS]; simpa using e2
    clear hne e0 e1 e2
    go_wp2
    go_ret
    exact LV.out _ (((Chg.refl [] w).al _).al _)
   have f2:(t.txt.toList == t2.txt.toList)=true:=by rw [eqS]; simpa using e2
   by_cases e3:t2.keys.length=t.keys.length
   case neg=>
    have f3:((t.keys.length:Int) != (t2.keys.length:Int))=true:=by simp; omega
    clear hne e0 e1 e2 e3
    go_wp2
    go_ret
    exact LV.out _ (((Chg.refl [] w).al _).al _)
   have f3:((t.keys.length:Int) != (t2.keys.length:Int))=false:=by simp; omega
   have f4:((t.vals.length:Int) != (t2.vals.length:Int))=true:=by
    simp only [bne_iff_ne,ne_eq]
    intro e
    exact hne ⟨e0,e1,e2,e3,by omega⟩
   clear hne e0 e1 e2 e3
   go_wp2
   go_ret
   exact LV.out _ (((Chg.refl [] w).al _).al _)
  obtain ⟨e0,e1,e2,e3,e4⟩:=hne;have HEQ:=Lib.hid (And.intro e0 (And.intro e1 e2));have HL:=Lib.hid (And.intro e3 e4);rw [<- e0,<- e1,<- e2,e3,e4];clear e0 e1 e2 e3 e4
  go_enter Tryz.func14,Tryz.ntmps14
  go_wp2
  go_loopg [5] t.keys.length (fun g i wr=>∃ n d:Nat,n<=t.keys.length/\g=t.keys.length - n/\i=.int .i64 n/\Hid (∀ j,j < n->t.keys[j]?=t2.keys[j]?)/\((w.alloc (.cells #[.int .i64 t.kind,.int .i64 t.num,.string t.txt,.slice Ak t.keys.length qk,.slice Av t.vals.length qv] 25)).alloc (.cells #[.int .i64 t.kind,.int .i64 t.num,.string t.txt,.slice Bk t.keys.length pk,.slice Bv t.vals.length pv] 25)).drewN d=wr)
  case atStart=>exact ⟨0,0,Nat.zero_le _,by omega,rfl,Lib.hid fun j hj=>absurd hj (Nat.not_lt_zero _),rfl⟩
  case round=>
   obtain ⟨n,d,hn',rfl,rfl,HKS,rfl⟩:=hrel
   by_cases hlt:n < t.keys.length
   ·obtain ⟨s,hs⟩ : ∃ s,t.keys[n]?=some s:=⟨_,List.getElem?_eq_getElem hlt⟩
    obtain ⟨s2,hs2⟩ : ∃ s2,t2.keys[n]?=some s2:=⟨_,List.getElem?_eq_getElem (by rw [HL.out.1]; exact hlt)⟩
    obtain ⟨g1,c1,e1,hc1,hx1⟩:=hk.at_ hs;obtain ⟨g2,c2,e2,hc2,hx2⟩:=hk'.at_ hs2;rw [HL.out.1] at e2
    cases e1
    cases e2
    have hg1:g1 < w.heap.size:=World.block_lt_of_cell? w _ hx1;have hg2:g2 < w.heap.size:=World.block_lt_of_cell? w _ hx2
    by_cases he:s=s2
    ·subst he
     have HS:=Lib.hid (And.intro hs hs2);clear hs hs2
     go_wp2
     go_quiet (fail)
     go_wp2
     go_roundg (t.keys.length - (n+1))
     case measure=>omega
     case rel=>exact ⟨n+1,_,by omega,rfl,by go_num,Lib.hid fun j hj=>by
       rcases Nat.lt_succ_iff_lt_or_eq.1 hj with h | rfl
       ·exact HKS.out j h
       ·rw [HS.out.1,HS.out.2],rfl⟩
    ·have hf:(s.toList == s2.toList)=false:=by rw [eqS]; simpa using he
     have HN:Hid (t≠t2):=Lib.hid fun e=>by
      rw [e,hs2] at hs;exact he (Option.some.inj hs).symm
     clear hs hs2 he
     go_wp2
     go_quiet (fail)
     go_wp2
     go_ret
     exact ⟨by rw [sameT_f HN.out]; rfl,((((Chg.refl [] w).al _).al _).drN _).drN _⟩
   ·have HE:=Lib.hid (list_ext_of HL.out.1 (show n=t.keys.length by omega) HKS.out)
    clear HKS
    go_wp2
    go_loopg [6] t.vals.length (fun g i wr=>∃ n:Nat,n<=t.vals.length/\g=t.vals.length - n/\i=.int .i64 n/\Chg [] w wr/\Hid (∀ j,j < n->t.vals[j]?=t2.vals[j]?) /\
     wr.heap[w.heap.size]?=some (.cells #[.int .i64 t.kind,.int .i64 t.num,.string t.txt,.slice Ak t.keys.length qk,.slice Av t.vals.length qv] 25) /\
     wr.heap[w.heap.size+1]?=some (.cells #[.int .i64 t.kind,.int .i64 t.num,.string t.txt,.slice Bk t.keys.length pk,.slice Bv t.vals.length pv] 25))
    case atStart=>
     refine ⟨0,Nat.zero_le _,by omega,rfl,(((Chg.refl [] w).al _).al _).drN _,Lib.hid fun j hj=>absurd hj (Nat.not_lt_zero _),?_,?_⟩
     ·exact (heap_alloc_old _ _ _ (by simp)).trans (heap_alloc_new _ _)
     ·have h1:∀ o,(w.alloc o).heap.size=w.heap.size+1:=fun o=>by simp
      have:=heap_alloc_new (w.alloc (.cells #[.int .i64 t.kind,.int .i64 t.num,.string t.txt,.slice Ak t.keys.length qk,.slice Av t.vals.length qv] 25)) (.cells #[.int .i64 t.kind,.int .i64 t.num,.string t.txt,.slice Bk t.keys.length pk,.slice Bv t.vals.length pv] 25);rw [h1] at this;exact this
    case round=>
     obtain ⟨n2,hn2,rfl,rfl,hcr,HVS,z2,z3⟩:=hrel;obtain ⟨a0,a1,a2,a3,a4,_⟩:=cells5 z2;obtain ⟨b0,b1,b2,b3,b4,_⟩:=cells5 z3
     by_cases hlt2:n2 < t.vals.length
     ·obtain ⟨x,hx⟩ : ∃ x,t.vals[n2]?=some x:=⟨_,List.getElem?_eq_getElem hlt2⟩
      obtain ⟨g1,c1,ka,va,e1,hc1,hka,hva,x0,x1,x2,x3,x4⟩:=hv.at_ hx
      obtain ⟨y,hy⟩ : ∃ y,t2.vals[n2]?=some y:=⟨_,List.getElem?_eq_getElem (by rw [HL.out.2]; exact hlt2)⟩
      obtain ⟨g2,c2,kb,vb,e2,hc2,hkb,hvb,y0,y1,y2,y3,y4⟩:=hv'.at_ hy;rw [HL.out.2] at e2
      cases e1
      cases e2
      have hxs:=T.sizeL_at hx;have hts:=T.size_vals t;have rx:=Rd.mk (t:=x) hka hva;have ry:=Rd.mk (t:=y) hkb hvb;have HXY:=Lib.hid (And.intro hx hy);clear hx hy;have hgw1:g1 < w.heap.size:=World.block_lt_of_cell? w _ x0;have hgw2:g2 < w.heap.size:=World.block_lt_of_cell? w _ y0
      go_wp2
      rename_i K hK;have HK:=Lib.hid hK;clear hK
      refine wp_region_all (by rfl) (by kernel_rfl) [2,3,6] (by kernel_rfl)
       (fun j u V=>match j with
        | 0=>u=.pointer (some ⟨w.heap.size,4,none⟩)
        | 1=>u=.slice (some ⟨g1,0,none⟩) t.vals.length qv
        | 2=>u=.int .i64 n2
        | 3=>u=.pointer (some ⟨g1,n2 * 5,none⟩)
        | 4=>u=.agg #[.int .i64 x.kind,.int .i64 x.num,.string x.txt,ka,va]
        | 5=>u=.pointer (some ⟨w.heap.size+1,4,none⟩)
        | 6=>u=.slice (some ⟨g2,0,none⟩) t.vals.length pv
        | 7=>u=.int .i64 n2
        | 8=>u=.pointer (some ⟨g2,n2 * 5,none⟩)
        | 9=>u=.agg #[.int .i64 y.kind,.int .i64 y.num,.string y.txt,kb,vb]
        | 10=>u=.bool (sameT x y)
        | 11=>u=.bool (!sameT x y)
        | _=>True) ?_ ?_ ?_
      ·intro j u V V' hc hφ
       rcases j with _ | _ | _ | _ | _ | _ | _ | _ | _ | _ | _ | _ | j <;> exact hφ
      ·intro j o hj ho a' w' hst hch hdep K2 hK2
       have h2:=g_eq (t:=2) (v:=.pointer (some ⟨w.heap.size,0,none⟩)) (hst 2 (by simp));have h3:=g_eq (t:=3) (v:=.pointer (some ⟨w.heap.size+1,0,none⟩)) (hst 3 (by simp));have h6:=g_eq (t:=6) (v:=.int .i64 n2) (hst 6 (by simp));have hcw:Chg [] w w':=hcr.trans ((Chg.refl [] _).dr.trans hch New.nil) New.nil;have hsz1:w.heap.size+1 < wr.heap.size:=(Array.getElem?_eq_some_iff.1 z3).1;have a4':w'.cell? ⟨w.heap.size,4,none⟩=_:=(World.cell?_of_block (hch.block w.heap.size (by show w.heap.size < wr.heap.size; omega) (by simp))).trans a4;have b4':w'.cell? ⟨w.heap.size+1,4,none⟩=_:=(World.cell?_of_block (hch.block (w.heap.size+1) (by show w.heap.size+1 < wr.heap.size; omega) (by simp))).trans b4;have hj':j < 12:=hj;rcases j with _ | _ | _ | _ | _ | _ | _ | _ | _ | _ | _ | _ | j
       ·obtain rfl:_=o:=Option.some.inj ho
        unfold Oper.wp;go_simp;exact ⟨_,rfl,hK2 _ _ (Chg.refl _ _) rfl⟩
       ·obtain rfl:_=o:=Option.some.inj ho
        have h69:=g_eq (t:=69) (v:=.pointer (some ⟨w.heap.size,4,none⟩)) (hdep 0 (by kernel_rfl));unfold Oper.wp;go_simp;exact ⟨_,rfl,hK2 _ _ (Chg.refl _ _) rfl⟩
       ·obtain rfl:_=o:=Option.some.inj ho
        unfold Oper.wp;go_simp;exact ⟨_,rfl,hK2 _ _ (Chg.refl _ _) rfl⟩
       ·obtain rfl:_=o:=Option.some.inj ho
        have h70:=g_eq (t:=70) (v:=.slice (some ⟨g1,0,none⟩) t.vals.length qv) (hdep 1 (by kernel_rfl));have h71:=g_eq (t:=71) (v:=.int .i64 n2) (hdep 2 (by kernel_rfl));unfold Oper.wp;go_simp;exact ⟨_,rfl,hK2 _ _ (Chg.refl _ _) rfl⟩
       ·obtain rfl:_=o:=Option.some.inj ho
        have h72:=g_eq (t:=72) (v:=.pointer (some ⟨g1,n2 * 5,none⟩)) (hdep 3 (by kernel_rfl));have x0':=(hcw.cells.1 _ _ hgw1).trans x0;have x1':=(hcw.cells.1 _ _ hgw1).trans x1;have x2':=(hcw.cells.1 _ _ hgw1).trans x2;have x3':=(hcw.cells.1 _ _ hgw1).trans x3;have x4':=(hcw.cells.1 _ _ hgw1).trans x4;unfold Oper.wp;go_simp;exact ⟨_,rfl,hK2 _ _ (Chg.refl _ _) rfl⟩
       ·obtain rfl:_=o:=Option.some.inj ho
        unfold Oper.wp;go_simp;exact ⟨_,rfl,hK2 _ _ (Chg.refl _ _) rfl⟩
       ·obtain rfl:_=o:=Option.some.inj ho
        have h74:=g_eq (t:=74) (v:=.pointer (some ⟨w.heap.size+1,4,none⟩)) (hdep 5 (by kernel_rfl));unfold Oper.wp;go_simp;exact ⟨_,rfl,hK2 _ _ (Chg.refl _ _) rfl⟩
       ·obtain rfl:_=o:=Option.some.inj ho
        unfold Oper.wp;go_simp;exact ⟨_,rfl,hK2 _ _ (Chg.refl _ _) rfl⟩
       ·obtain rfl:_=o:=Option.some.inj ho
        have h75:=g_eq (t:=75) (v:=.slice (some ⟨g2,0,none⟩) t.vals.length pv) (hdep 6 (by kernel_rfl));have h76:=g_eq (t:=76) (v:=.int .i64 n2) (hdep 7 (by kernel_rfl));unfold Oper.wp;go_simp;exact ⟨_,rfl,hK2 _ _ (Chg.refl _ _) rfl⟩
       ·obtain rfl:_=o:=Option.some.inj ho
        have h77:=g_eq (t:=77) (v:=.pointer (some ⟨g2,n2 * 5,none⟩)) (hdep 8 (by kernel_rfl));have y0':=(hcw.cells.1 _ _ hgw2).trans y0;have y1':=(hcw.cells.1 _ _ hgw2).trans y1;have y2':=(hcw.cells.1 _ _ hgw2).trans y2;have y3':=(hcw.cells.1 _ _ hgw2).trans y3;have y4':=(hcw.cells.1 _ _ hgw2).trans y4;unfold Oper.wp;go_simp;exact ⟨_,rfl,hK2 _ _ (Chg.refl _ _) rfl⟩
       ·obtain rfl:_=o:=Option.some.inj ho
        have h73:=g_eq (t:=73) (v:=.agg #[.int .i64 x.kind,.int .i64 x.num,.string x.txt,ka,va]) (hdep 4 (by kernel_rfl));have h78:=g_eq (t:=78) (v:=.agg #[.int .i64 y.kind,.int .i64 y.num,.string y.txt,kb,vb]) (hdep 9 (by kernel_rfl));unfold Oper.wp;go_simp;refine (ih x y _ _ w' (by omega) (by omega) (rx.chg hcw) (ry.chg hcw)).mono ?_;rintro e w3 ⟨rfl,hc3⟩;exact ⟨_,rfl,hK2 _ _ hc3 rfl⟩
       ·obtain rfl:_=o:=Option.some.inj ho
        have h79:=g_eq (t:=79) (v:=.bool (sameT x y)) (hdep 10 (by kernel_rfl));unfold Oper.wp;go_simp;exact ⟨_,rfl,hK2 _ _ (Chg.refl _ _) rfl⟩
       ·omega
      ·intro u w' hch hφ A2 hA2
       have l11:11 < 12:=by omega
       have hu11:u 11=.bool (!sameT x y):=hφ 11 l11;simp [putAll,dOf,Act.put,hu11] at hA2;subst hA2;clear hφ l11 hu11;have hsz1:w.heap.size+1 < wr.heap.size:=(Array.getElem?_eq_some_iff.1 z3).1;have z2':=(hch.block w.heap.size (by show w.heap.size < wr.heap.size; omega) (by simp)).trans z2;have z3':=(hch.block (w.heap.size+1) (by show w.heap.size+1 < wr.heap.size; omega) (by simp)).trans z3;have hcw:Chg [] w w':=hcr.trans ((Chg.refl [] _).dr.trans hch New.nil) New.nil;refine HK.out _ _ ?_;clear HK
       by_cases exy:x=y
       ·have f5:(!sameT x y)=false:=by rw [sameT_t exy]; rfl
        have HN:Hid (∀ j,j < n2+1->t.vals[j]?=t2.vals[j]?):=Lib.hid fun j hj=>by
         rcases Nat.lt_succ_iff_lt_or_eq.1 hj with h | rfl
         ·exact HVS.out j h
         ·rw [HXY.out.1,HXY.out.2,exy]
        rw [f5];clear f5 exy
        go_wp2
        go_roundg (t.vals.length - (n2+1))
        case measure=>omega
        case rel=>exact ⟨n2+1,by omega,rfl,by go_num,hcw,HN,z2',z3'⟩
       ·have f5:(!sameT x y)=true:=by rw [sameT_f exy]; rfl
        have HN:Hid (t≠t2):=Lib.hid fun e=>exy (by
         have h1:=HXY.out.1;rw [e,HXY.out.2] at h1
         exact (Option.some.inj h1).symm)
        rw [f5];clear f5 exy
        go_wp2
        go_ret
        exact ⟨by rw [sameT_f HN.out]; rfl,hcw⟩
     ·have HV:=Lib.hid (T.ext5 HEQ.out.1 HEQ.out.2.1 HEQ.out.2.2 HE.out (list_ext_of HL.out.2 (show n2=t.vals.length by omega) HVS.out))
      go_wp2
      go_ret
      exact ⟨by rw [sameT_t HV.out]; rfl,hcr⟩
end Go.Proofs.YtpofkokbmifhgaaGreatDoor
