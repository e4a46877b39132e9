/- Parts of the walk, made small by wip/tools/pack.py: Fit. No condition but those in each statement. -/
import Derived.Test.YtpofkokbmifhgaaGreatDoorL07
import Derived.Test.YtpofkokbmifhgaaGreatDoorL14
import Derived.Deep.DeepCutAuto
set_option maxRecDepth 100000
set_option maxHeartbeats 20000000
set_option linter.unusedVariables false
set_option linter.unusedSimpArgs false
namespace Go.Proofs.YtpofkokbmifhgaaGreatDoor
open Go.RowKit
variable {o:Nat->Prop}
theorem heap_alloc_an (w:World) (ob:Obj) (n:Nat) (h:n=w.heap.size):(w.alloc ob).heap[n]?=some ob:=by
 subst h;exact heap_alloc_new _ _
structure NInv (o:Nat->Prop) (w:World) (D:Nat) (P5:Array Value) (x:T) (wx:World):Prop where
 chg:Chg [] w wx
 par:wx.heap[w.heap.size]?=some (.cells P5 25)
 res:wx.heap[w.heap.size+1]?=some (.cells #[.int .i64 0,.int .i64 0,.string ⟨#[]⟩,.slice none 0 0,.slice none 0 0] 25)
 lt:w.heap.size+1 < D
 box:∃ A5 q5 A6 q6,wx.heap[D]?=some (.cells #[.int .i64 x.kind,.int .i64 x.num,.string x.txt,.slice A5 x.keys.length q5,.slice A6 x.vals.length q6] 25)/\Rd (OffB o D (w.heap.size+1)) wx x (.agg #[.int .i64 x.kind,.int .i64 x.num,.string x.txt,.slice A5 x.keys.length q5,.slice A6 x.vals.length q6])
theorem NInv.go {w wx wy:World} {D:Nat} {P5:Array Value} {x:T} (h:NInv o w D P5 x wx) (hc:Chg [] wx wy):NInv o w D P5 x wy:=by
 obtain ⟨A5,q5,A6,q6,hb,hr⟩:=h.box;exact ⟨h.chg.trans hc New.nil,(hc.block _ (Array.getElem?_eq_some_iff.1 h.par).1 (by simp)).trans h.par,(hc.block _ (Array.getElem?_eq_some_iff.1 h.res).1 (by simp)).trans h.res,h.lt,A5,q5,A6,q6,(hc.block _ (Array.getElem?_eq_some_iff.1 hb).1 (by simp)).trans hb,hr.chg hc⟩
theorem NInv.put {w wx:World} {D:Nat} {P5:Array Value} {x y:T} (h:NInv o w D P5 x wx) {A5 A6:Option Addr} {q5 q6:Nat} (hr:Rd (OffB o D (w.heap.size+1)) wx y (.agg #[.int .i64 y.kind,.int .i64 y.num,.string y.txt,.slice A5 y.keys.length q5,.slice A6 y.vals.length q6])) :
  ∀ W,W=(((((wx.setCell ⟨D,0,none⟩ (.int .i64 y.kind)).setCell ⟨D,1,none⟩ (.int .i64 y.num)).setCell ⟨D,2,none⟩ (.string y.txt)).setCell ⟨D,3,none⟩ (.slice A5 y.keys.length q5)).setCell ⟨D,4,none⟩ (.slice A6 y.vals.length q6))->NInv o w D P5 y W:=by
 intro W hW
 obtain ⟨A7,q7,A8,q8,hb,_⟩:=h.box;have hlt:=h.lt;obtain ⟨W',hW',Q,hne,hcW,_⟩:=store5 hb h.chg (by omega:w.heap.size<=D) (.int .i64 y.kind) (.int .i64 y.num) (.string y.txt) (.slice A5 y.keys.length q5) (.slice A6 y.vals.length q6);obtain rfl:W=W':=hW.trans hW'.symm;exact ⟨hcW,(hne _ (by omega)).trans h.par,(hne _ (by omega)).trans h.res,h.lt,A5,q5,A6,q6,Q,hr.to fun b _ ho=>⟨ho,hne b ho.2.1⟩⟩
theorem specN (n:Int) (w:World):Calls Tryz.prog 24 #[.int .i64 n] w fun e w'=>∃ v,e=.returned v/\Chg [] w w'/\Rd o w' (.int n) v:=by
 go_enter Tryz.func24,Tryz.ntmps24
 go_wp2
 refine bodyPost_ret (v:=.agg #[.int .i64 2,.int .i64 n,.string ⟨#[]⟩,.slice none 0 0,.slice none 0 0]) (by simp [results,Tryz.results24,go_sem]) rfl ⟨_,rfl,?_,Rd.mk (t:=.int n) (RdK.nil _) (RdV.nil _)⟩
 repeat refine Chg.st ?_ (Nat.le_refl _) _
 exact (Chg.refl [] w).al _
def FitR (B:Nat) (w:World) (r:Raw) (e:Ending) (w':World):Prop:=∃ v t,e=.returned v/\Chg [] w w'/\Rd (fun b=>w.heap.size<=b) w' t v/\WF B t/\T.size t<=Raw.size r
structure FT (B:Nat) (w:World) (r:Raw) (PC:Array Value) (n:Nat) (R:Value) (xs:List Value) (ts:List T) (wr:World):Prop where
 chg:Chg [] w wr
 par:wr.heap[w.heap.size]?=some (.cells PC 25)
 res:wr.heap[w.heap.size+1]?=some (.cells #[.int .i64 0,.int .i64 0,.string ⟨#[]⟩,.slice none 0 0,.slice none 0 0] 25)
 out:wr.heap[w.heap.size+2]?=some (.cells #[.int .i64 4,.int .i64 0,.string ⟨#[]⟩,.slice none 0 0,R] 25)
 row:wr.ownsRow (w.heap.size+3) 25 5 R n xs
 flat:FlatV (Off (w.heap.size+3) (w.heap.size+2) R) wr ts xs
 len:ts.length=n
 wf:∀ t∈ts,WF B t
 sz:T.sizeL ts<=Raw.sizeL (r.vals.take n)
theorem sizeL_app:∀ {l l':List T},T.sizeL (l++l')=T.sizeL l+T.sizeL l'
 | [],_=>by simp [T.sizeL]
 | t :: l,l'=>by
  have:=sizeL_app (l:=l) (l':=l');simp only [List.cons_append,T.sizeL]
  omega
theorem Raw.sizeL_app:∀ {l l':List Raw},Raw.sizeL (l++l')=Raw.sizeL l+Raw.sizeL l'
 | [],_=>by simp [Raw.sizeL]
 | t :: l,l'=>by
  have:=Raw.sizeL_app (l:=l) (l':=l');simp only [List.cons_append,Raw.sizeL]
  omega
theorem Raw.sizeL_take {l:List Raw} {n:Nat}:Raw.sizeL (l.take n)<=Raw.sizeL l:=by
 have:=Raw.sizeL_app (l:=l.take n) (l':=l.drop n);rw [List.take_append_drop] at this
 omega
theorem Raw.sizeL_step {l:List Raw} {n:Nat} {x:Raw} (h:l[n]?=some x):Raw.sizeL (l.take (n+1))=Raw.sizeL (l.take n)+Raw.size x:=by
 rw [take_snoc h,Raw.sizeL_app];simp [Raw.sizeL]
theorem fit_any {B:Nat} (hB:B<=67108864) (nn:Nat):∀ (r:Raw) (v:Value) (w:World),Raw.size r<=nn->nn<=16777216->WFR B r->RdR w r v ->
  Calls Tryz.prog 9 #[v] w (FitR B w r):=by
 induction nn with
 | zero=>exact fun r _ _ hn=>absurd hn (by have:=Raw.size_vals r; omega)
 | succ nn ih=>
 intro r v w hn hb hw h
 obtain ⟨A3,q3,A4,q4,rfl,hk,hlc,hv⟩:=h.five
 obtain ⟨htx,hks,hkb,hvw⟩ : r.txt.size<=B/\r.keys.length<=B/\(∀ k∈r.keys,k.size<=B)/\∀ x∈r.vals,WFR B x:=by
  cases r
  simp only [WFR] at hw;exact ⟨hw.1,hw.2.1,hw.2.2.2.1,WFRL_iff.1 hw.2.2.2.2.2⟩
 have hni:-9223372036854775808<=r.num/\r.num<=9223372036854775807:=by
  cases r
  simp only [WFR] at hw;exact hw.2.2.2.2.1
 have HNI:=Lib.hid hni;clear hni;have hrs:=Raw.size_vals r
 have hvl:r.vals.length<=16777216:=by
  have:∀ l:List Raw,l.length<=Raw.sizeL l:=by
   intro l
   induction l with
   | nil=>exact Nat.le_refl _
   | cons x l ih=>
    have:=Raw.size_vals x;simp only [Raw.sizeL,List.length_cons]
    omega
  have:=this r.vals
  omega
 have HV:=Lib.hid (And.intro hk (And.intro hv (And.intro hkb (And.intro hvw (And.intro htx (And.intro hrs hn))))));clear h hw hk hv hkb hvw htx hrs
 by_cases hk1:r.kind=1
 ·have HSZ:Hid (WF B (.bool (r.num != 0))/\T.size (.bool (r.num != 0))<=Raw.size r):=Lib.hid ⟨trivial,by have:=Raw.size_vals r; simp only [T.size]; omega⟩
  have k1:(r.kind == 1)=true:=by rw [hk1]; rfl
  clear hk1 HV ih
  go_enter Tryz.func9,Tryz.ntmps9
  go_wp2_with fail
  refine ((fun {W} (_:Chg [] w W)=>specB (o:=fun b=>w.heap.size+2<=b) (r.num != 0) W) (((Chg.refl [] w).al _).al _)).mono ?_;rintro e w1 ⟨v',rfl,hc1,hr1⟩;obtain ⟨A5,q5,A6,q6,rfl,hyz⟩:=hr1.five;clear hyz;have hcw:Chg [] w w1:=(((Chg.refl [] w).al _).al _).trans hc1 New.nil;have z1:=box5 (heap_al2 w (.cells #[.int .i64 r.kind,.int .i64 r.num,.string r.txt,.slice A3 r.keys.length q3,.slice A4 r.vals.length q4] 25) (.cells #[.int .i64 0,.int .i64 0,.string ⟨#[]⟩,.slice none 0 0,.slice none 0 0] 25)) _ hc1;obtain ⟨W7,hW7,Q,hne,hcW,_⟩:=store5 z1 hcw (by omega:w.heap.size<=w.heap.size+1) (.int .i64 (T.bool (r.num != 0)).kind) (.int .i64 (T.bool (r.num != 0)).num) (.string (T.bool (r.num != 0)).txt) (.slice A5 (T.bool (r.num != 0)).keys.length q5) (.slice A6 (T.bool (r.num != 0)).vals.length q6)
  have hr7:Rd (fun b=>w.heap.size<=b) W7 (T.bool (r.num != 0)) (.agg #[.int .i64 (T.bool (r.num != 0)).kind,.int .i64 (T.bool (r.num != 0)).num,.string (T.bool (r.num != 0)).txt,.slice A5 (T.bool (r.num != 0)).keys.length q5,.slice A6 (T.bool (r.num != 0)).vals.length q6]):=hr1.to fun b hb ho=>⟨by omega,hne b (by omega)⟩
  have HR7:=Lib.hid (And.intro hr7 (And.intro Q (And.intro hcW hW7)));obtain ⟨d0,d1,d2,d3,d4,df⟩:=cells5 z1;clear hr1 hc1 hr7 hne Q hcW hcw hW7
  go_wp2_with fail
  obtain ⟨h1,Q,h2,hW7⟩:=HR7.out;rw [<- hW7];obtain ⟨e0,e1,e2,e3,e4,_⟩:=cells5 Q;refine bodyPost_ret (v:=.agg #[.int .i64 (T.bool (r.num != 0)).kind,.int .i64 (T.bool (r.num != 0)).num,.string (T.bool (r.num != 0)).txt,.slice A5 (T.bool (r.num != 0)).keys.length q5,.slice A6 (T.bool (r.num != 0)).vals.length q6]) (by simp [results,Tryz.results9,go_sem,e0,e1,e2,e3,e4]) rfl ⟨_,T.bool (r.num != 0),rfl,h2,h1,HSZ.out⟩
 have n1:=hk1;clear hk1
 by_cases hk2:r.kind=2
 ·have HSZ:Hid (WF B (.int r.num)/\T.size (.int r.num)<=Raw.size r):=Lib.hid ⟨HNI.out,by have:=Raw.size_vals r; simp only [T.size]; omega⟩
  have k1:(r.kind == 1)=false:=by rw [beq_eq_false_iff_ne]; exact n1
  have k2:(r.kind == 2)=true:=by rw [hk2]; rfl
  clear hk2 HV ih n1
  go_enter Tryz.func9,Tryz.ntmps9
  go_wp2_with fail
  refine ((fun {W} (_:Chg [] w W)=>specN (o:=fun b=>w.heap.size+2<=b) r.num W) (((Chg.refl [] w).al _).al _)).mono ?_;rintro e w1 ⟨v',rfl,hc1,hr1⟩;obtain ⟨A5,q5,A6,q6,rfl,hyz⟩:=hr1.five;clear hyz;have hcw:Chg [] w w1:=(((Chg.refl [] w).al _).al _).trans hc1 New.nil;have z1:=box5 (heap_al2 w (.cells #[.int .i64 r.kind,.int .i64 r.num,.string r.txt,.slice A3 r.keys.length q3,.slice A4 r.vals.length q4] 25) (.cells #[.int .i64 0,.int .i64 0,.string ⟨#[]⟩,.slice none 0 0,.slice none 0 0] 25)) _ hc1;obtain ⟨W7,hW7,Q,hne,hcW,_⟩:=store5 z1 hcw (by omega:w.heap.size<=w.heap.size+1) (.int .i64 (T.int r.num).kind) (.int .i64 (T.int r.num).num) (.string (T.int r.num).txt) (.slice A5 (T.int r.num).keys.length q5) (.slice A6 (T.int r.num).vals.length q6)
  have hr7:Rd (fun b=>w.heap.size<=b) W7 (T.int r.num) (.agg #[.int .i64 (T.int r.num).kind,.int .i64 (T.int r.num).num,.string (T.int r.num).txt,.slice A5 (T.int r.num).keys.length q5,.slice A6 (T.int r.num).vals.length q6]):=hr1.to fun b hb ho=>⟨by omega,hne b (by omega)⟩
  have HR7:=Lib.hid (And.intro hr7 (And.intro Q (And.intro hcW hW7)));obtain ⟨d0,d1,d2,d3,d4,df⟩:=cells5 z1;clear hr1 hc1 hr7 hne Q hcW hcw hW7
  go_wp2_with fail
  obtain ⟨h1,Q,h2,hW7⟩:=HR7.out;rw [<- hW7];obtain ⟨e0,e1,e2,e3,e4,_⟩:=cells5 Q;refine bodyPost_ret (v:=.agg #[.int .i64 (T.int r.num).kind,.int .i64 (T.int r.num).num,.string (T.int r.num).txt,.slice A5 (T.int r.num).keys.length q5,.slice A6 (T.int r.num).vals.length q6]) (by simp [results,Tryz.results9,go_sem,e0,e1,e2,e3,e4]) rfl ⟨_,T.int r.num,rfl,h2,h1,HSZ.out⟩
 have n2:=hk2;clear hk2
 by_cases hk3:r.kind=3
 ·have HSZ:Hid (WF B (.text r.txt)/\T.size (.text r.txt)<=Raw.size r):=Lib.hid ⟨HV.out.2.2.2.2.1,by have:=Raw.size_vals r; simp only [T.size]; omega⟩
  have k1:(r.kind == 1)=false:=by rw [beq_eq_false_iff_ne]; exact n1
  have k2:(r.kind == 2)=false:=by rw [beq_eq_false_iff_ne]; exact n2
  have k3:(r.kind == 3)=true:=by rw [hk3]; rfl
  clear hk3 HV ih n1 n2
  go_enter Tryz.func9,Tryz.ntmps9
  go_wp2_with fail
  refine ((fun {W} (_:Chg [] w W)=>specT (o:=fun b=>w.heap.size+2<=b) r.txt W) (((Chg.refl [] w).al _).al _)).mono ?_;rintro e w1 ⟨v',rfl,hc1,hr1⟩;obtain ⟨A5,q5,A6,q6,rfl,hyz⟩:=hr1.five;clear hyz;have hcw:Chg [] w w1:=(((Chg.refl [] w).al _).al _).trans hc1 New.nil;have z1:=box5 (heap_al2 w (.cells #[.int .i64 r.kind,.int .i64 r.num,.string r.txt,.slice A3 r.keys.length q3,.slice A4 r.vals.length q4] 25) (.cells #[.int .i64 0,.int .i64 0,.string ⟨#[]⟩,.slice none 0 0,.slice none 0 0] 25)) _ hc1;obtain ⟨W7,hW7,Q,hne,hcW,_⟩:=store5 z1 hcw (by omega:w.heap.size<=w.heap.size+1) (.int .i64 (T.text r.txt).kind) (.int .i64 (T.text r.txt).num) (.string (T.text r.txt).txt) (.slice A5 (T.text r.txt).keys.length q5) (.slice A6 (T.text r.txt).vals.length q6)
  have hr7:Rd (fun b=>w.heap.size<=b) W7 (T.text r.txt) (.agg #[.int .i64 (T.text r.txt).kind,.int .i64 (T.text r.txt).num,.string (T.text r.txt).txt,.slice A5 (T.text r.txt).keys.length q5,.slice A6 (T.text r.txt).vals.length q6]):=hr1.to fun b hb ho=>⟨by omega,hne b (by omega)⟩
  have HR7:=Lib.hid (And.intro hr7 (And.intro Q (And.intro hcW hW7)));obtain ⟨d0,d1,d2,d3,d4,df⟩:=cells5 z1;clear hr1 hc1 hr7 hne Q hcW hcw hW7
  go_wp2_with fail
  obtain ⟨h1,Q,h2,hW7⟩:=HR7.out;rw [<- hW7];obtain ⟨e0,e1,e2,e3,e4,_⟩:=cells5 Q;refine bodyPost_ret (v:=.agg #[.int .i64 (T.text r.txt).kind,.int .i64 (T.text r.txt).num,.string (T.text r.txt).txt,.slice A5 (T.text r.txt).keys.length q5,.slice A6 (T.text r.txt).vals.length q6]) (by simp [results,Tryz.results9,go_sem,e0,e1,e2,e3,e4]) rfl ⟨_,T.text r.txt,rfl,h2,h1,HSZ.out⟩
 have n3:=hk3;clear hk3
 by_cases hk4:r.kind=4
 ·have k1:(r.kind == 1)=false:=by rw [beq_eq_false_iff_ne]; exact n1
  have k2:(r.kind == 2)=false:=by rw [beq_eq_false_iff_ne]; exact n2
  have k3:(r.kind == 3)=false:=by rw [beq_eq_false_iff_ne]; exact n3
  have k4:(r.kind == 4)=true:=by rw [hk4]; rfl
  clear hk4 n1 n2 n3
  go_enter Tryz.func9,Tryz.ntmps9
  go_wp2_with fail
  go_loopg [4] r.vals.length (fun g i wr=>∃ (n:Nat) (R:Value) (xs:List Value) (ts:List T),n<=r.vals.length/\g=r.vals.length - n/\i=.int .i64 n/\FT B w r #[.int .i64 r.kind,.int .i64 r.num,.string r.txt,.slice A3 r.keys.length q3,.slice A4 r.vals.length q4] n R xs ts wr)
  case atStart=>
   refine ⟨0,.slice none 0 0,[],[],Nat.zero_le _,by omega,rfl,(((Chg.refl [] w).al _).al _).al _,(heap_alloc_old _ _ _ (by simp; omega)).trans (heap_al1 w _ _),(heap_alloc_old _ _ _ (by simp)).trans (heap_al2 w _ _),heap_alloc_an _ _ _ (by simp),World.ownsRow_nil _ _ _ _,by simp [FlatV],rfl,by simp,by simp [T.sizeL]⟩
  case round=>
   obtain ⟨n,R,xs,ts,hn',rfl,rfl,hFT⟩:=hrel;have HFT:=Lib.hid hFT;have hszr:w.heap.size+2 < wr.heap.size:=(Array.getElem?_eq_some_iff.1 hFT.out).1;obtain ⟨a0,a1,a2,a3,a4,af⟩:=cells5 hFT.par
   by_cases hlt:n < r.vals.length
   ·have hn64:n<=67108864:=by omega
    obtain ⟨x,hx⟩ : ∃ x,r.vals[n]?=some x:=⟨_,List.getElem?_eq_getElem hlt⟩
    obtain ⟨ge,off,rfl,hrl⟩:=HV.out.2.1 (by omega);obtain ⟨vx,hrx,hcx⟩:=hrl.at_ hx;obtain ⟨A5,q5,A6,q6,rfl,hyz⟩:=hrx.five;clear hyz;have x0:=hcx 0 _ rfl;have x1:=hcx 1 _ rfl;have x2:=hcx 2 _ rfl;have x3:=hcx 3 _ rfl;have x4:=hcx 4 _ rfl;simp only [Nat.zero_add,Nat.add_zero] at x0 x1 x2 x3 x4;have hge:ge < w.heap.size:=World.block_lt_of_cell? w _ x0
    have hxs:Raw.size x<=nn:=by
     have h1:=Raw.sizeL_at hx;have h2:=HV.out.2.2.2.2.2.1;have h3:=HV.out.2.2.2.2.2.2
     omega
    have hR:∀ g,R.ownBlock=some g->w.heap.size+3<=g/\g < wr.heap.size:=fun g hg=>ownsRow_own hFT.row hg
    have HX:=Lib.hid (And.intro hx (And.intro hrx (And.intro hxs (And.intro x0 (And.intro x1 (And.intro x2 (And.intro x3 x4)))))));have HR:=Lib.hid hR;have hwx:=HV.out.2.2.2.1 x (List.mem_of_getElem? hx);clear hx hrx hcx hrl hxs hR hFT x0 x1 x2 x3 x4
    go_wp2
    rename_i K hK;have HK:=Lib.hid hK;clear hK a0 a1 a2 a3 a4 af
    refine wp_region_call (by rfl) (by kernel_rfl) [1,3,4] (by kernel_rfl) 9 (by decide) R.ownBlock.toList
     (fun j u V=>match j with
      | 0=>u=.pointer (some ⟨w.heap.size+2,4,none⟩)
      | 1=>u=R
      | 2=>u=.pointer (some ⟨w.heap.size,4,none⟩)
      | 3=>u=.slice (some ⟨ge,off,none⟩) r.vals.length q4
      | 4=>u=.int .i64 n
      | 5=>u=.pointer (some ⟨ge,off+n * 5,none⟩)
      | 6=>u=.agg #[.int .i64 x.kind,.int .i64 x.num,.string x.txt,.slice A5 x.keys.length q5,.slice A6 x.vals.length q6]
      | 7=>∃ t,(WF B t/\T.size t<=Raw.size x)/\Rd (fun b=>wr.heap.size<=b) V t u
      | 8=>∃ g v t,u=.slice (some ⟨g,0,none⟩) 1 1/\wr.heap.size<=g/\(WF B t/\T.size t<=Raw.size x)/\Rd (fun b=>wr.heap.size<=b) V t v/\∀ i c,v.cells[i]?=some c->V.cell? ⟨g,i,none⟩=some c
      | 9=>∃ xs' t,V.ownsRow (w.heap.size+3) 25 5 u (n+1) xs'/\FlatV (Off (w.heap.size+3) (w.heap.size+2) u) V (ts++[t]) xs'/\(WF B t/\T.size t<=Raw.size x)/\∃ g c,u=.slice (some ⟨g,0,none⟩) (n+1) c/\w.heap.size+3<=g/\g < V.heap.size
      | 10=>u=.pointer (some ⟨w.heap.size+2,4,none⟩)
      | _=>True) ?_ ?_ ?_ ?_ ?_
    ·intro j u V V' hc hφ
     rcases j with _ | _ | _ | _ | _ | _ | _ | _ | _ | _ | _ | j
     all_goals first | exact hφ | skip
     ·obtain ⟨t,ht,hr⟩:=hφ
      exact ⟨t,ht,hr.chg hc⟩
     ·obtain ⟨g,v,t,rfl,hg,ht,hr,hcl⟩:=hφ
      exact ⟨g,v,t,rfl,hg,ht,hr.chg hc,fun i c h=>(hc.cells.1 _ _ (World.block_lt_of_cell? V _ (hcl i c h))).trans (hcl i c h)⟩
     ·obtain ⟨xs',t,ho,hf,ht,g,c,rfl,h1,h2⟩:=hφ
      exact ⟨xs',t,ownsRow_frame ho (hc.block g h2 (by simp)),hf.mono fun b hb _=>hc.block b hb (by simp),ht,g,c,rfl,h1,Nat.lt_of_lt_of_le h2 hc.size⟩
    ·intro j u V V' hj9 hc hφ
     have hfar:∀ b,b < V.heap.size->wr.heap.size<=b->V'.heap[b]?=V.heap[b]?:=fun b hb hle=>hc.block b hb (by
      intro hm
      have:=(HR.out b (by simpa using hm)).2
      omega)
     rcases j with _ | _ | _ | _ | _ | _ | _ | _ | _ | _ | _ | j
     all_goals first | exact hφ | skip
     ·obtain ⟨t,ht,hr⟩:=hφ
      exact ⟨t,ht,hr.mono fun b hb ho=>hfar b hb ho⟩
     ·obtain ⟨g,v,t,rfl,hg,ht,hr,hcl⟩:=hφ
      exact ⟨g,v,t,rfl,hg,ht,hr.mono fun b hb ho=>hfar b hb ho,fun i c h=>(World.cell?_of_block (hfar g (World.block_lt_of_cell? V _ (hcl i c h)) hg)).trans (hcl i c h)⟩
     ·exact absurd rfl hj9
    ·intro j oo hj hj9 ho a' w' hst hch hwt hdep K2 hK2
     have hF:∀ b,b < w.heap.size+3->w'.heap[b]?=wr.heap[b]?:=fun b hb=>hch.block b (by show b < wr.heap.size; omega) (fun hm=>by
      have:=(HR.out b (by simpa using hm)).1
      omega)
     have hsz:wr.heap.size<=w'.heap.size:=hch.size;obtain ⟨b0,b1,b2,b3,b4,bf⟩:=cells5 ((hF (w.heap.size+2) (by omega)).trans HFT.out.out);obtain ⟨a0,a1,a2,a3,a4,af⟩:=cells5 ((hF w.heap.size (by omega)).trans HFT.out.par)
     have hgo:∀ b,b < w.heap.size->w'.heap[b]?=w.heap[b]?:=fun b hb=>(hF b (by omega)).trans (HFT.out.chg.block b hb (by simp))
     obtain ⟨_,hrx,hxs,x0,x1,x2,x3,x4⟩:=HX.out;have y0:=(World.cell?_of_block (a:=⟨ge,off+n * 5,none⟩) (hgo ge hge)).trans x0;have y1:=(World.cell?_of_block (a:=⟨ge,off+n * 5+1,none⟩) (hgo ge hge)).trans x1;have y2:=(World.cell?_of_block (a:=⟨ge,off+n * 5+2,none⟩) (hgo ge hge)).trans x2;have y3:=(World.cell?_of_block (a:=⟨ge,off+n * 5+3,none⟩) (hgo ge hge)).trans x3;have y4:=(World.cell?_of_block (a:=⟨ge,off+n * 5+4,none⟩) (hgo ge hge)).trans x4;have HRW:Hid (RdR w' x (.agg #[.int .i64 x.kind,.int .i64 x.num,.string x.txt,.slice A5 x.keys.length q5,.slice A6 x.vals.length q6])):=Lib.hid (hrx.low fun b hb=>hgo b hb);clear x0 x1 x2 x3 x4 hrx hxs;have hj':j < 11:=hj;rcases j with _ | _ | _ | _ | _ | _ | _ | _ | _ | _ | _ | j
     ·obtain rfl:_=oo:=Option.some.inj ho
      have h3:=g_eq (t:=3) (v:=.pointer (some ⟨w.heap.size+2,0,none⟩)) (hst 3 (by simp));unfold Oper.wp;go_simp;exact ⟨_,rfl,hK2 _ _ (Chg.refl _ _) rfl⟩
     ·obtain rfl:_=oo:=Option.some.inj ho
      have h23:=g_eq (t:=35) (v:=.pointer (some ⟨w.heap.size+2,4,none⟩)) (hdep 0 (by kernel_rfl));unfold Oper.wp;go_simp;exact ⟨_,rfl,hK2 _ _ (Chg.refl _ _) rfl⟩
     ·obtain rfl:_=oo:=Option.some.inj ho
      have h1:=g_eq (t:=1) (v:=.pointer (some ⟨w.heap.size,0,none⟩)) (hst 1 (by simp));unfold Oper.wp;go_simp;exact ⟨_,rfl,hK2 _ _ (Chg.refl _ _) rfl⟩
     ·obtain rfl:_=oo:=Option.some.inj ho
      have h25:=g_eq (t:=37) (v:=.pointer (some ⟨w.heap.size,4,none⟩)) (hdep 2 (by kernel_rfl));unfold Oper.wp;go_simp;exact ⟨_,rfl,hK2 _ _ (Chg.refl _ _) rfl⟩
     ·obtain rfl:_=oo:=Option.some.inj ho
      have h4:=g_eq (t:=4) (v:=.int .i64 n) (hst 4 (by simp));unfold Oper.wp;go_simp;exact ⟨_,rfl,hK2 _ _ (Chg.refl _ _) rfl⟩
     ·obtain rfl:_=oo:=Option.some.inj ho
      have h26:=g_eq (t:=38) (v:=.slice (some ⟨ge,off,none⟩) r.vals.length q4) (hdep 3 (by kernel_rfl));have h27:=g_eq (t:=39) (v:=.int .i64 n) (hdep 4 (by kernel_rfl));unfold Oper.wp;go_simp;exact ⟨_,rfl,hK2 _ _ (Chg.refl _ _) rfl⟩
     ·obtain rfl:_=oo:=Option.some.inj ho
      have h28:=g_eq (t:=40) (v:=.pointer (some ⟨ge,off+n * 5,none⟩)) (hdep 5 (by kernel_rfl));unfold Oper.wp;go_simp;exact ⟨_,rfl,hK2 _ _ (Chg.refl _ _) rfl⟩
     ·obtain rfl:_=oo:=Option.some.inj ho
      have h29:=g_eq (t:=41) (v:=.agg #[.int .i64 x.kind,.int .i64 x.num,.string x.txt,.slice A5 x.keys.length q5,.slice A6 x.vals.length q6]) (hdep 6 (by kernel_rfl));unfold Oper.wp;go_simp;refine (ih x _ w' HX.out.2.2.1 (by omega) hwx HRW.out).mono ?_;rintro e w3 ⟨v',t,rfl,hc3,hr3,ht3⟩;exact ⟨_,rfl,hK2 _ _ hc3 ⟨t,ht3,hr3.weak fun b hb=>Nat.le_trans hch.size hb⟩⟩
     ·obtain rfl:_=oo:=Option.some.inj ho
      obtain ⟨t,ht,hr30⟩ : ∃ t,(WF B t/\T.size t<=Raw.size x)/\Rd (fun b=>wr.heap.size<=b) w' t (Act.g a' 42):=hdep 7 (by kernel_rfl);generalize h30:Act.g a' 42=vv at hr30;obtain ⟨A7,q7,A8,q8,rfl,_⟩:=hr30.five;have h30:=g_eq (t:=42) h30;have HT:=Lib.hid ht;clear ht;unfold Oper.wp;go_simp;refine ⟨_,rfl,hK2 _ _ ((Chg.refl [] w').al _) ⟨w'.heap.size,_,t,rfl,hch.size,HT.out,hr30.chg ((Chg.refl [] w').al _),?_⟩⟩;obtain ⟨n0,n1,n2,n3,n4,_⟩:=cells5 (heap_alloc_new w' (.cells #[.int .i64 t.kind,.int .i64 t.num,.string t.txt,.slice A7 t.keys.length q7,.slice A8 t.vals.length q8] 25))
      intro i c hc
      rcases i with _ | _ | _ | _ | _ | i
      all_goals first | (cases hc; assumption) | (simp [Value.cells] at hc)
     ·exact absurd rfl hj9
     ·obtain rfl:_=oo:=Option.some.inj ho
      have h3:=g_eq (t:=3) (v:=.pointer (some ⟨w.heap.size+2,0,none⟩)) (hst 3 (by simp));unfold Oper.wp;go_simp;exact ⟨_,rfl,hK2 _ _ (Chg.refl _ _) rfl⟩
     ·omega
    ·intro oo ho a' w' hst hch hdep
     obtain rfl:_=oo:=Option.some.inj ho;have hsz:wr.heap.size<=w'.heap.size:=hch.size;have h24:=g_eq (t:=36) (v:=R) (hdep 1 (by kernel_rfl));obtain ⟨g1,v,t,h31,hg1,ht,hr,hcl⟩ : ∃ g v t,Act.g a' 43=.slice (some ⟨g,0,none⟩) 1 1/\wr.heap.size<=g/\(WF B t/\T.size t<=Raw.size x)/\Rd (fun b=>wr.heap.size<=b) w' t v/\∀ i c,v.cells[i]?=some c->w'.cell? ⟨g,i,none⟩=some c:=hdep 8 (by kernel_rfl);have h31:=g_eq (t:=43) h31
     have hx:FlatV (Off (w.heap.size+3) (w.heap.size+2) R) w' ts xs:=FlatV.mono (w:=wr) (fun b hb _=>hch.block b hb (by simp)) HFT.out.flat
     have rR:=ownsRow_keep (w':=w') HFT.out.row fun g hg=>hch.block g (HR.out g hg).2 (by simp)
     obtain ⟨R',w2,hrun,ho,hf,hc,g,c,rfl,h1,h2,h3⟩:=app_one (P:=Tryz.prog) (ty:=23) (c1:=1) uVs iV rfl rR hx hcl (hr.weak fun b hb=>⟨by omega,by omega,fun e=>by have:=(HR.out b e).2; omega⟩) (by omega) (by omega) (by omega);exact ⟨_,w2,by simp [execOp,resolve,invoke,builtin,Act.eval,h24,h31,hrun,Result.andThen],hc,_,t,ho,hf,ht,g,c,rfl,h1,h2⟩
    ·intro oo ho u w' hch hφ A2 hA2
     obtain rfl:_=oo:=Option.some.inj ho
     have l10:10 < 11:=by omega
     have hu10:u 10=.pointer (some ⟨w.heap.size+2,4,none⟩):=hφ 10 l10;obtain ⟨xs',t,hro,hfl,ht,g,c,hu9,hg1,hg2⟩ : ∃ xs' t,w'.ownsRow (w.heap.size+3) 25 5 (u 9) (n+1) xs'/\FlatV (Off (w.heap.size+3) (w.heap.size+2) (u 9)) w' (ts++[t]) xs'/\(WF B t/\T.size t<=Raw.size x)/\∃ g c,u 9=.slice (some ⟨g,0,none⟩) (n+1) c/\w.heap.size+3<=g/\g < w'.heap.size:=hφ 9 (Nat.lt_trans (by decide:9 < 10) l10);rw [hu9] at hro hfl
     have hF:∀ b,b < w.heap.size+3->w'.heap[b]?=wr.heap[b]?:=fun b hb=>hch.block b (by show b < wr.heap.size; omega) (fun hm=>by
      have:=(HR.out b (by simpa using hm)).1
      omega)
     have hsz:wr.heap.size<=w'.heap.size:=hch.size;have hB2:=(hF (w.heap.size+2) (by omega)).trans HFT.out.out;simp [putAll,dOf,Act.put,hu9,hu10] at hA2;subst hA2;clear hφ l10 ho hu9 hu10
     obtain ⟨W2,hW2⟩ : ∃ W2,W2=w'.setCell ⟨w.heap.size+2,4,none⟩ (.slice (some ⟨g,0,none⟩) (n+1) c):=⟨_,rfl⟩
     have hneB:∀ b,b≠w.heap.size+2->W2.heap[b]?=w'.heap[b]?:=fun b hb=>hW2 ▸ heap_setCell_other _ _ _ _ hb
     have Q1:W2.heap[w.heap.size+2]?=_:=hW2 ▸ heap_setCell_same _ _ 4 _ _ (.slice (some ⟨g,0,none⟩) (n+1) c) hB2
     have HC:Chg [] w W2:=hW2 ▸ (HFT.out.chg.trans ((Chg.refl R.ownBlock.toList wr).dr.trans hch (New.refl _ _)) (fun y hy=>.inr (by
      have:=(HR.out y (by simpa using hy)).1
      omega))).st (by show w.heap.size<=w.heap.size+2; omega) _
     have hFN:FT B w r #[.int .i64 r.kind,.int .i64 r.num,.string r.txt,.slice A3 r.keys.length q3,.slice (some ⟨ge,off,none⟩) r.vals.length q4] (n+1) (.slice (some ⟨g,0,none⟩) (n+1) c) xs' (ts++[t]) W2:=by
      refine ⟨HC,(hneB _ (by omega)).trans ((hF _ (by omega)).trans HFT.out.par),(hneB _ (by omega)).trans ((hF _ (by omega)).trans HFT.out.res),by simpa using Q1,ownsRow_frame hro (hneB g (by omega)),hfl.mono fun b _ ho=>hneB b ho.2.1,by simp [HFT.out.len],fun y hy=>?_,?_⟩
      ·rcases List.mem_append.1 hy with hy | hy
       ·exact HFT.out.wf y hy
       ·rw [List.mem_singleton.1 hy]
        exact ht.1
      ·rw [Raw.sizeL_step HX.out.1,sizeL_app]
       have:=HFT.out.sz;have:=ht.2;simp only [T.sizeL]
       omega
     have HFN:=Lib.hid hFN;have HW2:=Lib.hid hW2;clear hFN hW2 hneB Q1 HC hro hfl ht hF;obtain ⟨b0,b1,b2,b3,b4,bf⟩:=cells5 hB2;unfold Oper.wp;go_simp;refine HK.out _ _ ?_;clear HK b0 b1 b2 b3 b4 bf hB2
     go_wp2
     rw [<- HW2.out]
     go_roundg (r.vals.length - (n+1))
     case measure=>omega
     case rel=>exact ⟨n+1,_,_,_,by omega,rfl,by go_num,HFN.out⟩
   ·have hE:n=r.vals.length:=by omega
    have HE:=Lib.hid hE;obtain ⟨RA,RC,rfl⟩:=ownsRow_slice hFT.row;clear hE;obtain ⟨W7,hW7,Q,hne,hcW,_⟩:=store5 hFT.res hFT.chg (by omega:w.heap.size<=w.heap.size+1) (.int .i64 4) (.int .i64 0) (.string ⟨#[]⟩) (.slice none 0 0) (.slice RA n RC);have HW7:=Lib.hid hW7;obtain ⟨r0,r1,r2,r3,r4,rf⟩:=cells5 hFT.res;obtain ⟨o0,o1,o2,o3,o4,of⟩:=cells5 hFT.out;clear hW7 hFT
    go_wp2_with fail
    rw [<- HW7.out];have hm:=HFT.out
    have hxs:FlatV (fun b=>w.heap.size<=b) W7 ts xs:=hm.flat.to fun b hb ho=>⟨by have:=ho.1; omega,hne b (by have:=ho.1; omega)⟩
    have RV:=RdV.of_own (o:=fun b=>w.heap.size<=b) (l:=ts) (base:=w.heap.size+3) (e:=25) (v:=.slice RA n RC) (fun b hb=>by omega) (by
     have h:=ownsRow_keep (w':=W7) hm.row fun g hg=>hne g (by have:=(ownsRow_own hm.row hg).1; omega)
     rw [hm.len]
     exact h) hxs
    obtain ⟨e0,e1,e2,e3,e4,_⟩:=cells5 Q;refine bodyPost_ret (v:=.agg #[.int .i64 4,.int .i64 0,.string ⟨#[]⟩,.slice none 0 0,.slice RA n RC]) (by simp [results,Tryz.results9,go_sem,e0,e1,e2,e3,e4]) rfl ⟨_,.list ts,rfl,hcW,Rd.mk (t:=.list ts) (RdK.nil _) RV,WFL_iff.2 hm.wf,?_⟩;have h1:=hm.sz;have h2:=Raw.sizeL_take (l:=r.vals) (n:=n);have h3:=HV.out.2.2.2.2.2.1;simp only [T.size]
    omega
 have n4:=hk4;clear hk4
 by_cases hk5:r.kind=5
 ·have k1:(r.kind == 1)=false:=by rw [beq_eq_false_iff_ne]; exact n1
  have k2:(r.kind == 2)=false:=by rw [beq_eq_false_iff_ne]; exact n2
  have k3:(r.kind == 3)=false:=by rw [beq_eq_false_iff_ne]; exact n3
  have k4:(r.kind == 4)=false:=by rw [beq_eq_false_iff_ne]; exact n4
  have k5:(r.kind == 5)=true:=by rw [hk5]; rfl
  clear hk5 n1 n2 n3 n4
  go_enter Tryz.func9,Tryz.ntmps9
  go_wp2_with fail
  refine (specEmpty (o:=fun b=>w.heap.size+2<=b) _).mono ?_;rintro e w1 ⟨v',rfl,hc1,hr1⟩;obtain ⟨A5,q5,A6,q6,rfl,hyz⟩:=hr1.five;clear hyz
  obtain ⟨O,hO⟩ : ∃ O,O=w1.heap.size:=⟨_,rfl⟩
  have hs1:w.heap.size+2<=O:=by have:=hc1.size; rw [hO]; simpa using this
  have hN0:NInv (fun b=>w.heap.size<=b) w O #[.int .i64 r.kind,.int .i64 r.num,.string r.txt,.slice A3 r.keys.length q3,.slice A4 r.vals.length q4] (.map []) (w1.alloc (.cells #[.int .i64 (T.map []).kind,.int .i64 (T.map []).num,.string (T.map []).txt,.slice A5 (T.map []).keys.length q5,.slice A6 (T.map []).vals.length q6] 25)):=by
   have hcw:Chg [] w w1:=(((Chg.refl [] w).al _).al _).trans hc1 New.nil;refine ⟨hcw.al _,(heap_alloc_old _ _ _ (by omega)).trans (box5 (heap_al1 w _ _) _ hc1),(heap_alloc_old _ _ _ (by omega)).trans (box5 (heap_al2 w _ _) _ hc1),by omega,A5,q5,A6,q6,hO ▸ heap_alloc_new w1 _,?_⟩;exact (hr1.to fun b hb ho=>⟨⟨by omega,by omega,by omega⟩,rfl⟩ : Rd (OffB (fun b=>w.heap.size<=b) O (w.heap.size+1)) w1 (.map []) _).chg ((Chg.refl [] w1).al _)
  have HN0:=Lib.hid hN0;clear hN0 hc1 hr1
  go_wp2_with fail
  rw [<- hO];clear hO
  go_loopg [6] r.vals.length (fun g i wr=>∃ (n:Nat) (m:List (ByteArray × T)),n<=r.keys.length/\n<=r.vals.length/\g=r.vals.length - n/\i=.int .i64 n/\NInv (fun b=>w.heap.size<=b) w O #[.int .i64 r.kind,.int .i64 r.num,.string r.txt,.slice A3 r.keys.length q3,.slice A4 r.vals.length q4] (.map m) wr/\WF B (.map m)/\T.sizeM m<=Raw.sizeL (r.vals.take n))
  case atStart=>exact ⟨0,[],Nat.zero_le _,Nat.zero_le _,by omega,rfl,HN0.out,WF.empty,Nat.zero_le _⟩
  case round=>
   obtain ⟨n,m,hn1,hn2,rfl,rfl,hNR,hwm,hszm⟩:=hrel;have HNR:=Lib.hid hNR;have HMS:=Lib.hid hszm
   have hml:m.length<=67108864:=by
    have h1:=T.vals_len (.map m);simp only [T.vals,List.length_map,T.size] at h1;have h2:=Raw.sizeL_take (l:=r.vals) (n:=n);have h3:=HV.out.2.2.2.2.2.1;have h4:=HV.out.2.2.2.2.2.2
    omega
   have HMW:=Lib.hid (And.intro hwm.1 (And.intro hml hwm));obtain ⟨a0,a1,a2,a3,a4,af⟩:=cells5 hNR.par;clear hszm hwm hml
   by_cases hlt:n < r.keys.length/\n < r.vals.length
   ·obtain ⟨hlk,hlv⟩:=hlt
    have hn64:n<=67108864:=by omega
    obtain ⟨x,hx⟩ : ∃ x,r.vals[n]?=some x:=⟨_,List.getElem?_eq_getElem hlv⟩
    obtain ⟨k,hk⟩ : ∃ k,r.keys[n]?=some k:=⟨_,List.getElem?_eq_getElem hlk⟩
    obtain ⟨gk,offk,rfl,hgk,hkc,yk⟩:=HV.out.1.elem hk;obtain ⟨ge,off,rfl,hrl⟩:=HV.out.2.1 (by omega);obtain ⟨vx,hrx,hcx⟩:=hrl.at_ hx;obtain ⟨A5,q5,A6,q6,rfl,hyz⟩:=hrx.five;clear hyz;have x0:=hcx 0 _ rfl;have x1:=hcx 1 _ rfl;have x2:=hcx 2 _ rfl;have x3:=hcx 3 _ rfl;have x4:=hcx 4 _ rfl;simp only [Nat.zero_add,Nat.add_zero] at x0 x1 x2 x3 x4;have hge:ge < w.heap.size:=World.block_lt_of_cell? w _ x0
    have hxs:Raw.size x<=nn:=by
     have h1:=Raw.sizeL_at hx;have h2:=HV.out.2.2.2.2.2.1;have h3:=HV.out.2.2.2.2.2.2
     omega
    have HX:=Lib.hid (And.intro hx (And.intro hrx (And.intro hxs (And.intro x0 (And.intro x1 (And.intro x2 (And.intro x3 x4)))))));have hwx:=HV.out.2.2.2.1 x (List.mem_of_getElem? hx);have YK:=Lib.hid yk;have HKK:=Lib.hid hk;obtain ⟨E7,r7,E8,r8,hdb,hdr⟩:=hNR.box;have HDX:=Lib.hid (And.intro hdb hdr);have hszr:O < wr.heap.size:=(Array.getElem?_eq_some_iff.1 hdb).1;clear hx hrx hcx hrl hxs hNR x0 x1 x2 x3 x4 yk hk hdb hdr
    go_wp2
    rename_i K hK;have HK:=Lib.hid hK;clear hK a0 a1 a2 a3 a4 af
    refine wp_region_tail (by rfl) (by kernel_rfl) [1,5,6] (by kernel_rfl)
     (fun j u V=>match j with
      | 0=>u=.agg #[.int .i64 (T.map m).kind,.int .i64 (T.map m).num,.string (T.map m).txt,.slice E7 (T.map m).keys.length r7,.slice E8 (T.map m).vals.length r8]
      | 1=>u=.pointer (some ⟨w.heap.size,3,none⟩)
      | 2=>u=.slice (some ⟨gk,offk,none⟩) r.keys.length q3
      | 3=>u=.int .i64 ↑n
      | 4=>u=.pointer (some ⟨gk,offk+n,none⟩)
      | 5=>u=.string k
      | 6=>u=.pointer (some ⟨w.heap.size,4,none⟩)
      | 7=>u=.slice (some ⟨ge,off,none⟩) r.vals.length q4
      | 8=>u=.int .i64 ↑n
      | 9=>u=.pointer (some ⟨ge,off+n * 5,none⟩)
      | 10=>u=.agg #[.int .i64 x.kind,.int .i64 x.num,.string x.txt,.slice A5 x.keys.length q5,.slice A6 x.vals.length q6]
      | 11=>∃ t,(WF B t/\T.size t<=Raw.size x)/\Rd (OffB (fun b=>w.heap.size<=b) O (w.heap.size+1)) V t u
      | 12=>∃ t,(WF B t/\T.size t<=Raw.size x)/\Rd (OffB (fun b=>w.heap.size<=b) O (w.heap.size+1)) V (.map (mins k t m)) u
      | _=>True) ?_ ?_ ?_
    ·intro j u V V' hc hφ
     rcases j with _ | _ | _ | _ | _ | _ | _ | _ | _ | _ | _ | _ | _ | j
     all_goals first | exact hφ | (obtain ⟨t,ht,hr⟩:=hφ; exact ⟨t,ht,hr.chg hc⟩)
    ·intro j oo hj ho a' w' hst hch hdep K2 hK2
     have hsz:wr.heap.size<=w'.heap.size:=hch.size;have hcB:Chg [] wr w':=(Chg.refl [] wr).dr.trans hch New.nil;have hcrw:=HNR.out.chg.trans hcB New.nil;obtain ⟨b0,b1,b2,b3,b4,bf⟩:=cells5 (box5 HDX.out.1 _ hcB);obtain ⟨a0,a1,a2,a3,a4,af⟩:=cells5 (HNR.out.go hcB).par;have yk:=YK.out _ hcrw;obtain ⟨_,hrx,hxs,x0,x1,x2,x3,x4⟩:=HX.out;have y0:=(hcrw.cells.1 ge _ hge).trans x0;have y1:=(hcrw.cells.1 ge _ hge).trans x1;have y2:=(hcrw.cells.1 ge _ hge).trans x2;have y3:=(hcrw.cells.1 ge _ hge).trans x3;have y4:=(hcrw.cells.1 ge _ hge).trans x4;have HRW:Hid (RdR w' x (.agg #[.int .i64 x.kind,.int .i64 x.num,.string x.txt,.slice A5 x.keys.length q5,.slice A6 x.vals.length q6])):=Lib.hid (hrx.chg hcrw);have HWM:Hid (Rd (OffB (fun b=>w.heap.size<=b) O (w.heap.size+1)) w' (.map m) (.agg #[.int .i64 (T.map m).kind,.int .i64 (T.map m).num,.string (T.map m).txt,.slice E7 (T.map m).keys.length r7,.slice E8 (T.map m).vals.length r8])):=Lib.hid (HDX.out.2.chg hcB);clear x0 x1 x2 x3 x4 hrx hxs;have hj':j < 13:=hj;rcases j with _ | _ | _ | _ | _ | _ | _ | _ | _ | _ | _ | _ | _ | j
     ·obtain rfl:_=oo:=Option.some.inj ho
      have h5:=g_eq (t:=5) (v:=.pointer (some ⟨O,0,none⟩)) (hst 5 (by simp));unfold Oper.wp;go_simp;exact ⟨_,rfl,hK2 _ _ (Chg.refl _ _) rfl⟩
     ·obtain rfl:_=oo:=Option.some.inj ho
      have h1:=g_eq (t:=1) (v:=.pointer (some ⟨w.heap.size,0,none⟩)) (hst 1 (by simp));unfold Oper.wp;go_simp;exact ⟨_,rfl,hK2 _ _ (Chg.refl _ _) rfl⟩
     ·obtain rfl:_=oo:=Option.some.inj ho
      have h65:=g_eq (t:=65) (v:=.pointer (some ⟨w.heap.size,3,none⟩)) (hdep 1 (by kernel_rfl));unfold Oper.wp;go_simp;exact ⟨_,rfl,hK2 _ _ (Chg.refl _ _) rfl⟩
     ·obtain rfl:_=oo:=Option.some.inj ho
      have h6:=g_eq (t:=6) (v:=.int .i64 ↑n) (hst 6 (by simp));unfold Oper.wp;go_simp;exact ⟨_,rfl,hK2 _ _ (Chg.refl _ _) rfl⟩
     ·obtain rfl:_=oo:=Option.some.inj ho
      have h66:=g_eq (t:=66) (v:=.slice (some ⟨gk,offk,none⟩) r.keys.length q3) (hdep 2 (by kernel_rfl));have h67:=g_eq (t:=67) (v:=.int .i64 ↑n) (hdep 3 (by kernel_rfl));unfold Oper.wp;go_simp;exact ⟨_,rfl,hK2 _ _ (Chg.refl _ _) rfl⟩
     ·obtain rfl:_=oo:=Option.some.inj ho
      have h68:=g_eq (t:=68) (v:=.pointer (some ⟨gk,offk+n,none⟩)) (hdep 4 (by kernel_rfl));unfold Oper.wp;go_simp;exact ⟨_,rfl,hK2 _ _ (Chg.refl _ _) rfl⟩
     ·obtain rfl:_=oo:=Option.some.inj ho
      have h1:=g_eq (t:=1) (v:=.pointer (some ⟨w.heap.size,0,none⟩)) (hst 1 (by simp));unfold Oper.wp;go_simp;exact ⟨_,rfl,hK2 _ _ (Chg.refl _ _) rfl⟩
     ·obtain rfl:_=oo:=Option.some.inj ho
      have h70:=g_eq (t:=70) (v:=.pointer (some ⟨w.heap.size,4,none⟩)) (hdep 6 (by kernel_rfl));unfold Oper.wp;go_simp;exact ⟨_,rfl,hK2 _ _ (Chg.refl _ _) rfl⟩
     ·obtain rfl:_=oo:=Option.some.inj ho
      have h6:=g_eq (t:=6) (v:=.int .i64 ↑n) (hst 6 (by simp));unfold Oper.wp;go_simp;exact ⟨_,rfl,hK2 _ _ (Chg.refl _ _) rfl⟩
     ·obtain rfl:_=oo:=Option.some.inj ho
      have h71:=g_eq (t:=71) (v:=.slice (some ⟨ge,off,none⟩) r.vals.length q4) (hdep 7 (by kernel_rfl));have h72:=g_eq (t:=72) (v:=.int .i64 ↑n) (hdep 8 (by kernel_rfl));unfold Oper.wp;go_simp;exact ⟨_,rfl,hK2 _ _ (Chg.refl _ _) rfl⟩
     ·obtain rfl:_=oo:=Option.some.inj ho
      have h73:=g_eq (t:=73) (v:=.pointer (some ⟨ge,off+n * 5,none⟩)) (hdep 9 (by kernel_rfl));unfold Oper.wp;go_simp;exact ⟨_,rfl,hK2 _ _ (Chg.refl _ _) rfl⟩
     ·obtain rfl:_=oo:=Option.some.inj ho
      have h74:=g_eq (t:=74) (v:=.agg #[.int .i64 x.kind,.int .i64 x.num,.string x.txt,.slice A5 x.keys.length q5,.slice A6 x.vals.length q6]) (hdep 10 (by kernel_rfl));have h74:=g_eq (t:=74) (v:=.agg #[.int .i64 x.kind,.int .i64 x.num,.string x.txt,.slice A5 x.keys.length q5,.slice A6 x.vals.length q6]) (hdep 10 (by kernel_rfl));unfold Oper.wp;go_simp;refine (ih x _ w' HX.out.2.2.1 (by omega) hwx HRW.out).mono ?_;rintro e w3 ⟨v',t,rfl,hc3,hr3,ht3⟩;exact ⟨_,rfl,hK2 _ _ hc3 ⟨t,ht3,hr3.weak fun b hb=>⟨by omega,by omega,by omega⟩⟩⟩
     ·obtain rfl:_=oo:=Option.some.inj ho
      have h64:=g_eq (t:=64) (v:=.agg #[.int .i64 (T.map m).kind,.int .i64 (T.map m).num,.string (T.map m).txt,.slice E7 (T.map m).keys.length r7,.slice E8 (T.map m).vals.length r8]) (hdep 0 (by kernel_rfl));have h69:=g_eq (t:=69) (v:=.string k) (hdep 5 (by kernel_rfl));have h64:=g_eq (t:=64) (v:=.agg #[.int .i64 (T.map m).kind,.int .i64 (T.map m).num,.string (T.map m).txt,.slice E7 (T.map m).keys.length r7,.slice E8 (T.map m).vals.length r8]) (hdep 0 (by kernel_rfl));have h69:=g_eq (t:=69) (v:=.string k) (hdep 5 (by kernel_rfl));obtain ⟨t,ht,hr75⟩ : ∃ t,(WF B t/\T.size t<=Raw.size x)/\Rd (OffB (fun b=>w.heap.size<=b) O (w.heap.size+1)) w' t (Act.g a' 75):=hdep 11 (by kernel_rfl);generalize h75:Act.g a' 75=vv at hr75;have h75:=g_eq (t:=75) h75;have HT:=Lib.hid ht;clear ht;unfold Oper.wp;go_simp;refine (with_map (o:=OffB (fun b=>w.heap.size<=b) O (w.heap.size+1)) m t _ _ k w' HWM.out HMW.out.1 hr75 HMW.out.2.1 (fun b hb=>⟨by omega,by omega,by omega⟩)).mono ?_;rintro e w3 ⟨v',rfl,hc3,hr3⟩;exact ⟨_,rfl,hK2 _ _ hc3 ⟨t,HT.out,hr3⟩⟩
     ·omega
    ·intro oo ho u w' hch hφ A2 hA2
     obtain rfl:_=oo:=Option.some.inj ho
     have l12:12 < 13:=by omega
     obtain ⟨t,ht,hu12⟩ : ∃ t,(WF B t/\T.size t<=Raw.size x)/\Rd (OffB (fun b=>w.heap.size<=b) O (w.heap.size+1)) w' (.map (mins k t m)) (u 12):=hφ 12 l12;obtain ⟨E5,r5,E6,r6,hu,_⟩:=hu12.five;rw [hu] at hu12;have hcB:Chg [] wr w':=(Chg.refl [] wr).dr.trans hch New.nil;have HNZ:=Lib.hid (HNR.out.go hcB)
     obtain ⟨W3,hW3⟩ : ∃ W3,W3=(((((w'.setCell ⟨O,0,none⟩ (.int .i64 (T.map (mins k t m)).kind)).setCell ⟨O,1,none⟩ (.int .i64 (T.map (mins k t m)).num)).setCell ⟨O,2,none⟩ (.string (T.map (mins k t m)).txt)).setCell ⟨O,3,none⟩ (.slice E5 (T.map (mins k t m)).keys.length r5)).setCell ⟨O,4,none⟩ (.slice E6 (T.map (mins k t m)).vals.length r6)):=⟨_,rfl⟩
     have HNZ3:=Lib.hid (HNZ.out.put hu12 W3 hW3);have HW3:=Lib.hid hW3;have hbz:=box5 HDX.out.1 _ hcB;have HT:=Lib.hid ht;simp [putAll,dOf,Act.put,hu] at hA2;subst hA2;clear hφ l12 ho hu hu12 hcB hW3 hch ht;obtain ⟨b0,b1,b2,b3,b4,bf⟩:=cells5 hbz;clear hbz;unfold Oper.wp;go_simp;refine HK.out _ _ ?_;clear HK b0 b1 b2 b3 b4 bf
     go_wp2_with fail
     rw [<- HW3.out]
     go_roundg (r.vals.length - (n+1))
     case measure=>omega
     case rel=>
      obtain ⟨hx,_,_⟩:=HX.out;refine ⟨n+1,mins k t m,by omega,by omega,rfl,by go_num,HNZ3.out,HMW.out.2.2.ins (HV.out.2.2.1 k (List.mem_of_getElem? HKK.out)) HT.out.1,?_⟩;rw [Raw.sizeL_step hx];have h1:=sizeM_ins (k:=k) (x:=t) (m:=m);have h2:=HMS.out;have h3:=HT.out.2
      omega
   ·have hE:¬ (n < r.keys.length/\n < r.vals.length):=hlt
    have hfin:∀ W,(∀ g,g≠w.heap.size+1->W.heap[g]?=wr.heap[g]?)->∀ v,Rd (OffB (fun b=>w.heap.size<=b) O (w.heap.size+1)) wr (.map m) v->Rd (fun b=>w.heap.size<=b) W (.map m) v/\WF B (.map m)/\T.size (.map m)<=Raw.size r:=fun W hne v hr=>⟨hr.to fun b _ ho=>⟨ho.1,hne b ho.2.2⟩,HMW.out.2.2,by
     have h1:=HMS.out;have h2:=Raw.sizeL_take (l:=r.vals) (n:=n);have h3:=HV.out.2.2.2.2.2.1;simp only [T.size]
     omega⟩
    have HFIN:=Lib.hid hfin;clear hfin hNR
    by_cases hlk:n < r.keys.length
    ·have hlv:¬ n < r.vals.length:=fun h=>hE ⟨hlk,h⟩
     clear hE hlt;obtain ⟨E3,r3,E4,r4,hbx,hrx⟩:=(HNR.out).box;have hres:=(HNR.out).res;have hchx:=(HNR.out).chg;have HRX:=Lib.hid hrx;clear hrx;obtain ⟨b0,b1,b2,b3,b4,bf⟩:=cells5 hbx;obtain ⟨d0,d1,d2,d3,d4,df⟩:=cells5 hres
     go_wp2
     obtain ⟨W,hW,Q,hne,hcW,_⟩:=store5 hres hchx (by omega:w.heap.size<=w.heap.size+1) (.int .i64 (T.map m).kind) (.int .i64 (T.map m).num) (.string (T.map m).txt) (.slice E3 (T.map m).keys.length r3) (.slice E4 (T.map m).vals.length r4);rw [<- hW];obtain ⟨e0,e1,e2,e3,e4,_⟩:=cells5 Q;refine bodyPost_ret (v:=.agg #[.int .i64 (T.map m).kind,.int .i64 (T.map m).num,.string (T.map m).txt,.slice E3 (T.map m).keys.length r3,.slice E4 (T.map m).vals.length r4]) (by simp [results,Tryz.results9,go_sem,e0,e1,e2,e3,e4]) rfl ⟨_,T.map m,rfl,hcW,?_⟩;exact HFIN.out W hne _ HRX.out
    ·clear hE hlt
     obtain ⟨E3,r3,E4,r4,hbx,hrx⟩:=(HNR.out).box;have hres:=(HNR.out).res;have hchx:=(HNR.out).chg;have HRX:=Lib.hid hrx;clear hrx;obtain ⟨b0,b1,b2,b3,b4,bf⟩:=cells5 hbx;obtain ⟨d0,d1,d2,d3,d4,df⟩:=cells5 hres
     go_wp2
     obtain ⟨W,hW,Q,hne,hcW,_⟩:=store5 hres hchx (by omega:w.heap.size<=w.heap.size+1) (.int .i64 (T.map m).kind) (.int .i64 (T.map m).num) (.string (T.map m).txt) (.slice E3 (T.map m).keys.length r3) (.slice E4 (T.map m).vals.length r4);rw [<- hW];obtain ⟨e0,e1,e2,e3,e4,_⟩:=cells5 Q;refine bodyPost_ret (v:=.agg #[.int .i64 (T.map m).kind,.int .i64 (T.map m).num,.string (T.map m).txt,.slice E3 (T.map m).keys.length r3,.slice E4 (T.map m).vals.length r4]) (by simp [results,Tryz.results9,go_sem,e0,e1,e2,e3,e4]) rfl ⟨_,T.map m,rfl,hcW,?_⟩;exact HFIN.out W hne _ HRX.out
 have k1:(r.kind == 1)=false:=by rw [beq_eq_false_iff_ne]; exact n1
 have k2:(r.kind == 2)=false:=by rw [beq_eq_false_iff_ne]; exact n2
 have k3:(r.kind == 3)=false:=by rw [beq_eq_false_iff_ne]; exact n3
 have k4:(r.kind == 4)=false:=by rw [beq_eq_false_iff_ne]; exact n4
 have k5:(r.kind == 5)=false:=by rw [beq_eq_false_iff_ne]; exact hk5
 have HSZ:Hid (1<=Raw.size r):=Lib.hid (by have:=Raw.size_vals r; omega);clear n1 n2 n3 n4 hk5 HV ih
 go_enter Tryz.func9,Tryz.ntmps9
 go_wp2_with fail
 have Q:=heap_al2 w (.cells #[.int .i64 r.kind,.int .i64 r.num,.string r.txt,.slice A3 r.keys.length q3,.slice A4 r.vals.length q4] 25) (.cells #[.int .i64 0,.int .i64 0,.string ⟨#[]⟩,.slice none 0 0,.slice none 0 0] 25);obtain ⟨e0,e1,e2,e3,e4,_⟩:=cells5 Q;refine bodyPost_ret (v:=.agg #[.int .i64 0,.int .i64 0,.string ⟨#[]⟩,.slice none 0 0,.slice none 0 0]) (by simp [results,Tryz.results9,go_sem,e0,e1,e2,e3,e4]) rfl ⟨_,.null,rfl,((Chg.refl [] w).al _).al _,Rd.zero _,trivial,HSZ.out⟩
end Go.Proofs.YtpofkokbmifhgaaGreatDoor
