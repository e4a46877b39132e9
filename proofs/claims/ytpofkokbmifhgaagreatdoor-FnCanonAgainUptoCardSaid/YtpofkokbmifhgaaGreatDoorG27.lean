/- Parts of the walk, made small by wip/tools/pack.py: LawA. No condition but those in each statement. -/
import Derived.Test.YtpofkokbmifhgaaGreatDoorG24
import Derived.Test.YtpofkokbmifhgaaGreatDoorG26
import Derived.Test.YtpofkokbmifhgaaGreatDoorG19
import Derived.Test.YtpofkokbmifhgaaGreatDoorG06
import Derived.Test.YtpofkokbmifhgaaGreatDoorG05
set_option maxRecDepth 100000
set_option maxHeartbeats 20000000
set_option linter.unusedVariables false
set_option linter.unusedSimpArgs false
namespace Go.Proofs.YtpofkokbmifhgaaGreatDoor
open Go.RowKit
variable {o:Nat->Prop}
theorem fnAgain_any (r:Raw) (v:Value) (w:World) (hr:RdR w r v) (hw:WFR 1048576 r) (hz:Raw.size r<=1048576) (hT:TabP w) :
  Calls Tryz.prog 4 #[v] w fun e w'=>e=.returned (.bool true)/\Chg [] w w':=by
 obtain ⟨A3,q3,A4,q4,rfl,hyz⟩:=hr.five
 clear hyz
 have hw2:WFR 67108864 r:=WFR.mono (by decide) hw
 have HR:=Lib.hid (And.intro hr (And.intro hw (And.intro hz (And.intro hT hw2))))
 clear hr hw hz hT hw2
 go_enter Tryz.func4,Tryz.ntmps4
 go_wp2_with fail
 refine (fits1_any r _ _ (HR.out.1.chg ((Chg.refl [] w).al _)) HR.out.2.2.2.2).mono ?_
 rintro e w1 ⟨b1,rfl,hc1⟩
 have hcw2:Chg [] w w1:=((Chg.refl [] w).al _).trans hc1 New.nil
 have z0:w1.heap[w.heap.size]?=some (.cells #[.int .i64 r.kind,.int .i64 r.num,.string r.txt,.slice A3 r.keys.length q3,.slice A4 r.vals.length q4] 25):=box5 (heap_alloc_new w _) _ hc1
 clear hc1
 cases b1 with
 | false=>
  go_wp2_with fail
  go_ret
  exact ⟨rfl,hcw2⟩
 | true=>
   obtain ⟨a0,a1,a2,a3,a4,af⟩:=cells5 z0
   go_wp2_with fail
   refine (fit_any (B:=1048576) (by omega) 1048576 r _ w1 HR.out.2.2.1 (by omega) HR.out.2.1 (HR.out.1.chg hcw2)).mono ?_
   rintro e w3 ⟨v3,t,rfl,hc3,hr3,hwt,hzt⟩
   obtain ⟨X5,x5,X6,x6,rfl,hyz⟩:=hr3.five
   have hzt:T.size t<=1048576:=Nat.le_trans hzt HR.out.2.2.1
   have hlt2:w.heap.size < w1.heap.size:=(Array.getElem?_eq_some_iff.1 z0).1
   have z0:=box5 z0 _ hc3
   have hcw3:=hcw2.trans hc3 New.nil
   have hs23:=hc3.size
   clear hyz a0 a1 a2 a3 a4 af
   obtain ⟨W3,hW3,Q,hne,hcW3,hsz3⟩:=store5 z0 hcw3 (Nat.le_refl _) (.int .i64 t.kind) (.int .i64 t.num) (.string t.txt) (.slice X5 t.keys.length x5) (.slice X6 t.vals.length x6)
   have hr4:Rd (fun b=>b≠w.heap.size) W3 t (.agg #[.int .i64 (t).kind,.int .i64 (t).num,.string (t).txt,.slice X5 (t).keys.length x5,.slice X6 (t).vals.length x6]):=hr3.to fun b hb ho=>⟨by omega,hne b (by omega)⟩
   have hft:Fine t:=⟨hwt.mono (by decide),by omega⟩
   obtain ⟨a0,a1,a2,a3,a4,af⟩:=cells5 z0
   obtain ⟨p0,p1,p2,p3,p4,pf⟩:=cells5 Q
   rw [hW3] at p0 p1 p2 p3 p4 pf
   have HT:=Lib.hid (And.intro Q (And.intro hr4 (And.intro hft (And.intro hcW3 hwt))))
   clear Q hr4 hne hcW3 hr3 hc3 hcw2 hcw3 z0 hwt
   go_wp2_with fail
   rw [<- hW3]
   clear hW3 a0 a1 a2 a3 a4 af p0 p1 p2 p3 p4 pf
   have hsW3:w.heap.size < W3.heap.size:=by omega
   refine (says_q (o:=(fun b=>b≠w.heap.size)) t _ W3 HT.out.2.1 HT.out.2.2.1).mono ?_
   rintro e w4 ⟨b4,rfl,hc4,hq⟩
   have HQ:=Lib.hid hq
   have hcW4:Chg [] w w4:=HT.out.2.2.2.1.trans hc4 New.nil
   have zP:=box5 HT.out.1 _ hc4
   have HT4:=Lib.hid (HT.out.2.1.chg hc4)
   have hs4:W3.heap.size<=w4.heap.size:=hc4.size
   clear hq hc4 hsz3
   cases b4 with
   | false=>
    go_wp2_with fail
    go_ret
    exact ⟨rfl,hcW4⟩
   | true=>
    obtain ⟨m,rfl,hok⟩ : ∃ m,t=.map m/\SaysOK m:=by first | exact HQ.out rfl | exact HQ.out trivial
    have HB:=Lib.hid (canB hok HT.out.2.2.2.2 hzt)
    have HA:=Lib.hid (agB hok HT.out.2.2.2.2 hzt)
    obtain ⟨mu,hmu⟩ : ∃ mu,mu=(m.map fun p=>(p.1,uniT [p.1] p.2)):=⟨_,rfl⟩
    rw [<- hmu] at HB
    have HTP:=Lib.hid (HR.out.2.2.2.1.chg hcW4 (by simp))
    have HC4:=Lib.hid hcW4
    obtain ⟨p0,p1,p2,p3,p4,pf⟩:=cells5 zP
    clear hok HQ hmu zP hcW4
    go_wp2_with fail
    refine (canonOf_any (o:=(fun b=>b≠w.heap.size)) m mu _ w4 HT4.out HB HTP.out (fun b hb=>by omega)).mono ?_
    rintro e w5 ⟨v5,rfl,hc5,hr5⟩
    obtain ⟨C5,c5,C6,c6,rfl,hyz⟩:=hr5.five
    obtain ⟨W5,hW5⟩ : ∃ W5,W5=w5.alloc (.cells #[.int .i64 (T.map (formP m)).kind,.int .i64 (T.map (formP m)).num,.string (T.map (formP m)).txt,.slice C5 (T.map (formP m)).keys.length c5,.slice C6 (T.map (formP m)).vals.length c6] 25):=⟨_,rfl⟩
    have hcC:Chg [] w5 W5:=hW5 ▸ (Chg.refl [] w5).al _
    obtain ⟨CB,hCB⟩ : ∃ CB,CB=w5.heap.size:=⟨_,rfl⟩
    have zC:W5.heap[CB]?=some (.cells #[.int .i64 (T.map (formP m)).kind,.int .i64 (T.map (formP m)).num,.string (T.map (formP m)).txt,.slice C5 (T.map (formP m)).keys.length c5,.slice C6 (T.map (formP m)).vals.length c6] 25):=by
     rw [hCB,hW5]
     exact heap_alloc_new _ _
    have hs5:W3.heap.size<=CB/\CB < W5.heap.size:=⟨by rw [hCB]; exact Nat.le_trans hs4 hc5.size,by rw [hCB,hW5]; simp⟩
    have hcA:=hc5.trans hcC New.nil
    have HK:=Lib.hid (And.intro ((hr5.weak fun b hb=>by omega:Rd (fun b=>b≠w.heap.size) w5 (.map (formP m)) (.agg #[.int .i64 (T.map (formP m)).kind,.int .i64 (T.map (formP m)).num,.string (T.map (formP m)).txt,.slice C5 (T.map (formP m)).keys.length c5,.slice C6 (T.map (formP m)).vals.length c6])).chg hcC) (HC4.out.trans hcA New.nil))
    have HTP5:=Lib.hid (HTP.out.chg hcA (by simp))
    obtain ⟨i0,i1,i2,i3,i4,iff⟩:=cells5 zC
    rw [hCB,hW5] at i0 i1 i2 i3 i4 iff
    have HZC:=Lib.hid zC
    clear hyz hr5 hc5 hcC zC hcA p0 p1 p2 p3 p4 pf
    go_wp2_with fail
    rw [<- hW5,<- hCB]
    clear hW5 hCB i0 i1 i2 i3 i4 iff
    refine (to_any 67108864 (.map (formP m)) _ W5 HA.out.ff.size HA.out.ff.size HK.out.1).mono ?_
    rintro e w6 ⟨v6,rfl,hc6,hr6⟩
    go_wp2_with fail
    refine (implUni_any (formP m) (formP m) _ w6 hr6 HA.out.ff HA.out.ff HA.out.uni HA.out.wff HA.out.szf HA.out.oku HA.out.kf (HTP5.out.chg hc6 (by simp))).mono ?_
    rintro e w7 ⟨v7,rfl,hc7,hr7⟩
    obtain ⟨U5,u5,U6,u6,rfl,hyz⟩:=hr7.five
    obtain ⟨W7,hW7⟩ : ∃ W7,W7=w7.alloc (.cells #[.int .i64 (T.map (formP m)).kind,.int .i64 (T.map (formP m)).num,.string (T.map (formP m)).txt,.slice U5 (T.map (formP m)).keys.length u5,.slice U6 (T.map (formP m)).vals.length u6] 32):=⟨_,rfl⟩
    have hcU:Chg [] w7 W7:=hW7 ▸ (Chg.refl [] w7).al _
    obtain ⟨UB,hUB⟩ : ∃ UB,UB=w7.heap.size:=⟨_,rfl⟩
    have zU:W7.heap[UB]?=some (.cells #[.int .i64 (T.map (formP m)).kind,.int .i64 (T.map (formP m)).num,.string (T.map (formP m)).txt,.slice U5 (T.map (formP m)).keys.length u5,.slice U6 (T.map (formP m)).vals.length u6] 32):=by
     rw [hUB,hW7]
     exact heap_alloc_new _ _
    have hsU:W5.heap.size<=UB/\UB < W7.heap.size:=⟨by rw [hUB]; exact Nat.le_trans hc6.size hc7.size,by rw [hUB,hW7]; simp⟩
    have HU:=Lib.hid (And.intro (hr7.chg hcU) ((hc6.trans hc7 New.nil).trans hcU New.nil))
    obtain ⟨i0,i1,i2,i3,i4,iff⟩:=cells5 zU
    rw [hUB,hW7] at i0 i1 i2 i3 i4 iff
    clear hyz hr6 hr7 hc6 hc7 hcU zU
    go_wp2_with fail
    rw [<- hW7]
    clear hW7 hUB i0 i1 i2 i3 i4 iff
    refine (implCan_any (formP m) (formP m) _ false W7 HU.out.1 HA.out.ff HA.out.ff HA.out.can HA.out.wff HA.out.szf HA.out.okc HA.out.kf).mono ?_
    rintro e w8 ⟨v8,rfl,hc8,hr8⟩
    obtain ⟨D5,d5,D6,d6,rfl,hyz⟩:=hr8.five
    obtain ⟨W8,hW8⟩ : ∃ W8,W8=w8.alloc (.cells #[.int .i64 (T.map (formP m)).kind,.int .i64 (T.map (formP m)).num,.string (T.map (formP m)).txt,.slice D5 (T.map (formP m)).keys.length d5,.slice D6 (T.map (formP m)).vals.length d6] 32):=⟨_,rfl⟩
    have hcI:Chg [] w8 W8:=hW8 ▸ (Chg.refl [] w8).al _
    obtain ⟨IB,hIB⟩ : ∃ IB,IB=w8.heap.size:=⟨_,rfl⟩
    have zI:W8.heap[IB]?=some (.cells #[.int .i64 (T.map (formP m)).kind,.int .i64 (T.map (formP m)).num,.string (T.map (formP m)).txt,.slice D5 (T.map (formP m)).keys.length d5,.slice D6 (T.map (formP m)).vals.length d6] 32):=by
     rw [hIB,hW8]
     exact heap_alloc_new _ _
    have hs8:W7.heap.size<=IB/\IB < W8.heap.size:=⟨by rw [hIB]; exact hc8.size,by rw [hIB,hW8]; simp⟩
    have hc58:Chg [] W5 W8:=(HU.out.2.trans hc8 New.nil).trans hcI New.nil
    have HY:=Lib.hid (And.intro zI (box5 HZC.out _ hc58))
    have HX:Hid (Chg [] w W8/\Rd (fun b=>b≠w.heap.size) W8 (.map (formP m)) (.agg #[.int .i64 (T.map (formP m)).kind,.int .i64 (T.map (formP m)).num,.string (T.map (formP m)).txt,.slice D5 (T.map (formP m)).keys.length d5,.slice D6 (T.map (formP m)).vals.length d6])/\Rd (fun b=>b≠w.heap.size) W8 (.map (formP m)) (.agg #[.int .i64 (T.map (formP m)).kind,.int .i64 (T.map (formP m)).num,.string (T.map (formP m)).txt,.slice C5 (T.map (formP m)).keys.length c5,.slice C6 (T.map (formP m)).vals.length c6])):=Lib.hid ⟨HK.out.2.trans hc58 New.nil,(hr8.weak fun b hb=>by omega).chg hcI,HK.out.1.chg hc58⟩
    clear hyz hr8 hc8 hcI zI hc58
    go_wp2_with fail
    rw [<- hW8,<- hIB]
    clear hW8 hIB
    rename_i K hK
    refine wp_region_allg (by rfl) (by kernel_rfl) [3,4,6,7,8] [(1,true),(4,true),(7,true)] (by kernel_rfl)
     (fun j u V=>match j with
      | 0=>u=.bool true
      | 1=>u=.bool true
      | 2=>u=.bool true
      | 3=>u=.bool true
      | 4=>u=.bool true
      | 5=>u=.bool true
      | 6=>u=.bool true
      | 7=>u=.bool true
      | 8=>u=.agg #[.int .i64 (T.map (formP m)).kind,.int .i64 (T.map (formP m)).num,.string (T.map (formP m)).txt,.slice C5 (T.map (formP m)).keys.length c5,.slice C6 (T.map (formP m)).vals.length c6]
      | 9=>u=.agg #[.int .i64 (T.map (formP m)).kind,.int .i64 (T.map (formP m)).num,.string (T.map (formP m)).txt,.slice D5 (T.map (formP m)).keys.length d5,.slice D6 (T.map (formP m)).vals.length d6]
      | 10=>Rd (fun b=>b≠w.heap.size) V (.map (formP m)) u
      | 11=>u=.bool true
      | 12=>u=.bool true
      | 13=>u=.bool true
      | _=>True) ?_ ?_ ?_ ?_
    ·intro q hq V w' hφ
     simp only [List.mem_cons,List.not_mem_nil,or_false] at hq
     rcases hq with rfl | rfl | rfl <;> exact hφ
    ·intro j u V V' hc hφ
     rcases j with _ | _ | _ | _ | _ | _ | _ | _ | _ | _ | _ | _ | _ | _ | j
     all_goals first | exact hφ | exact Rd.chg hφ hc
    ·intro j oo hj ho a' w' hst hch hdep K2 hK2
     have hsz:W8.heap.size<=w'.heap.size:=hch.size
     have hcB:Chg [] W8 w':=(Chg.refl [] W8).dr.trans hch New.nil
     obtain ⟨i0,i1,i2,i3,i4,iff⟩:=cells5 (box5 HY.out.1 _ hcB)
     obtain ⟨s0,s1,s2,s3,s4,sf⟩:=cells5 (box5 HY.out.2 _ hcB)
     have hj':j < 14:=hj
     rcases j with _ | _ | _ | _ | _ | _ | _ | _ | _ | _ | _ | _ | _ | _ | j
     ·obtain rfl:_=oo:=Option.some.inj ho
      have h4:=g_eq (t:=4) (v:=.bool true) (hst 4 (by simp))
      unfold Oper.wp
      go_simp
      exact ⟨_,rfl,hK2 _ _ (Chg.refl _ _) rfl⟩
     ·obtain rfl:_=oo:=Option.some.inj ho
      have h33:=g_eq (t:=33) (v:=.bool true) (hdep 0 (by kernel_rfl))
      unfold Oper.wp
      go_simp
      exact ⟨_,rfl,hK2 _ _ (Chg.refl _ _) rfl⟩
     ·obtain rfl:_=oo:=Option.some.inj ho
      have h6:=g_eq (t:=6) (v:=.bool true) (hst 6 (by simp))
      unfold Oper.wp
      go_simp
      exact ⟨_,rfl,hK2 _ _ (Chg.refl _ _) rfl⟩
     ·obtain rfl:_=oo:=Option.some.inj ho
      have h34:=g_eq (t:=34) (v:=.bool true) (hdep 1 (by kernel_rfl))
      have h35:=g_eq (t:=35) (v:=.bool true) (hdep 2 (by kernel_rfl))
      have h34:=g_eq (t:=34) (v:=.bool true) (hdep 1 (by kernel_rfl))
      have h35:=g_eq (t:=35) (v:=.bool true) (hdep 2 (by kernel_rfl))
      unfold Oper.wp
      go_simp
      exact ⟨_,rfl,hK2 _ _ (Chg.refl _ _) rfl⟩
     ·obtain rfl:_=oo:=Option.some.inj ho
      have h36:=g_eq (t:=36) (v:=.bool true) (hdep 3 (by kernel_rfl))
      unfold Oper.wp
      go_simp
      exact ⟨_,rfl,hK2 _ _ (Chg.refl _ _) rfl⟩
     ·obtain rfl:_=oo:=Option.some.inj ho
      have h8:=g_eq (t:=8) (v:=.bool true) (hst 8 (by simp))
      unfold Oper.wp
      go_simp
      exact ⟨_,rfl,hK2 _ _ (Chg.refl _ _) rfl⟩
     ·obtain rfl:_=oo:=Option.some.inj ho
      have h38:=g_eq (t:=38) (v:=.bool true) (hdep 5 (by kernel_rfl))
      have h37:=g_eq (t:=37) (v:=.bool true) (hdep 4 (by kernel_rfl))
      have h38:=g_eq (t:=38) (v:=.bool true) (hdep 5 (by kernel_rfl))
      unfold Oper.wp
      go_simp
      exact ⟨_,rfl,hK2 _ _ (Chg.refl _ _) rfl⟩
     ·obtain rfl:_=oo:=Option.some.inj ho
      have h39:=g_eq (t:=39) (v:=.bool true) (hdep 6 (by kernel_rfl))
      unfold Oper.wp
      go_simp
      exact ⟨_,rfl,hK2 _ _ (Chg.refl _ _) rfl⟩
     ·obtain rfl:_=oo:=Option.some.inj ho
      have h3:=g_eq (t:=3) (v:=.pointer (some ⟨CB,0,none⟩)) (hst 3 (by simp))
      unfold Oper.wp
      go_simp
      exact ⟨_,rfl,hK2 _ _ (Chg.refl _ _) rfl⟩
     ·obtain rfl:_=oo:=Option.some.inj ho
      have h7:=g_eq (t:=7) (v:=.pointer (some ⟨IB,0,none⟩)) (hst 7 (by simp))
      unfold Oper.wp
      go_simp
      exact ⟨_,rfl,hK2 _ _ (Chg.refl _ _) rfl⟩
     ·obtain rfl:_=oo:=Option.some.inj ho
      have h42:=g_eq (t:=42) (v:=.agg #[.int .i64 (T.map (formP m)).kind,.int .i64 (T.map (formP m)).num,.string (T.map (formP m)).txt,.slice D5 (T.map (formP m)).keys.length d5,.slice D6 (T.map (formP m)).vals.length d6]) (hdep 9 (by kernel_rfl))
      have h42:=g_eq (t:=42) (v:=.agg #[.int .i64 (T.map (formP m)).kind,.int .i64 (T.map (formP m)).num,.string (T.map (formP m)).txt,.slice D5 (T.map (formP m)).keys.length d5,.slice D6 (T.map (formP m)).vals.length d6]) (hdep 9 (by kernel_rfl))
      unfold Oper.wp
      go_simp
      refine (from_any 67108864 (.map (formP m)) _ w' HA.out.ff.size HA.out.ff.size (HX.out.2.1.chg hcB)).mono ?_
      rintro e w3 ⟨v',rfl,hc3,hr3⟩
      exact ⟨_,rfl,hK2 _ _ hc3 (hr3.weak fun b hb=>by omega)⟩
     ·obtain rfl:_=oo:=Option.some.inj ho
      have h41:=g_eq (t:=41) (v:=.agg #[.int .i64 (T.map (formP m)).kind,.int .i64 (T.map (formP m)).num,.string (T.map (formP m)).txt,.slice C5 (T.map (formP m)).keys.length c5,.slice C6 (T.map (formP m)).vals.length c6]) (hdep 8 (by kernel_rfl))
      have hr43:Rd (fun b=>b≠w.heap.size) w' (.map (formP m)) (Act.g a' 43):=hdep 10 (by kernel_rfl)
      generalize h43:Act.g a' 43=vw at hr43
      have h41:=g_eq (t:=41) (v:=.agg #[.int .i64 (T.map (formP m)).kind,.int .i64 (T.map (formP m)).num,.string (T.map (formP m)).txt,.slice C5 (T.map (formP m)).keys.length c5,.slice C6 (T.map (formP m)).vals.length c6]) (hdep 8 (by kernel_rfl))
      have h43:=g_eq (t:=43) h43
      unfold Oper.wp
      go_simp
      refine (same_eq (o:=(fun b=>b≠w.heap.size)) 67108864 (.map (formP m)) _ _ w' HA.out.ff.size HA.out.ff.size (HX.out.2.2.chg hcB) hr43).mono ?_
      rintro e w3 ⟨rfl,hc3⟩
      exact ⟨_,rfl,hK2 _ _ hc3 rfl⟩
     ·obtain rfl:_=oo:=Option.some.inj ho
      have h40:=g_eq (t:=40) (v:=.bool true) (hdep 7 (by kernel_rfl))
      have h44:=g_eq (t:=44) (v:=.bool true) (hdep 11 (by kernel_rfl))
      unfold Oper.wp
      go_simp
      exact ⟨_,rfl,hK2 _ _ (Chg.refl _ _) rfl⟩
     ·obtain rfl:_=oo:=Option.some.inj ho
      have h45:=g_eq (t:=45) (v:=.bool true) (hdep 12 (by kernel_rfl))
      unfold Oper.wp
      go_simp
      exact ⟨_,rfl,hK2 _ _ (Chg.refl _ _) rfl⟩
     ·omega
    ·intro u w' hch hφ A2 hA2
     have hu:u 13=.bool true:=hφ 13 (by decide)
     have hcB:Chg [] W8 w':=(Chg.refl [] W8).dr.trans hch New.nil
     have hcE:=HX.out.1.trans hcB New.nil
     simp [putAll,dOf,Act.put,hu] at hA2
     subst hA2
     clear hφ hu hch hcB
     refine hK _ _ ?_
     go_wp2_with fail
     go_ret
     exact ⟨rfl,hcE⟩
end Go.Proofs.YtpofkokbmifhgaaGreatDoor
