/- Parts of the walk, made small by wip/tools/pack.py: Split, SayK, SayL, WoC. No condition but those in each statement. -/
import Derived.Test.YtpofkokbmifhgaaGreatDoorL21
import Derived.Test.YtpofkokbmifhgaaGreatDoorL14
import Derived.Test.YtpofkokbmifhgaaGreatDoorL10
import Derived.Test.YtpofkokbmifhgaaGreatDoorL20
set_option maxRecDepth 100000
set_option maxHeartbeats 20000000
set_option linter.unusedVariables false
set_option linter.unusedSimpArgs false
namespace Go.Proofs.YtpofkokbmifhgaaGreatDoor
open Go.RowKit
variable {o:Nat->Prop}
theorem mergeSplit_any (s:ByteArray) (w:World) (hs:s.size<=67108864):Calls Tryz.prog 57 #[.string s] w fun e w'=>∃ v',e=.returned (.tuple #[.string (cutK s),v'])/\Chg [] w w'/\Rd (fun b=>w.heap.size<=b) w' (cutV s) v':=by
 have HC:=Lib.hid (bIdx_le 61 s);have z0:=heap_alloc_new w (.cells #[.int .i64 0,.int .i64 0,.string ⟨#[]⟩,.slice none 0 0,.slice none 0 0] 25)
 go_enter Tryz.func57,Tryz.ntmps57
 go_wp2_with fail
 go_loopg [4] s.size (fun g i wr=>∃ n:Nat,n<=bIdx 61 s/\g=s.size - n/\i=.int .i64 n/\wr=w.alloc (.cells #[.int .i64 0,.int .i64 0,.string ⟨#[]⟩,.slice none 0 0,.slice none 0 0] 25))
 case atStart=>exact ⟨0,Nat.zero_le _,by omega,rfl,rfl⟩
 case round=>
  obtain ⟨n,hn,rfl,rfl,hwr⟩:=hrel;rw [<- hwr] at z0
  have hcr:Chg [] w wr:=by rw [hwr]; exact (Chg.refl [] w).al _
  have HN:=Lib.hid hn;have HWR:=Lib.hid hwr;clear hn hwr
  by_cases hlt:n < s.size
  ·by_cases h61:s[n]=61
   ·have he:((s[n].toNat:Int) == 61)=true:=by rw [h61]; rfl
    have hc:=Lib.hid (bIdx_here HN.out hlt h61)
    have hn1:n+1<=s.size:=by omega
    have hn0:n<=s.size:=by omega
    have hn64:n<=67108864:=by omega
    have Z0:=Lib.hid z0;have HCR:=Lib.hid hcr;clear h61 z0 hcr
    go_wp2_with fail
    rename_i K hK;have HK:=Lib.hid hK;clear hK
    refine wp_region_tail (by rfl) (by kernel_rfl) [0,3,4] (by kernel_rfl)
     (fun j u V=>match j with
      | 0=>u=.string s
      | 1=>u=.int .i64 ↑n
      | 2=>u=.string (s.extract 0 n)
      | 3=>u=.string s
      | 4=>u=.int .i64 ↑n
      | 5=>u=.int .i64 (↑n+1)
      | 6=>u=.string (s.extract (n+1) s.size)
      | 7=>Rd (fun b=>w.heap.size+1<=b) V (.text (s.extract (n+1) s.size)) u
      | 8=>u=.string (s.extract 0 n)
      | _=>True) ?_ ?_ ?_
    ·intro j u V V' hc hφ
     rcases j with _ | _ | _ | _ | _ | _ | _ | _ | _ | j
     all_goals first | exact hφ | exact Rd.chg hφ hc
    ·intro j oo hj ho a' w' hst hch hdep K2 hK2
     have hsz:wr.heap.size<=w'.heap.size:=hch.size;have hj':j < 9:=hj;rcases j with _ | _ | _ | _ | _ | _ | _ | _ | _ | j
     ·obtain rfl:_=oo:=Option.some.inj ho
      have h0:=g_eq (t:=0) (v:=.string s) (hst 0 (by simp));unfold Oper.wp;go_simp;exact ⟨_,rfl,hK2 _ _ (Chg.refl _ _) rfl⟩
     ·obtain rfl:_=oo:=Option.some.inj ho
      have h4:=g_eq (t:=4) (v:=.int .i64 ↑n) (hst 4 (by simp));unfold Oper.wp;go_simp;exact ⟨_,rfl,hK2 _ _ (Chg.refl _ _) rfl⟩
     ·obtain rfl:_=oo:=Option.some.inj ho
      have h15:=g_eq (t:=15) (v:=.string s) (hdep 0 (by kernel_rfl));have h16:=g_eq (t:=16) (v:=.int .i64 ↑n) (hdep 1 (by kernel_rfl));unfold Oper.wp;go_simp;exact ⟨_,rfl,hK2 _ _ (Chg.refl _ _) rfl⟩
     ·obtain rfl:_=oo:=Option.some.inj ho
      have h0:=g_eq (t:=0) (v:=.string s) (hst 0 (by simp));unfold Oper.wp;go_simp;exact ⟨_,rfl,hK2 _ _ (Chg.refl _ _) rfl⟩
     ·obtain rfl:_=oo:=Option.some.inj ho
      have h4:=g_eq (t:=4) (v:=.int .i64 ↑n) (hst 4 (by simp));unfold Oper.wp;go_simp;exact ⟨_,rfl,hK2 _ _ (Chg.refl _ _) rfl⟩
     ·obtain rfl:_=oo:=Option.some.inj ho
      have h19:=g_eq (t:=19) (v:=.int .i64 ↑n) (hdep 4 (by kernel_rfl));have h19:=g_eq (t:=19) (v:=.int .i64 ↑n) (hdep 4 (by kernel_rfl));unfold Oper.wp;go_simp;exact ⟨_,rfl,hK2 _ _ (Chg.refl _ _) (by show Value.int .i64 (IntKind.i64.wrap ((n:Int)+1))=.int .i64 ((n:Int)+1); rw [IntWalk.i64_in _ (by omega)])⟩
     ·obtain rfl:_=oo:=Option.some.inj ho
      have h18:=g_eq (t:=18) (v:=.string s) (hdep 3 (by kernel_rfl));have h18:=g_eq (t:=18) (v:=.string s) (hdep 3 (by kernel_rfl));have h20:=g_eq (t:=20) (v:=.int .i64 (↑n+1)) (hdep 5 (by kernel_rfl))
      have hb:(0:Int)<=↑n+1/\(↑n:Int)+1<=↑s.size:=by omega
      unfold Oper.wp;go_simp;exact ⟨_,rfl,hK2 _ _ (Chg.refl _ _) rfl⟩
     ·obtain rfl:_=oo:=Option.some.inj ho
      have h21:=g_eq (t:=21) (v:=.string (s.extract (n+1) s.size)) (hdep 6 (by kernel_rfl));unfold Oper.wp;go_simp;refine (specT (o:=fun b=>w.heap.size+1<=b) _ _).mono ?_;rintro e w3 ⟨v',rfl,hc3,hr3⟩;exact ⟨_,rfl,hK2 _ _ hc3 hr3⟩
     ·obtain rfl:_=oo:=Option.some.inj ho
      have h17:=g_eq (t:=17) (v:=.string (s.extract 0 n)) (hdep 2 (by kernel_rfl));unfold Oper.wp;go_simp;exact ⟨_,rfl,hK2 _ _ (Chg.refl _ _) rfl⟩
     ·omega
    ·intro oo ho u w' hch hφ A2 hA2
     obtain rfl:_=oo:=Option.some.inj ho
     have l8:8 < 9:=by omega
     have l7:7 < 9:=by omega
     have hu8:u 8=.string (s.extract 0 n):=hφ 8 l8;have hu7:Rd (fun b=>w.heap.size+1<=b) w' (.text (s.extract (n+1) s.size)) (u 7):=hφ 7 l7;obtain ⟨E5,r5,E6,r6,hu,_⟩:=hu7.five;rw [hu] at hu7;have hcB:Chg [] wr w':=(Chg.refl [] wr).dr.trans hch New.nil;have hcw:=HCR.out.trans hcB New.nil;have hbz:=box5 Z0.out _ hcB;obtain ⟨W3,hW3,Q,hne,hcW,_⟩:=store5 hbz hcw (Nat.le_refl _) (.int .i64 (T.text (s.extract (n+1) s.size)).kind) (.int .i64 (T.text (s.extract (n+1) s.size)).num) (.string (T.text (s.extract (n+1) s.size)).txt) (.slice E5 (T.text (s.extract (n+1) s.size)).keys.length r5) (.slice E6 (T.text (s.extract (n+1) s.size)).vals.length r6)
     have hr7:Rd (fun b=>w.heap.size<=b) W3 (.text (s.extract (n+1) s.size)) (.agg #[.int .i64 (T.text (s.extract (n+1) s.size)).kind,.int .i64 (T.text (s.extract (n+1) s.size)).num,.string (T.text (s.extract (n+1) s.size)).txt,.slice E5 (T.text (s.extract (n+1) s.size)).keys.length r5,.slice E6 (T.text (s.extract (n+1) s.size)).vals.length r6]):=hu7.to fun b hb ho=>by
      have ho:w.heap.size+1<=b:=ho;exact ⟨by omega,hne b (by omega)⟩
     have HR7:=Lib.hid (And.intro hr7 (And.intro Q hcW));simp [putAll,dOf,Act.put,hu,hu8] at hA2;subst hA2;clear hφ l8 l7 ho hu hu7 hu8 hcB hch hcw hr7 hne Q hcW;obtain ⟨b0,b1,b2,b3,b4,bf⟩:=cells5 hbz;clear hbz;unfold Oper.wp;go_simp;refine HK.out _ _ ?_;clear HK b0 b1 b2 b3 b4 bf
     go_wp2_with fail
     rw [<- hW3];obtain ⟨h1,Q,h2⟩:=HR7.out;obtain ⟨e0,e1,e2,e3,e4,_⟩:=cells5 Q
     have hk:cutK s=s.extract 0 n:=by show s.extract 0 (bIdx 61 s)=_; rw [hc.out]
     have hv:cutV s=.text (s.extract (n+1) s.size):=by unfold cutV; rw [show eqIdx s=n from hc.out,if_pos hlt]
     rw [hk,hv];refine bodyPost_ret (v:=.tuple #[.string (s.extract 0 n),.agg #[.int .i64 (T.text (s.extract (n+1) s.size)).kind,.int .i64 (T.text (s.extract (n+1) s.size)).num,.string (T.text (s.extract (n+1) s.size)).txt,.slice E5 (T.text (s.extract (n+1) s.size)).keys.length r5,.slice E6 (T.text (s.extract (n+1) s.size)).vals.length r6]]) (by simp [results,Tryz.results57,go_sem,e0,e1,e2,e3,e4]) rfl ⟨_,rfl,h2,h1⟩
   ·have he:((s[n].toNat:Int) == 61)=false:=by
     rw [beq_eq_false_iff_ne]
     intro e
     exact h61 (UInt8.toNat_inj.1 (by rw [show (61:UInt8).toNat=61 from rfl]; omega))
    have hc:=Lib.hid (bIdx_step HN.out hlt h61)
    have hn64:n<=67108864:=by omega
    clear h61
    go_wp2_with fail
    go_roundg (s.size - (n+1))
    case measure=>omega
    case rel=>exact ⟨n+1,hc.out,rfl,by go_num,HWR.out⟩
  ·have hb:bIdx 61 s=s.size:=by have:=HN.out; have:=HC.out; omega
   have HB:=Lib.hid hb
   obtain rfl:n=s.size:=by have:=HN.out; have:=HC.out; omega
   obtain ⟨W3,hW3,Q,hne,hcW,_⟩:=store5 z0 hcr (Nat.le_refl _) (.int .i64 0) (.int .i64 0) (.string ⟨#[]⟩) (.slice none 0 0) (.slice none 0 0);have HQ:=Lib.hid (And.intro Q hcW);obtain ⟨b0,b1,b2,b3,b4,bf⟩:=cells5 z0;clear hb Q hne hcW z0 hcr
   go_wp2_with fail
   rw [<- hW3];obtain ⟨Q,h2⟩:=HQ.out;obtain ⟨e0,e1,e2,e3,e4,_⟩:=cells5 Q
   have hk:cutK s=s:=by
    show s.extract 0 (bIdx 61 s)=s;rw [HB.out];exact ByteArray.extract_zero_size
   have hv:cutV s=.null:=by unfold cutV; rw [if_neg (by show ¬ bIdx 61 s < _; rw [HB.out]; omega)]
   rw [hk,hv];refine bodyPost_ret (v:=.tuple #[.string s,.agg #[.int .i64 0,.int .i64 0,.string ⟨#[]⟩,.slice none 0 0,.slice none 0 0]]) (by simp [results,Tryz.results57,go_sem,e0,e1,e2,e3,e4]) rfl ⟨_,rfl,h2,Rd.zero _⟩
end Go.Proofs.YtpofkokbmifhgaaGreatDoor
namespace Go.Proofs.YtpofkokbmifhgaaGreatDoor
open Go.RowKit
variable {o:Nat->Prop}
def ScalarQ (x:T):Prop:=x.kind=3∨x.kind=2∨x.kind=1
theorem sayPairsM_q (t:T) (v:Value) (w:World) (h:Rd o w t v) (hf:Fine t) (hm:t.kind=5):Calls Tryz.prog 82 #[v] w (SomeQ (∀ x∈t.vals,ScalarQ x) w):=by
 obtain ⟨A3,q3,A4,q4,rfl,hk,hv⟩:=h.five;have hkl:=hf.len;have HKV:=Lib.hid (T.keys_len hm)
 have hk4:(t.kind == 4)=false:=by rw [hm]; rfl
 have hk5:(t.kind == 5)=true:=by rw [hm]; rfl
 clear hm
 go_enter Tryz.func82,Tryz.ntmps82
 go_wp2
 go_loopg [3] t.vals.length (fun g i wr=>∃ n:Nat,n<=t.vals.length/\g=t.vals.length - n/\i=.int .i64 n/\Chg [] w wr/\wr.heap[w.heap.size]?=some (.cells #[.int .i64 t.kind,.int .i64 t.num,.string t.txt,.slice A3 t.keys.length q3,.slice A4 t.vals.length q4] 25)/\Hid (∀ j x,j < n->t.vals[j]?=some x->ScalarQ x))
 case atStart=>exact ⟨0,Nat.zero_le _,by omega,rfl,(Chg.refl [] w).al _,heap_alloc_new _ _,Lib.hid fun j x hj=>absurd hj (Nat.not_lt_zero _)⟩
 case round=>
  obtain ⟨n,hn,rfl,rfl,hcr,z1,hall⟩:=hrel;obtain ⟨a0,a1,a2,a3,a4,af⟩:=cells5 z1
  by_cases hlt:n < t.vals.length
  ·have hlk:n < t.keys.length:=by have:=HKV.out; omega
   obtain ⟨s,hs1⟩ : ∃ s,t.keys[n]?=some s:=⟨_,List.getElem?_eq_getElem hlk⟩
   obtain ⟨x,hx⟩ : ∃ x,t.vals[n]?=some x:=⟨_,List.getElem?_eq_getElem hlt⟩
   obtain ⟨gk,ck,ek,hgk,yk⟩:=hk.elem hs1;obtain ⟨ge,c1,A5,q5,A6,q6,e1,hge,rx,ye⟩:=hv.elem hx
   cases e1
   cases ek
   have hfs:=hf.key (List.mem_of_getElem? hs1);have YK:=Lib.hid yk;have HX:=Lib.hid hx;obtain ⟨y0,y1,y2,y3,y4⟩:=ye _ hcr;clear hs1 hx ye yk;have hyk:=YK.out _ (hcr.al (.cells #[.int .i64 x.kind,.int .i64 x.num,.string x.txt,.slice A5 x.keys.length q5,.slice A6 x.vals.length q6] 25));have b0:=cell_al a0;have b3:=cell_al a3
   go_wp2_with fail
   refine (sayName_any s _ hfs).mono ?_;rintro e w1 ⟨b,rfl,hc⟩;have hcw:=(hcr.al _).trans hc New.nil;have z2:=box5 ((heap_alloc_old wr (.cells #[.int .i64 x.kind,.int .i64 x.num,.string x.txt,.slice A5 x.keys.length q5,.slice A6 x.vals.length q6] 25) _ (Array.getElem?_eq_some_iff.1 z1).1).trans z1) _ hc
   cases b
   ·go_wp2
    go_ret
    exact ⟨_,rfl,hcw,fun h=>by cases h⟩
   ·obtain ⟨d0,d1,d2,d3,d4,df⟩:=cells5 (box5 (heap_alloc_new wr (.cells #[.int .i64 x.kind,.int .i64 x.num,.string x.txt,.slice A5 x.keys.length q5,.slice A6 x.vals.length q6] 25)) _ hc)
    clear hc a0 a1 a2 a3 a4 af b0 b3;obtain ⟨a0,a1,a2,a3,a4,af⟩:=cells5 z2
    have hkx:x.kind=3∨(x.kind≠3/\x.kind=2)∨(x.kind≠3/\x.kind≠2/\x.kind=1)∨(x.kind≠3/\x.kind≠2/\x.kind≠1):=by omega
    rcases hkx with hkx | hkx | hkx | hkx
    ·have n3:((x.kind:Int) != 3)=false:=by simp; omega
     have HS:Hid (ScalarQ x):=Lib.hid (.inl hkx)
     go_wp2
     go_roundg (t.vals.length - (n+1))
     case measure=>omega
     case rel=>exact ⟨n+1,by omega,rfl,by go_num,hcw,z2,Lib.hid fun j y hj hy=>by
       rcases Nat.lt_succ_iff_lt_or_eq.1 hj with h | rfl
       ·exact hall.out j y h hy
       ·rw [HX.out] at hy
        cases hy
        exact HS.out⟩
    ·have n3:((x.kind:Int) != 3)=true:=by simp; omega
     have n2:((x.kind:Int) != 2)=false:=by simp; omega
     have HS:Hid (ScalarQ x):=Lib.hid (.inr (.inl hkx.2))
     go_wp2
     go_roundg (t.vals.length - (n+1))
     case measure=>omega
     case rel=>exact ⟨n+1,by omega,rfl,by go_num,hcw,z2,Lib.hid fun j y hj hy=>by
       rcases Nat.lt_succ_iff_lt_or_eq.1 hj with h | rfl
       ·exact hall.out j y h hy
       ·rw [HX.out] at hy
        cases hy
        exact HS.out⟩
    ·have n3:((x.kind:Int) != 3)=true:=by simp; omega
     have n2:((x.kind:Int) != 2)=true:=by simp; omega
     have n1:((x.kind:Int) != 1)=false:=by simp; omega
     have HS:Hid (ScalarQ x):=Lib.hid (.inr (.inr hkx.2.2))
     go_wp2
     go_roundg (t.vals.length - (n+1))
     case measure=>omega
     case rel=>exact ⟨n+1,by omega,rfl,by go_num,hcw,z2,Lib.hid fun j y hj hy=>by
       rcases Nat.lt_succ_iff_lt_or_eq.1 hj with h | rfl
       ·exact hall.out j y h hy
       ·rw [HX.out] at hy
        cases hy
        exact HS.out⟩
    ·have n3:((x.kind:Int) != 3)=true:=by simp; omega
     have n2:((x.kind:Int) != 2)=true:=by simp; omega
     have n1:((x.kind:Int) != 1)=true:=by simp; omega
     go_wp2
     go_ret
     exact ⟨_,rfl,hcw,fun h=>by cases h⟩
  ·have hq:Hid (∀ x∈t.vals,ScalarQ x):=Lib.hid fun x hx=>by
    obtain ⟨j,hj⟩:=List.getElem?_of_mem hx;exact hall.out j x (by have:=(List.getElem?_eq_some_iff.1 hj).1; omega) hj
   go_wp2
   go_ret
   exact ⟨_,rfl,hcr,fun _=>hq.out⟩
theorem sayPairsL_q (t:T) (v:Value) (w:World) (h:Rd o w t v) (hf:Fine t) (hm:t.kind=4):Calls Tryz.prog 82 #[v] w (SomeQ (∀ x∈t.vals,x.kind=3) w):=by
 obtain ⟨A3,q3,A4,q4,rfl,hk,hv⟩:=h.five;have hkl:=hf.len
 have hk5:(t.kind == 5)=false:=by rw [hm]; rfl
 have hk4:(t.kind == 4)=true:=by rw [hm]; rfl
 clear hm
 go_enter Tryz.func82,Tryz.ntmps82
 go_wp2
 go_loopg [3] t.vals.length (fun g i wr=>∃ n:Nat,n<=t.vals.length/\g=t.vals.length - n/\i=.int .i64 n/\Chg [] w wr/\wr.heap[w.heap.size]?=some (.cells #[.int .i64 t.kind,.int .i64 t.num,.string t.txt,.slice A3 t.keys.length q3,.slice A4 t.vals.length q4] 25)/\Hid (∀ j x,j < n->t.vals[j]?=some x->x.kind=3))
 case atStart=>exact ⟨0,Nat.zero_le _,by omega,rfl,(Chg.refl [] w).al _,heap_alloc_new _ _,Lib.hid fun j x hj=>absurd hj (Nat.not_lt_zero _)⟩
 case round=>
  obtain ⟨n,hn,rfl,rfl,hcr,z1,hall⟩:=hrel;obtain ⟨a0,a1,a2,a3,a4,af⟩:=cells5 z1
  by_cases hlt:n < t.vals.length
  ·obtain ⟨x,hx⟩ : ∃ x,t.vals[n]?=some x:=⟨_,List.getElem?_eq_getElem hlt⟩
   obtain ⟨ge,c1,A5,q5,A6,q6,e1,hge,rx,ye⟩:=hv.elem hx
   cases e1
   have hfx:=hf.vals (List.mem_of_getElem? hx);have HX:=Lib.hid hx;obtain ⟨y0,y1,y2,y3,y4⟩:=ye _ hcr;have b0:=cell_al a0;have za:=heap_alloc_new wr (.cells #[.int .i64 x.kind,.int .i64 x.num,.string x.txt,.slice A5 x.keys.length q5,.slice A6 x.vals.length q6] 25);obtain ⟨d0,d1,d2,d3,d4,df⟩:=cells5 za;have zb:=(heap_alloc_old wr (.cells #[.int .i64 x.kind,.int .i64 x.num,.string x.txt,.slice A5 x.keys.length q5,.slice A6 x.vals.length q6] 25) _ (Array.getElem?_eq_some_iff.1 z1).1).trans z1;clear hx ye
   go_wp2_with fail
   refine (mergeSplit_any x.txt _ hfx.txt).mono ?_;rintro e w1 ⟨v',rfl,hc,hr⟩;obtain ⟨A7,q7,A8,q8,rfl,_⟩:=hr.five;have hcw:=(hcr.al _).trans hc New.nil;have zb1:=box5 zb _ hc;have za1:=box5 za _ hc;have hks:(cutK x.txt).size<=67108864:=Nat.le_trans (extract_size_le _ _ _) hfx.txt
   obtain ⟨kk,hkk⟩ : ∃ kk,kk=cutK x.txt:=⟨_,rfl⟩
   rw [<- hkk] at hks ⊢
   obtain ⟨vv,hvv⟩ : ∃ vv,vv=cutV x.txt:=⟨_,rfl⟩
   rw [<- hvv] at ⊢;clear hr hc za zb d0 d1 d2 d3 d4 df b0 a0 a1 a2 a3 a4 af y0 y1 y2 y3 y4 hkk hvv;obtain ⟨d0,d1,d2,d3,d4,df⟩:=cells5 za1;have f0:=cell_al d0
   have zb2:=fun ob=>(heap_alloc_old w1 ob _ (Array.getElem?_eq_some_iff.1 zb1).1).trans zb1
   by_cases hk3:x.kind=3
   ·have n3:((x.kind:Int) != 3)=false:=by simp; omega
    have HK3:=Lib.hid hk3;clear hk3
    go_wp2_with fail
    refine (sayName_any kk _ hks).mono ?_;rintro e w2 ⟨b,rfl,hc2⟩;have hcw2:=(hcw.al _).trans hc2 New.nil;have zb3:=box5 (zb2 _) _ hc2
    cases b
    ·go_wp2
     go_ret
     exact ⟨_,rfl,hcw2,fun h=>by cases h⟩
    ·clear zb2
     go_wp2
     go_roundg (t.vals.length - (n+1))
     case measure=>omega
     case rel=>exact ⟨n+1,by omega,rfl,by go_num,hcw2,zb3,Lib.hid fun j y hj hy=>by
       rcases Nat.lt_succ_iff_lt_or_eq.1 hj with h | rfl
       ·exact hall.out j y h hy
       ·rw [HX.out] at hy
        cases hy
        exact HK3.out⟩
   ·have n3:((x.kind:Int) != 3)=true:=by simp; omega
    go_wp2_with fail
    go_ret
    exact ⟨_,rfl,hcw.al _,fun h=>by cases h⟩
  ·have hq:Hid (∀ x∈t.vals,x.kind=3):=Lib.hid fun x hx=>by
    obtain ⟨j,hj⟩:=List.getElem?_of_mem hx;exact hall.out j x (by have:=(List.getElem?_eq_some_iff.1 hj).1; omega) hj
   go_wp2
   go_ret
   exact ⟨_,rfl,hcr,fun _=>hq.out⟩
theorem sayPairs_q (t:T) (v:Value) (w:World) (h:Rd o w t v) (hf:Fine t):Calls Tryz.prog 82 #[v] w (SomeQ ((t.kind=4/\∀ x∈t.vals,x.kind=3)∨(t.kind=5/\∀ x∈t.vals,ScalarQ x)) w):=by
 by_cases hm:t.kind=5
 ·exact (sayPairsM_q t v w h hf hm).mono fun e w' ⟨b,h1,h2,h3⟩=>⟨b,h1,h2,fun hb=>.inr ⟨hm,h3 hb⟩⟩
 ·by_cases hm4:t.kind=4
  ·exact (sayPairsL_q t v w h hf hm4).mono fun e w' ⟨b,h1,h2,h3⟩=>⟨b,h1,h2,fun hb=>.inl ⟨hm4,h3 hb⟩⟩
  ·have hk0:t.vals.length=0:=by cases t <;> first | rfl | exact absurd rfl hm | exact absurd rfl hm4
   obtain ⟨A3,q3,A4,q4,rfl,hk,hv⟩:=h.five
   have hk4:(t.kind == 4)=false:=by rw [beq_eq_false_iff_ne]; exact hm4
   have hk5:(t.kind == 5)=false:=by rw [beq_eq_false_iff_ne]; exact hm
   rw [hk0];clear hm hm4 hk hv h hk0
   go_enter Tryz.func82,Tryz.ntmps82
   go_wp2_with fail
   go_loopg [3] 0 (fun g i wr=>i=.int .i64 0/\Chg [] w wr/\wr.heap[w.heap.size]?=some (.cells #[.int .i64 t.kind,.int .i64 t.num,.string t.txt,.slice A3 t.keys.length q3,.slice A4 0 q4] 25))
   case atStart=>exact ⟨rfl,(Chg.refl [] w).al _,heap_alloc_new _ _⟩
   case round=>
    obtain ⟨rfl,hcr,z1⟩:=hrel;obtain ⟨a0,a1,a2,a3,a4,af⟩:=cells5 z1
    go_wp2
    go_ret
    exact ⟨_,rfl,hcr,fun h=>by cases h⟩
end Go.Proofs.YtpofkokbmifhgaaGreatDoor
namespace Go.Proofs.YtpofkokbmifhgaaGreatDoor
open Go.RowKit
variable {o:Nat->Prop}
theorem extraK_of {s:ByteArray} (h3:s.size=3) (h2:s.extract 0 2=⟨#[120,45]⟩) (ha:97<=s[2].toNat) (hz:s[2].toNat<=122):ExtraK s:=by
 refine ⟨s[2],UInt8.le_iff_toNat_le.2 ha,UInt8.le_iff_toNat_le.2 hz,?_⟩;have he:s.extract 2 3=⟨#[s[2]]⟩:=ext_one (by omega)
 have hd:s.extract 0 3=s.extract 0 2++s.extract 2 3:=by
  have h:=ByteArray.extract_append_extract (a:=s) (i:=0) (j:=2) (k:=3);simp
 have hf:s.extract 0 3=s:=by
  have:=ByteArray.extract_zero_size (b:=s);rw [h3] at this;exact this
 rw [h2,he,hf] at hd;exact hd
theorem sayExtra_q (s:ByteArray) (w:World):Calls Tryz.prog 42 #[.string s] w (SomeQ (ExtraK s) w):=by
 go_enter Tryz.func42,Tryz.ntmps42
 by_cases h3:s.size=3
 ·have h2:2 < s.size:=by omega
  by_cases haz:97<=s[2].toNat/\s[2].toNat<=122
  ·have HE:∀ _:(s.extract 0 2).toList=[120,45],ExtraK s:=fun h=>extraK_of h3 (toList_inj (h.trans (by kernel_rfl))) haz.1 haz.2
   have HE:=Lib.hid HE;obtain ⟨ha,hz⟩:=haz
   go_wp2
   ·rename_i h _
    go_ret
    exact ⟨_,rfl,Chg.refl _ _,fun _=>by first | exact HE.out h | exact HE.out (by assumption)⟩
   all_goals (go_ret; exact ⟨_,rfl,Chg.refl _ _,fun h=>by cases h⟩)
  ·go_wp2
   all_goals first
    | (go_ret; exact ⟨_,rfl,Chg.refl _ _,fun h=>by cases h⟩)
    | (exfalso; omega)
    | (go_ret; exact ⟨_,rfl,Chg.refl _ _,fun h=>by exfalso; simp at h; omega⟩)
 ·have h3':((s.size:Int) == 3)=false:=by simp; omega
  go_wp2
  go_ret
  exact ⟨_,rfl,Chg.refl _ _,fun h=>by cases h⟩
end Go.Proofs.YtpofkokbmifhgaaGreatDoor
namespace Go.Proofs.YtpofkokbmifhgaaGreatDoor
open Go.RowKit
variable {o:Nat->Prop}
def woLab (i:Nat):Option Nat:=if i=0∨i=5∨i=11 then some 0 else if i=12∨i=17∨i=23 then some 1 else none
def woCons (i:Nat):Option Nat:=if i=5 then some 0 else if i=11 then some 5 else if i=17 then some 12 else if i=23 then some 17 else none
theorem addrW (g n:Nat):(⟨g,0,none⟩ : Addr).add n=⟨g,n,none⟩:=by unfold Addr.add; split <;> simp_all
theorem take_some {α:Type} {l:List α} {k j:Nat} {u:α} (h:(l.take k)[j]?=some u):l[j]?=some u:=by
 rw [List.getElem?_take] at h
 split at h
 ·exact h
 ·cases h
theorem Chg.cellAt {W w1:World} (h:Chg [] W w1) (a:Addr) (hs:a.spot=none) (hb:a.block < W.heap.size):w1.cell? a=W.cell? a:=by
 obtain ⟨b,o,s⟩:=a
 cases hs
 exact h.cells.1 b o hb
theorem suf_src {w:World} {g n cap i size:Nat} {xs:List Value} (hl:xs.length=n * size) (hc:n<=cap) (hsrc:∀ j u,xs[j]?=some u->w.cell? ⟨g,j,none⟩=some u) :
  0 < n - i->∃ a,(if cap=i then some (⟨g,0,none⟩ : Addr) else some ⟨g,i * size,none⟩)=some a/\∀ j u,(xs.drop (i * size))[j]?=some u->w.cell? (a.add j)=some u/\a.add j=⟨g,i * size+j,none⟩:=by
 intro h0
 refine ⟨⟨g,i * size,none⟩,if_neg (by omega),fun j u hu=>?_⟩;rw [List.getElem?_drop] at hu
 have e:(⟨g,i * size,none⟩ : Addr).add j=⟨g,i * size+j,none⟩:=by unfold Addr.add; split <;> simp_all
 rw [e];exact ⟨hsrc _ _ hu,rfl⟩
theorem without_walk (m:List (ByteArray × T)) (k:ByteArray) (ksv xs:List Value) (gk gv n qk qv i i1:Nat) (w:World) (h:Rd o w (.map m) (.agg #[.int .i64 5,.int .i64 0,.string ⟨#[]⟩,.slice (some ⟨gk,0,none⟩) n qk,.slice (some ⟨gv,0,none⟩) n qv])) (hks:∀ j u,ksv[j]?=some u->w.cell? ⟨gk,j,none⟩=some u) (hvs:∀ j u,xs[j]?=some u->w.cell? ⟨gv,j,none⟩=some u)
  (hkl:ksv.length=n * 1) (hxl:xs.length=n * 5) (hk1:∀ u∈ksv,u.oneCell'=true) (hx1:∀ u∈xs,u.oneCell'=true) (hn:m.length=n) (hl:n<=67108864) (hqk:n<=qk) (hqv:n<=qv) (hi:i < n) (hi1:i1=i+1) (hpos:posK k (T.map m).keys=i) (hat:(T.map m).keys[i]?=some k) :
  Calls Tryz.prog 138 #[.agg #[.int .i64 5,.int .i64 0,.string ⟨#[]⟩,.slice (some ⟨gk,0,none⟩) n qk,.slice (some ⟨gv,0,none⟩) n qv],.string k] w fun e w'=>∃ h c h' c',e=.returned (.agg #[.int .i64 5,.int .i64 0,.string ⟨#[]⟩,.slice (some ⟨h,0,none⟩) (n - 1) c,.slice (some ⟨h',0,none⟩) (n - 1) c'])/\Chg [] w w'/\(∀ b,b < w.heap.size->w'.heap[b]?=w.heap[b]?) /\
   w'.ownsRow (w.heap.size+2) 9 1 (.slice (some ⟨h,0,none⟩) (n - 1) c) (n - 1) (ksv.take (i * 1)++ksv.drop (i1 * 1))/\w'.ownsRow (w.heap.size+2) 25 5 (.slice (some ⟨h',0,none⟩) (n - 1) c') (n - 1) (xs.take (i * 5)++xs.drop (i1 * 5)):=by
 have HS:=Lib.hid (And.intro hks (And.intro hvs (And.intro hk1 hx1)));have HI1:=Lib.hid hi1
 have hi1n:i1<=n:=by omega
 clear hi1;have HKL:=Lib.hid hkl;have HXL:=Lib.hid hxl
 have HPL:Hid (∀ W,Chg [] w W->Calls Tryz.prog 45 #[.agg #[.int .i64 5,.int .i64 0,.string ⟨#[]⟩,.slice (some ⟨gk,0,none⟩) n qk,.slice (some ⟨gv,0,none⟩) n qv],.string k] W fun e w'=>e=.returned (.tuple #[.int .i64 i,.bool true])/\Chg [] W w'):=Lib.hid fun W hc=>by
  refine (place_any (.map m) _ k W (h.chg hc) (by simp [T.keys]; omega)).mono ?_;rintro e w' ⟨rfl,hc'⟩;rw [hpos,decide_eq_true hat];exact ⟨rfl,hc'⟩
 clear hks hvs hkl hxl hk1 hx1 hpos hat h hn
 go_enter Tryz.func138,Tryz.ntmps138
 go_wp2_with fail
 refine (HPL.out _ (((Chg.refl [] w).al _).al _)).mono ?_;rintro e w1 ⟨rfl,hc1⟩;have hcw:Chg [] w w1:=(((Chg.refl [] w).al _).al _).trans hc1 New.nil;have z1:=box5 (heap_al1 w (.cells #[.int .i64 5,.int .i64 0,.string ⟨#[]⟩,.slice (some ⟨gk,0,none⟩) n qk,.slice (some ⟨gv,0,none⟩) n qv] 25) (.cells #[.int .i64 0,.int .i64 0,.string ⟨#[]⟩,.slice none 0 0,.slice none 0 0] 25)) _ hc1;have z2:=box5 (heap_al2 w (.cells #[.int .i64 5,.int .i64 0,.string ⟨#[]⟩,.slice (some ⟨gk,0,none⟩) n qk,.slice (some ⟨gv,0,none⟩) n qv] 25) (.cells #[.int .i64 0,.int .i64 0,.string ⟨#[]⟩,.slice none 0 0,.slice none 0 0] 25)) _ hc1
 have hs1:w.heap.size+2<=w1.heap.size:=by have:=hc1.size; simpa using this
 have HZ:=Lib.hid (And.intro hcw (And.intro z1 z2));obtain ⟨a0,a1,a2,a3,a4,af⟩:=cells5 z1;clear hc1 z1 z2 hcw
 go_wp2_with fail
 rename_i K hK;have HK:=Lib.hid hK;clear hK a0 a1 a2 a3 a4 af
 refine wp_region_own (by rfl) (by kernel_rfl) [2,4,5] (by kernel_rfl)
  (fun j u V=>match j with
   | 0=>∃ h,u=.slice (some ⟨h,0,none⟩) 0 0/\V.ownsRow (w.heap.size+2) 9 1 u 0 []
   | 1=>u=.pointer (some ⟨w.heap.size,3,none⟩)
   | 2=>u=.slice (some ⟨gk,0,none⟩) n qk
   | 3=>u=.int .i64 ↑i
   | 4=>u=.slice (some ⟨gk,0,none⟩) i qk
   | 5=>∃ h c,u=.slice (some ⟨h,0,none⟩) i c/\V.ownsRow (w.heap.size+2) 9 1 u i (ksv.take (i * 1))
   | 6=>u=.pointer (some ⟨w.heap.size,3,none⟩)
   | 7=>u=.slice (some ⟨gk,0,none⟩) n qk
   | 8=>u=.int .i64 ↑i
   | 9=>u=.int .i64 ↑i1
   | 10=>u=.slice (if qk=i1 then some ⟨gk,0,none⟩ else some ⟨gk,i1 * 1,none⟩) (n - i1) (qk - i1)
   | 11=>∃ h c,u=.slice (some ⟨h,0,none⟩) (n - 1) c/\V.ownsRow (w.heap.size+2) 9 1 u (n - 1) (ksv.take (i * 1)++ksv.drop (i1 * 1))
   | 12=>∃ h,u=.slice (some ⟨h,0,none⟩) 0 0/\V.ownsRow (w.heap.size+2) 25 5 u 0 []
   | 13=>u=.pointer (some ⟨w.heap.size,4,none⟩)
   | 14=>u=.slice (some ⟨gv,0,none⟩) n qv
   | 15=>u=.int .i64 ↑i
   | 16=>u=.slice (some ⟨gv,0,none⟩) i qv
   | 17=>∃ h c,u=.slice (some ⟨h,0,none⟩) i c/\V.ownsRow (w.heap.size+2) 25 5 u i (xs.take (i * 5))
   | 18=>u=.pointer (some ⟨w.heap.size,4,none⟩)
   | 19=>u=.slice (some ⟨gv,0,none⟩) n qv
   | 20=>u=.int .i64 ↑i
   | 21=>u=.int .i64 ↑i1
   | 22=>u=.slice (if qv=i1 then some ⟨gv,0,none⟩ else some ⟨gv,i1 * 5,none⟩) (n - i1) (qv - i1)
   | 23=>∃ h c,u=.slice (some ⟨h,0,none⟩) (n - 1) c/\V.ownsRow (w.heap.size+2) 25 5 u (n - 1) (xs.take (i * 5)++xs.drop (i1 * 5))
   | 24=>∃ h c h' c',u=.agg #[.int .i64 5,.int .i64 0,.string ⟨#[]⟩,.slice (some ⟨h,0,none⟩) (n - 1) c,.slice (some ⟨h',0,none⟩) (n - 1) c']/\V.ownsRow (w.heap.size+2) 9 1 (.slice (some ⟨h,0,none⟩) (n - 1) c) (n - 1) (ksv.take (i * 1)++ksv.drop (i1 * 1))/\V.ownsRow (w.heap.size+2) 25 5 (.slice (some ⟨h',0,none⟩) (n - 1) c') (n - 1) (xs.take (i * 5)++xs.drop (i1 * 5))
   | _=>True) woLab (fun _ v=>Value.blk v) woCons (fun j=>decide (j=24)) (by kernel_rfl) (by kernel_rfl) ?_ ?_ ?_
 ·intro j u V V' F hF hsk hne hc hφ
  rcases j with _ | _ | _ | _ | _ | _ | _ | _ | _ | _ | _ | _ | _ | _ | _ | _ | _ | _ | _ | _ | _ | _ | _ | _ | _ | j
  all_goals first | exact hφ | skip
  ·obtain ⟨h,rfl,hr⟩:=hφ
   exact ⟨h,rfl,ownsRow_frame hr (hc.block _ (ownsRow_lt hr) fun hm=>hne 0 h rfl rfl hm)⟩
  ·obtain ⟨h,c,rfl,hr⟩:=hφ
   exact ⟨h,c,rfl,ownsRow_frame hr (hc.block _ (ownsRow_lt hr) fun hm=>hne 0 h rfl rfl hm)⟩
  ·obtain ⟨h,c,rfl,hr⟩:=hφ
   exact ⟨h,c,rfl,ownsRow_frame hr (hc.block _ (ownsRow_lt hr) fun hm=>hne 0 h rfl rfl hm)⟩
  ·obtain ⟨h,rfl,hr⟩:=hφ
   exact ⟨h,rfl,ownsRow_frame hr (hc.block _ (ownsRow_lt hr) fun hm=>hne 1 h rfl rfl hm)⟩
  ·obtain ⟨h,c,rfl,hr⟩:=hφ
   exact ⟨h,c,rfl,ownsRow_frame hr (hc.block _ (ownsRow_lt hr) fun hm=>hne 1 h rfl rfl hm)⟩
  ·obtain ⟨h,c,rfl,hr⟩:=hφ
   exact ⟨h,c,rfl,ownsRow_frame hr (hc.block _ (ownsRow_lt hr) fun hm=>hne 1 h rfl rfl hm)⟩
  ·obtain ⟨h,c,h',c',rfl,hr,hr'⟩:=hφ
   have hF0:=hsk rfl;subst hF0;exact ⟨h,c,h',c',rfl,ownsRow_frame hr (hc.block _ (ownsRow_lt hr) (by simp)),ownsRow_frame hr' (hc.block _ (ownsRow_lt hr') (by simp))⟩
 ·intro j oo hj ho a' w' hst hch hdep heat
  have s1:¬ qk < i:=by omega
  have s2:¬ qk < i1:=by omega
  have s3:¬ qv < i:=by omega
  have s4:¬ qv < i1:=by omega
  have s5:¬ n < i1:=by omega
  have t1:¬ ((qk:Int) < i):=by omega
  have t2:¬ ((qk:Int) < i1):=by omega
  have t3:¬ ((qv:Int) < i):=by omega
  have t4:¬ ((qv:Int) < i1):=by omega
  have hsz:w1.heap.size<=w'.heap.size:=hch.size;have hcB:Chg [] w w':=HZ.out.1.trans ((Chg.refl [] w1).dr.trans hch New.nil) New.nil;have hcB1:Chg [] w1 w':=(Chg.refl [] w1).dr.trans hch New.nil;obtain ⟨a0,a1,a2,a3,a4,af⟩:=cells5 (box5 HZ.out.2.1 _ hcB1);have hj':j < 25:=hj;rcases j with _ | _ | _ | _ | _ | _ | _ | _ | _ | _ | _ | _ | _ | _ | _ | _ | _ | _ | _ | _ | _ | _ | _ | _ | _ | j
  ·obtain rfl:_=oo:=Option.some.inj ho
   refine ⟨.slice (some ⟨w'.heap.size,0,none⟩) 0 0,w'.alloc (.cells #[] 9),by go_simp,(Chg.refl [] w').al _,⟨_,rfl,World.ownsRow_lit w' #[] 0 (by omega) (by decide) rfl⟩,fun c hc b hb=>?_⟩
   cases hb
   exact ⟨by simp,.inl (Nat.le_refl _)⟩
  ·obtain rfl:_=oo:=Option.some.inj ho
   have h2:=g_eq (t:=2) (v:=.pointer (some ⟨w.heap.size,0,none⟩)) (hst 2 (by simp));exact ⟨.pointer (some ⟨w.heap.size,3,none⟩),w',by go_simp,Chg.refl _ _,rfl,fun c hc=>by cases hc⟩
  ·obtain rfl:_=oo:=Option.some.inj ho
   have h22:=g_eq (t:=22) (v:=.pointer (some ⟨w.heap.size,3,none⟩)) (hdep 1 (by kernel_rfl));exact ⟨.slice (some ⟨gk,0,none⟩) n qk,w',by go_simp,Chg.refl _ _,rfl,fun c hc=>by cases hc⟩
  ·obtain rfl:_=oo:=Option.some.inj ho
   have h5:=g_eq (t:=5) (v:=.int .i64 ↑i) (hst 5 (by simp));exact ⟨.int .i64 ↑i,w',by go_simp,Chg.refl _ _,rfl,fun c hc=>by cases hc⟩
  ·obtain rfl:_=oo:=Option.some.inj ho
   have h23:=g_eq (t:=23) (v:=.slice (some ⟨gk,0,none⟩) n qk) (hdep 2 (by kernel_rfl));have h24:=g_eq (t:=24) (v:=.int .i64 ↑i) (hdep 3 (by kernel_rfl));exact ⟨.slice (some ⟨gk,0,none⟩) i qk,w',by go_simp,Chg.refl _ _,rfl,fun c hc=>by cases hc⟩
  ·obtain rfl:_=oo:=Option.some.inj ho
   obtain ⟨g,hd,hown⟩:=hdep 0 (by kernel_rfl);rw [hd] at hown;have hd0:Act.g a' 21=.slice (some ⟨g,0,none⟩) 0 0:=hd;have hd:=g_eq (t:=21) hd;have hs:=g_eq (t:=25) (v:=.slice (some ⟨gk,0,none⟩) i qk) (hdep 4 (by kernel_rfl))
   obtain ⟨v',w2,hr,hown2,hc2,hor⟩:=run_app (P:=Tryz.prog) (w:=w') (w.heap.size+2) 22 22 9 _ 1 16 uKs iS rfl (by decide) _ 0 [] hown (some ⟨gk,0,none⟩) i qk (ksv.take (i * 1)) (by rw [List.length_take,HKL.out]; omega) (fun _=>⟨_,rfl,fun j u hu=>by
     rw [addrW]
     exact (hcB.cells.1 _ _ (World.block_lt_of_cell? w _ (HS.out.1 j u (take_some hu)))).trans (HS.out.1 j u (take_some hu))⟩) (fun u hu=>HS.out.2.2.1 u (List.mem_of_mem_take hu)) (by omega) (by omega) (by omega)
   have hi1:=HI1.out
   obtain ⟨g',c',hv',hb',hlt',hor'⟩ : ∃ g' c',v'=.slice (some ⟨g',0,none⟩) (0+i) c'/\(w.heap.size+2)<=g'/\g' < w2.heap.size/\(some g=some g'∨w'.heap.size<=g'):=by
    rcases hor with ⟨h,_⟩ | ⟨g',c',h⟩
    ·cases h
    ·exact ⟨g',c',h⟩
   subst hv'
   have hL:0+i=i:=by omega
   rw [hL] at hr hown2
   try simp only [Nat.mul_one] at hr hs
   refine ⟨.slice (some ⟨g',0,none⟩) i c',w2,by simp [execOp,resolve,invoke,builtin,Act.eval,hd,hs,hr,Result.andThen],?_,⟨g',c',rfl,by simpa using hown2⟩,fun c hc b hb=>?_⟩
   ·show Chg (Value.blk (Act.g a' 21)).toList w' w2
    rw [hd0];exact hc2
   ·cases hb
    refine ⟨hlt',?_⟩;rcases hor' with h | h
    ·cases h
     right
     show _∈(Value.blk (Act.g a' 21)).toList;rw [hd0];exact List.mem_singleton.2 rfl
    ·exact .inl h
  ·obtain rfl:_=oo:=Option.some.inj ho
   have h2:=g_eq (t:=2) (v:=.pointer (some ⟨w.heap.size,0,none⟩)) (hst 2 (by simp));exact ⟨.pointer (some ⟨w.heap.size,3,none⟩),w',by go_simp,Chg.refl _ _,rfl,fun c hc=>by cases hc⟩
  ·obtain rfl:_=oo:=Option.some.inj ho
   have h27:=g_eq (t:=27) (v:=.pointer (some ⟨w.heap.size,3,none⟩)) (hdep 6 (by kernel_rfl));exact ⟨.slice (some ⟨gk,0,none⟩) n qk,w',by go_simp,Chg.refl _ _,rfl,fun c hc=>by cases hc⟩
  ·obtain rfl:_=oo:=Option.some.inj ho
   have h5:=g_eq (t:=5) (v:=.int .i64 ↑i) (hst 5 (by simp));exact ⟨.int .i64 ↑i,w',by go_simp,Chg.refl _ _,rfl,fun c hc=>by cases hc⟩
  ·obtain rfl:_=oo:=Option.some.inj ho
   have h29:=g_eq (t:=29) (v:=.int .i64 ↑i) (hdep 8 (by kernel_rfl));exact ⟨.int .i64 (IntKind.i64.wrap ((i:Int)+1)),w',by go_simp,Chg.refl _ _,by have:=HI1.out; show Value.int .i64 (IntKind.i64.wrap ((i:Int)+1))=.int .i64 (i1:Int); rw [IntWalk.i64_in _ (by omega)]; congr 1; omega,fun c hc=>by cases hc⟩
  ·obtain rfl:_=oo:=Option.some.inj ho
   have h28:=g_eq (t:=28) (v:=.slice (some ⟨gk,0,none⟩) n qk) (hdep 7 (by kernel_rfl));have h30:=g_eq (t:=30) (v:=.int .i64 ↑i1) (hdep 9 (by kernel_rfl));exact ⟨.slice (if qk=i1 then some ⟨gk,0,none⟩ else some ⟨gk,i1 * 1,none⟩) (n - i1) (qk - i1),w',by go_simp,Chg.refl _ _,rfl,fun c hc=>by cases hc⟩
  ·obtain rfl:_=oo:=Option.some.inj ho
   obtain ⟨g,cg,hd,hown⟩:=hdep 5 (by kernel_rfl);rw [hd] at hown;have hd0:Act.g a' 26=.slice (some ⟨g,0,none⟩) i cg:=hd;have hd:=g_eq (t:=26) hd;have hs:=g_eq (t:=31) (v:=.slice (if qk=i1 then some ⟨gk,0,none⟩ else some ⟨gk,i1 * 1,none⟩) (n - i1) (qk - i1)) (hdep 10 (by kernel_rfl))
   obtain ⟨v',w2,hr,hown2,hc2,hor⟩:=run_app (P:=Tryz.prog) (w:=w') (w.heap.size+2) 22 22 9 _ 1 16 uKs iS rfl (by decide) _ i (ksv.take (i * 1)) hown _ (n - i1) (qk - i1) (ksv.drop (i1 * 1)) (by rw [List.length_drop,HKL.out]; omega) (fun h0=>by
     obtain ⟨a,ha,hc⟩:=suf_src (w:=w) (g:=gk) (cap:=qk) (i:=i1) (size:=1) (n:=n) HKL.out (by omega) HS.out.1 h0
     exact ⟨a,ha,fun j u hu=>by
   obtain ⟨h1,h2⟩:=hc j u hu;rw [h2] at h1 ⊢
   exact (hcB.cells.1 _ _ (World.block_lt_of_cell? w _ h1)).trans h1⟩) (fun u hu=>HS.out.2.2.1 u (List.mem_of_mem_drop hu)) (by omega) (by omega) (by omega)
   have hi1:=HI1.out
   obtain ⟨g',c',hv',hb',hlt',hor'⟩ : ∃ g' c',v'=.slice (some ⟨g',0,none⟩) (i+(n - i1)) c'/\(w.heap.size+2)<=g'/\g' < w2.heap.size/\(some g=some g'∨w'.heap.size<=g'):=by
    rcases hor with ⟨h,_⟩ | ⟨g',c',h⟩
    ·cases h
    ·exact ⟨g',c',h⟩
   subst hv'
   have hL:i+(n - i1)=(n - 1):=by omega
   rw [hL] at hr hown2
   try simp only [Nat.mul_one] at hr hs
   refine ⟨.slice (some ⟨g',0,none⟩) (n - 1) c',w2,by simp [execOp,resolve,invoke,builtin,Act.eval,hd,hs,hr,Result.andThen],?_,⟨g',c',rfl,by simpa using hown2⟩,fun c hc b hb=>?_⟩
   ·show Chg (Value.blk (Act.g a' 26)).toList w' w2
    rw [hd0];exact hc2
   ·cases hb
    refine ⟨hlt',?_⟩;rcases hor' with h | h
    ·cases h
     right
     show _∈(Value.blk (Act.g a' 26)).toList;rw [hd0];exact List.mem_singleton.2 rfl
    ·exact .inl h
  ·obtain rfl:_=oo:=Option.some.inj ho
   refine ⟨.slice (some ⟨w'.heap.size,0,none⟩) 0 0,w'.alloc (.cells #[] 25),by go_simp,(Chg.refl [] w').al _,⟨_,rfl,World.ownsRow_lit w' #[] 0 (by omega) (by decide) rfl⟩,fun c hc b hb=>?_⟩
   cases hb
   exact ⟨by simp,.inl (Nat.le_refl _)⟩
  ·obtain rfl:_=oo:=Option.some.inj ho
   have h2:=g_eq (t:=2) (v:=.pointer (some ⟨w.heap.size,0,none⟩)) (hst 2 (by simp));exact ⟨.pointer (some ⟨w.heap.size,4,none⟩),w',by go_simp,Chg.refl _ _,rfl,fun c hc=>by cases hc⟩
  ·obtain rfl:_=oo:=Option.some.inj ho
   have h34:=g_eq (t:=34) (v:=.pointer (some ⟨w.heap.size,4,none⟩)) (hdep 13 (by kernel_rfl));exact ⟨.slice (some ⟨gv,0,none⟩) n qv,w',by go_simp,Chg.refl _ _,rfl,fun c hc=>by cases hc⟩
  ·obtain rfl:_=oo:=Option.some.inj ho
   have h5:=g_eq (t:=5) (v:=.int .i64 ↑i) (hst 5 (by simp));exact ⟨.int .i64 ↑i,w',by go_simp,Chg.refl _ _,rfl,fun c hc=>by cases hc⟩
  ·obtain rfl:_=oo:=Option.some.inj ho
   have h35:=g_eq (t:=35) (v:=.slice (some ⟨gv,0,none⟩) n qv) (hdep 14 (by kernel_rfl));have h36:=g_eq (t:=36) (v:=.int .i64 ↑i) (hdep 15 (by kernel_rfl));exact ⟨.slice (some ⟨gv,0,none⟩) i qv,w',by go_simp,Chg.refl _ _,rfl,fun c hc=>by cases hc⟩
  ·obtain rfl:_=oo:=Option.some.inj ho
   obtain ⟨g,hd,hown⟩:=hdep 12 (by kernel_rfl);rw [hd] at hown;have hd0:Act.g a' 33=.slice (some ⟨g,0,none⟩) 0 0:=hd;have hd:=g_eq (t:=33) hd;have hs:=g_eq (t:=37) (v:=.slice (some ⟨gv,0,none⟩) i qv) (hdep 16 (by kernel_rfl))
   obtain ⟨v',w2,hr,hown2,hc2,hor⟩:=run_app (P:=Tryz.prog) (w:=w') (w.heap.size+2) 23 23 25 _ 5 80 uVs iV rfl (by decide) _ 0 [] hown (some ⟨gv,0,none⟩) i qv (xs.take (i * 5)) (by rw [List.length_take,HXL.out]; omega) (fun _=>⟨_,rfl,fun j u hu=>by
     rw [addrW]
     exact (hcB.cells.1 _ _ (World.block_lt_of_cell? w _ (HS.out.2.1 j u (take_some hu)))).trans (HS.out.2.1 j u (take_some hu))⟩) (fun u hu=>HS.out.2.2.2 u (List.mem_of_mem_take hu)) (by omega) (by omega) (by omega)
   have hi1:=HI1.out
   obtain ⟨g',c',hv',hb',hlt',hor'⟩ : ∃ g' c',v'=.slice (some ⟨g',0,none⟩) (0+i) c'/\(w.heap.size+2)<=g'/\g' < w2.heap.size/\(some g=some g'∨w'.heap.size<=g'):=by
    rcases hor with ⟨h,_⟩ | ⟨g',c',h⟩
    ·cases h
    ·exact ⟨g',c',h⟩
   subst hv'
   have hL:0+i=i:=by omega
   rw [hL] at hr hown2
   try simp only [Nat.mul_one] at hr hs
   refine ⟨.slice (some ⟨g',0,none⟩) i c',w2,by simp [execOp,resolve,invoke,builtin,Act.eval,hd,hs,hr,Result.andThen],?_,⟨g',c',rfl,by simpa using hown2⟩,fun c hc b hb=>?_⟩
   ·show Chg (Value.blk (Act.g a' 33)).toList w' w2
    rw [hd0];exact hc2
   ·cases hb
    refine ⟨hlt',?_⟩;rcases hor' with h | h
    ·cases h
     right
     show _∈(Value.blk (Act.g a' 33)).toList;rw [hd0];exact List.mem_singleton.2 rfl
    ·exact .inl h
  ·obtain rfl:_=oo:=Option.some.inj ho
   have h2:=g_eq (t:=2) (v:=.pointer (some ⟨w.heap.size,0,none⟩)) (hst 2 (by simp));exact ⟨.pointer (some ⟨w.heap.size,4,none⟩),w',by go_simp,Chg.refl _ _,rfl,fun c hc=>by cases hc⟩
  ·obtain rfl:_=oo:=Option.some.inj ho
   have h39:=g_eq (t:=39) (v:=.pointer (some ⟨w.heap.size,4,none⟩)) (hdep 18 (by kernel_rfl));exact ⟨.slice (some ⟨gv,0,none⟩) n qv,w',by go_simp,Chg.refl _ _,rfl,fun c hc=>by cases hc⟩
  ·obtain rfl:_=oo:=Option.some.inj ho
   have h5:=g_eq (t:=5) (v:=.int .i64 ↑i) (hst 5 (by simp));exact ⟨.int .i64 ↑i,w',by go_simp,Chg.refl _ _,rfl,fun c hc=>by cases hc⟩
  ·obtain rfl:_=oo:=Option.some.inj ho
   have h41:=g_eq (t:=41) (v:=.int .i64 ↑i) (hdep 20 (by kernel_rfl));exact ⟨.int .i64 (IntKind.i64.wrap ((i:Int)+1)),w',by go_simp,Chg.refl _ _,by have:=HI1.out; show Value.int .i64 (IntKind.i64.wrap ((i:Int)+1))=.int .i64 (i1:Int); rw [IntWalk.i64_in _ (by omega)]; congr 1; omega,fun c hc=>by cases hc⟩
  ·obtain rfl:_=oo:=Option.some.inj ho
   have h40:=g_eq (t:=40) (v:=.slice (some ⟨gv,0,none⟩) n qv) (hdep 19 (by kernel_rfl));have h42:=g_eq (t:=42) (v:=.int .i64 ↑i1) (hdep 21 (by kernel_rfl));exact ⟨.slice (if qv=i1 then some ⟨gv,0,none⟩ else some ⟨gv,i1 * 5,none⟩) (n - i1) (qv - i1),w',by go_simp,Chg.refl _ _,rfl,fun c hc=>by cases hc⟩
  ·obtain rfl:_=oo:=Option.some.inj ho
   obtain ⟨g,cg,hd,hown⟩:=hdep 17 (by kernel_rfl);rw [hd] at hown;have hd0:Act.g a' 38=.slice (some ⟨g,0,none⟩) i cg:=hd;have hd:=g_eq (t:=38) hd;have hs:=g_eq (t:=43) (v:=.slice (if qv=i1 then some ⟨gv,0,none⟩ else some ⟨gv,i1 * 5,none⟩) (n - i1) (qv - i1)) (hdep 22 (by kernel_rfl))
   obtain ⟨v',w2,hr,hown2,hc2,hor⟩:=run_app (P:=Tryz.prog) (w:=w') (w.heap.size+2) 23 23 25 _ 5 80 uVs iV rfl (by decide) _ i (xs.take (i * 5)) hown _ (n - i1) (qv - i1) (xs.drop (i1 * 5)) (by rw [List.length_drop,HXL.out]; omega) (fun h0=>by
     obtain ⟨a,ha,hc⟩:=suf_src (w:=w) (g:=gv) (cap:=qv) (i:=i1) (size:=5) (n:=n) HXL.out (by omega) HS.out.2.1 h0
     exact ⟨a,ha,fun j u hu=>by
   obtain ⟨h1,h2⟩:=hc j u hu;rw [h2] at h1 ⊢
   exact (hcB.cells.1 _ _ (World.block_lt_of_cell? w _ h1)).trans h1⟩) (fun u hu=>HS.out.2.2.2 u (List.mem_of_mem_drop hu)) (by omega) (by omega) (by omega)
   have hi1:=HI1.out
   obtain ⟨g',c',hv',hb',hlt',hor'⟩ : ∃ g' c',v'=.slice (some ⟨g',0,none⟩) (i+(n - i1)) c'/\(w.heap.size+2)<=g'/\g' < w2.heap.size/\(some g=some g'∨w'.heap.size<=g'):=by
    rcases hor with ⟨h,_⟩ | ⟨g',c',h⟩
    ·cases h
    ·exact ⟨g',c',h⟩
   subst hv'
   have hL:i+(n - i1)=(n - 1):=by omega
   rw [hL] at hr hown2
   try simp only [Nat.mul_one] at hr hs
   refine ⟨.slice (some ⟨g',0,none⟩) (n - 1) c',w2,by simp [execOp,resolve,invoke,builtin,Act.eval,hd,hs,hr,Result.andThen],?_,⟨g',c',rfl,by simpa using hown2⟩,fun c hc b hb=>?_⟩
   ·show Chg (Value.blk (Act.g a' 38)).toList w' w2
    rw [hd0];exact hc2
   ·cases hb
    refine ⟨hlt',?_⟩;rcases hor' with h | h
    ·cases h
     right
     show _∈(Value.blk (Act.g a' 38)).toList;rw [hd0];exact List.mem_singleton.2 rfl
    ·exact .inl h
  ·obtain rfl:_=oo:=Option.some.inj ho
   obtain ⟨h,c,h32,hr⟩:=hdep 11 (by kernel_rfl);obtain ⟨h',c',h44,hr'⟩:=hdep 23 (by kernel_rfl);rw [h32] at hr;rw [h44] at hr';have h32:=g_eq (t:=32) h32;have h44:=g_eq (t:=44) h44;exact ⟨.agg #[.int .i64 5,.int .i64 0,.string ⟨#[]⟩,.slice (some ⟨h,0,none⟩) (n - 1) c,.slice (some ⟨h',0,none⟩) (n - 1) c'],w',by go_simp,Chg.refl _ _,⟨h,c,h',c',rfl,hr,hr'⟩,fun c hc=>by cases hc⟩
  ·omega
 ·intro oo ho u w' hch hφ A2 hA2
  obtain rfl:_=oo:=Option.some.inj ho
  have l24:24 < 25:=by omega
  obtain ⟨h,c,h',c',hu,hr,hr'⟩:=hφ 24 l24 (fun k hk=>by
   have hk:k < 25:=hk
   rcases k with _ | _ | _ | _ | _ | _ | _ | _ | _ | _ | _ | _ | _ | _ | _ | _ | _ | _ | _ | _ | _ | _ | _ | _ | _ | k <;> first | (simp [woCons]) | omega)
  have hcB1:Chg [] w1 w':=(Chg.refl [] w1).dr.trans hch New.nil;have hcw:Chg [] w w':=HZ.out.1.trans hcB1 New.nil;have z2:=box5 HZ.out.2.2 _ hcB1;obtain ⟨W7,hW7,Q,hne,hcW,_⟩:=store5 z2 hcw (by omega:w.heap.size<=w.heap.size+1) (.int .i64 5) (.int .i64 0) (.string ⟨#[]⟩) (.slice (some ⟨h,0,none⟩) (n - 1) c) (.slice (some ⟨h',0,none⟩) (n - 1) c')
  have hrK:W7.ownsRow (w.heap.size+2) 9 1 (.slice (some ⟨h,0,none⟩) (n - 1) c) (n - 1) (ksv.take (i * 1)++ksv.drop (i1 * 1)):=ownsRow_keep hr fun g hg=>hne g (by have:=(ownsRow_own hr hg).1; omega)
  have hrV:W7.ownsRow (w.heap.size+2) 25 5 (.slice (some ⟨h',0,none⟩) (n - 1) c') (n - 1) (xs.take (i * 5)++xs.drop (i1 * 5)):=ownsRow_keep hr' fun g hg=>hne g (by have:=(ownsRow_own hr' hg).1; omega)
  have hold:∀ b,b < w.heap.size->W7.heap[b]?=w.heap[b]?:=fun b hb=>(hne b (by omega)).trans (hcw.block b hb (by simp))
  have HX:=Lib.hid (And.intro hrK (And.intro hrV (And.intro hold (And.intro Q (And.intro hcW hW7)))));simp [putAll,dOf,Act.put,hu] at hA2;subst hA2;obtain ⟨b0,b1,b2,b3,b4,bf⟩:=cells5 z2;clear hφ l24 ho hu hch hcw hcB1 z2 hW7 Q hne hcW hrK hrV hold hr hr';unfold Oper.wp;go_simp;refine HK.out _ _ ?_;clear HK
  go_wp2
  obtain ⟨h1,h2,hold,Q,h3,hW7⟩:=HX.out;rw [<- hW7];obtain ⟨e0,e1,e2,e3,e4,_⟩:=cells5 Q;exact bodyPost_ret (v:=.agg #[.int .i64 5,.int .i64 0,.string ⟨#[]⟩,.slice (some ⟨h,0,none⟩) (n - 1) c,.slice (some ⟨h',0,none⟩) (n - 1) c']) (by simp [results,Tryz.results138,go_sem,e0,e1,e2,e3,e4]) rfl ⟨h,c,h',c',rfl,h3,hold,h1,h2⟩
end Go.Proofs.YtpofkokbmifhgaaGreatDoor
