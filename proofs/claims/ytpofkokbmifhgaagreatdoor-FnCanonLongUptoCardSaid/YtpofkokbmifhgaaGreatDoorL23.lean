/- Parts of the walk, made small by wip/tools/pack.py: Wo, SayP, SayQ, AttrQ, SayS. No condition but those in each statement. -/
import Derived.Test.YtpofkokbmifhgaaGreatDoorL22
import Derived.Test.YtpofkokbmifhgaaGreatDoorL21
set_option maxRecDepth 100000
set_option maxHeartbeats 20000000
set_option linter.unusedVariables false
set_option linter.unusedSimpArgs false
namespace Go.Proofs.YtpofkokbmifhgaaGreatDoor
open Go.RowKit
variable {o:Nat->Prop}
theorem rem_split {k:ByteArray} {x:T}:∀ {m:List (ByteArray × T)} {i:Nat},(m.map (·.1)).Nodup->m[i]?=some (k,x)->mrem k m=m.take i++m.drop (i+1)
 | [],i,_,h=>by simp at h
 | p :: m,0,hn,h=>by
  have:p=(k,x):=by simpa using h
  subst this;have h1:=(List.nodup_cons.1 (by simpa using hn:(k :: m.map (·.1)).Nodup)).1
  have:mrem k m=m:=List.filter_eq_self.2 fun q hq=>by
   simp only [decide_eq_true_eq]
   exact fun e=>h1 (List.mem_map.2 ⟨q,hq,e⟩)
  simp only [mrem,List.filter_cons] at this ⊢
  simpa using this
 | p :: m,i+1,hn,h=>by
  have h':m[i]?=some (k,x):=by simpa using h
  have hn':=List.nodup_cons.1 (by simpa using hn:(p.1 :: m.map (·.1)).Nodup)
  have hne:p.1≠k:=fun e=>hn'.1 (by rw [e]; exact List.mem_map.2 ⟨_,List.mem_of_getElem? h',rfl⟩)
  have ih:=rem_split hn'.2 h';simp only [mrem,List.filter_cons] at ih ⊢;have ih2:=ih;simp only [ne_eq,decide_not] at ih2;simp [hne,ih2]
theorem without_any (m:List (ByteArray × T)) (v:Value) (k:ByteArray) (x:T) (w:World) (h:Rd o w (.map m) v) (hs:Srt m) (hl:m.length<=67108864) (hg:mget k m=some x) (hno:∀ b,w.heap.size<=b->o b) :
  Calls Tryz.prog 138 #[v,.string k] w fun e w'=>∃ v',e=.returned v'/\Chg [] w w'/\Rd o w' (.map (mrem k m)) v':=by
 obtain ⟨ka,va,rfl,hk,hv⟩:=h.open_map;obtain ⟨i,hi⟩:=List.getElem?_of_mem (get_some hg);have hil:=(List.getElem?_eq_some_iff.1 hi).1
 have hki:(m.map (·.1))[i]?=some k:=by rw [List.getElem?_map,hi]; rfl
 have hvi:(m.map (·.2))[i]?=some x:=by rw [List.getElem?_map,hi]; rfl
 obtain ⟨gk,qk,rfl,hqk,_⟩:=hk.at_ hki;obtain ⟨gv,qv,ka0,va0,rfl,hqv,_⟩:=hv.at_ hvi
 have hlk:(m.map (·.1)).length=m.length:=by simp
 have hlv:(m.map (·.2)).length=m.length:=by simp
 rw [hlk] at hk hqk h ⊢;rw [hlv] at hv hqv h ⊢;obtain ⟨b1,e1,hks⟩:=hk.src (by omega)
 cases e1
 obtain ⟨xs,hxs,hvs⟩:=hv.src;obtain ⟨b2,e2,hvs⟩:=hvs (by omega)
 cases e2
 have hpos:posK k (T.map m).keys=i:=by
  have hp:=pos_get (k:=k) hs;rw [hg] at hp
  have hp2:(m.map (·.1))[posK k (m.map (·.1))]?=some k:=by
   cases hq:(m.map (·.1))[posK k (m.map (·.1))]? with
   | none=>rw [hq] at hp; cases hp
   | some s=>
    rw [hq] at hp
    by_cases e:s=k
    ·rw [e]
    ·simp [e] at hp
  have hlt:posK k (m.map (·.1)) < (m.map (·.1)).length:=(List.getElem?_eq_some_iff.1 hp2).1;exact (List.getElem?_inj hlt hs.nodup).1 (hp2.trans hki.symm)
 refine (without_walk m k (strC (m.map (·.1))) xs gk gv m.length qk qv i (i+1) w h hks hvs (by simp [strC]) (by rw [hxs.length,hlv]) (strC_one _) hxs.one rfl hl hqk hqv hil rfl hpos hki).mono ?_;rintro e w' ⟨a,c,a',c',rfl,hc,hold,h1,h2⟩;refine ⟨_,rfl,hc,?_⟩;have hm:=rem_split (x:=x) hs.nodup hi
 have hlen:(mrem k m).length=m.length - 1:=by rw [hm]; simp; omega
 have hK:strC ((mrem k m).map (·.1))=(strC (m.map (·.1))).take (i * 1)++(strC (m.map (·.1))).drop ((i+1) * 1):=by
  rw [hm];simp [strC,List.map_take,List.map_drop]
 have hV:FlatV o w ((mrem k m).map (·.2)) (xs.take (i * 5)++xs.drop ((i+1) * 5)):=by
  rw [hm,List.map_append,List.map_take,List.map_drop];exact (hxs.take i).append (hxs.drop (i+1))
 rw [<- hK] at h1;have r1:RdK o w' ((mrem k m).map (·.1)) (.slice (some ⟨a,0,none⟩) (m.length - 1) c):=RdK.of_own' (by simp [hlen]) (fun b hb=>hno b (by omega)) h1;have r2:RdV o w' ((mrem k m).map (·.2)) (.slice (some ⟨a',0,none⟩) (m.length - 1) c'):=RdV.of_own' (by simp [hlen]) (fun b hb=>hno b (by omega)) h2 (hV.mono fun b hb _=>hold b hb);exact Rd.mk_map r1 r2
end Go.Proofs.YtpofkokbmifhgaaGreatDoor
namespace Go.Proofs.YtpofkokbmifhgaaGreatDoor
open Go.RowKit
variable {o:Nat->Prop}
abbrev cModeW:ByteArray:=⟨#[109,111,100,101]⟩
def PortK (k:ByteArray) (x:T):Prop:=x.kind=3/\(k=cPublished->NoByte 58 x.txt/\NoByte 37 x.txt)/\(k=cHostIp->NoByte 58 x.txt)
theorem sayPort_q (t:T) (v:Value) (w:World) (h:Rd o w t v) (hf:Fine t):Calls Tryz.prog 141 #[v] w (SomeQ (∀ (j:Nat) (k:ByteArray) (x:T),t.keys[j]?=some k->t.vals[j]?=some x->PortK k x) w):=by
 obtain ⟨A3,q3,A4,q4,rfl,hk,hv⟩:=h.five;have hkl:=hf.len
 go_enter Tryz.func141,Tryz.ntmps141
 go_wp2
 go_loopg [3] t.keys.length (fun g i wr=>∃ n:Nat,n<=t.keys.length/\g=t.keys.length - n/\i=.int .i64 n/\Chg [] w wr/\wr.heap[w.heap.size]?=some (.cells #[.int .i64 t.kind,.int .i64 t.num,.string t.txt,.slice A3 t.keys.length q3,.slice A4 t.vals.length q4] 25)/\Hid (∀ (j:Nat) (k:ByteArray) (x:T),j < n->t.keys[j]?=some k->t.vals[j]?=some x->PortK k x))
 case atStart=>exact ⟨0,Nat.zero_le _,by omega,rfl,(Chg.refl [] w).al _,heap_alloc_new _ _,Lib.hid fun j k x hj=>absurd hj (Nat.not_lt_zero _)⟩
 case round=>
  obtain ⟨n,hn,rfl,rfl,hcr,z1,hall⟩:=hrel;obtain ⟨a0,a1,a2,a3,a4,af⟩:=cells5 z1
  by_cases hlt:n < t.keys.length
  ·obtain ⟨s,hs1⟩ : ∃ s,t.keys[n]?=some s:=⟨_,List.getElem?_eq_getElem hlt⟩
   obtain ⟨x,hx⟩ : ∃ x,t.vals[n]?=some x:=⟨_,List.getElem?_eq_getElem (by omega)⟩
   obtain ⟨gk,ck,ek,hgk,yk⟩:=hk.elem hs1;obtain ⟨ge,c1,A5,q5,A6,q6,e1,hge,rx,ye⟩:=hv.elem hx
   cases e1
   cases ek
   have hfx:=hf.vals (List.mem_of_getElem? hx);have HX:=Lib.hid hx;have HK:=Lib.hid hs1
   have hnv:n < t.vals.length:=by omega
   obtain ⟨y0,y1,y2,y3,y4⟩:=ye _ hcr;have hyk:=yk _ (hcr.al (.cells #[.int .i64 x.kind,.int .i64 x.num,.string x.txt,.slice A5 x.keys.length q5,.slice A6 x.vals.length q6] 25));have b3:=cell_al a3;have za:=heap_alloc_new wr (.cells #[.int .i64 x.kind,.int .i64 x.num,.string x.txt,.slice A5 x.keys.length q5,.slice A6 x.vals.length q6] 25);obtain ⟨d0,d1,d2,d3,d4,df⟩:=cells5 za;have zb:=(heap_alloc_old wr (.cells #[.int .i64 x.kind,.int .i64 x.num,.string x.txt,.slice A5 x.keys.length q5,.slice A6 x.vals.length q6] 25) _ (Array.getElem?_eq_some_iff.1 z1).1).trans z1;clear hs1 hx yk ye
   by_cases hs0:s=cPublished
   ·subst hs0
    go_wp2_with fail
    refine (sayDigits_q _ _ _ _ hfx.txt).mono ?_;rintro e w1 ⟨b,rfl,hc,hq⟩;have HQ:=Lib.hid hq;have hcw:=(hcr.al _).trans hc New.nil;have zb1:=box5 zb _ hc;have za1:=box5 za _ hc;clear hq hc za zb d0 d1 d2 d3 d4 df b3 hyk a0 a1 a2 a3 a4 af y0 y1 y2 y3 y4;obtain ⟨d0,d1,d2,d3,d4,df⟩:=cells5 za1
    cases b
    ·by_cases hk3:x.kind=3
     ·have n3:((x.kind:Int) != 3)=false:=by simp; omega
      go_wp2
      go_ret
      exact ⟨_,rfl,hcw,fun h=>by cases h⟩
     ·have n3:((x.kind:Int) != 3)=true:=by simp; omega
      go_wp2
      go_ret
      exact ⟨_,rfl,hcw,fun h=>by cases h⟩
    by_cases hk3:x.kind=3
    ·have n3:((x.kind:Int) != 3)=false:=by simp; omega
     have HP:Hid (PortK cPublished x):=Lib.hid (⟨hk3,fun _=>by first | exact HQ.out rfl | exact HQ.out trivial,fun e=>absurd e (by decide +kernel)⟩);clear hk3
     go_wp2
     go_roundg (t.keys.length - (n+1))
     case measure=>omega
     case rel=>exact ⟨n+1,by omega,rfl,by go_num,hcw,zb1,Lib.hid fun j k y hj hk hy=>by
      rcases Nat.lt_succ_iff_lt_or_eq.1 hj with h | rfl
      ·exact hall.out j k y h hk hy
      ·rw [HX.out] at hy
       rw [HK.out] at hk
       cases hy
       cases hk
       exact HP.out⟩
    ·have n3:((x.kind:Int) != 3)=true:=by simp; omega
     go_wp2
     go_ret
     exact ⟨_,rfl,hcw,fun h=>by cases h⟩
   by_cases hs1:s=cProtocol
   ·subst hs1
    go_wp2_with fail
    refine (sayIn_any (o:=fun _=>True) _ [⟨#[116,99,112]⟩,⟨#[117,100,112]⟩] _ _ (RdK.lit [⟨#[116,99,112]⟩,⟨#[117,100,112]⟩] (heap_al2 wr _ _) rfl) (by decide)).mono ?_;rintro e w1 ⟨rfl,hw1⟩
    obtain ⟨b,hb⟩ : ∃ b,b=decide (x.txt∈([⟨#[116,99,112]⟩,⟨#[117,100,112]⟩]:List ByteArray)):=⟨_,rfl⟩
    rw [<- hb]
    have hcw:Chg [] w w1:=by rw [<- hw1]; exact (hcr.al _).al _
    have zb1:=(heap_alloc_old (wr.alloc (.cells #[.int .i64 x.kind,.int .i64 x.num,.string x.txt,.slice A5 x.keys.length q5,.slice A6 x.vals.length q6] 25)) (.cells #[.string ⟨#[116,99,112]⟩,.string ⟨#[117,100,112]⟩] 9) _ (Array.getElem?_eq_some_iff.1 zb).1).trans zb;rw [show (wr.alloc (.cells #[.int .i64 x.kind,.int .i64 x.num,.string x.txt,.slice A5 x.keys.length q5,.slice A6 x.vals.length q6] 25)).alloc (.cells #[.string ⟨#[116,99,112]⟩,.string ⟨#[117,100,112]⟩] 9)=w1 from hw1] at zb1;have za1:=(heap_alloc_old (wr.alloc (.cells #[.int .i64 x.kind,.int .i64 x.num,.string x.txt,.slice A5 x.keys.length q5,.slice A6 x.vals.length q6] 25)) (.cells #[.string ⟨#[116,99,112]⟩,.string ⟨#[117,100,112]⟩] 9) _ (Array.getElem?_eq_some_iff.1 za).1).trans za;rw [show (wr.alloc (.cells #[.int .i64 x.kind,.int .i64 x.num,.string x.txt,.slice A5 x.keys.length q5,.slice A6 x.vals.length q6] 25)).alloc (.cells #[.string ⟨#[116,99,112]⟩,.string ⟨#[117,100,112]⟩] 9)=w1 from hw1] at za1;clear hw1 hb za zb d0 d1 d2 d3 d4 df b3 hyk a0 a1 a2 a3 a4 af y0 y1 y2 y3 y4;obtain ⟨d0,d1,d2,d3,d4,df⟩:=cells5 za1
    cases b
    ·by_cases hk3:x.kind=3
     ·have n3:((x.kind:Int) != 3)=false:=by simp; omega
      go_wp2
      go_ret
      exact ⟨_,rfl,hcw,fun h=>by cases h⟩
     ·have n3:((x.kind:Int) != 3)=true:=by simp; omega
      go_wp2
      go_ret
      exact ⟨_,rfl,hcw,fun h=>by cases h⟩
    by_cases hk3:x.kind=3
    ·have n3:((x.kind:Int) != 3)=false:=by simp; omega
     have HP:Hid (PortK cProtocol x):=Lib.hid (⟨hk3,fun e=>absurd e (by decide +kernel),fun e=>absurd e (by decide +kernel)⟩);clear hk3
     go_wp2
     go_roundg (t.keys.length - (n+1))
     case measure=>omega
     case rel=>exact ⟨n+1,by omega,rfl,by go_num,hcw,zb1,Lib.hid fun j k y hj hk hy=>by
      rcases Nat.lt_succ_iff_lt_or_eq.1 hj with h | rfl
      ·exact hall.out j k y h hk hy
      ·rw [HX.out] at hy
       rw [HK.out] at hk
       cases hy
       cases hk
       exact HP.out⟩
    ·have n3:((x.kind:Int) != 3)=true:=by simp; omega
     go_wp2
     go_ret
     exact ⟨_,rfl,hcw,fun h=>by cases h⟩
   by_cases hs2:s=cHostIp
   ·subst hs2
    go_wp2_with fail
    refine (sayAddress_q x _ _ (rx.chg (hcr.al _)) hfx.txt).mono ?_;rintro e w1 ⟨b,rfl,hc,hq⟩;have HQ:=Lib.hid hq;have hcw:=(hcr.al _).trans hc New.nil;have zb1:=box5 zb _ hc;have za1:=box5 za _ hc;clear hq hc za zb d0 d1 d2 d3 d4 df b3 hyk a0 a1 a2 a3 a4 af y0 y1 y2 y3 y4;obtain ⟨d0,d1,d2,d3,d4,df⟩:=cells5 za1
    cases b
    ·by_cases hk3:x.kind=3
     ·have n3:((x.kind:Int) != 3)=false:=by simp; omega
      go_wp2
      go_ret
      exact ⟨_,rfl,hcw,fun h=>by cases h⟩
     ·have n3:((x.kind:Int) != 3)=true:=by simp; omega
      go_wp2
      go_ret
      exact ⟨_,rfl,hcw,fun h=>by cases h⟩
    by_cases hk3:x.kind=3
    ·have n3:((x.kind:Int) != 3)=false:=by simp; omega
     have HP:Hid (PortK cHostIp x):=Lib.hid (⟨hk3,fun e=>absurd e (by decide +kernel),fun _=>by first | exact (HQ.out rfl).2 | exact (HQ.out trivial).2⟩);clear hk3
     go_wp2
     go_roundg (t.keys.length - (n+1))
     case measure=>omega
     case rel=>exact ⟨n+1,by omega,rfl,by go_num,hcw,zb1,Lib.hid fun j k y hj hk hy=>by
      rcases Nat.lt_succ_iff_lt_or_eq.1 hj with h | rfl
      ·exact hall.out j k y h hk hy
      ·rw [HX.out] at hy
       rw [HK.out] at hk
       cases hy
       cases hk
       exact HP.out⟩
    ·have n3:((x.kind:Int) != 3)=true:=by simp; omega
     go_wp2
     go_ret
     exact ⟨_,rfl,hcw,fun h=>by cases h⟩
   by_cases hs3:s=cModeW
   ·subst hs3
    go_wp2_with fail
    refine (sayIn_any (o:=fun _=>True) _ [⟨#[104,111,115,116]⟩,⟨#[105,110,103,114,101,115,115]⟩] _ _ (RdK.lit [⟨#[104,111,115,116]⟩,⟨#[105,110,103,114,101,115,115]⟩] (heap_al2 wr _ _) rfl) (by decide)).mono ?_;rintro e w1 ⟨rfl,hw1⟩
    obtain ⟨b,hb⟩ : ∃ b,b=decide (x.txt∈([⟨#[104,111,115,116]⟩,⟨#[105,110,103,114,101,115,115]⟩]:List ByteArray)):=⟨_,rfl⟩
    rw [<- hb]
    have hcw:Chg [] w w1:=by rw [<- hw1]; exact (hcr.al _).al _
    have zb1:=(heap_alloc_old (wr.alloc (.cells #[.int .i64 x.kind,.int .i64 x.num,.string x.txt,.slice A5 x.keys.length q5,.slice A6 x.vals.length q6] 25)) (.cells #[.string ⟨#[104,111,115,116]⟩,.string ⟨#[105,110,103,114,101,115,115]⟩] 9) _ (Array.getElem?_eq_some_iff.1 zb).1).trans zb;rw [show (wr.alloc (.cells #[.int .i64 x.kind,.int .i64 x.num,.string x.txt,.slice A5 x.keys.length q5,.slice A6 x.vals.length q6] 25)).alloc (.cells #[.string ⟨#[104,111,115,116]⟩,.string ⟨#[105,110,103,114,101,115,115]⟩] 9)=w1 from hw1] at zb1;have za1:=(heap_alloc_old (wr.alloc (.cells #[.int .i64 x.kind,.int .i64 x.num,.string x.txt,.slice A5 x.keys.length q5,.slice A6 x.vals.length q6] 25)) (.cells #[.string ⟨#[104,111,115,116]⟩,.string ⟨#[105,110,103,114,101,115,115]⟩] 9) _ (Array.getElem?_eq_some_iff.1 za).1).trans za;rw [show (wr.alloc (.cells #[.int .i64 x.kind,.int .i64 x.num,.string x.txt,.slice A5 x.keys.length q5,.slice A6 x.vals.length q6] 25)).alloc (.cells #[.string ⟨#[104,111,115,116]⟩,.string ⟨#[105,110,103,114,101,115,115]⟩] 9)=w1 from hw1] at za1;clear hw1 hb za zb d0 d1 d2 d3 d4 df b3 hyk a0 a1 a2 a3 a4 af y0 y1 y2 y3 y4;obtain ⟨d0,d1,d2,d3,d4,df⟩:=cells5 za1
    cases b
    ·by_cases hk3:x.kind=3
     ·have n3:((x.kind:Int) != 3)=false:=by simp; omega
      go_wp2
      go_ret
      exact ⟨_,rfl,hcw,fun h=>by cases h⟩
     ·have n3:((x.kind:Int) != 3)=true:=by simp; omega
      go_wp2
      go_ret
      exact ⟨_,rfl,hcw,fun h=>by cases h⟩
    by_cases hk3:x.kind=3
    ·have n3:((x.kind:Int) != 3)=false:=by simp; omega
     have HP:Hid (PortK cModeW x):=Lib.hid (⟨hk3,fun e=>absurd e (by decide +kernel),fun e=>absurd e (by decide +kernel)⟩);clear hk3
     go_wp2
     go_roundg (t.keys.length - (n+1))
     case measure=>omega
     case rel=>exact ⟨n+1,by omega,rfl,by go_num,hcw,zb1,Lib.hid fun j k y hj hk hy=>by
      rcases Nat.lt_succ_iff_lt_or_eq.1 hj with h | rfl
      ·exact hall.out j k y h hk hy
      ·rw [HX.out] at hy
       rw [HK.out] at hk
       cases hy
       cases hk
       exact HP.out⟩
    ·have n3:((x.kind:Int) != 3)=true:=by simp; omega
     go_wp2
     go_ret
     exact ⟨_,rfl,hcw,fun h=>by cases h⟩
   have e0:(s.toList == [112,117,98,108,105,115,104,101,100])=false:=ne_toList (k:=cPublished) hs0 (by kernel_rfl);have e1:(s.toList == [112,114,111,116,111,99,111,108])=false:=ne_toList (k:=cProtocol) hs1 (by kernel_rfl);have e2:(s.toList == [104,111,115,116,95,105,112])=false:=ne_toList (k:=cHostIp) hs2 (by kernel_rfl);have e3:(s.toList == [109,111,100,101])=false:=ne_toList (k:=cModeW) hs3 (by kernel_rfl)
   by_cases hk3:x.kind=3
   ·have n3:((x.kind:Int) != 3)=false:=by simp; omega
    clear hk3
    go_wp2
    go_ret
    exact ⟨_,rfl,hcr.al _,fun h=>by cases h⟩
   ·have n3:((x.kind:Int) != 3)=true:=by simp; omega
    clear hk3
    go_wp2
    all_goals
     go_ret
     exact ⟨_,rfl,hcr.al _,fun h=>by cases h⟩
  ·have hq:Hid (∀ (j:Nat) (k:ByteArray) (x:T),t.keys[j]?=some k->t.vals[j]?=some x->PortK k x):=Lib.hid fun j k x hk hx=>hall.out j k x (by have:=(List.getElem?_eq_some_iff.1 hk).1; omega) hk hx
   go_wp2
   go_ret
   exact ⟨_,rfl,hcr,fun _=>hq.out⟩
end Go.Proofs.YtpofkokbmifhgaaGreatDoor
namespace Go.Proofs.YtpofkokbmifhgaaGreatDoor
open Go.RowKit
variable {o:Nat->Prop}
def PortQ (x:T):Prop:=∃ m n,x=.map m/\mget cTarget m=some (.int n)/\1<=n/\n<=65535/\∀ p∈mrem cTarget m,PortK p.1 p.2
theorem sizeM_filter (f:ByteArray × T->Bool):∀ m:List (ByteArray × T),T.sizeM (m.filter f)<=T.sizeM m
 | []=>Nat.le_refl _
 | p :: m=>by
  have:=sizeM_filter f m;simp only [List.filter_cons,T.sizeM]
  split
  ·simp only [T.sizeM]; omega
  ·omega
theorem Fine.rem {m:List (ByteArray × T)} (h:Fine (.map m)) (k:ByteArray):Fine (.map (mrem k m)):=by
 refine ⟨⟨List.Pairwise.filter _ h.wf.1,WFM_iff.2 fun p hp=>WFM_iff.1 h.wf.2 p (List.mem_filter.1 hp).1⟩,?_⟩;have h1:=h.size;have h2:=sizeM_filter (fun p=>decide (p.1≠k)) m;simp only [T.size] at h1 ⊢;unfold mrem
 omega
theorem port_of {x y:T} (hg:tget cTarget x=some y) (hy:y.kind=2/\1<=y.num/\y.num<=65535) (hq:1 < x.keys.length->∀ (j:Nat) (k:ByteArray) (z:T),(T.map (mrem cTarget x.m)).keys[j]?=some k->(T.map (mrem cTarget x.m)).vals[j]?=some z->PortK k z):PortQ x:=by
 cases x <;> simp [tget] at hg
 rename_i m
 cases y <;> simp [T.kind] at hy
 rename_i n;refine ⟨m,n,rfl,hg,hy.1,hy.2,fun p hp=>?_⟩;obtain ⟨j,hj⟩:=List.getElem?_of_mem hp
 by_cases h1:1 < (T.map m).keys.length
 ·exact hq h1 j p.1 p.2 (by simp [T.keys,T.m,hj]) (by simp [T.vals,T.m,hj])
 ·
  exfalso
  obtain ⟨h2,h3⟩:=List.mem_filter.1 hp;have hm:=get_some hg;simp only [T.keys,List.length_map] at h1
  match m,h1,h2,hm with
  | [q],_,h2,hm=>
   rw [List.mem_singleton] at h2 hm;rw [h2,<- hm] at h3;simp at h3
  | a :: b :: r,h1,_,_=>simp at h1
theorem sayPorts_q (t:T) (v:Value) (w:World) (h:Rd o w t v) (hf:Fine t):Calls Tryz.prog 89 #[v] w (SomeQ (t.kind=4/\t.vals≠[]/\∀ x∈t.vals,PortQ x) w):=by
 obtain ⟨A3,q3,A4,q4,rfl,hk,hv⟩:=h.five;have hkl:=hf.len
 go_enter Tryz.func89,Tryz.ntmps89
 go_wp2
 go_loopg [3] t.vals.length (fun g i wr=>∃ n:Nat,n<=t.vals.length/\g=t.vals.length - n/\i=.int .i64 n/\Chg [] w wr/\wr.heap[w.heap.size]?=some (.cells #[.int .i64 t.kind,.int .i64 t.num,.string t.txt,.slice A3 t.keys.length q3,.slice A4 t.vals.length q4] 25)/\Hid (∀ j x,j < n->t.vals[j]?=some x->PortQ x))
 case atStart=>exact ⟨0,Nat.zero_le _,by omega,rfl,(Chg.refl [] w).al _,heap_alloc_new _ _,Lib.hid fun j x hj=>absurd hj (Nat.not_lt_zero _)⟩
 case round=>
  obtain ⟨n,hn,rfl,rfl,hcr,z1,hall⟩:=hrel;obtain ⟨a0,a1,a2,a3,a4,af⟩:=cells5 z1
  by_cases hlt:n < t.vals.length
  ·obtain ⟨x,hx⟩ : ∃ x,t.vals[n]?=some x:=⟨_,List.getElem?_eq_getElem hlt⟩
   obtain ⟨ge,c1,A5,q5,A6,q6,e1,hge,rx,ye⟩:=hv.elem hx
   cases e1
   have hfx:=hf.vals (List.mem_of_getElem? hx);have HX:=Lib.hid hx
   have hnv:n < t.vals.length:=by omega
   obtain ⟨y0,y1,y2,y3,y4⟩:=ye _ hcr;clear hx ye
   go_wp2_with fail
   obtain ⟨wa,hwa⟩ : ∃ wa,wa=wr.alloc (.cells #[.int .i64 x.kind,.int .i64 x.num,.string x.txt,.slice A5 x.keys.length q5,.slice A6 x.vals.length q6] 25):=⟨_,rfl⟩
   rw [<- hwa]
   have hca:Chg [] w wa:=by rw [hwa]; exact hcr.al _
   have za:wa.heap[wr.heap.size]?=some (.cells #[.int .i64 x.kind,.int .i64 x.num,.string x.txt,.slice A5 x.keys.length q5,.slice A6 x.vals.length q6] 25):=by rw [hwa]; exact heap_alloc_new _ _
   have zb:=(heap_alloc_old wr (.cells #[.int .i64 x.kind,.int .i64 x.num,.string x.txt,.slice A5 x.keys.length q5,.slice A6 x.vals.length q6] 25) _ (Array.getElem?_eq_some_iff.1 z1).1).trans z1;rw [<- hwa] at zb;clear hwa a0 a1 a2 a3 a4 af y0 y1 y2 y3 y4;refine (get_any x _ _ _ (rx.chg hca) hfx.wf.srt hfx.len.2.2).mono ?_;rintro e w1 ⟨v',rfl,hc,hr⟩;obtain ⟨A7,q7,A8,q8,rfl,_⟩:=hr.five
   obtain ⟨y,hy⟩ : ∃ y,y=(tget cTarget x).getD .null:=⟨_,rfl⟩
   have hfy:Fine y:=by rw [hy]; exact hfx.getD _
   obtain ⟨bq,hbq⟩ : ∃ bq,bq=(tget cTarget x).isSome:=⟨_,rfl⟩
   have hxx:(tget ⟨#[116,97,114,103,101,116]⟩ x).getD .null=y:=hy.symm;have hbb:(tget ⟨#[116,97,114,103,101,116]⟩ x).isSome=bq:=hbq.symm;rw [hbb];rw [hxx] at hr ⊢;have hgs:=get_split cTarget x;rw [<- hbq,<- hy] at hgs;have HGS:=Lib.hid hgs;clear hy hbq hxx hbb hr hgs;have hc1:=hca.trans hc New.nil;have za1:=box5 za _ hc;have zb1:=box5 zb _ hc;clear hc za zb;obtain ⟨d0,d1,d2,d3,d4,df⟩:=cells5 za1;have f0:=cell_al d0;have f1:=cell_al d1;have f2:=cell_al d2;have f3:=cell_al d3;have f4:=cell_al d4
   cases bq
   ·go_wp2
    go_ret
    exact ⟨_,rfl,hc1.al _,fun h=>by cases h⟩
   by_cases hk2:y.kind=2/\1<=y.num/\y.num<=65535
   ·have n2:((y.kind:Int) != 2)=false:=by simp; omega
    have n3:decide (y.num < 1)=false:=by simp; omega
    have n4:decide (y.num > 65535)=false:=by simp; omega
    have HY:=Lib.hid hk2;clear hk2
    by_cases hl1:1 < x.keys.length
    ·have n5:decide ((x.keys.length:Int) > 1)=true:=by simp; omega
     have hgx:=HGS.out (by first | rfl | trivial)
     have HWO:Hid (∀ W,Chg [] w W->Calls Tryz.prog 138 #[.agg #[.int .i64 x.kind,.int .i64 x.num,.string x.txt,.slice A5 x.keys.length q5,.slice A6 x.vals.length q6],.string cTarget] W fun e w'=>∃ v',e=.returned v'/\Chg [] W w'/\Rd (fun _=>True) w' (.map (mrem cTarget x.m)) v'):=Lib.hid fun W hc=>by
      have hr:=(rx.weak (o':=fun _=>True) (fun _ _=>trivial)).chg hc
      obtain ⟨m,rfl⟩ : ∃ m,x=.map m:=by cases x <;> first | exact ⟨_,rfl⟩ | (simp [tget] at hgx)
      exact without_any m _ cTarget y W hr (hfx.wf.srt m rfl) (by have:=hfx.len.1; simpa [T.vals] using this) hgx (fun _ _=>trivial)
     clear hgx
     go_wp2_with fail
     refine (HWO.out _ (hc1.al _)).mono ?_;rintro e w2 ⟨v2,rfl,hc2,hr2⟩;have hcw2:=(hc1.al _).trans hc2 New.nil;have zb2:=box5 ((heap_alloc_old w1 (.cells #[.int .i64 y.kind,.int .i64 y.num,.string y.txt,.slice A7 y.keys.length q7,.slice A8 y.vals.length q8] 25) _ (Array.getElem?_eq_some_iff.1 zb1).1).trans zb1) _ hc2;have HR2:=Lib.hid hr2;clear hr2 hc2
     have hfm:Fine (.map (mrem cTarget x.m)):=by
      cases x with
      | map m=>exact hfx.rem cTarget
      | _=>exact ⟨⟨List.Pairwise.nil,trivial⟩,by simp [T.m,mrem,T.size,T.sizeM]⟩
     go_wp2_with fail
     refine (sayPort_q (.map (mrem cTarget x.m)) v2 _ HR2.out hfm).mono ?_;rintro e w3 ⟨b,rfl,hc3,hq3⟩;have hcw3:=hcw2.trans hc3 New.nil;have zb3:=box5 zb2 _ hc3;have HQ:=Lib.hid hq3;clear hq3 hc3 zb2
     cases b
     ·go_wp2
      go_ret
      exact ⟨_,rfl,hcw3,fun h=>by cases h⟩
     ·go_wp2
      go_roundg (t.vals.length - (n+1))
      case measure=>omega
      case rel=>exact ⟨n+1,by omega,rfl,by go_num,hcw3,zb3,Lib.hid fun j y' hj hy'=>by
        rcases Nat.lt_succ_iff_lt_or_eq.1 hj with h | rfl
        ·exact hall.out j y' h hy'
        ·rw [HX.out] at hy'
         cases hy'
         exact port_of (HGS.out (by first | rfl | trivial)) HY.out fun _=>HQ.out (by first | rfl | trivial)⟩
    ·have n5:decide ((x.keys.length:Int) > 1)=false:=by simp; omega
     have zb2:=(heap_alloc_old w1 (.cells #[.int .i64 y.kind,.int .i64 y.num,.string y.txt,.slice A7 y.keys.length q7,.slice A8 y.vals.length q8] 25) _ (Array.getElem?_eq_some_iff.1 zb1).1).trans zb1;have HL1:=Lib.hid hl1;clear hl1
     go_wp2
     go_roundg (t.vals.length - (n+1))
     case measure=>omega
     case rel=>exact ⟨n+1,by omega,rfl,by go_num,hc1.al _,zb2,Lib.hid fun j y' hj hy'=>by
        rcases Nat.lt_succ_iff_lt_or_eq.1 hj with h | rfl
        ·exact hall.out j y' h hy'
        ·rw [HX.out] at hy'
         cases hy'
         exact port_of (HGS.out (by first | rfl | trivial)) HY.out fun h=>absurd h HL1.out⟩
   ·by_cases k2:y.kind=2
    ·have n2:((y.kind:Int) != 2)=false:=by simp; omega
     by_cases a1:y.num < 1
     ·have n3:decide (y.num < 1)=true:=by simp; omega
      clear hk2 k2
      go_wp2
      go_ret
      exact ⟨_,rfl,hc1.al _,fun h=>by cases h⟩
     ·have n3:decide (y.num < 1)=false:=by simp; omega
      have n4:decide (y.num > 65535)=true:=by simp; omega
      clear hk2 k2 a1
      go_wp2
      go_ret
      exact ⟨_,rfl,hc1.al _,fun h=>by cases h⟩
    ·have n2:((y.kind:Int) != 2)=true:=by simp; omega
     clear hk2 k2
     go_wp2
     go_ret
     exact ⟨_,rfl,hc1.al _,fun h=>by cases h⟩
  ·have hq:Hid (∀ x∈t.vals,PortQ x):=Lib.hid fun x hx=>by
    obtain ⟨j,hj⟩:=List.getElem?_of_mem hx;exact hall.out j x (by have:=(List.getElem?_eq_some_iff.1 hj).1; omega) hj
   by_cases hk4:t.kind=4
   ·have HK4:=Lib.hid hk4
    by_cases hl0:0 < t.vals.length
    ·have hne:Hid (t.vals≠[]):=Lib.hid fun e=>by rw [e] at hl0; exact absurd hl0 (by decide)
     go_wp2
     all_goals (go_ret; first | exact ⟨_,rfl,hcr,fun _=>⟨HK4.out,hne.out,hq.out⟩⟩ | exact ⟨_,rfl,hcr,fun h=>by cases h⟩)
    ·have n5:decide ((t.vals.length:Int) > 0)=false:=decide_eq_false (by omega)
     go_wp2
     all_goals (go_ret; exact ⟨_,rfl,hcr,fun h=>by cases h⟩)
   ·go_wp2
    all_goals (go_ret; exact ⟨_,rfl,hcr,fun h=>by cases h⟩)
end Go.Proofs.YtpofkokbmifhgaaGreatDoor
namespace Go.Proofs.YtpofkokbmifhgaaGreatDoor
theorem null_of {t:T} (h:t.kind=0):t=.null:=by cases t <;> first | rfl | simp [T.kind] at h
theorem text_of {t:T} (h:t.kind=3):∃ s,t=.text s:=by cases t <;> first | exact ⟨_,rfl⟩ | simp [T.kind] at h
theorem list_of {t:T} (h:t.kind=4):∃ l,t=.list l:=by cases t <;> first | exact ⟨_,rfl⟩ | simp [T.kind] at h
theorem map_of {t:T} (h:t.kind=5):∃ m,t=.map m:=by cases t <;> first | exact ⟨_,rfl⟩ | simp [T.kind] at h
theorem isText_of {t:T} (h:t.kind=3):isText t:=by obtain ⟨s,rfl⟩:=text_of h; trivial
theorem vals_mem {m:List (ByteArray × T)} {p:ByteArray × T} (hp:p∈m):p.2∈(T.map m).vals:=List.mem_map.2 ⟨p,hp,rfl⟩
theorem known_mem {words truths:List ByteArray} {m:List (ByteArray × T)} (h:Known words truths (.map m) (T.map m).keys.length) {p:ByteArray × T} (hp:p∈m):(p.1∈words/\p.2.kind=3)∨(p.1∈truths/\p.2.kind=1):=by
 obtain ⟨j,hj⟩:=List.getElem?_of_mem hp;refine h j ?_ p.1 p.2 (by simp [T.keys,hj]) (by simp [T.vals,hj]);have:=(List.getElem?_eq_some_iff.1 hj).1
 simpa [T.keys] using this
theorem leaf_of {x:T} (h:x.kind=3∨x.kind=1):isLeaf x:=by
 cases x <;> first | trivial | simp [T.kind] at h
theorem attr_words {k:ByteArray} {t:T} (hk:k∈listA) (h4:t.kind=4) (h:∀ x∈t.vals,x.kind=3/\NoByte 61 x.txt):AttrOK k t:=by
 obtain ⟨l,rfl⟩:=list_of h4
 have hl:∀ x∈l,∃ s,x=.text s/\NoByte 61 s:=fun x hx=>by
  obtain ⟨h3,hb⟩:=h x hx;obtain ⟨s,rfl⟩:=text_of h3;exact ⟨s,rfl,hb⟩
 by_cases h1:k∈[cCapAdd,cCapDrop,cDns,cDnsSearch,cDnsOpt]
 ·exact .words h1 hl
 ·by_cases h2:k∈[cSecrets,cConfigs]
  ·exact .files h2 hl
  ·have:∀ k∈listA,k ∉ [cCapAdd,cCapDrop,cDns,cDnsSearch,cDnsOpt]->k ∉ [cSecrets,cConfigs]->k∈plainA:=by decide +kernel
   exact .plain (.inl (this k hk h1 h2))
theorem attr_expose {t:T} (h4:t.kind=4) (h:∀ x∈t.vals,x.kind=3):AttrOK cExpose t:=by
 obtain ⟨l,rfl⟩:=list_of h4
 exact .expose fun x hx=>isText_of (h x hx)
theorem attr_named {k:ByteArray} {t:T} (hk:k∈namedA) (h:(t.kind=4/\∀ x∈t.vals,x.kind=3)∨(t.kind=5/\∀ x∈t.vals,ScalarQ x)):AttrOK k t:=by
 rcases h with ⟨h4,h⟩ | ⟨h5,h⟩
 ·obtain ⟨l,rfl⟩:=list_of h4
  exact .namedList hk fun x hx=>isText_of (h x hx)
 ·obtain ⟨m,rfl⟩:=map_of h5
  refine .named hk fun p hp=>?_
  have hq:=h p.2 (vals_mem hp);generalize p.2=x at hq
  cases x <;> first | trivial | simp [ScalarQ,T.kind] at hq
theorem attr_needs {t:T} (h:(t.kind=4/\∀ x∈t.vals,x.kind=3)∨(t.kind=5/\∀ x∈t.vals,NeedQ x)):AttrOK cDependsOn t:=by
 rcases h with ⟨h4,h⟩ | ⟨h5,h⟩
 ·obtain ⟨l,rfl⟩:=list_of h4
  exact .needsList fun x hx=>isText_of (h x hx)
 ·obtain ⟨m,rfl⟩:=map_of h5
  refine .needs fun p hp=>?_
  obtain ⟨h5,hc⟩:=h p.2 (vals_mem hp);obtain ⟨d,hd⟩:=map_of h5;rw [hd] at hc;exact ⟨d,hd,hc⟩
theorem attr_nets {t:T} (h:(t.kind=4/\∀ x∈t.vals,x.kind=3)∨(t.kind=5/\∀ x∈t.vals,x.kind=0∨NetQ x)):AttrOK cNetworks t:=by
 rcases h with ⟨h4,h⟩ | ⟨h5,h⟩
 ·obtain ⟨l,rfl⟩:=list_of h4
  exact .netsList fun x hx=>isText_of (h x hx)
 ·obtain ⟨m,rfl⟩:=map_of h5
  refine .nets fun p hp=>?_
  rcases h p.2 (vals_mem hp) with h0 | ⟨h1,y,hy,h3⟩
  ·exact .inl (null_of h0)
  ·obtain ⟨s,rfl⟩:=text_of h3
   right
   generalize p.2=x at h1 hy
   cases x with
   | map d=>
    match d,h1,hy with
    | [q],_,hy=>
     have hm:=get_some (hy:mget cIpv4Address [q]=some (.text s));rw [List.mem_singleton] at hm;exact ⟨s,by rw [<- hm]⟩
    | [],h1,_=>simp [T.keys] at h1
    | a :: b :: r,h1,_=>simp [T.keys] at h1
   | _=>cases hy
theorem attr_build {t:T} (h:t.kind=3∨(t.kind=5/\Known [cContext,cDockerfile,cTarget,cNetwork] [cPrivileged,cNoCache] t t.keys.length)):AttrOK cBuild t:=by
 rcases h with h3 | ⟨h5,h⟩
 ·obtain ⟨s,rfl⟩:=text_of h3
  exact .buildText
 ·obtain ⟨m,rfl⟩:=map_of h5
  refine .build fun p hp=>?_
  rcases known_mem h hp with ⟨hk,h1⟩ | ⟨hk,h1⟩
  ·exact ⟨(by decide +kernel:∀ k∈[cContext,cDockerfile,cTarget,cNetwork],k∈buildKeys) _ hk,leaf_of (.inl h1)⟩
  ·exact ⟨(by decide +kernel:∀ k∈[cPrivileged,cNoCache],k∈buildKeys) _ hk,leaf_of (.inr h1)⟩
theorem attr_vols {t:T} (h4:t.kind=4) (h:∀ x∈t.vals,MountQ x):AttrOK cVolumes t:=by
 obtain ⟨l,rfl⟩:=list_of h4
 refine .volumes fun x hx=>?_
 obtain ⟨h5,y,hy,h3⟩:=h x hx;obtain ⟨m,rfl⟩:=map_of h5;obtain ⟨s,rfl⟩:=text_of h3;exact ⟨m,s,rfl,hy⟩
theorem mem_rem {k k':ByteArray} {x:T} {m:List (ByteArray × T)} (hg:mget k m=some x) (hne:k≠k'):(k,x)∈mrem k' m:=List.mem_filter.2 ⟨get_some hg,by simpa using hne⟩
theorem attr_ports {t:T} (h4:t.kind=4) (hne:t.vals≠[]) (h:∀ x∈t.vals,PortQ x):AttrOK cPorts t:=by
 obtain ⟨l,rfl⟩:=list_of h4
 refine .ports hne fun x hx=>?_
 obtain ⟨m,n,rfl,hg,h1,h2,hr⟩:=h x hx;refine ⟨m,n,rfl,hg,h1,h2,fun y hy=>?_,fun y hy=>?_,fun y hy=>?_⟩
 ·obtain ⟨h3,_,hb⟩:=hr _ (mem_rem hy (by decide +kernel))
  obtain ⟨s,rfl⟩:=text_of h3;exact ⟨s,rfl,hb rfl⟩
 ·obtain ⟨h3,hb,_⟩:=hr _ (mem_rem hy (by decide +kernel))
  obtain ⟨s,rfl⟩:=text_of h3;exact ⟨s,rfl,hb rfl⟩
 ·obtain ⟨h3,_,_⟩:=hr _ (mem_rem hy (by decide +kernel))
  exact isText_of h3
theorem res_said {t:T} (h5:t.kind=5) (h:ResAt t t.keys.length):∃ m,t=.map m/\∀ p∈m,ResSaid p.2:=by
 obtain ⟨m,rfl⟩:=map_of h5;refine ⟨m,rfl,fun p hp=>?_⟩;obtain ⟨j,hj⟩:=List.getElem?_of_mem hp;have hjl:=(List.getElem?_eq_some_iff.1 hj).1
 rcases h j (by simpa [T.keys] using hjl) p.2 (by simp [T.vals,hj]) with h0 | ⟨h5,hk⟩
 ·exact .inl (null_of h0)
 ·obtain ⟨d,hd⟩:=map_of h5
  rw [hd] at hk;refine .inr ⟨d,hd,fun q hq=>?_⟩
  rcases known_mem hk hq with ⟨_,h1⟩ | ⟨_,h1⟩
  ·exact leaf_of (.inl h1)
  ·exact leaf_of (.inr h1)
end Go.Proofs.YtpofkokbmifhgaaGreatDoor
namespace Go.Proofs.YtpofkokbmifhgaaGreatDoor
open Go.RowKit
variable {o:Nat->Prop}
theorem sayProject_any (s:ByteArray) (w:World) (hs:s.size<=67108864):Calls Tryz.prog 38 #[.string s] w (SomeB w):=by
 go_enter Tryz.func38,Tryz.ntmps38
 go_wp2
 go_loopg [3] s.size (fun g i wr=>∃ n:Nat,n<=s.size/\g=s.size - n/\i=.int .i64 n/\w=wr)
 case atStart=>exact ⟨0,Nat.zero_le _,by omega,rfl,rfl⟩
 case round=>
  obtain ⟨n,hn,rfl,rfl,rfl⟩:=hrel
  by_cases hlt:n < s.size
  ·go_wp2
   all_goals first
    | (go_ret; exact ⟨_,rfl,Chg.refl _ _⟩)
    | (
      go_roundg (s.size - (n+1))
      case measure=>omega
      case rel=>exact ⟨n+1,by omega,rfl,by go_num,rfl⟩)
  ·go_wp2
   all_goals (go_ret; exact ⟨_,rfl,Chg.refl _ _⟩)
theorem sayHealth0 (t:T) (v:Value) (w:World) (h:Rd o w t v) (hf:Fine t) (hg:tget cTest t=none):Calls Tryz.prog 84 #[v] w (SomeB w):=by
 obtain ⟨A3,q3,A4,q4,rfl,hk,hv⟩:=h.five;have hkl:=hf.len
 go_enter Tryz.func84,Tryz.ntmps84
 go_wp2_with fail
 refine (get_any t _ _ _ (h.chg ((Chg.refl [] w).al _)) hf.wf.srt hkl.2.2).mono ?_;rintro e w1 ⟨v',rfl,hc,hr⟩;rw [show tget ⟨#[116,101,115,116]⟩ t=none from hg] at hr ⊢;rw [show (Option.none (α:=T)).isSome=false from rfl];obtain ⟨A5,q5,A6,q6,rfl,_⟩:=hr.five;have hcw:=((Chg.refl [] w).al _).trans hc New.nil;have z1:=box5 (heap_alloc_new w (.cells #[.int .i64 t.kind,.int .i64 t.num,.string t.txt,.slice A3 t.keys.length q3,.slice A4 t.vals.length q4] 25)) _ hc;obtain ⟨a0,a1,a2,a3,a4,af⟩:=cells5 z1;have b0:=cell_al a0;have b1:=cell_al a1;have b2:=cell_al a2;have b3:=cell_al a3;have b4:=cell_al a4
 have HR:Hid (∀ W,Chg [] w W->Rd (fun _=>True) W t (.agg #[.int .i64 t.kind,.int .i64 t.num,.string t.txt,.slice A3 t.keys.length q3,.slice A4 t.vals.length q4])):=Lib.hid fun W hW=>(h.weak (fun _ _=>trivial)).chg hW
 have HT:Hid (∀ x∈t.vals,x.txt.size<=67108864):=Lib.hid fun x hx=>(hf.vals hx).txt
 clear hr hc h hk hv
 go_wp2_with fail
 refine (sayKnown_any (o:=fun _=>True) t _ [cInterval,cTimeout,cStartPeriod] [] _ _ _ (HR.out _ ((hcw.al _).al _)) (RdK.lit _ (heap_al2 w1 _ _) rfl) (RdK.nil _) HT.out hkl.1 (by decide) (by decide)).mono ?_;rintro e w2 ⟨b,rfl,hc2,_⟩
 go_wp2
 go_ret
 exact ⟨_,rfl,((hcw.al _).al _).trans hc2 New.nil⟩
theorem sayHealth_any (t:T) (v:Value) (w:World) (h:Rd o w t v) (hf:Fine t):Calls Tryz.prog 84 #[v] w (SomeB w):=by
 cases hg:tget cTest t with
 | none=>exact sayHealth0 t v w h hf hg
 | some y=>
  have hfy:=hf.get hg
  have HWO:Hid (∀ W,Chg [] w W->Calls Tryz.prog 138 #[v,.string cTest] W fun e w'=>∃ v',e=.returned v'/\Chg [] W w'/\Rd (fun _=>True) w' (.map (mrem cTest t.m)) v'):=Lib.hid fun W hc=>by
   have hr:=(h.weak (o':=fun _=>True) (fun _ _=>trivial)).chg hc
   obtain ⟨m,rfl⟩ : ∃ m,t=.map m:=by cases t <;> first | exact ⟨_,rfl⟩ | (simp [tget] at hg)
   exact without_any m _ cTest y W hr (hf.wf.srt m rfl) (by have:=hf.len.1; simpa [T.vals] using this) hg (fun _ _=>trivial)
  have hfm:Fine (.map (mrem cTest t.m)):=by
   cases t with
   | map m=>exact hf.rem cTest
   | _=>exact ⟨⟨List.Pairwise.nil,trivial⟩,by simp [T.m,mrem,T.size,T.sizeM]⟩
  obtain ⟨A3,q3,A4,q4,rfl,hk,hv⟩:=h.five;have hkl:=hf.len
  have HY:Hid (∀ x∈y.vals,x.txt.size<=67108864):=Lib.hid fun x hx=>(hfy.vals hx).txt
  have hyl:=hfy.len.1;have hyt:=hfy.txt
  go_enter Tryz.func84,Tryz.ntmps84
  go_wp2_with fail
  refine (get_any t _ _ _ (h.chg ((Chg.refl [] w).al _)) hf.wf.srt hkl.2.2).mono ?_;rintro e w1 ⟨v',rfl,hc,hr⟩;rw [show tget ⟨#[116,101,115,116]⟩ t=some y from hg] at hr ⊢;rw [show (some y).isSome=true from rfl];rw [show (some y).getD .null=y from rfl] at hr;obtain ⟨A5,q5,A6,q6,rfl,_⟩:=hr.five;have hcw:=((Chg.refl [] w).al _).trans hc New.nil;have z1:=box5 (heap_alloc_new w (.cells #[.int .i64 t.kind,.int .i64 t.num,.string t.txt,.slice A3 t.keys.length q3,.slice A4 t.vals.length q4] 25)) _ hc
  obtain ⟨w2,hw2⟩ : ∃ W:World,W=w1.alloc (.cells #[.int .i64 y.kind,.int .i64 y.num,.string y.txt,.slice A5 y.keys.length q5,.slice A6 y.vals.length q6] 25):=⟨_,rfl⟩
  have hcw2:Chg [] w w2:=hw2 ▸ hcw.al _;have hr2:Rd o w2 y _:=hw2 ▸ hr.chg ((Chg.refl [] w1).al _);have zy:w2.heap[w1.heap.size]?=_:=hw2 ▸ heap_alloc_new w1 _;have z2:w2.heap[w.heap.size]?=_:=hw2 ▸ (heap_alloc_old w1 _ _ (Array.getElem?_eq_some_iff.1 z1).1).trans z1;have HRY:=Lib.hid hr2;clear hr hc h hk hv hr2 z1 hg
  go_upto_if 10 with fail
  all_goals skip
  rw [<- hw2];clear hw2;obtain ⟨d0,d1,d2,d3,d4,df⟩:=cells5 zy;obtain ⟨a0,a1,a2,a3,a4,af⟩:=cells5 z2
  go_wp2_with fail
  refine (sayShell_any y _ _ HRY.out hyt HY.out hyl).mono ?_;rintro e w3 ⟨b,rfl,hc3⟩;have hcw3:=hcw2.trans hc3 New.nil;have z3:=box5 z2 _ hc3;clear zy z2 d0 d1 d2 d3 d4 df a0 a1 a2 a3 a4 af hc3;obtain ⟨a0,a1,a2,a3,a4,af⟩:=cells5 z3
  cases b
  ·go_wp2
   go_ret
   exact ⟨_,rfl,hcw3⟩
  ·by_cases h1:t.keys.length=1
   ·have n1:((t.keys.length:Int) == 1)=true:=by simp; omega
    clear h1
    go_wp2
    go_ret
    exact ⟨_,rfl,hcw3⟩
   ·have n1:((t.keys.length:Int) == 1)=false:=by simp; omega
    clear h1
    go_wp2_with fail
    refine (HWO.out _ hcw3).mono ?_;rintro e w4 ⟨v4,rfl,hc4,hr4⟩;have hcw4:=hcw3.trans hc4 New.nil;have HR4:=Lib.hid hr4;clear hr4 hc4
    go_wp2_with fail
    refine (sayHealth0 (o:=fun _=>True) (.map (mrem cTest t.m)) v4 _ HR4.out hfm get_rem).mono ?_;rintro e w5 ⟨b,rfl,hc5⟩
    go_wp2
    go_ret
    exact ⟨_,rfl,hcw4.trans hc5 New.nil⟩
theorem sayLogging_any (t:T) (v:Value) (w:World) (h:Rd o w t v) (hf:Fine t):Calls Tryz.prog 87 #[v] w (SomeB w):=by
 obtain ⟨A3,q3,A4,q4,rfl,hk,hv⟩:=h.five;have hkl:=hf.len
 go_enter Tryz.func87,Tryz.ntmps87
 go_wp2
 go_loopg [3] t.keys.length (fun g i wr=>∃ n:Nat,n<=t.keys.length/\g=t.keys.length - n/\i=.int .i64 n/\Chg [] w wr/\wr.heap[w.heap.size]?=some (.cells #[.int .i64 t.kind,.int .i64 t.num,.string t.txt,.slice A3 t.keys.length q3,.slice A4 t.vals.length q4] 25))
 case atStart=>exact ⟨0,Nat.zero_le _,by omega,rfl,(Chg.refl [] w).al _,heap_alloc_new _ _⟩
 case round=>
  rename_i wq;obtain ⟨n,hn,rfl,rfl,hcr,z1⟩:=hrel;obtain ⟨a0,a1,a2,a3,a4,af⟩:=cells5 z1
  by_cases hlt:n < t.keys.length
  ·have hltb:decide ((n:Int) < (t.keys.length:Int))=true:=by simp; omega
   obtain ⟨s,hs1⟩ : ∃ s,t.keys[n]?=some s:=⟨_,List.getElem?_eq_getElem hlt⟩
   obtain ⟨x,hx⟩ : ∃ x,t.vals[n]?=some x:=⟨_,List.getElem?_eq_getElem (by omega)⟩
   obtain ⟨gk,ck,ek,hgk,yk⟩:=hk.elem hs1;obtain ⟨ge,c1,A5,q5,A6,q6,e1,hge,rx,ye⟩:=hv.elem hx
   cases e1
   cases ek
   have hfx:=hf.vals (List.mem_of_getElem? hx)
   have hnv:n < t.vals.length:=by omega
   obtain ⟨y0,y1,y2,y3,y4⟩:=ye _ hcr;have YK:=Lib.hid yk;have HRX:=Lib.hid rx;clear hs1 hx ye yk rx
   obtain ⟨W0,hW0⟩ : ∃ W0:World,W0=wr.alloc (.cells #[.int .i64 x.kind,.int .i64 x.num,.string x.txt,.slice A5 x.keys.length q5,.slice A6 x.vals.length q6] 25):=⟨_,rfl⟩
   obtain ⟨B,hB⟩ : ∃ B:Nat,B=wr.heap.size:=⟨_,rfl⟩
   have hc0:Chg [] w W0:=hW0 ▸ hcr.al _
   have hx0:W0.heap[B]?=some (.cells #[.int .i64 x.kind,.int .i64 x.num,.string x.txt,.slice A5 x.keys.length q5,.slice A6 x.vals.length q6] 25):=by rw [hB,hW0]; exact heap_alloc_new wr _
   have z2:W0.heap[w.heap.size]?=_:=hW0 ▸ (heap_alloc_old wr (.cells #[.int .i64 x.kind,.int .i64 x.num,.string x.txt,.slice A5 x.keys.length q5,.slice A6 x.vals.length q6] 25) _ (Array.getElem?_eq_some_iff.1 z1).1).trans z1
   go_upto_region 5 with fail
   rw [<- hW0,<- hB];clear hW0 hB a0 a1 a2 a3 a4 af y0 y1 y2 y3 y4 z1 hcr;obtain ⟨a0,a1,a2,a3,a4,af⟩:=cells5 z2;obtain ⟨x0,x1,x2,x3,x4,xf⟩:=cells5 hx0;have hyk:=YK.out _ hc0;have hxt:=hfx.txt
   by_cases hs0:s=cDriver
   ·subst hs0
    go_wp2_with fail
    refine (sayText_any x _ _ (HRX.out.chg hc0) hxt).mono ?_;rintro e w3 ⟨b,rfl,hc3,_⟩;have hc:=hc0.trans hc3 New.nil;have z3:=box5 z2 _ hc3;clear hc3 x0 x1 x2 x3 x4 xf hx0 a0 a1 a2 a3 a4 af z2 hyk;have hyk:=YK.out _ hc;obtain ⟨a0,a1,a2,a3,a4,af⟩:=cells5 z3
    cases b
    ·go_wp2
     go_ret
     exact ⟨_,rfl,hc⟩
    ·go_wp2
     go_roundg (t.keys.length - (n+1))
     case measure=>omega
     case rel=>exact ⟨n+1,by omega,rfl,by go_num,hc,z3⟩
   have f1:(s.toList == [100,114,105,118,101,114])=false:=ne_toList hs0 (by kernel_rfl);clear hs0
   by_cases hs1:s=cOptions
   case neg=>
    have f2:(s.toList == [111,112,116,105,111,110,115])=false:=ne_toList hs1 (by kernel_rfl);clear hs1
    go_wp2
    go_ret
    exact ⟨_,rfl,hc0⟩
   subst hs1
   by_cases hk5:x.kind=5
   case neg=>
    have n5:((x.kind:Int) != 5)=true:=by simp; omega
    clear hk5
    go_wp2
    go_ret
    exact ⟨_,rfl,hc0⟩
   have n5:((x.kind:Int) != 5)=false:=by simp; omega
   by_cases hl0:x.keys.length=0
   ·have n6:((x.keys.length:Int) == 0)=true:=by simp [hl0]
    clear hk5 hl0
    go_wp2
    go_ret
    exact ⟨_,rfl,hc0⟩
   have n6:((x.keys.length:Int) == 0)=false:=by simp; exact fun e=>hl0 (by simp [e])
   have hxkl:=hfx.len;have hxkv:=T.keys_len hk5;have HKV:=Lib.hid hxkv;obtain ⟨B5,p5,B6,p6,e5,hkx,hvx⟩:=HRX.out.five
   cases e5
   clear hk5 hl0 hxkv
   go_wp2
   go_loopg [5] x.keys.length (fun g i wx=>∃ j:Nat,j<=x.keys.length/\g=x.keys.length - j/\i=.int .i64 j/\Chg [] w wx/\wx.heap[w.heap.size]?=some (.cells #[.int .i64 t.kind,.int .i64 t.num,.string t.txt,.slice (some ⟨gk,0,none⟩) t.keys.length q3,.slice (some ⟨ge,0,none⟩) t.vals.length q4] 25)/\wx.heap[B]?=some (.cells #[.int .i64 x.kind,.int .i64 x.num,.string x.txt,.slice A5 x.keys.length q5,.slice A6 x.vals.length q6] 25))
   case atStart=>exact ⟨0,Nat.zero_le _,by omega,rfl,hc0,z2,hx0⟩
   case round=>
    clear a0 a1 a2 a3 a4 af x0 x1 x2 x3 x4 xf hyk hc0 z2 hx0;obtain ⟨j,hj,rfl,rfl,hcj,zt,zx⟩:=hrel;obtain ⟨a0,a1,a2,a3,a4,af⟩:=cells5 zt;obtain ⟨x0,x1,x2,x3,x4,xf⟩:=cells5 zx
    by_cases hjl:j < x.keys.length
    ·have hjv:j < x.vals.length:=by have:=HKV.out; omega
     have hjlb:decide ((j:Int) < (x.keys.length:Int))=true:=by simp; omega
     obtain ⟨s,hs1⟩ : ∃ s,x.keys[j]?=some s:=⟨_,List.getElem?_eq_getElem hjl⟩
     obtain ⟨y,hy⟩ : ∃ y,x.vals[j]?=some y:=⟨_,List.getElem?_eq_getElem hjv⟩
     obtain ⟨hk2,ck2,ek2,hhk2,yk2⟩:=hkx.elem hs1;obtain ⟨he2,ce2,A7,q7,A8,q8,ee2,hhe2,ry,ye2⟩:=hvx.elem hy
     cases ek2
     cases ee2
     have hss:=hfx.key (List.mem_of_getElem? hs1);have hks:=yk2 _ hcj;have YE:=Lib.hid ye2;clear hs1 hy yk2 ye2 ry
     go_wp2_with fail
     refine (sayName_any s _ hss).mono ?_;rintro e w3 ⟨b,rfl,hc3⟩;have hc:=hcj.trans hc3 New.nil;have zt3:=box5 zt _ hc3;have zx3:=box5 zx _ hc3;clear hc3 x0 x1 x2 x3 x4 xf a0 a1 a2 a3 a4 af zt zx hks hcj;obtain ⟨a0,a1,a2,a3,a4,af⟩:=cells5 zt3;obtain ⟨x0,x1,x2,x3,x4,xf⟩:=cells5 zx3;obtain ⟨y0,y1,y2,y3,y4⟩:=YE.out _ hc
     cases b
     ·go_wp2
      go_ret
      exact ⟨_,rfl,hc⟩
     ·by_cases hk3:y.kind=3
      ·have n3:((y.kind:Int) != 3)=false:=by simp; omega
       clear hk3
       go_wp2
       go_roundg (x.keys.length - (j+1))
       case measure=>omega
       case rel=>exact ⟨j+1,by omega,rfl,by go_num,hc,zt3,zx3⟩
      ·have n3:((y.kind:Int) != 3)=true:=by simp; omega
       clear hk3
       go_wp2
       go_ret
       exact ⟨_,rfl,hc⟩
    ·have hjlb:decide ((j:Int) < (x.keys.length:Int))=false:=by simp; omega
     go_wp2
     go_roundg (t.keys.length - (n+1))
     case measure=>omega
     case rel=>exact ⟨n+1,by omega,rfl,by go_num,hcj,zt⟩
  ·by_cases hk5:t.kind=5
   ·go_wp2
    all_goals (go_ret; exact ⟨_,rfl,hcr⟩)
   ·go_wp2
    all_goals (go_ret; exact ⟨_,rfl,hcr⟩)
end Go.Proofs.YtpofkokbmifhgaaGreatDoor
