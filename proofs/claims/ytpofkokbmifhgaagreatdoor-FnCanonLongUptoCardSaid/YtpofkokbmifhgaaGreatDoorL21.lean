/- Parts of the walk, made small by wip/tools/pack.py: SayG, SayH, SayI, SayJ. No condition but those in each statement. -/
import Derived.Test.YtpofkokbmifhgaaGreatDoorL07
import Derived.Test.YtpofkokbmifhgaaGreatDoorL08
set_option maxRecDepth 100000
set_option maxHeartbeats 20000000
set_option linter.unusedVariables false
set_option linter.unusedSimpArgs false
namespace Go.Proofs.YtpofkokbmifhgaaGreatDoor
open Go.RowKit
variable {o:Nat->Prop}
theorem nob_of {b:UInt8} {s:ByteArray} (h:∀ j,∀ hj:j < s.size,s[j]≠b):NoByte b s:=fun hm=>by
 obtain ⟨j,hj,e⟩:=List.mem_iff_getElem.1 hm;exact h j (by simpa using hj) (by simpa [ByteArray.getElem_eq_getElem_data] using e)
theorem sayWord_q (s:ByteArray) (w:World) (hs:s.size<=67108864):Calls Tryz.prog 136 #[.string s] w (SomeQ (NoByte 61 s) w):=by
 go_enter Tryz.func136,Tryz.ntmps136
 go_wp2
 go_loopg [3] s.size (fun g i wr=>∃ n:Nat,n<=s.size/\g=s.size - n/\i=.int .i64 n/\Chg [] w wr/\Hid (∀ j,j < n->∀ hj:j < s.size,s[j]≠61))
 case atStart=>exact ⟨0,Nat.zero_le _,by omega,rfl,Chg.refl _ _,Lib.hid fun j hj=>absurd hj (Nat.not_lt_zero _)⟩
 case round=>
  obtain ⟨n,hn,rfl,rfl,hcr,hall⟩:=hrel
  by_cases hlt:n < s.size
  ·have hcv:=conv1 wr s[n]
   have hk:RdK (fun _=>True) ((wr.alloc (.cells #[.int .u8 (s[n].toNat:Int)] 5)).alloc (.cells #[.string ⟨#[61]⟩,.string ⟨#[36]⟩,.string ⟨#[58]⟩,.string ⟨#[34]⟩,.string ⟨#[39]⟩,.string ⟨#[92]⟩,.string ⟨#[126]⟩] 9)) [⟨#[61]⟩,⟨#[36]⟩,⟨#[58]⟩,⟨#[34]⟩,⟨#[39]⟩,⟨#[92]⟩,⟨#[126]⟩] (.slice (some ⟨wr.heap.size+1,0,none⟩) 7 7):=RdK.lit [⟨#[61]⟩,⟨#[36]⟩,⟨#[58]⟩,⟨#[34]⟩,⟨#[39]⟩,⟨#[92]⟩,⟨#[126]⟩] (heap_al2 wr _ _) rfl;have HK7:=Lib.hid hk;clear hk
   go_wp2_with fail
   all_goals first
    | (go_ret; exact ⟨_,rfl,hcr,fun h=>by cases h⟩)
    | (
      refine (sayIn_any (o:=fun _=>True) _ _ _ _ HK7.out (by decide)).mono ?_;rintro e w' ⟨he,rfl⟩
      obtain ⟨d,hd⟩ : ∃ d,d=decide ((⟨#[s[n]]⟩ : ByteArray)∈[(⟨#[61]⟩ : ByteArray),⟨#[36]⟩,⟨#[58]⟩,⟨#[34]⟩,⟨#[39]⟩,⟨#[92]⟩,⟨#[126]⟩]):=⟨_,rfl⟩
      rw [<- hd] at he;subst he
      have hq:Hid (d=false->s[n]≠61):=Lib.hid fun h e=>by
       rw [h,e] at hd;exact absurd hd.symm (by decide)
      clear hd
      cases d
      ·go_wp2
       go_roundg (s.size - (n+1))
       case measure=>omega
       case rel=>exact ⟨n+1,by omega,rfl,by go_num,(hcr.al _).al _,Lib.hid fun j hj hjs=>by
        rcases Nat.lt_succ_iff_lt_or_eq.1 hj with h | rfl
        ·exact hall.out j h hjs
        ·first | exact hq.out rfl | exact hq.out trivial⟩
      ·go_wp2
       go_ret
       exact ⟨_,rfl,(hcr.al _).al _,fun h=>by cases h⟩)
  ·have hq:Hid (NoByte 61 s):=Lib.hid (nob_of fun j hj=>hall.out j (by omega) hj)
   go_wp2
   go_ret
   exact ⟨_,rfl,hcr,fun _=>hq.out⟩
theorem sayDigits_q (s:ByteArray) (a b:Int) (w:World) (hs:s.size<=67108864):Calls Tryz.prog 137 #[.string s,.int .i64 a,.int .i64 b] w (SomeQ (NoByte 58 s/\NoByte 37 s) w):=by
 go_enter Tryz.func137,Tryz.ntmps137
 go_wp2
 go_loopg [7,8] s.size (fun g m i wr=>∃ n:Nat,∃ z:Int,n<=s.size/\g=s.size - n/\i=.int .i64 n/\m=.int .i64 z/\w=wr/\Hid (∀ j,j < n->∀ hj:j < s.size,48<=s[j].toNat/\s[j].toNat<=57))
 case atStart=>exact ⟨0,0,Nat.zero_le _,by omega,rfl,rfl,rfl,Lib.hid fun j hj=>absurd hj (Nat.not_lt_zero _)⟩
 case round=>
  obtain ⟨n,z,hn,rfl,rfl,rfl,rfl,hall⟩:=hrel
  by_cases hlt:n < s.size
  ·have h0:0 < s.size:=by omega
   by_cases hd:48<=s[n].toNat/\s[n].toNat<=57
   ·have hnx:Hid (∀ j,j < n+1->∀ hj:j < s.size,48<=s[j].toNat/\s[j].toNat<=57):=Lib.hid fun j hj hjs=>by
     rcases Nat.lt_succ_iff_lt_or_eq.1 hj with h | rfl
     ·exact hall.out j h hjs
     ·exact hd
    clear hd
    go_wp2
    all_goals first
     | (go_ret; exact ⟨_,rfl,Chg.refl _ _,fun h=>by cases h⟩)
     | (
       go_roundg (s.size - (n+1))
       case measure=>omega
       case rel=>exact ⟨n+1,_,by omega,rfl,by go_num,rfl,rfl,hnx⟩)
   ·go_wp2
    all_goals first
     | (go_ret; exact ⟨_,rfl,Chg.refl _ _,fun h=>by cases h⟩)
     | (exfalso; omega)
  ·have hq:Hid (NoByte 58 s/\NoByte 37 s):=Lib.hid ⟨nob_of fun j hj e=>by have:=hall.out j (by omega) hj; rw [e] at this; exact absurd this (by decide),nob_of fun j hj e=>by have:=hall.out j (by omega) hj; rw [e] at this; exact absurd this (by decide)⟩
   go_wp2
   all_goals (go_ret; exact ⟨_,rfl,Chg.refl _ _,fun _=>hq.out⟩)
theorem extract_byte {s:ByteArray} {a b:Nat} {c:UInt8} (h:NoByte c (s.extract a b)) (hb:b<=s.size):∀ j,a<=j->j < b->∀ hj:j < s.size,s[j]≠c:=fun j h1 h2 hj e=>by
 refine h ?_;rw [<- e]
 have hsz:(s.extract a b).size=b - a:=by simp; omega
 have hjj:j - a < (s.extract a b).size:=by omega
 have he:(s.extract a b)[j - a]=s[j]:=by
  rw [ByteArray.getElem_extract]
  congr 1
  omega
 rw [<- he]
 have:(s.extract a b).data.toList[j - a]'(by rw [show (s.extract a b).data.toList.length=(s.extract a b).size from rfl]; exact hjj)=(s.extract a b)[j - a]:=by simp [ByteArray.getElem_eq_getElem_data]
 rw [<- this];exact List.getElem_mem _
theorem sayAddress_q (t:T) (v:Value) (w:World) (h:Rd o w t v) (hs:t.txt.size<=67108864):Calls Tryz.prog 164 #[v] w (SomeQ (t.kind=3/\NoByte 58 t.txt) w):=by
 obtain ⟨A3,q3,A4,q4,rfl,hk,hv⟩:=h.five
 go_enter Tryz.func164,Tryz.ntmps164
 go_wp2
 go_loopg [3,4,5] (t.txt.size+1) (fun g m f i wr=>∃ n a b:Nat,n<=t.txt.size+1/\a<=n/\b<=n/\g=t.txt.size+1 - n/\m=.int .i64 a/\f=.int .i64 b/\i=.int .i64 n/\Chg [] w wr/\wr.heap[w.heap.size]?=some (.cells #[.int .i64 t.kind,.int .i64 t.num,.string t.txt,.slice A3 t.keys.length q3,.slice A4 t.vals.length q4] 25)/\Hid ((∀ j,j < b->∀ hj:j < t.txt.size,t.txt[j]≠58)/\(n=t.txt.size+1->b=t.txt.size+1)))
 case atStart=>exact ⟨0,0,0,Nat.zero_le _,Nat.zero_le _,Nat.zero_le _,by omega,rfl,rfl,rfl,(Chg.refl [] w).al _,heap_alloc_new _ _,Lib.hid ⟨fun j hj=>absurd hj (Nat.not_lt_zero _),fun h=>by omega⟩⟩
 case round=>
  obtain ⟨n,a,b,hn,ha,hb,rfl,rfl,rfl,rfl,hcr,z1,hall⟩:=hrel;obtain ⟨a0,a1,a2,a3,a4,af⟩:=cells5 z1
  by_cases hlt:n<=t.txt.size
  ·by_cases hlt2:n < t.txt.size
   ·go_wp2_with fail
    ·go_roundg (t.txt.size+1 - (n+1))
     case measure=>omega
     case rel=>exact ⟨n+1,a,b,by omega,by omega,by omega,rfl,rfl,rfl,by go_num,hcr,z1,Lib.hid ⟨hall.out.1,fun h=>by omega⟩⟩
    ·have hdot:Hid (t.txt[n]≠58):=Lib.hid fun e=>by
      have:t.txt[n].toNat=58:=by rw [e]; rfl
      have h46:((t.txt[n].toNat:Int) != 46)=false:=by assumption
      rw [this] at h46;exact absurd h46 (by decide)
     refine (sayDigits_q _ _ _ _ (by simp; omega)).mono ?_;rintro e w' ⟨q,rfl,hc,hq⟩;have hcw:=hcr.trans hc New.nil;have z2:=(hc.block w.heap.size (Array.getElem?_eq_some_iff.1 z1).1 (by simp)).trans z1;have HQ:=Lib.hid hq;clear hq
     cases q
     ·go_wp2
      go_ret
      exact ⟨_,rfl,hcw,fun h=>by cases h⟩
     ·go_wp2
      go_roundg (t.txt.size+1 - (n+1))
      case measure=>omega
      case rel=>exact ⟨n+1,a+1,n+1,by omega,by omega,by omega,rfl,by go_num,by go_num,by go_num,hcw,z2,Lib.hid ⟨fun j hj hjs=>by
        by_cases h1:j < b
        ·exact hall.out.1 j h1 hjs
        ·by_cases h2:j=n
         ·subst h2; exact hdot.out
         ·exact extract_byte (by first | exact (HQ.out rfl).1 | exact (HQ.out trivial).1) (by omega) j (by omega) (by omega) hjs,fun h=>by omega⟩⟩
   ·have hlt3:decide ((n:Int) < (t.txt.size:Int))=false:=by simp; omega
    go_wp2_with fail
    refine (sayDigits_q _ _ _ _ (by simp; omega)).mono ?_;rintro e w' ⟨q,rfl,hc,hq⟩;have hcw:=hcr.trans hc New.nil;have z2:=(hc.block w.heap.size (Array.getElem?_eq_some_iff.1 z1).1 (by simp)).trans z1;have HQ:=Lib.hid hq;clear hq
    cases q
    ·go_wp2
     go_ret
     exact ⟨_,rfl,hcw,fun h=>by cases h⟩
    ·go_wp2
     go_roundg (t.txt.size+1 - (n+1))
     case measure=>omega
     case rel=>exact ⟨n+1,a+1,n+1,by omega,by omega,by omega,rfl,by go_num,by go_num,by go_num,hcw,z2,Lib.hid ⟨fun j hj hjs=>by
        by_cases h1:j < b
        ·exact hall.out.1 j h1 hjs
        ·exact extract_byte (by first | exact (HQ.out rfl).1 | exact (HQ.out trivial).1) (by omega) j (by omega) (by omega) hjs,fun h=>by omega⟩⟩
  ·have hq:Hid (NoByte 58 t.txt):=Lib.hid (nob_of fun j hj=>hall.out.1 j (by have:=hall.out.2 (by omega); omega) hj)
   by_cases hk3:t.kind=3
   ·have HK3:=Lib.hid hk3
    go_wp2
    all_goals (go_ret; first | exact ⟨_,rfl,hcr,fun _=>⟨HK3.out,hq.out⟩⟩ | exact ⟨_,rfl,hcr,fun h=>by cases h⟩)
   ·go_wp2
    all_goals (go_ret; exact ⟨_,rfl,hcr,fun h=>by cases h⟩)
theorem sayTexts_q (t:T) (v:Value) (w:World) (h:Rd o w t v) (hs:∀ x∈t.vals,x.txt.size<=67108864) (hl:t.vals.length<=67108864):Calls Tryz.prog 80 #[v] w (SomeQ (t.kind=4/\∀ x∈t.vals,x.kind=3/\NoByte 61 x.txt) w):=by
 obtain ⟨A3,q3,A4,q4,rfl,hk,hv⟩:=h.five
 go_enter Tryz.func80,Tryz.ntmps80
 go_wp2
 go_loopg [3] t.vals.length (fun g i wr=>∃ n:Nat,n<=t.vals.length/\g=t.vals.length - n/\i=.int .i64 n/\Chg [] w wr/\wr.heap[w.heap.size]?=some (.cells #[.int .i64 t.kind,.int .i64 t.num,.string t.txt,.slice A3 t.keys.length q3,.slice A4 t.vals.length q4] 25)/\Hid (∀ j x,j < n->t.vals[j]?=some x->x.kind=3/\NoByte 61 x.txt))
 case atStart=>exact ⟨0,Nat.zero_le _,by omega,rfl,(Chg.refl [] w).al _,heap_alloc_new _ _,Lib.hid fun j x hj=>absurd hj (Nat.not_lt_zero _)⟩
 case round=>
  obtain ⟨n,hn,rfl,rfl,hcr,z1,hall⟩:=hrel;obtain ⟨a0,a1,a2,a3,a4,af⟩:=cells5 z1
  by_cases hlt:n < t.vals.length
  ·obtain ⟨x,hx⟩ : ∃ x,t.vals[n]?=some x:=⟨_,List.getElem?_eq_getElem hlt⟩
   obtain ⟨ge,c1,kx,vx,e1,hc1,hkx,hvx,x0,x1,x2,x3,x4⟩:=hv.at_ hx
   cases e1
   have hge:ge < w.heap.size:=World.block_lt_of_cell? w _ x0;have y0:=(hcr.cells.1 _ _ hge).trans x0;have y2:=(hcr.cells.1 _ _ hge).trans x2;have hxs:=hs x (List.mem_of_getElem? hx);have HX:=Lib.hid hx;clear x0 x1 x2 x3 x4 hx
   by_cases hk3:x.kind=3
   ·have hk3':((x.kind:Int) == 3)=true:=by simp [hk3]
    have HK3:=Lib.hid hk3
    go_wp2_with fail
    refine (sayWord_q _ _ hxs).mono ?_;rintro e w' ⟨b,rfl,hc,hq⟩;have hcw:=hcr.trans hc New.nil;have z2:=(hc.block w.heap.size (Array.getElem?_eq_some_iff.1 z1).1 (by simp)).trans z1;have HQ:=Lib.hid hq;clear hq
    cases b
    ·go_wp2
     go_ret
     exact ⟨_,rfl,hcw,fun h=>by cases h⟩
    ·go_wp2
     go_roundg (t.vals.length - (n+1))
     case measure=>omega
     case rel=>exact ⟨n+1,by omega,rfl,by go_num,hcw,z2,Lib.hid fun j y hj hy=>by
      rcases Nat.lt_succ_iff_lt_or_eq.1 hj with h | rfl
      ·exact hall.out j y h hy
      ·rw [HX.out] at hy
       cases hy
       exact ⟨HK3.out,by first | exact HQ.out rfl | exact HQ.out trivial⟩⟩
   ·have hk3':((x.kind:Int) == 3)=false:=by simp; omega
    go_wp2_with fail
    go_ret
    exact ⟨_,rfl,hcr,fun h=>by cases h⟩
  ·have hq:Hid (∀ x∈t.vals,x.kind=3/\NoByte 61 x.txt):=Lib.hid fun x hx=>by
    obtain ⟨j,hj⟩:=List.getElem?_of_mem hx;exact hall.out j x (by have:=(List.getElem?_eq_some_iff.1 hj).1; omega) hj
   by_cases hk4:t.kind=4
   ·have HK4:=Lib.hid hk4
    go_wp2
    all_goals (go_ret; first | exact ⟨_,rfl,hcr,fun _=>⟨HK4.out,hq.out⟩⟩ | exact ⟨_,rfl,hcr,fun h=>by cases h⟩)
   ·go_wp2
    all_goals (go_ret; exact ⟨_,rfl,hcr,fun h=>by cases h⟩)
end Go.Proofs.YtpofkokbmifhgaaGreatDoor
namespace Go.Proofs.YtpofkokbmifhgaaGreatDoor
open Go.RowKit
variable {o:Nat->Prop}
theorem sayNames_q (t:T) (v:Value) (w:World) (h:Rd o w t v) (hs:∀ x∈t.vals,x.txt.size<=67108864) (hl:t.vals.length<=67108864):Calls Tryz.prog 139 #[v] w (SomeQ (t.kind=4/\∀ x∈t.vals,x.kind=3) w):=by
 obtain ⟨A3,q3,A4,q4,rfl,hk,hv⟩:=h.five
 go_enter Tryz.func139,Tryz.ntmps139
 go_wp2
 go_loopg [3] t.vals.length (fun g i wr=>∃ n:Nat,n<=t.vals.length/\g=t.vals.length - n/\i=.int .i64 n/\Chg [] w wr/\wr.heap[w.heap.size]?=some (.cells #[.int .i64 t.kind,.int .i64 t.num,.string t.txt,.slice A3 t.keys.length q3,.slice A4 t.vals.length q4] 25)/\Hid (∀ j x,j < n->t.vals[j]?=some x->x.kind=3))
 case atStart=>exact ⟨0,Nat.zero_le _,by omega,rfl,(Chg.refl [] w).al _,heap_alloc_new _ _,Lib.hid fun j x hj=>absurd hj (Nat.not_lt_zero _)⟩
 case round=>
  obtain ⟨n,hn,rfl,rfl,hcr,z1,hall⟩:=hrel;obtain ⟨a0,a1,a2,a3,a4,af⟩:=cells5 z1
  by_cases hlt:n < t.vals.length
  ·obtain ⟨x,hx⟩ : ∃ x,t.vals[n]?=some x:=⟨_,List.getElem?_eq_getElem hlt⟩
   obtain ⟨ge,c1,kx,vx,e1,hc1,hkx,hvx,x0,x1,x2,x3,x4⟩:=hv.at_ hx
   cases e1
   have hge:ge < w.heap.size:=World.block_lt_of_cell? w _ x0;have y0:=(hcr.cells.1 _ _ hge).trans x0;have y2:=(hcr.cells.1 _ _ hge).trans x2;have hxs:=hs x (List.mem_of_getElem? hx);have HX:=Lib.hid hx;clear x0 x1 x2 x3 x4 hx
   by_cases hk3:x.kind=3
   ·have hk3':((x.kind:Int) == 3)=true:=by simp [hk3]
    have HK3:=Lib.hid hk3
    go_wp2_with fail
    refine (sayName_any _ _ hxs).mono ?_;rintro e w' ⟨b,rfl,hc⟩;have hcw:=hcr.trans hc New.nil;have z2:=(hc.block w.heap.size (Array.getElem?_eq_some_iff.1 z1).1 (by simp)).trans z1
    cases b
    ·go_wp2
     go_ret
     exact ⟨_,rfl,hcw,fun h=>by cases h⟩
    ·go_wp2
     go_roundg (t.vals.length - (n+1))
     case measure=>omega
     case rel=>exact ⟨n+1,by omega,rfl,by go_num,hcw,z2,Lib.hid fun j y hj hy=>by
      rcases Nat.lt_succ_iff_lt_or_eq.1 hj with h | rfl
      ·exact hall.out j y h hy
      ·rw [HX.out] at hy
       cases hy
       exact HK3.out⟩
   ·have hk3':((x.kind:Int) == 3)=false:=by simp; omega
    go_wp2_with fail
    go_ret
    exact ⟨_,rfl,hcr,fun h=>by cases h⟩
  ·have hq:Hid (∀ x∈t.vals,x.kind=3):=Lib.hid fun x hx=>by
    obtain ⟨j,hj⟩:=List.getElem?_of_mem hx;exact hall.out j x (by have:=(List.getElem?_eq_some_iff.1 hj).1; omega) hj
   by_cases hk4:t.kind=4
   ·have HK4:=Lib.hid hk4
    go_wp2
    all_goals (go_ret; first | exact ⟨_,rfl,hcr,fun _=>⟨HK4.out,hq.out⟩⟩ | exact ⟨_,rfl,hcr,fun h=>by cases h⟩)
   ·go_wp2
    all_goals (go_ret; exact ⟨_,rfl,hcr,fun h=>by cases h⟩)
theorem sayExposed_q (t:T) (v:Value) (w:World) (h:Rd o w t v) (hs:∀ x∈t.vals,x.txt.size<=67108864) (hl:t.vals.length<=67108864):Calls Tryz.prog 81 #[v] w (SomeQ (t.kind=4/\∀ x∈t.vals,x.kind=3) w):=by
 obtain ⟨A3,q3,A4,q4,rfl,hk,hv⟩:=h.five
 go_enter Tryz.func81,Tryz.ntmps81
 go_wp2
 go_loopg [3] t.vals.length (fun g i wr=>∃ n:Nat,n<=t.vals.length/\g=t.vals.length - n/\i=.int .i64 n/\Chg [] w wr/\wr.heap[w.heap.size]?=some (.cells #[.int .i64 t.kind,.int .i64 t.num,.string t.txt,.slice A3 t.keys.length q3,.slice A4 t.vals.length q4] 25)/\Hid (∀ j x,j < n->t.vals[j]?=some x->x.kind=3))
 case atStart=>exact ⟨0,Nat.zero_le _,by omega,rfl,(Chg.refl [] w).al _,heap_alloc_new _ _,Lib.hid fun j x hj=>absurd hj (Nat.not_lt_zero _)⟩
 case round=>
  obtain ⟨n,hn,rfl,rfl,hcr,z1,hall⟩:=hrel;obtain ⟨a0,a1,a2,a3,a4,af⟩:=cells5 z1
  by_cases hlt:n < t.vals.length
  ·obtain ⟨x,hx⟩ : ∃ x,t.vals[n]?=some x:=⟨_,List.getElem?_eq_getElem hlt⟩
   obtain ⟨ge,c1,kx,vx,e1,hc1,hkx,hvx,x0,x1,x2,x3,x4⟩:=hv.at_ hx
   cases e1
   have hge:ge < w.heap.size:=World.block_lt_of_cell? w _ x0;have y0:=(hcr.cells.1 _ _ hge).trans x0;have y2:=(hcr.cells.1 _ _ hge).trans x2;have hxs:=hs x (List.mem_of_getElem? hx);have HX:=Lib.hid hx;clear x0 x1 x2 x3 x4 hx
   by_cases hk3:x.kind=3
   ·have hk3':((x.kind:Int) == 3)=true:=by simp [hk3]
    have HK3:=Lib.hid hk3
    go_wp2_with fail
    refine (sayDigits_q _ _ _ _ hxs).mono ?_;rintro e w' ⟨b,rfl,hc,hq⟩;have hcw:=hcr.trans hc New.nil;have z2:=(hc.block w.heap.size (Array.getElem?_eq_some_iff.1 z1).1 (by simp)).trans z1;clear hq
    cases b
    ·go_wp2
     go_ret
     exact ⟨_,rfl,hcw,fun h=>by cases h⟩
    ·go_wp2
     go_roundg (t.vals.length - (n+1))
     case measure=>omega
     case rel=>exact ⟨n+1,by omega,rfl,by go_num,hcw,z2,Lib.hid fun j y hj hy=>by
      rcases Nat.lt_succ_iff_lt_or_eq.1 hj with h | rfl
      ·exact hall.out j y h hy
      ·rw [HX.out] at hy
       cases hy
       exact HK3.out⟩
   ·have hk3':((x.kind:Int) == 3)=false:=by simp; omega
    go_wp2_with fail
    go_ret
    exact ⟨_,rfl,hcr,fun h=>by cases h⟩
  ·have hq:Hid (∀ x∈t.vals,x.kind=3):=Lib.hid fun x hx=>by
    obtain ⟨j,hj⟩:=List.getElem?_of_mem hx;exact hall.out j x (by have:=(List.getElem?_eq_some_iff.1 hj).1; omega) hj
   by_cases hk4:t.kind=4
   ·have HK4:=Lib.hid hk4
    go_wp2
    all_goals (go_ret; first | exact ⟨_,rfl,hcr,fun _=>⟨HK4.out,hq.out⟩⟩ | exact ⟨_,rfl,hcr,fun h=>by cases h⟩)
   ·go_wp2
    all_goals (go_ret; exact ⟨_,rfl,hcr,fun h=>by cases h⟩)
theorem get_split (k:ByteArray) (t:T):(tget k t).isSome=true->tget k t=some ((tget k t).getD .null):=fun h=>by
 cases hg:tget k t with
 | none=>rw [hg] at h; cases h
 | some x=>rfl
def NetQ (x:T):Prop:=x.keys.length=1/\∃ y,tget cIpv4Address x=some y/\y.kind=3
theorem sayNet_q (t:T) (v:Value) (w:World) (h:Rd o w t v) (hf:Fine t):Calls Tryz.prog 140 #[v] w (SomeQ (NetQ t) w):=by
 obtain ⟨A3,q3,A4,q4,rfl,hk,hv⟩:=h.five;have hkl:=hf.len
 go_enter Tryz.func140,Tryz.ntmps140
 go_wp2_with fail
 refine (get_any t _ _ _ (h.chg ((Chg.refl [] w).al _)) hf.wf.srt hkl.2.2).mono ?_;rintro e w1 ⟨v',rfl,hc,hr⟩;obtain ⟨A5,q5,A6,q6,rfl,_⟩:=hr.five;have hcw:=((Chg.refl [] w).al _).trans hc New.nil;have z1:=box5 (heap_alloc_new w (.cells #[.int .i64 t.kind,.int .i64 t.num,.string t.txt,.slice A3 t.keys.length q3,.slice A4 t.vals.length q4] 25)) _ hc;obtain ⟨a0,a1,a2,a3,a4,af⟩:=cells5 z1;have hfx:=hf.getD ⟨#[105,112,118,52,95,97,100,100,114,101,115,115]⟩;have hgs:=get_split cIpv4Address t
 obtain ⟨x,hx⟩ : ∃ x,x=(tget cIpv4Address t).getD .null:=⟨_,rfl⟩
 obtain ⟨bq,hbq⟩ : ∃ bq,bq=(tget cIpv4Address t).isSome:=⟨_,rfl⟩
 have hxx:(tget ⟨#[105,112,118,52,95,97,100,100,114,101,115,115]⟩ t).getD .null=x:=hx.symm;have hbb:(tget ⟨#[105,112,118,52,95,97,100,100,114,101,115,115]⟩ t).isSome=bq:=hbq.symm;rw [hbb];rw [<- hbq,<- hx] at hgs;rw [hxx] at hfx hr ⊢;have HGS:=Lib.hid hgs;clear hgs hx hbq hxx hbb;clear hc;have b3:=cell_al a3;have HR:=Lib.hid hr;clear hr
 cases bq
 ·go_wp2
  all_goals (go_ret; exact ⟨_,rfl,hcw.al _,fun h=>by cases h⟩)
 ·by_cases hl1:t.keys.length=1
  ·have hl1':((t.keys.length:Int) == 1)=true:=by simp [hl1]
   have HL:=Lib.hid hl1;clear hl1
   go_wp2_with fail
   refine (sayAddress_q x _ _ (HR.out.chg ((Chg.refl [] w1).al _)) hfx.txt).mono ?_;rintro e w2 ⟨b,rfl,hc2,hq⟩;have HQ:=Lib.hid hq;clear hq
   go_wp2
   go_ret
   exact ⟨_,rfl,(hcw.al _).trans hc2 New.nil,fun h=>⟨HL.out,x,by first | exact HGS.out rfl | exact HGS.out trivial,(HQ.out h).1⟩⟩
  ·have hl1':((t.keys.length:Int) == 1)=false:=by simp; omega
   go_wp2_with fail
   go_ret
   exact ⟨_,rfl,hcw.al _,fun h=>by cases h⟩
theorem T.keys_len {t:T} (h:t.kind=5):t.keys.length=t.vals.length:=by
 cases t with
 | map m=>simp [T.keys,T.vals]
 | _=>cases h
theorem sayNetsM_q (t:T) (v:Value) (w:World) (h:Rd o w t v) (hf:Fine t) (hm:t.kind=5):Calls Tryz.prog 86 #[v] w (SomeQ (∀ x∈t.vals,x.kind=0∨NetQ x) w):=by
 obtain ⟨A3,q3,A4,q4,rfl,hk,hv⟩:=h.five;have hkl:=hf.len
 have hk4:(t.kind == 4)=false:=by rw [hm]; rfl
 have hk5:(t.kind == 5)=true:=by rw [hm]; rfl
 have HKV:=Lib.hid (T.keys_len hm);clear hm
 go_enter Tryz.func86,Tryz.ntmps86
 go_wp2
 go_loopg [3] t.keys.length (fun g i wr=>∃ n:Nat,n<=t.keys.length/\g=t.keys.length - n/\i=.int .i64 n/\Chg [] w wr/\wr.heap[w.heap.size]?=some (.cells #[.int .i64 t.kind,.int .i64 t.num,.string t.txt,.slice A3 t.keys.length q3,.slice A4 t.vals.length q4] 25)/\Hid (∀ j x,j < n->t.vals[j]?=some x->x.kind=0∨NetQ x))
 case atStart=>exact ⟨0,Nat.zero_le _,by omega,rfl,(Chg.refl [] w).al _,heap_alloc_new _ _,Lib.hid fun j x hj=>absurd hj (Nat.not_lt_zero _)⟩
 case round=>
  obtain ⟨n,hn,rfl,rfl,hcr,z1,hall⟩:=hrel;obtain ⟨a0,a1,a2,a3,a4,af⟩:=cells5 z1
  by_cases hlt:n < t.keys.length
  ·obtain ⟨s,hs1⟩ : ∃ s,t.keys[n]?=some s:=⟨_,List.getElem?_eq_getElem hlt⟩
   obtain ⟨x,hx⟩ : ∃ x,t.vals[n]?=some x:=⟨_,List.getElem?_eq_getElem (by omega)⟩
   obtain ⟨gk,ck,ek,hgk,yk⟩:=hk.elem hs1;obtain ⟨ge,c1,A5,q5,A6,q6,e1,hge,rx,ye⟩:=hv.elem hx
   cases e1
   cases ek
   have hfx:=hf.vals (List.mem_of_getElem? hx);have hfs:=hf.key (List.mem_of_getElem? hs1)
   have hnv:n < t.vals.length:=by omega
   have YK:=Lib.hid yk;have HX:=Lib.hid hx;obtain ⟨y0,y1,y2,y3,y4⟩:=ye _ hcr;clear hs1 hx ye yk;have hyk:=YK.out _ (hcr.al (.cells #[.int .i64 x.kind,.int .i64 x.num,.string x.txt,.slice A5 x.keys.length q5,.slice A6 x.vals.length q6] 25));have b3:=cell_al a3
   go_wp2_with fail
   refine (sayName_any s _ hfs).mono ?_;rintro e w1 ⟨b,rfl,hc⟩;have hcw:=(hcr.al _).trans hc New.nil;have z2:=box5 ((heap_alloc_old wr (.cells #[.int .i64 x.kind,.int .i64 x.num,.string x.txt,.slice A5 x.keys.length q5,.slice A6 x.vals.length q6] 25) _ (Array.getElem?_eq_some_iff.1 z1).1).trans z1) _ hc
   cases b
   ·go_wp2
    go_ret
    exact ⟨_,rfl,hcw,fun h=>by cases h⟩
   ·obtain ⟨d0,d1,d2,d3,d4,df⟩:=cells5 (box5 (heap_alloc_new wr (.cells #[.int .i64 x.kind,.int .i64 x.num,.string x.txt,.slice A5 x.keys.length q5,.slice A6 x.vals.length q6] 25)) _ hc)
    clear hc
    by_cases hk0:x.kind=0
    ·have hk0':((x.kind:Int) != 0)=false:=by simp [hk0]
     have HK0:=Lib.hid hk0;clear hk0
     go_wp2_with fail
     go_roundg (t.keys.length - (n+1))
     case measure=>omega
     case rel=>exact ⟨n+1,by omega,rfl,by go_num,hcw,z2,Lib.hid fun j y hj hy=>by
      rcases Nat.lt_succ_iff_lt_or_eq.1 hj with h | rfl
      ·exact hall.out j y h hy
      ·rw [HX.out] at hy
       cases hy
       exact .inl HK0.out⟩
    ·have hk0':((x.kind:Int) != 0)=true:=by simp; omega
     clear hk0
     go_wp2_with fail
     refine (sayNet_q x _ _ (rx.chg hcw) hfx).mono ?_;rintro e w2 ⟨b,rfl,hc2,hq⟩;have HQ:=Lib.hid hq;clear hq;have hcw2:=hcw.trans hc2 New.nil
     cases b
     ·go_wp2
      go_ret
      exact ⟨_,rfl,hcw2,fun h=>by cases h⟩
     ·go_wp2
      go_roundg (t.keys.length - (n+1))
      case measure=>omega
      case rel=>exact ⟨n+1,by omega,rfl,by go_num,hcw2,box5 z2 _ hc2,Lib.hid fun j y hj hy=>by
      rcases Nat.lt_succ_iff_lt_or_eq.1 hj with h | rfl
      ·exact hall.out j y h hy
      ·rw [HX.out] at hy
       cases hy
       exact .inr (by first | exact HQ.out rfl | exact HQ.out trivial)⟩
  ·have hq:Hid (∀ x∈t.vals,x.kind=0∨NetQ x):=Lib.hid fun x hx=>by
    obtain ⟨j,hj⟩:=List.getElem?_of_mem hx;exact hall.out j x (by have:=(List.getElem?_eq_some_iff.1 hj).1; have:=HKV.out; omega) hj
   go_wp2
   go_ret
   exact ⟨_,rfl,hcr,fun _=>hq.out⟩
theorem sayNets_q (t:T) (v:Value) (w:World) (h:Rd o w t v) (hf:Fine t):Calls Tryz.prog 86 #[v] w (SomeQ ((t.kind=4/\∀ x∈t.vals,x.kind=3)∨(t.kind=5/\∀ x∈t.vals,x.kind=0∨NetQ x)) w):=by
 by_cases hm:t.kind=5
 ·exact (sayNetsM_q t v w h hf hm).mono fun e w' ⟨b,h1,h2,h3⟩=>⟨b,h1,h2,fun hb=>.inr ⟨hm,h3 hb⟩⟩
 ·by_cases hm4:t.kind=4
  ·have HN:=Lib.hid (fun W (hc:Chg [] w W)=>sayNames_q t v W (h.chg hc) (fun x hx=>(hf.vals hx).txt) hf.len.1)
   obtain ⟨A3,q3,A4,q4,rfl,hk,hv⟩:=h.five
   have hk4:(t.kind == 4)=true:=by rw [hm4]; rfl
   clear hm hm4 hk hv h
   go_enter Tryz.func86,Tryz.ntmps86
   go_wp2_with fail
   refine (HN.out _ ((Chg.refl [] w).al _)).mono ?_;rintro e w1 ⟨b,rfl,hc,hq⟩;have HQ:=Lib.hid hq;clear hq
   go_wp2
   go_ret
   exact ⟨_,rfl,((Chg.refl [] w).al _).trans hc New.nil,fun h=>.inl (HQ.out h)⟩
  ·have hk0:t.keys.length=0:=by cases t <;> first | rfl | exact absurd rfl hm
   obtain ⟨A3,q3,A4,q4,rfl,hk,hv⟩:=h.five
   have hk4:(t.kind == 4)=false:=by rw [beq_eq_false_iff_ne]; exact hm4
   have hk5:(t.kind == 5)=false:=by rw [beq_eq_false_iff_ne]; exact hm
   rw [hk0];clear hm hm4 hk hv h hk0
   go_enter Tryz.func86,Tryz.ntmps86
   go_wp2_with fail
   go_loopg [3] 0 (fun g i wr=>i=.int .i64 0/\Chg [] w wr/\wr.heap[w.heap.size]?=some (.cells #[.int .i64 t.kind,.int .i64 t.num,.string t.txt,.slice A3 0 q3,.slice A4 t.vals.length q4] 25))
   case atStart=>exact ⟨rfl,(Chg.refl [] w).al _,heap_alloc_new _ _⟩
   case round=>
    obtain ⟨rfl,hcr,z1⟩:=hrel;obtain ⟨a0,a1,a2,a3,a4,af⟩:=cells5 z1
    go_wp2
    go_ret
    exact ⟨_,rfl,hcr,fun h=>by cases h⟩
end Go.Proofs.YtpofkokbmifhgaaGreatDoor
namespace Go.Proofs.YtpofkokbmifhgaaGreatDoor
open Go.RowKit
variable {o:Nat->Prop}
abbrev kHealthy:ByteArray:=⟨#[115,101,114,118,105,99,101,95,104,101,97,108,116,104,121]⟩
abbrev kCompleted:ByteArray:=⟨#[115,101,114,118,105,99,101,95,99,111,109,112,108,101,116,101,100,95,115,117,99,99,101,115,115,102,117,108,108,121]⟩
theorem heap_alloc_at (w:World) (ob:Obj) (n:Nat) (h:n=w.heap.size):(w.alloc ob).heap[n]?=some ob:=by
 subst h;exact heap_alloc_new _ _
def NeedQ (x:T):Prop:=x.kind=5/\(tget cCondition x).isSome=true
theorem sayNeedsM_q (t:T) (v:Value) (w:World) (h:Rd o w t v) (hf:Fine t) (hm:t.kind=5):Calls Tryz.prog 85 #[v] w (SomeQ (∀ x∈t.vals,NeedQ x) w):=by
 obtain ⟨A3,q3,A4,q4,rfl,hk,hv⟩:=h.five;have hkl:=hf.len
 have hk4:(t.kind == 4)=false:=by rw [hm]; rfl
 have hk5:(t.kind == 5)=true:=by rw [hm]; rfl
 have HKV:=Lib.hid (T.keys_len hm);clear hm
 go_enter Tryz.func85,Tryz.ntmps85
 go_wp2
 go_loopg [3] t.keys.length (fun g i wr=>∃ n:Nat,n<=t.keys.length/\g=t.keys.length - n/\i=.int .i64 n/\Chg [] w wr/\wr.heap[w.heap.size]?=some (.cells #[.int .i64 t.kind,.int .i64 t.num,.string t.txt,.slice A3 t.keys.length q3,.slice A4 t.vals.length q4] 25)/\Hid (∀ j x,j < n->t.vals[j]?=some x->NeedQ x))
 case atStart=>exact ⟨0,Nat.zero_le _,by omega,rfl,(Chg.refl [] w).al _,heap_alloc_new _ _,Lib.hid fun j x hj=>absurd hj (Nat.not_lt_zero _)⟩
 case round=>
  obtain ⟨n,hn,rfl,rfl,hcr,z1,hall⟩:=hrel;obtain ⟨a0,a1,a2,a3,a4,af⟩:=cells5 z1
  by_cases hlt:n < t.keys.length
  ·obtain ⟨s,hs1⟩ : ∃ s,t.keys[n]?=some s:=⟨_,List.getElem?_eq_getElem hlt⟩
   obtain ⟨x,hx⟩ : ∃ x,t.vals[n]?=some x:=⟨_,List.getElem?_eq_getElem (by omega)⟩
   obtain ⟨gk,ck,ek,hgk,yk⟩:=hk.elem hs1;obtain ⟨ge,c1,A5,q5,A6,q6,e1,hge,rx,ye⟩:=hv.elem hx
   cases e1
   cases ek
   have hfx:=hf.vals (List.mem_of_getElem? hx);have hfs:=hf.key (List.mem_of_getElem? hs1)
   have hnv:n < t.vals.length:=by omega
   have YK:=Lib.hid yk;have HX:=Lib.hid hx;have YE:=Lib.hid ye;obtain ⟨y0,y1,y2,y3,y4⟩:=ye _ hcr;clear hs1 hx ye yk
   go_wp2_with fail
   refine (get_any x _ _ _ (rx.chg hcr) hfx.wf.srt hfx.len.2.2).mono ?_;rintro e w1 ⟨v',rfl,hc,hr⟩;obtain ⟨A7,q7,A8,q8,rfl,_⟩:=hr.five;have hfy:=hfx.getD ⟨#[99,111,110,100,105,116,105,111,110]⟩
   obtain ⟨y,hy⟩ : ∃ y,y=(tget cCondition x).getD .null:=⟨_,rfl⟩
   obtain ⟨bq,hbq⟩ : ∃ bq,bq=(tget cCondition x).isSome:=⟨_,rfl⟩
   have hxx:(tget ⟨#[99,111,110,100,105,116,105,111,110]⟩ x).getD .null=y:=hy.symm;have hbb:(tget ⟨#[99,111,110,100,105,116,105,111,110]⟩ x).isSome=bq:=hbq.symm;rw [hbb];rw [hxx] at hfy hr ⊢;have HGS:=Lib.hid hbq;clear hy hbq hxx hbb;have hcw:=hcr.trans hc New.nil;have z2:=box5 z1 _ hc;clear hc a0 a1 a2 a3 a4 af y0 y1 y2 y3 y4 hr;obtain ⟨a0,a1,a2,a3,a4,af⟩:=cells5 z2;have hyk:=YK.out _ (hcw.al (.cells #[.int .i64 y.kind,.int .i64 y.num,.string y.txt,.slice A7 y.keys.length q7,.slice A8 y.vals.length q8] 25));have b3:=cell_al a3
   go_wp2_with fail
   refine (sayName_any s _ hfs).mono ?_;rintro e w2 ⟨b,rfl,hc⟩;have hcw2:=(hcw.al _).trans hc New.nil;have z3:=box5 ((heap_alloc_old w1 (.cells #[.int .i64 y.kind,.int .i64 y.num,.string y.txt,.slice A7 y.keys.length q7,.slice A8 y.vals.length q8] 25) _ (Array.getElem?_eq_some_iff.1 z2).1).trans z2) _ hc
   cases b
   ·go_wp2
    go_ret
    exact ⟨_,rfl,hcw2,fun h=>by cases h⟩
   ·have zy:=box5 (heap_alloc_new w1 (.cells #[.int .i64 y.kind,.int .i64 y.num,.string y.txt,.slice A7 y.keys.length q7,.slice A8 y.vals.length q8] 25)) _ hc
    clear hc a0 a1 a2 a3 a4 af b3 hyk;obtain ⟨a0,a1,a2,a3,a4,af⟩:=cells5 z3;obtain ⟨y0,y1,y2,y3,y4⟩:=YE.out _ hcw2
    go_wp2_with fail
    refine (sayKnown_any (o:=fun _=>True) x _ [cCondition] [cRequired,cRestart] _ _ _ ((rx.weak (fun _ _=>trivial)).chg ((hcw2.al _).al _)) ((RdK.lit [cCondition] (heap_al1 w2 _ _) rfl)) (RdK.lit [cRequired,cRestart] (heap_al2 w2 _ _) rfl) (fun y hy=>(hfx.vals hy).txt) hfx.len.1 (by decide) (by decide)).mono ?_;rintro e w3 ⟨b,rfl,hc3,hq3⟩;have HQ:=Lib.hid hq3;clear hq3;have hcw3:=((hcw2.al _).al _).trans hc3 New.nil;have z4:=box5 ((heap_alloc_old _ _ _ (by have:=(Array.getElem?_eq_some_iff.1 z3).1; simp; omega)).trans ((heap_alloc_old _ _ _ (Array.getElem?_eq_some_iff.1 z3).1).trans z3)) _ hc3;have zy2:=box5 ((heap_alloc_old _ _ _ (by have:=(Array.getElem?_eq_some_iff.1 zy).1; simp; omega)).trans ((heap_alloc_old _ _ _ (Array.getElem?_eq_some_iff.1 zy).1).trans zy)) _ hc3
    cases b
    ·cases bq
     all_goals
      go_wp2
      go_ret
      exact ⟨_,rfl,hcw3,fun h=>by cases h⟩
    ·clear hc3 a0 a1 a2 a3 a4 af y0 y1 y2 y3 y4
     obtain ⟨d0,d1,d2,d3,d4,df⟩:=cells5 zy2
     cases bq
     ·go_wp2
      go_ret
      exact ⟨_,rfl,hcw3,fun h=>by cases h⟩
     ·go_wp2_with fail
      refine (sayIn_any (o:=fun _=>True) _ [cServiceStarted,kHealthy,kCompleted] _ _ (RdK.lit [cServiceStarted,kHealthy,kCompleted] (heap_alloc_new w3 _) rfl) (by decide)).mono ?_;rintro e w4 ⟨rfl,rfl⟩;generalize decide (y.txt∈[cServiceStarted,kHealthy,kCompleted])=b
      cases b
      ·go_wp2
       go_ret
       exact ⟨_,rfl,hcw3.al _,fun h=>by cases h⟩
      ·go_wp2
       go_roundg (t.keys.length - (n+1))
       case measure=>omega
       case rel=>exact ⟨n+1,by omega,rfl,by go_num,hcw3.al _,(heap_alloc_old _ _ _ (Array.getElem?_eq_some_iff.1 z4).1).trans z4,Lib.hid fun j y hj hy=>by
        rcases Nat.lt_succ_iff_lt_or_eq.1 hj with h | rfl
        ·exact hall.out j y h hy
        ·rw [HX.out] at hy
         cases hy
         exact ⟨by first | exact (HQ.out rfl).1 | exact (HQ.out trivial).1,HGS.out.symm⟩⟩
  ·have hq:Hid (∀ x∈t.vals,NeedQ x):=Lib.hid fun x hx=>by
    obtain ⟨j,hj⟩:=List.getElem?_of_mem hx;exact hall.out j x (by have:=(List.getElem?_eq_some_iff.1 hj).1; have:=HKV.out; omega) hj
   go_wp2
   go_ret
   exact ⟨_,rfl,hcr,fun _=>hq.out⟩
theorem sayNeeds_q (t:T) (v:Value) (w:World) (h:Rd o w t v) (hf:Fine t):Calls Tryz.prog 85 #[v] w (SomeQ ((t.kind=4/\∀ x∈t.vals,x.kind=3)∨(t.kind=5/\∀ x∈t.vals,NeedQ x)) w):=by
 by_cases hm:t.kind=5
 ·exact (sayNeedsM_q t v w h hf hm).mono fun e w' ⟨b,h1,h2,h3⟩=>⟨b,h1,h2,fun hb=>.inr ⟨hm,h3 hb⟩⟩
 ·by_cases hm4:t.kind=4
  ·have HN:=Lib.hid (fun W (hc:Chg [] w W)=>sayNames_q t v W (h.chg hc) (fun x hx=>(hf.vals hx).txt) hf.len.1)
   obtain ⟨A3,q3,A4,q4,rfl,hk,hv⟩:=h.five
   have hk4:(t.kind == 4)=true:=by rw [hm4]; rfl
   clear hm hm4 hk hv h
   go_enter Tryz.func85,Tryz.ntmps85
   go_wp2_with fail
   refine (HN.out _ ((Chg.refl [] w).al _)).mono ?_;rintro e w1 ⟨b,rfl,hc,hq⟩;have HQ:=Lib.hid hq;clear hq
   go_wp2
   go_ret
   exact ⟨_,rfl,((Chg.refl [] w).al _).trans hc New.nil,fun h=>.inl (HQ.out h)⟩
  ·have hk0:t.keys.length=0:=by cases t <;> first | rfl | exact absurd rfl hm
   obtain ⟨A3,q3,A4,q4,rfl,hk,hv⟩:=h.five
   have hk4:(t.kind == 4)=false:=by rw [beq_eq_false_iff_ne]; exact hm4
   have hk5:(t.kind == 5)=false:=by rw [beq_eq_false_iff_ne]; exact hm
   rw [hk0];clear hm hm4 hk hv h hk0
   go_enter Tryz.func85,Tryz.ntmps85
   go_wp2_with fail
   go_loopg [3] 0 (fun g i wr=>i=.int .i64 0/\Chg [] w wr/\wr.heap[w.heap.size]?=some (.cells #[.int .i64 t.kind,.int .i64 t.num,.string t.txt,.slice A3 0 q3,.slice A4 t.vals.length q4] 25))
   case atStart=>exact ⟨rfl,(Chg.refl [] w).al _,heap_alloc_new _ _⟩
   case round=>
    obtain ⟨rfl,hcr,z1⟩:=hrel;obtain ⟨a0,a1,a2,a3,a4,af⟩:=cells5 z1
    go_wp2
    go_ret
    exact ⟨_,rfl,hcr,fun h=>by cases h⟩
end Go.Proofs.YtpofkokbmifhgaaGreatDoor
namespace Go.Proofs.YtpofkokbmifhgaaGreatDoor
open Go.RowKit
variable {o:Nat->Prop}
abbrev cTypeW:ByteArray:=⟨#[116,121,112,101]⟩
abbrev cVolumeW:ByteArray:=⟨#[118,111,108,117,109,101]⟩
abbrev cBindW:ByteArray:=⟨#[98,105,110,100]⟩
abbrev cReadOnlyW:ByteArray:=⟨#[114,101,97,100,95,111,110,108,121]⟩
def MountQ (x:T):Prop:=x.kind=5/\∃ y,tget cTarget x=some y/\y.kind=3
theorem known_get {words truths:List ByteArray} {x:T} (h5:x.kind=5) (h:Known words truths x x.keys.length) {k:ByteArray} (hk:k ∉ truths) (hs:(tget k x).isSome=true):∃ y,tget k x=some y/\y.kind=3:=by
 cases x <;> simp [T.kind] at h5
 rename_i m
 cases hg:tget k (.map m) with
 | none=>rw [hg] at hs; cases hs
 | some y=>
  refine ⟨y,rfl,?_⟩;have hm:(k,y)∈m:=get_some hg;obtain ⟨j,hj⟩:=List.getElem?_of_mem hm;have hjl:=(List.getElem?_eq_some_iff.1 hj).1
  have h1:(T.map m).keys[j]?=some k:=by simp [T.keys,hj]
  have h2:(T.map m).vals[j]?=some y:=by simp [T.vals,hj]
  rcases h j (by simp [T.keys]; omega) k y h1 h2 with h | h
  ·exact h.2
  ·exact absurd h.1 hk
theorem sayMounts_q (t:T) (v:Value) (w:World) (h:Rd o w t v) (hf:Fine t):Calls Tryz.prog 88 #[v] w (SomeQ (t.kind=4/\∀ x∈t.vals,MountQ x) w):=by
 obtain ⟨A3,q3,A4,q4,rfl,hk,hv⟩:=h.five;have hkl:=hf.len
 go_enter Tryz.func88,Tryz.ntmps88
 go_wp2
 go_loopg [3] t.vals.length (fun g i wr=>∃ n:Nat,n<=t.vals.length/\g=t.vals.length - n/\i=.int .i64 n/\Chg [] w wr/\wr.heap[w.heap.size]?=some (.cells #[.int .i64 t.kind,.int .i64 t.num,.string t.txt,.slice A3 t.keys.length q3,.slice A4 t.vals.length q4] 25)/\Hid (∀ j x,j < n->t.vals[j]?=some x->MountQ x))
 case atStart=>exact ⟨0,Nat.zero_le _,by omega,rfl,(Chg.refl [] w).al _,heap_alloc_new _ _,Lib.hid fun j x hj=>absurd hj (Nat.not_lt_zero _)⟩
 case round=>
  obtain ⟨n,hn,rfl,rfl,hcr,z1,hall⟩:=hrel;obtain ⟨a0,a1,a2,a3,a4,af⟩:=cells5 z1
  by_cases hlt:n < t.vals.length
  ·obtain ⟨x,hx⟩ : ∃ x,t.vals[n]?=some x:=⟨_,List.getElem?_eq_getElem hlt⟩
   obtain ⟨ge,c1,A5,q5,A6,q6,e1,hge,rx,ye⟩:=hv.elem hx
   cases e1
   have hfx:=hf.vals (List.mem_of_getElem? hx);have HX:=Lib.hid hx
   have hnv:n < t.vals.length:=by omega
   obtain ⟨y0,y1,y2,y3,y4⟩:=ye _ hcr;clear hx ye
   go_wp2_with fail
   obtain ⟨wa,hwa⟩ : ∃ wa,wa=wr.alloc (.cells #[.int .i64 x.kind,.int .i64 x.num,.string x.txt,.slice A5 x.keys.length q5,.slice A6 x.vals.length q6] 25):=⟨_,rfl⟩
   rw [<- hwa]
   have hca:Chg [] w wa:=by rw [hwa]; exact hcr.al _
   have za:wa.heap[wr.heap.size]?=some (.cells #[.int .i64 x.kind,.int .i64 x.num,.string x.txt,.slice A5 x.keys.length q5,.slice A6 x.vals.length q6] 25):=by rw [hwa]; exact heap_alloc_new _ _
   have zb:=(heap_alloc_old wr (.cells #[.int .i64 x.kind,.int .i64 x.num,.string x.txt,.slice A5 x.keys.length q5,.slice A6 x.vals.length q6] 25) _ (Array.getElem?_eq_some_iff.1 z1).1).trans z1;rw [<- hwa] at zb;clear hwa a0 a1 a2 a3 a4 af y0 y1 y2 y3 y4;refine (get_any x _ _ _ (rx.chg hca) hfx.wf.srt hfx.len.2.2).mono ?_;rintro e w1 ⟨v',rfl,hc,hr⟩;obtain ⟨A7,q7,A8,q8,rfl,_⟩:=hr.five
   obtain ⟨y,hy⟩ : ∃ y,y=(tget cTypeW x).getD .null:=⟨_,rfl⟩
   have hfy:Fine y:=by rw [hy]; exact hfx.getD _
   obtain ⟨bq,hbq⟩ : ∃ bq,bq=(tget cTypeW x).isSome:=⟨_,rfl⟩
   have hxx:(tget ⟨#[116,121,112,101]⟩ x).getD .null=y:=hy.symm;have hbb:(tget ⟨#[116,121,112,101]⟩ x).isSome=bq:=hbq.symm;rw [hbb];rw [hxx] at hr ⊢;clear hy hbq hxx hbb hr;have hc1:=hca.trans hc New.nil;have za1:=box5 za _ hc;have zb1:=box5 zb _ hc;clear hc za zb;obtain ⟨d0,d1,d2,d3,d4,df⟩:=cells5 za1;have f0:=cell_al d0;have f1:=cell_al d1;have f2:=cell_al d2;have f3:=cell_al d3;have f4:=cell_al d4
   go_wp2_with fail
   obtain ⟨wc,hwc⟩ : ∃ wc,wc=w1.alloc (.cells #[.int .i64 y.kind,.int .i64 y.num,.string y.txt,.slice A7 y.keys.length q7,.slice A8 y.vals.length q8] 25):=⟨_,rfl⟩
   rw [<- hwc]
   have hsz:w1.heap.size+1=wc.heap.size:=by rw [hwc]; simp
   rw [hsz]
   have hszl:w1.heap.size < wc.heap.size:=by omega
   clear hsz
   have hcc:Chg [] w wc:=by rw [hwc]; exact hc1.al _
   have zy:wc.heap[w1.heap.size]?=some (.cells #[.int .i64 y.kind,.int .i64 y.num,.string y.txt,.slice A7 y.keys.length q7,.slice A8 y.vals.length q8] 25):=by rw [hwc]; exact heap_alloc_new _ _
   have za2:wc.heap[wr.heap.size]?=some (.cells #[.int .i64 x.kind,.int .i64 x.num,.string x.txt,.slice A5 x.keys.length q5,.slice A6 x.vals.length q6] 25):=by rw [hwc]; exact (heap_alloc_old _ _ _ (Array.getElem?_eq_some_iff.1 za1).1).trans za1
   have zb2:=(heap_alloc_old w1 (.cells #[.int .i64 y.kind,.int .i64 y.num,.string y.txt,.slice A7 y.keys.length q7,.slice A8 y.vals.length q8] 25) _ (Array.getElem?_eq_some_iff.1 zb1).1).trans zb1;rw [<- hwc] at zb2;clear hwc d0 d1 d2 d3 d4 df za1 zb1 f0 f1 f2 f3 f4;refine (sayKnown_any (o:=fun _=>True) x _ [cTypeW,cSource,cTarget] [cReadOnlyW] _ _ _ ((rx.weak (fun _ _=>trivial)).chg ((hcc.al _).al _)) ((RdK.lit [cTypeW,cSource,cTarget] (heap_al1 wc _ _) rfl)) (RdK.lit [cReadOnlyW] (heap_al2 wc _ _) rfl) (fun y hy=>(hfx.vals hy).txt) hfx.len.1 (by decide) (by decide)).mono ?_;rintro e w3 ⟨b,rfl,hc3,hq3⟩;have HQ:=Lib.hid hq3;have hcw3:=((hcc.al _).al _).trans hc3 New.nil
   have old2:∀ {B:Nat} {ob:Obj},wc.heap[B]?=some ob->∀ o1 o2,((wc.alloc o1).alloc o2).heap[B]?=some ob:=fun h o1 o2=>(heap_alloc_old _ _ _ (by have:=(Array.getElem?_eq_some_iff.1 h).1; simp; omega)).trans ((heap_alloc_old _ _ _ (Array.getElem?_eq_some_iff.1 h).1).trans h)
   have zy3:=box5 (old2 zy _ _) _ hc3;have za3:=box5 (old2 za2 _ _) _ hc3;have zb3:=box5 (old2 zb2 _ _) _ hc3;clear hq3 hc3 old2 zy za2 zb2
   cases b
   ·cases bq
    all_goals
     go_wp2
     go_ret
     exact ⟨_,rfl,hcw3,fun h=>by cases h⟩
   cases bq
   ·go_wp2
    go_ret
    exact ⟨_,rfl,hcw3,fun h=>by cases h⟩
   obtain ⟨d0,d1,d2,d3,d4,df⟩:=cells5 zy3
   go_wp2_with fail
   refine (sayIn_any (o:=fun _=>True) _ [cVolumeW,cBindW] _ _ (RdK.lit [cVolumeW,cBindW] (heap_alloc_new w3 _) rfl) (by decide)).mono ?_;rintro e w4 ⟨rfl,hw4⟩
   obtain ⟨b2,hb2⟩ : ∃ b2,b2=decide (y.txt∈[cVolumeW,cBindW]):=⟨_,rfl⟩
   rw [<- hb2]
   have hcw4:Chg [] w w4:=by rw [<- hw4]; exact hcw3.al _
   have za4:w4.heap[wr.heap.size]?=some (.cells #[.int .i64 x.kind,.int .i64 x.num,.string x.txt,.slice A5 x.keys.length q5,.slice A6 x.vals.length q6] 25):=by rw [<- hw4]; exact (heap_alloc_old _ _ _ (Array.getElem?_eq_some_iff.1 za3).1).trans za3
   have zb4:=(heap_alloc_old w3 (.cells #[.string cVolumeW,.string cBindW] 9) _ (Array.getElem?_eq_some_iff.1 zb3).1).trans zb3;rw [show w3.alloc (.cells #[.string cVolumeW,.string cBindW] 9)=w4 from hw4] at zb4;clear hb2 hw4 d0 d1 d2 d3 d4 df za3 zb3 zy3
   cases b2
   ·go_wp2
    go_ret
    exact ⟨_,rfl,hcw4,fun h=>by cases h⟩
   obtain ⟨d0,d1,d2,d3,d4,df⟩:=cells5 za4
   go_wp2_with fail
   refine (has_any x _ _ _ (rx.chg hcw4) hfx.wf.srt hfx.len.2.2).mono ?_;rintro e w5 ⟨rfl,hc5⟩
   obtain ⟨b3,hb3⟩ : ∃ b3,b3=(tget cTarget x).isSome:=⟨_,rfl⟩
   have hbb:(tget ⟨#[116,97,114,103,101,116]⟩ x).isSome=b3:=hb3.symm;rw [hbb];have HB3:=Lib.hid hb3;have hcw5:=hcw4.trans hc5 New.nil;have za5:=box5 za4 _ hc5;have zb5:=box5 zb4 _ hc5;clear hb3 hbb hc5 za4 zb4 d0 d1 d2 d3 d4 df
   cases b3
   ·go_wp2
    go_ret
    exact ⟨_,rfl,hcw5,fun h=>by cases h⟩
   obtain ⟨d0,d1,d2,d3,d4,df⟩:=cells5 za5
   go_wp2_with fail
   refine (has_any x _ _ _ (rx.chg hcw5) hfx.wf.srt hfx.len.2.2).mono ?_;rintro e w6 ⟨rfl,hc6⟩;generalize (tget _ x).isSome=b4;have hcw6:=hcw5.trans hc6 New.nil;have zb6:=box5 zb5 _ hc6;clear hc6 za5 zb5 d0 d1 d2 d3 d4 df
   cases b4
   ·go_wp2
    go_ret
    exact ⟨_,rfl,hcw6,fun h=>by cases h⟩
   go_wp2
   go_roundg (t.vals.length - (n+1))
   case measure=>omega
   case rel=>exact ⟨n+1,by omega,rfl,by go_num,hcw6,zb6,Lib.hid fun j y hj hy=>by
    rcases Nat.lt_succ_iff_lt_or_eq.1 hj with h | rfl
    ·exact hall.out j y h hy
    ·rw [HX.out] at hy
     cases hy
     have hq:=HQ.out (by first | rfl | trivial)
     exact ⟨hq.1,known_get hq.1 hq.2.2 (by decide +kernel) HB3.out.symm⟩⟩
  ·have hq:Hid (∀ x∈t.vals,MountQ x):=Lib.hid fun x hx=>by
    obtain ⟨j,hj⟩:=List.getElem?_of_mem hx;exact hall.out j x (by have:=(List.getElem?_eq_some_iff.1 hj).1; omega) hj
   by_cases hk4:t.kind=4
   ·have HK4:=Lib.hid hk4
    go_wp2
    all_goals (go_ret; first | exact ⟨_,rfl,hcr,fun _=>⟨HK4.out,hq.out⟩⟩ | exact ⟨_,rfl,hcr,fun h=>by cases h⟩)
   ·go_wp2
    all_goals (go_ret; exact ⟨_,rfl,hcr,fun h=>by cases h⟩)
end Go.Proofs.YtpofkokbmifhgaaGreatDoor
