/- Parts of the walk, made small by wip/tools/pack.py: Raw. No condition but those in each statement. -/
import Derived.Test.YtpofkokbmifhgaaGreatDoorK08
import Derived.Test.YtpofkokbmifhgaaGreatDoorK06
import Derived.Test.YtpofkokbmifhgaaGreatDoorK10
import Derived.ChangeArms
set_option maxRecDepth 100000
set_option maxHeartbeats 20000000
set_option linter.unusedVariables false
set_option linter.unusedSimpArgs false
namespace Go.Proofs.YtpofkokbmifhgaaGreatDoor
open Go.RowKit
variable {o:Nat->Prop}
inductive Raw where
 | mk (kind num:Int) (txt:ByteArray) (keys:List ByteArray) (vals:List Raw)
 deriving Inhabited
def Raw.kind:Raw->Int | .mk k _ _ _ _=>k
def Raw.num:Raw->Int | .mk _ n _ _ _=>n
def Raw.txt:Raw->ByteArray | .mk _ _ s _ _=>s
def Raw.keys:Raw->List ByteArray | .mk _ _ _ ks _=>ks
def Raw.vals:Raw->List Raw | .mk _ _ _ _ vs=>vs
mutual
def Raw.size:Raw->Nat
 | .mk _ _ _ _ vs=>1+Raw.sizeL vs
def Raw.sizeL:List Raw->Nat
 | []=>0
 | r :: l=>Raw.size r+Raw.sizeL l
end
mutual
def WFR (B:Nat):Raw->Prop
 | .mk _ n s ks vs=>s.size<=B/\ks.length<=B/\vs.length<=B/\(∀ k∈ks,k.size<=B)/\(-9223372036854775808<=n/\n<=9223372036854775807)/\WFRL B vs
def WFRL (B:Nat):List Raw->Prop
 | []=>True
 | r :: l=>WFR B r/\WFRL B l
end
theorem WFRL_iff {B:Nat}:∀ {l:List Raw},WFRL B l ↔ ∀ x∈l,WFR B x
 | []=>by simp [WFRL]
 | t :: l=>by simp [WFRL,WFRL_iff (l:=l)]
theorem Raw.sizeL_at {l:List Raw} {j:Nat} {t:Raw} (h:l[j]?=some t):Raw.size t<=Raw.sizeL l:=by
 induction l generalizing j with
 | nil=>simp at h
 | cons x l ih=>
  cases j with
  | zero=>
   simp at h
   subst h
   simp only [Raw.sizeL]
   omega
  | succ j=>
   simp at h
   have:=ih h
   simp only [Raw.sizeL]
   omega
theorem Raw.size_vals (r:Raw):Raw.size r=1+Raw.sizeL r.vals:=by cases r; rfl
def RkO (w:World) (ks:List ByteArray) (v:Value):Prop:=∃ A c,v=.slice A ks.length c/\ks.length<=c/\(0 < ks.length->∃ g off,A=some ⟨g,off,none⟩/\∀ j s,ks[j]?=some s->w.cell? ⟨g,off+j,none⟩=some (.string s))
mutual
def RdR (w:World):Raw->Value->Prop
 | .mk k n s ks vs,v=>∃ ka A c,v=.agg #[.int .i64 k,.int .i64 n,.string s,ka,.slice A vs.length c]/\RkO w ks ka/\vs.length<=c/\(0 < vs.length->∃ g off,A=some ⟨g,off,none⟩/\RdRL w g off vs 0)
def RdRL (w:World) (g off:Nat):List Raw->Nat->Prop
 | [],_=>True
 | r :: l,j=>(∃ v,RdR w r v/\∀ i u,v.cells[i]?=some u->w.cell? ⟨g,off+j * 5+i,none⟩=some u)/\RdRL w g off l (j+1)
end
theorem RkO.chg {w w':World} {ks:List ByteArray} {v:Value} (h:RkO w ks v) (hc:Chg [] w w'):RkO w' ks v:=by
 obtain ⟨A,c,rfl,hlc,h⟩:=h
 refine ⟨A,c,rfl,hlc,fun h0=>?_⟩
 obtain ⟨g,off,rfl,hg⟩:=h h0
 exact ⟨g,off,rfl,fun j s hs=>(World.cell?_of_block (a:=⟨g,off+j,none⟩) (hc.block g (World.block_lt_of_cell? w _ (hg j s hs)) (by simp))).trans (hg j s hs)⟩
mutual
theorem RdR.chg {w w':World} (hc:Chg [] w w'):∀ {r:Raw} {v:Value},RdR w r v->RdR w' r v
 | .mk k n s ks vs,v,h=>by
  simp only [RdR] at h ⊢
  obtain ⟨ka,A,c,rfl,hk,hlc,h⟩:=h
  refine ⟨ka,A,c,rfl,hk.chg hc,hlc,fun h0=>?_⟩
  obtain ⟨g,off,rfl,hg⟩:=h h0
  exact ⟨g,off,rfl,RdRL.chg hc hg⟩
theorem RdRL.chg {w w':World} (hc:Chg [] w w') {g off:Nat}:∀ {l:List Raw} {j:Nat},RdRL w g off l j->RdRL w' g off l j
 | [],_,_=>by simp [RdRL]
 | r :: l,j,h=>by
  simp only [RdRL] at h ⊢
  obtain ⟨⟨v,h1,h2⟩,h3⟩:=h
  exact ⟨⟨v,RdR.chg hc h1,fun i u hu=>(World.cell?_of_block (a:=⟨g,off+j * 5+i,none⟩) (hc.block g (World.block_lt_of_cell? w _ (h2 i u hu)) (by simp))).trans (h2 i u hu)⟩,RdRL.chg hc h3⟩
end
mutual
theorem RdR.low {w w':World} (hc:∀ b,b < w.heap.size->w'.heap[b]?=w.heap[b]?):∀ {r:Raw} {v:Value},RdR w r v->RdR w' r v
 | .mk k n s ks vs,v,h=>by
  simp only [RdR] at h ⊢
  obtain ⟨ka,A,c,rfl,⟨A3,c3,rfl,hlc3,hk⟩,hlc,h⟩:=h
  refine ⟨_,A,c,rfl,⟨A3,c3,rfl,hlc3,fun h0=>?_⟩,hlc,fun h0=>?_⟩
  ·obtain ⟨g,off,rfl,hg⟩:=hk h0
   exact ⟨g,off,rfl,fun j s hs=>(World.cell?_of_block (a:=⟨g,off+j,none⟩) (hc g (World.block_lt_of_cell? w _ (hg j s hs)))).trans (hg j s hs)⟩
  ·obtain ⟨g,off,rfl,hg⟩:=h h0
   exact ⟨g,off,rfl,RdRL.low hc hg⟩
theorem RdRL.low {w w':World} (hc:∀ b,b < w.heap.size->w'.heap[b]?=w.heap[b]?) {g off:Nat}:∀ {l:List Raw} {j:Nat},RdRL w g off l j->RdRL w' g off l j
 | [],_,_=>by simp [RdRL]
 | r :: l,j,h=>by
  simp only [RdRL] at h ⊢
  obtain ⟨⟨v,h1,h2⟩,h3⟩:=h
  exact ⟨⟨v,RdR.low hc h1,fun i u hu=>(World.cell?_of_block (a:=⟨g,off+j * 5+i,none⟩) (hc g (World.block_lt_of_cell? w _ (h2 i u hu)))).trans (h2 i u hu)⟩,RdRL.low hc h3⟩
end
theorem RdRL.at_ {w:World} {g off:Nat}:∀ {l:List Raw} {j0 j:Nat} {t:Raw},RdRL w g off l j0->l[j]?=some t->∃ v,RdR w t v/\∀ i u,v.cells[i]?=some u->w.cell? ⟨g,off+(j0+j) * 5+i,none⟩=some u
 | [],_,_,_,_,h=>by simp at h
 | x :: l,j0,0,t,h,hj=>by
  simp only [RdRL] at h
  simp at hj
  subst hj
  exact h.1
 | x :: l,j0,j+1,t,h,hj=>by
  simp only [RdRL] at h
  simp at hj
  obtain ⟨v,h1,h2⟩:=RdRL.at_ h.2 hj
  exact ⟨v,h1,fun i u hu=>by have:=h2 i u hu; rwa [show j0+1+j=j0+(j+1) by omega] at this⟩
theorem RdR.five {w:World} {r:Raw} {v:Value} (h:RdR w r v):∃ A3 q3 A4 q4,v=.agg #[.int .i64 r.kind,.int .i64 r.num,.string r.txt,.slice A3 r.keys.length q3,.slice A4 r.vals.length q4]/\RkO w r.keys (.slice A3 r.keys.length q3) /\
  r.vals.length<=q4/\(0 < r.vals.length->∃ g off,A4=some ⟨g,off,none⟩/\RdRL w g off r.vals 0):=by
 cases r with
 | mk k n s ks vs=>
  simp only [RdR] at h
  obtain ⟨ka,A,c,rfl,⟨A3,q3,rfl,h1,h2⟩,hlc,h⟩:=h
  exact ⟨A3,q3,A,c,rfl,⟨A3,q3,rfl,h1,h2⟩,hlc,h⟩
theorem RkO.elem {w:World} {l:List ByteArray} {A:Option Addr} {n q:Nat} {s:ByteArray} (hv:RkO w l (.slice A l.length q)) (hx:l[n]?=some s):∃ g off,A=some ⟨g,off,none⟩/\g < w.heap.size/\l.length<=q/\∀ W,Chg [] w W->W.cell? ⟨g,off+n,none⟩=some (.string s):=by
 obtain ⟨A',c,e,hc,k0⟩:=hv
 injection e with e1 e2 e3
 subst e1; subst e3
 have hlt:n < l.length:=(List.getElem?_eq_some_iff.1 hx).1
 obtain ⟨g,off,rfl,hg⟩:=k0 (by omega)
 have h1:=hg n s hx
 have hgl:g < w.heap.size:=World.block_lt_of_cell? w _ h1
 exact ⟨g,off,rfl,hgl,hc,fun W hc=>(hc.cells.1 _ _ hgl).trans h1⟩
theorem fits2_any (ks:List ByteArray) (v:Value) (w:World) (h:RkO w ks v) (hl:ks.length<=67108864):Calls Tryz.prog 22 #[v] w (SomeB w):=by
 obtain ⟨A,c,rfl,hlc,hk⟩:=h
 have HK:Hid (RkO w ks (.slice A ks.length c)):=Lib.hid ⟨A,c,rfl,hlc,hk⟩
 clear hk
 go_enter Tryz.func22,Tryz.ntmps22
 go_wp2_with fail
 go_loopg [10] ks.length (fun g i wr=>∃ n:Nat,n<=ks.length/\g=ks.length - n/\i=.int .i64 n/\wr=w)
 case atStart=>exact ⟨0,Nat.zero_le _,by omega,rfl,rfl⟩
 case round=>
  obtain ⟨n,hn,rfl,rfl,rfl⟩:=hrel
  by_cases hlt:n < ks.length
  ·obtain ⟨s,hs⟩ : ∃ s,ks[n]?=some s:=⟨_,List.getElem?_eq_getElem hlt⟩
   obtain ⟨g,off,rfl,hg,_,hcell⟩:=HK.out.elem hs
   have c0:=hcell _ (Chg.refl _ _)
   clear hs hcell
   by_cases h2:s.size<=2147483647
   ·have h2b:¬ 2147483647 < s.size:=by omega
    go_wp2_with fail
    go_roundg (ks.length - (n+1))
    case measure=>omega
    case rel=>exact ⟨n+1,by omega,rfl,by go_num,rfl⟩
   ·have h2b:2147483647 < s.size:=by omega
    go_wp2_with fail
    go_ret
    exact ⟨false,rfl,Chg.refl _ _⟩
  ·go_wp2_with fail
   go_ret
   exact ⟨true,rfl,Chg.refl _ _⟩
theorem fits1_any (r:Raw) (v:Value) (w:World) (h:RdR w r v) (hw:WFR 67108864 r):Calls Tryz.prog 8 #[v] w (SomeB w):=by
 obtain ⟨A3,q3,A4,q4,rfl,hk,hlc,hv⟩:=h.five
 obtain ⟨h1,h2,h3⟩ : r.txt.size<=67108864/\r.keys.length<=67108864/\r.vals.length<=67108864:=by
  cases r
  simp only [WFR] at hw
  exact ⟨hw.1,hw.2.1,hw.2.2.1⟩
 have HK:=Lib.hid hk
 have t1:¬ 2147483647 < r.txt.size:=by omega
 have t2:¬ 2147483647 < r.vals.length:=by omega
 clear hk hv
 go_enter Tryz.func8,Tryz.ntmps8
 go_wp2_with fail
 refine (fits2_any r.keys _ _ (HK.out.chg ((Chg.refl [] w).al _)) h2).mono ?_
 rintro e w1 ⟨b,rfl,hc⟩
 have z1:=box5 (heap_alloc_new w (.cells #[.int .i64 r.kind,.int .i64 r.num,.string r.txt,.slice A3 r.keys.length q3,.slice A4 r.vals.length q4] 25)) _ hc
 have hcw:Chg [] w w1:=((Chg.refl [] w).al _).trans hc New.nil
 obtain ⟨d0,d1,d2,d3,d4,df⟩:=cells5 z1
 have HC:=Lib.hid hcw
 clear hc hcw z1
 cases b
 all_goals
  go_wp2_with fail
  go_ret
  exact ⟨_,rfl,HC.out⟩
end Go.Proofs.YtpofkokbmifhgaaGreatDoor
