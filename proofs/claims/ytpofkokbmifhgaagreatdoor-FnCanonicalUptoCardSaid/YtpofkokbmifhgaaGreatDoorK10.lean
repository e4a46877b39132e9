/- Parts of the walk, made small by wip/tools/pack.py: M, Tail, Path. No condition but those in each statement. -/
import Derived.Test.YtpofkokbmifhgaaGreatDoorK07
import Derived.Test.YtpofkokbmifhgaaGreatDoorK08
set_option maxRecDepth 100000
set_option maxHeartbeats 20000000
set_option linter.unusedVariables false
set_option linter.unusedSimpArgs false
namespace Go.Proofs.YtpofkokbmifhgaaGreatDoor
open Go.RowKit
variable {o:Nat->Prop}
@[go_sem] theorem tb_spec (v:Value) (w:World):(Instr.typeAssert (.iface 25 v) 20 25 false).run Tryz.prog w=.ok v w:=by kernel_rfl
def OffB (o:Nat->Prop) (B1 B2 b:Nat):Prop:=o b/\b≠B1/\b≠B2
def insAll (l:List (ByteArray × T)):List (ByteArray × T):=l.foldl (fun m p=>mins p.1 p.2 m) []
theorem foldl_srt:∀ (l:List (ByteArray × T)) (m:List (ByteArray × T)),Srt m->Srt (l.foldl (fun m p=>mins p.1 p.2 m) m)
 | [],_,h=>h
 | p :: l,_,h=>foldl_srt l _ h.srt_ins
theorem insAll_srt {l:List (ByteArray × T)}:Srt (insAll l):=foldl_srt l [] List.Pairwise.nil
theorem insAll_snoc {l:List (ByteArray × T)} {n:Nat} {p:ByteArray × T} (h:l[n]?=some p):insAll (l.take (n+1))=mins p.1 p.2 (insAll (l.take n)):=by
 rw [take_snoc h]
 simp [insAll]
theorem ins_len_le {α:Type} {k:ByteArray} {x:α}:∀ {m:List (ByteArray × α)},(mins k x m).length<=m.length+1
 | []=>by simp [mins]
 | p :: m=>by
  unfold mins
  split
  ·simp
  ·split
   ·have:=ins_len_le (k:=k) (x:=x) (m:=m)
    simp
    omega
   ·simp
theorem foldl_len:∀ (l:List (ByteArray × T)) (m:List (ByteArray × T)),(l.foldl (fun m p=>mins p.1 p.2 m) m).length<=m.length+l.length
 | [],_=>by simp
 | p :: l,m=>by
  have h1:=foldl_len l (mins p.1 p.2 m)
  have h2:=ins_len_le (k:=p.1) (x:=p.2) (m:=m)
  simp only [List.foldl_cons,List.length_cons]
  omega
theorem insAll_len (l:List (ByteArray × T)):(insAll l).length<=l.length:=by have:=foldl_len l []; simpa [insAll] using this
theorem Rd.five_map {w:World} {m:List (ByteArray × T)} {v:Value} (h:Rd o w (.map m) v):∃ A3 q3 A4 q4,v=.agg #[.int .i64 5,.int .i64 0,.string ⟨#[]⟩,.slice A3 m.length q3,.slice A4 m.length q4]:=by
 obtain ⟨A3,q3,A4,q4,rfl,_⟩:=h.five
 exact ⟨A3,q3,A4,q4,by simp [T.kind,T.num,T.txt,T.keys,T.vals]⟩
theorem store5 {F:List Nat} {w0 w:World} {B:Nat} {e:TypeId} {a0 a1 a2 a3 a4:Value} (h:w.heap[B]?=some (.cells #[a0,a1,a2,a3,a4] e)) (hc:Chg F w0 w) (hB:w0.heap.size<=B) (b0 b1 b2 b3 b4:Value) :
  ∃ W,W=(((((w.setCell ⟨B,0,none⟩ b0).setCell ⟨B,1,none⟩ b1).setCell ⟨B,2,none⟩ b2).setCell ⟨B,3,none⟩ b3).setCell ⟨B,4,none⟩ b4)/\W.heap[B]?=some (.cells #[b0,b1,b2,b3,b4] e)/\(∀ g,g≠B->W.heap[g]?=w.heap[g]?)/\Chg F w0 W/\W.heap.size=w.heap.size:=
 ⟨_,rfl,setCells5 w B b0 b1 b2 b3 b4 h,setCells5_ne w B b0 b1 b2 b3 b4,setCells5_chg hc hB b0 b1 b2 b3 b4,by simp⟩
theorem specM (l:List (ByteArray × T)) (ga C:Nat) (w:World) (hga:ga < w.heap.size) (hrow:∀ j k x,l[j]?=some (k,x)->w.cell? ⟨ga,2 * j,none⟩=some (.iface 9 (.string k))/\∃ v,w.cell? ⟨ga,2 * j+1,none⟩=some (.iface 25 v)/\Rd o w x v)
  (hl:l.length<=33554432) (hno:∀ b,w.heap.size<=b->o b) :
  Calls Tryz.prog 44 #[.slice (some ⟨ga,0,none⟩) (2 * l.length) C] w fun e w'=>∃ v,e=.returned v/\Chg [] w w'/\Rd o w' (.map (insAll l)) v:=by
 have HROW:=Lib.hid hrow
 clear hrow
 obtain ⟨L,hL⟩ : ∃ L,L=2 * l.length:=⟨_,rfl⟩
 rw [<- hL]
 have HL:=Lib.hid hL
 clear hL
 go_enter Tryz.func44,Tryz.ntmps44
 go_wp2_with fail
 refine (specEmpty (o:=OffB o w.heap.size w.heap.size) _).mono ?_
 rintro e w1 ⟨v0,rfl,hc1,hr0⟩
 obtain ⟨A3,q3,A4,q4,rfl⟩:=hr0.five_map
 have hcw:=((Chg.refl [] w).al _).trans hc1 New.nil
 have z1:=box5 (heap_alloc_new w (.cells #[.int .i64 0,.int .i64 0,.string ⟨#[]⟩,.slice none 0 0,.slice none 0 0] 25)) _ hc1
 have hsz:w.heap.size+1<=w1.heap.size:=by have:=hc1.size; simpa using this
 clear hc1
 have HR0:=Lib.hid hr0
 clear hr0
 go_wp2
 go_loopg [4] l.length (fun g i wr=>∃ (n i':Nat) (m:List (ByteArray × T)) (A3:Option Addr) (q3:Nat) (A4:Option Addr) (q4:Nat),n<=l.length/\i'=2 * n/\g=l.length - n/\i=.int .i64 i'/\Chg [] w wr/\m=insAll (l.take n) /\
  wr.heap[w1.heap.size]?=some (.cells #[.int .i64 5,.int .i64 0,.string ⟨#[]⟩,.slice A3 m.length q3,.slice A4 m.length q4] 25) /\
  wr.heap[w.heap.size]?=some (.cells #[.int .i64 0,.int .i64 0,.string ⟨#[]⟩,.slice none 0 0,.slice none 0 0] 25) /\
  Rd (OffB o w1.heap.size w.heap.size) wr (.map m) (.agg #[.int .i64 5,.int .i64 0,.string ⟨#[]⟩,.slice A3 m.length q3,.slice A4 m.length q4]))
 case atStart=>
  refine ⟨0,0,[],A3,q3,A4,q4,Nat.zero_le _,rfl,by omega,rfl,hcw.al _,rfl,heap_alloc_new _ _,(heap_alloc_old _ _ _ (by omega)).trans z1,?_⟩
  exact HR0.out.to fun b hb ho=>⟨⟨ho.1,by omega,ho.2.1⟩,heap_alloc_old _ _ _ hb⟩
 case round=>
  obtain ⟨n,i,m,A3,q3,A4,q4,hn,hi,rfl,rfl,hcr,hm,q1,z2,hr⟩:=hrel
  have hsB:w1.heap.size < wr.heap.size:=(Array.getElem?_eq_some_iff.1 q1).1
  have hbw:w.heap.size < w1.heap.size:=by omega
  have HR:=Lib.hid hr
  clear hr
  obtain ⟨a0,a1,a2,a3,a4,af⟩:=cells5 q1
  by_cases hlt:n < l.length
  ·obtain ⟨p,hp⟩ : ∃ p,l[n]?=some p:=⟨_,List.getElem?_eq_getElem hlt⟩
   obtain ⟨k,x⟩:=p
   obtain ⟨hk0,vx,hk1,rx⟩:=HROW.out n k x hp
   obtain ⟨A5,q5,A6,q6,rfl,_⟩:=rx.five
   rw [<- hi] at hk0 hk1
   have hiL:(decide ((i:Int)+1 < (L:Int)))=true:=by have:=HL.out; simp; omega
   have hiL2:i < L/\i+1 < L:=by have:=HL.out; omega
   have hi64:i<=67108864:=by omega
   have HM:=Lib.hid (And.intro hm hp)
   have HI:=Lib.hid hi
   clear hm hp hi
   go_wp2
   rename_i K hK
   have HK:=Lib.hid hK
   clear hK a0 a1 a2 a3 a4 af
   refine wp_region_call (by rfl) (by kernel_rfl) [0,3,4] (by kernel_rfl) 1 (by decide) []
     (fun j u V=>match j with
      | 0=>u=.agg #[.int .i64 5,.int .i64 0,.string ⟨#[]⟩,.slice A3 m.length q3,.slice A4 m.length q4]
      | 1=>u=.slice (some ⟨ga,0,none⟩) L C
      | 2=>u=.int .i64 ↑i
      | 3=>u=.pointer (some ⟨ga,i,none⟩)
      | 4=>u=.iface 9 (.string k)
      | 5=>u=.string k
      | 6=>u=.slice (some ⟨ga,0,none⟩) L C
      | 7=>u=.int .i64 ↑i
      | 8=>u=.int .i64 (↑i+1)
      | 9=>u=.pointer (some ⟨ga,i+1,none⟩)
      | 10=>u=.iface 25 (.agg #[.int .i64 x.kind,.int .i64 x.num,.string x.txt,.slice A5 x.keys.length q5,.slice A6 x.vals.length q6])
      | 11=>u=.agg #[.int .i64 x.kind,.int .i64 x.num,.string x.txt,.slice A5 x.keys.length q5,.slice A6 x.vals.length q6]
      | 12=>Rd (OffB o w1.heap.size w.heap.size) V (.map (mins k x m)) u
      | _=>True) ?_ ?_ ?_ ?_ ?_
   ·intro j u V V' hc hφ
    rcases j with _ | _ | _ | _ | _ | _ | _ | _ | _ | _ | _ | _ | _ | j
    all_goals first | exact hφ | skip
    exact Rd.chg hφ hc
   ·intro j u V V' _ hc hφ
    rcases j with _ | _ | _ | _ | _ | _ | _ | _ | _ | _ | _ | _ | _ | j
    all_goals first | exact hφ | skip
    exact Rd.chg hφ hc
   ·intro j oo hj hj1 ho a' w' hst hch hwt hdep K2 hK2
    have hsz:wr.heap.size<=w'.heap.size:=hch.size
    have hcrw:=hcr.trans ((Chg.refl [] _).dr.trans hch New.nil) New.nil
    obtain ⟨b0,b1,b2,b3,b4,bf⟩:=cells5 ((hch.block w1.heap.size (by show w1.heap.size < wr.heap.size; omega) (by simp)).trans q1)
    have y0:=(hcrw.cells.1 _ _ hga).trans hk0
    have y1:=(hcrw.cells.1 _ _ hga).trans hk1
    have rm:Rd (OffB o w1.heap.size w.heap.size) w' (.map m) _:=Rd.mono (w:=wr) (fun b hb _=>hch.block b hb (by simp)) HR.out
    have rx':Rd (OffB o w1.heap.size w.heap.size) w' x _:=rx.to fun b hb ho=>⟨⟨ho,by omega,by omega⟩,hcrw.block b hb (by simp)⟩
    have hsm:Srt m:=by rw [HM.out.1]; exact insAll_srt
    have hml:m.length<=67108864:=by
     rw [HM.out.1]
     have:=insAll_len (l.take n)
     have:=List.length_take_le n l
     omega
    have RM:=Lib.hid (And.intro rm (And.intro rx' (And.intro hsm hml)))
    clear rm rx' hsm hml
    have hiL3:(i:Int)+1 < (L:Int)/\0<=(i:Int)+1:=by omega
    obtain ⟨hiL4,hiL5⟩:=hiL3
    have hj':j < 13:=hj
    rcases j with _ | _ | _ | _ | _ | _ | _ | _ | _ | _ | _ | _ | _ | j
    ·obtain rfl:_=oo:=Option.some.inj ho
     have h3:=g_eq (t:=3) (v:=.pointer (some ⟨w1.heap.size,0,none⟩)) (hst 3 (by simp))
     unfold Oper.wp
     go_simp
     exact ⟨_,rfl,hK2 _ _ (Chg.refl _ _) rfl⟩
    ·obtain rfl:_=oo:=Option.some.inj ho
     have h0:=g_eq (t:=0) (v:=.slice (some ⟨ga,0,none⟩) L C) (hst 0 (by simp))
     unfold Oper.wp
     go_simp
     exact ⟨_,rfl,hK2 _ _ (Chg.refl _ _) rfl⟩
    ·obtain rfl:_=oo:=Option.some.inj ho
     have h4:=g_eq (t:=4) (v:=.int .i64 ↑i) (hst 4 (by simp))
     unfold Oper.wp
     go_simp
     exact ⟨_,rfl,hK2 _ _ (Chg.refl _ _) rfl⟩
    ·obtain rfl:_=oo:=Option.some.inj ho
     have h14:=g_eq (t:=14) (v:=.slice (some ⟨ga,0,none⟩) L C) (hdep 1 (by kernel_rfl))
     have h15:=g_eq (t:=15) (v:=.int .i64 ↑i) (hdep 2 (by kernel_rfl))
     unfold Oper.wp
     go_simp
     exact ⟨_,rfl,hK2 _ _ (Chg.refl _ _) rfl⟩
    ·obtain rfl:_=oo:=Option.some.inj ho
     have h16:=g_eq (t:=16) (v:=.pointer (some ⟨ga,i,none⟩)) (hdep 3 (by kernel_rfl))
     unfold Oper.wp
     go_simp
     exact ⟨_,rfl,hK2 _ _ (Chg.refl _ _) rfl⟩
    ·obtain rfl:_=oo:=Option.some.inj ho
     have h17:=g_eq (t:=17) (v:=.iface 9 (.string k)) (hdep 4 (by kernel_rfl))
     unfold Oper.wp
     go_simp
     exact ⟨_,rfl,hK2 _ _ (Chg.refl _ _) rfl⟩
    ·obtain rfl:_=oo:=Option.some.inj ho
     have h0:=g_eq (t:=0) (v:=.slice (some ⟨ga,0,none⟩) L C) (hst 0 (by simp))
     unfold Oper.wp
     go_simp
     exact ⟨_,rfl,hK2 _ _ (Chg.refl _ _) rfl⟩
    ·obtain rfl:_=oo:=Option.some.inj ho
     have h4:=g_eq (t:=4) (v:=.int .i64 ↑i) (hst 4 (by simp))
     unfold Oper.wp
     go_simp
     exact ⟨_,rfl,hK2 _ _ (Chg.refl _ _) rfl⟩
    ·obtain rfl:_=oo:=Option.some.inj ho
     have h20:=g_eq (t:=20) (v:=.int .i64 ↑i) (hdep 7 (by kernel_rfl))
     unfold Oper.wp
     go_simp
     refine ⟨_,rfl,hK2 _ _ (Chg.refl _ _) ?_⟩
     show _=Value.int IntKind.i64 ((i:Int)+1)
     rw [IntKind.wrap_i64,show ((i:Int)+1+9223372036854775808) % 18446744073709551616 - 9223372036854775808=(i:Int)+1 by omega]
    ·obtain rfl:_=oo:=Option.some.inj ho
     have h19:=g_eq (t:=19) (v:=.slice (some ⟨ga,0,none⟩) L C) (hdep 6 (by kernel_rfl))
     have h21:=g_eq (t:=21) (v:=.int .i64 (↑i+1)) (hdep 8 (by kernel_rfl))
     unfold Oper.wp
     go_simp
     exact ⟨_,rfl,hK2 _ _ (Chg.refl _ _) rfl⟩
    ·obtain rfl:_=oo:=Option.some.inj ho
     have h22:=g_eq (t:=22) (v:=.pointer (some ⟨ga,i+1,none⟩)) (hdep 9 (by kernel_rfl))
     unfold Oper.wp
     go_simp
     exact ⟨_,rfl,hK2 _ _ (Chg.refl _ _) rfl⟩
    ·obtain rfl:_=oo:=Option.some.inj ho
     have h23:=g_eq (t:=23) (v:=.iface 25 (.agg #[.int .i64 x.kind,.int .i64 x.num,.string x.txt,.slice A5 x.keys.length q5,.slice A6 x.vals.length q6])) (hdep 10 (by kernel_rfl))
     unfold Oper.wp
     go_simp
     exact ⟨_,rfl,hK2 _ _ (Chg.refl _ _) rfl⟩
    ·obtain rfl:_=oo:=Option.some.inj ho
     have h13:=g_eq (t:=13) (v:=.agg #[.int .i64 5,.int .i64 0,.string ⟨#[]⟩,.slice A3 m.length q3,.slice A4 m.length q4]) (hdep 0 (by kernel_rfl))
     have h18:=g_eq (t:=18) (v:=.string k) (hdep 5 (by kernel_rfl))
     have h24:=g_eq (t:=24) (v:=.agg #[.int .i64 x.kind,.int .i64 x.num,.string x.txt,.slice A5 x.keys.length q5,.slice A6 x.vals.length q6]) (hdep 11 (by kernel_rfl))
     unfold Oper.wp
     go_simp
     refine (with_map m x _ _ k w' RM.out.1 RM.out.2.2.1 RM.out.2.1 RM.out.2.2.2 (fun b hb=>⟨hno b (by omega),by omega,by omega⟩)).mono ?_
     rintro e w3 ⟨v',rfl,hc3,hr3⟩
     exact ⟨_,rfl,hK2 _ _ hc3 hr3⟩
    ·omega
   ·intro oo ho a' w' hst hch hdep
    obtain rfl:_=oo:=Option.some.inj ho
    have h0:=g_eq (t:=0) (v:=.slice (some ⟨ga,0,none⟩) L C) (hst 0 (by simp))
    exact ⟨_,w',by simp [execOp,Act.eval,h0,Result.andThen,go_sem],Chg.refl _ _,rfl⟩
   ·intro oo ho u w' hch hφ A2 hA2
    obtain rfl:_=oo:=Option.some.inj ho
    have l12:12 < 13:=by omega
    have hu12:Rd (OffB o w1.heap.size w.heap.size) w' (.map (mins k x m)) (u 12):=hφ 12 l12
    obtain ⟨A7,q7,A8,q8,hu⟩:=hu12.five_map
    rw [hu] at hu12
    have hsz:wr.heap.size<=w'.heap.size:=hch.size
    have hcrw:=hcr.trans ((Chg.refl [] _).dr.trans hch New.nil) New.nil
    have q2:=(hch.block w1.heap.size (by show w1.heap.size < wr.heap.size; omega) (by simp)).trans q1
    have z3:=(hch.block w.heap.size (by show w.heap.size < wr.heap.size; omega) (by simp)).trans z2
    simp [putAll,dOf,Act.put,hu] at hA2
    subst hA2
    clear hφ l12 ho hu
    obtain ⟨b0,b1,b2,b3,b4,bf⟩:=cells5 q2
    unfold Oper.wp
    go_simp
    refine HK.out _ _ ?_
    clear HK b0 b1 b2 b3 b4 bf
    obtain ⟨W,hW,Q,hne,hcW,_⟩:=store5 q2 hcrw (by omega:w.heap.size<=w1.heap.size) (.int .i64 5) (.int .i64 0) (.string ⟨#[]⟩) (.slice A7 (mins k x m).length q7) (.slice A8 (mins k x m).length q8)
    rw [<- hW]
    have Z:=(hne w.heap.size (by omega)).trans z3
    have HRN:=Lib.hid (hu12.mono (w':=W) fun b _ ho=>hne b ho.2.1)
    clear hW hne hu12
    go_wp2
    go_roundg (l.length - (n+1))
    case measure=>omega
    case rel=>
     exact ⟨n+1,i+2,mins k x m,A7,q7,A8,q8,by omega,by have:=HI.out; omega,rfl,by go_num,hcW,by rw [insAll_snoc HM.out.2,HM.out.1],Q,Z,HRN.out⟩
  ·have hE:n=l.length:=by omega
   have hiL:(decide ((i:Int)+1 < (L:Int)))=false:=by have:=HL.out; simp; omega
   have hi64:i<=67108864:=by omega
   have HM:=Lib.hid hm
   have HE:=Lib.hid hE
   clear hm hE hi
   obtain ⟨d0,d1,d2,d3,d4,df⟩:=cells5 z2
   go_wp2
   obtain ⟨W,hW,Q,hne,hcW,_⟩:=store5 z2 hcr (Nat.le_refl _) (.int .i64 5) (.int .i64 0) (.string ⟨#[]⟩) (.slice A3 m.length q3) (.slice A4 m.length q4)
   rw [<- hW]
   obtain ⟨e0,e1,e2,e3,e4,_⟩:=cells5 Q
   refine bodyPost_ret (v:=.agg #[.int .i64 5,.int .i64 0,.string ⟨#[]⟩,.slice A3 m.length q3,.slice A4 m.length q4]) (by simp [results,Tryz.results44,go_sem,e0,e1,e2,e3,e4]) rfl ⟨_,rfl,hcW,?_⟩
   have hm:=HM.out
   rw [HE.out,List.take_length] at hm
   rw [<- hm]
   exact HR.out.to fun b _ ho=>⟨ho.1,hne b ho.2.2⟩
end Go.Proofs.YtpofkokbmifhgaaGreatDoor
namespace Go.Proofs.YtpofkokbmifhgaaGreatDoor
open Go.RowKit
variable {o:Nat->Prop}
section
variable {P:Program} {ops:Array Oper} {Q:Exit->Act->World->Prop}
theorem wp_region_tail {id:Nat} {a:Act} {w:World} (hm:P.follows .mixedOrders=true) (hord:ordered ops=true) (st:List Nat) (hform:monoForm ops a.tmps.size st=true)
  (φ:Nat->Value->World->Prop) (mono:∀ i v w w',Chg [] w w'->φ i v w->φ i v w')
  (step:∀ (i:Nat) (o:Oper),i < ops.size - 1->ops[i]?=some o->∀ (a':Act) (w':World),(∀ s∈st,Act.g a' s=Act.g a s)->Chg [] w.drew w'->(∀ j,waits ops i j=true->φ j (Act.g a' (dOf ops j)) w') ->
   ∀ K:Value->World->Prop,(∀ v w'',Chg [] w' w''->φ i v w''->K v w'')->o.wp P a' w' (fun a2 w2=>∃ v,a2=a'.put o.dst v/\K v w2) Q)
  (last:∀ (o:Oper),ops[ops.size - 1]?=some o->∀ (u:Nat->Value) (w':World),Chg [] w.drew w'->(∀ j,j < ops.size - 1->φ j (u j) w') ->
   ∀ A2,A2=putAll ops u (ops.size - 1) a->o.wp P A2 w' (Q .normal) Q):(Code.region id ops true).wp P Q a w:=by
 unfold monoForm at hform
 simp only [Bool.and_eq_true,decide_eq_true_eq] at hform
 obtain ⟨⟨⟨h0,hgd⟩,hdst⟩,hnd⟩:=hform
 have guard:∀ (i:Nat) (o:Oper),ops[i]?=some o->o.guard=none:=by
  intro i o ho
  have hi:=(Array.getElem?_eq_some_iff.1 ho)
  obtain ⟨hlt,he⟩:=hi
  have:=Array.all_eq_true.1 hgd i hlt
  rw [he] at this
  simpa using this
 have head:∀ i,i < ops.size - 1->∃ o d,ops[i]?=some o/\o.dst=some d/\dOf ops i=d/\d < a.tmps.size/\d ∉ st/\waits ops (ops.size - 1) i=true:=by
  intro i hi
  have h1:=List.all_eq_true.1 hdst i (List.mem_range.2 hi)
  have ho:ops[i]?=some (ops[i]'(by omega)):=Array.getElem?_eq_getElem (by omega)
  rw [ho] at h1
  simp only [Bool.and_eq_true] at h1
  cases hd:(ops[i]'(by omega)).dst with
  | none=>rw [hd] at h1; simp at h1
  | some d=>
   rw [hd] at h1
   simp only [Bool.and_eq_true,decide_eq_true_eq,Bool.not_eq_true',List.contains_eq_mem,decide_eq_false_iff_not] at h1
   exact ⟨_,d,ho,hd,by unfold dOf; rw [ho]; simp [hd],h1.1.1,h1.1.2,h1.2⟩
 have distinct:∀ i j,i < ops.size - 1->j < ops.size - 1->i≠j->dOf ops i≠dOf ops j:=by
  intro i j hi hj hij he
  have hp:=List.pairwise_iff_getElem.1 hnd
  simp only [List.length_map,List.length_range,List.getElem_map,List.getElem_range] at hp
  rcases Nat.lt_or_gt_of_ne hij with h | h
  ·exact hp i j hi hj h he
  ·exact hp j i hj hi h he.symm
 refine wp_region_inv hm hord (fun L a' w'=>(L (ops.size - 1)=true/\Q .normal a' w')∨(L (ops.size - 1)=false/\(∀ s,(∀ j,j < ops.size - 1->dOf ops j≠s)->Act.g a' s=Act.g a s)/\a'.tmps.size=a.tmps.size/\a'.defers=a.defers/\Chg [] w.drew w'/\∀ j,j < ops.size - 1->L j=true->φ j (Act.g a' (dOf ops j)) w'))
  (.inr ⟨rfl,fun _ _=>rfl,rfl,rfl,Chg.refl _ _,fun j _ h=>by cases h⟩) ?_ ?_
 ·intro L i o ho hLi hcl hdeps a' w' hG
  have hi:i < ops.size:=(Array.getElem?_eq_some_iff.1 ho).1
  have hwant:Region.wanted o (yielded ops a'.tmps)=true:=by simp [Region.wanted,guard i o ho]
  have hlast:L (ops.size - 1)=false:=by
   cases hl:L (ops.size - 1) with
   | false=>rfl
   | true=>
    exfalso
    by_cases hil:i=ops.size - 1
    ·rw [hil] at hLi
     rw [hl] at hLi
     cases hLi
    ·obtain ⟨o1,d1,_,_,_,_,_,hw⟩:=head i (by omega)
     unfold waits at hw
     have hol:ops[ops.size - 1]?=some (ops[ops.size - 1]'(by omega)):=Array.getElem?_eq_getElem (by omega)
     rw [hol] at hw
     obtain ⟨e,he,hb⟩:=Array.any_eq_true'.1 hw
     simp only [Bool.and_eq_true,beq_iff_eq] at hb
     have:=hcl _ _ hol hl e he hb.1
     rw [hb.2,hLi] at this
     cases this
  rcases hG with ⟨h,_⟩ | ⟨_,hst,hsz,hdf,hch,hφ⟩
  ·rw [hlast] at h; cases h
  unfold wpOp
  simp only [ho,hwant,if_true]
  refine .inl ?_
  by_cases hil:i=ops.size - 1
  ·subst hil
   have hall:∀ j,j < ops.size - 1->φ j (Act.g a' (dOf ops j)) w':=by
    intro j hj
    obtain ⟨o1,d1,_,_,_,_,_,hw⟩:=head j hj
    unfold waits at hw
    rw [ho] at hw
    obtain ⟨e,he,hb⟩:=Array.any_eq_true'.1 hw
    simp only [Bool.and_eq_true,beq_iff_eq] at hb
    have:=hdeps e he hb.1
    rw [hb.2] at this
    exact hφ j hj this
   refine Oper.wp_mono (fun a2 w2 hq=>.inl ⟨by simp,hq⟩) (by
    have ha:a'=putAll ops (fun j=>Act.g a' (dOf ops j)) (ops.size - 1) a:=act_ext (by rw [putAll_size,hsz]) (by rw [putAll_defers,hdf]) fun s=>by
     by_cases hs:∃ j,j < ops.size - 1/\dOf ops j=s
     ·obtain ⟨j,hj,rfl⟩:=hs
      obtain ⟨o1,d1,_,_,hd1,hdl1,_,_⟩:=head j hj
      rw [putAll_eq ops _ a j _ hj (fun k hk hkj=>distinct k j hk hj hkj) (by rw [hd1]; exact hdl1)]
     ·rw [putAll_ne ops _ a s _ (fun j hj e=>hs ⟨j,hj,e⟩)]
      exact hst s (fun j hj e=>hs ⟨j,hj,e⟩)
    have hl:=last o ho (fun j=>Act.g a' (dOf ops j)) w' hch hall a' ha
    exact hl)
  ·have hih:i < ops.size - 1:=by omega
   obtain ⟨o1,d,ho1,hd,hdi,hdl,hds,hw⟩:=head i hih
   obtain rfl:o1=o:=Option.some.inj (ho1.symm.trans ho)
   have hdep:∀ j,waits ops i j=true->φ j (Act.g a' (dOf ops j)) w':=fun j hj=>by
    unfold waits at hj
    rw [ho] at hj
    obtain ⟨e,he,hb⟩:=Array.any_eq_true'.1 hj
    simp only [Bool.and_eq_true,beq_iff_eq] at hb
    have h1:=hdeps e he hb.1
    have h2:=ordered_spec hord ho e he hb.1
    rw [hb.2] at h1 h2
    exact hφ j (by omega) h1
   have hlf:(L (ops.size - 1) || ops.size - 1 == i)=false:=by
    rw [hlast]
    have:((ops.size - 1) == i)=false:=by simp; omega
    rw [this]
    rfl
   have hput:∀ (v:Value) (s:Nat),(∀ j,j < ops.size - 1->dOf ops j≠s)->Act.g (a'.put (some d) v) s=Act.g a s:=fun v s hs=>by
    rw [g_put_ne _ _ _ _ (fun e=>by subst e; exact hs i hih hdi)]
    exact hst s hs
   have hst':∀ s∈st,Act.g a' s=Act.g a s:=fun s hs=>hst s (fun j hj e=>by obtain ⟨_,_,_,_,hd1,_,hds1,_⟩:=head j hj; exact hds1 (by rw [<- hd1,e]; exact hs))
   refine Oper.wp_mono ?_ (step i o1 hih ho a' w' hst' hch hdep (fun v w2=>Chg [] w' w2/\φ i v w2) (fun v w2 h1 h2=>⟨h1,h2⟩))
   rintro a2 w2 ⟨v,rfl,hc2,hv⟩
   rw [hd]
   refine .inr ⟨hlf,hput v,by rw [size_put]; exact hsz,hdf,hch.trans hc2 New.nil,fun j hj hL=>?_⟩
   by_cases hji:j=i
   ·subst hji
    rw [hdi,g_put_same _ _ _ (by rw [hsz]; exact hdl)]
    exact hv
   ·have:L j=true:=by
     have hb:(j == i)=false:=by simp [hji]
     simpa [hb] using hL
    rw [g_put_ne _ _ _ _ (by rw [<- hdi]; exact distinct j i hj hih hji)]
    exact mono _ _ _ _ hc2 (hφ j hj this)
 ·intro a' w' hG
  rcases hG with ⟨_,h⟩ | ⟨h,_⟩
  ·exact h
  ·have:decide (ops.size - 1 < ops.size)=true:=by simp; omega
   exact absurd (h.symm.trans this) (by simp)
def putForm (ops:Array Oper) (size:Nat) (st:List Nat) (p:Nat):Bool:=
 ops.all (fun o=>o.guard.isNone) &&
 ((List.range ops.size).all fun i=>match ops[i]? with
  | some o=>(match o.dst with | some d=>decide (d < size) && !st.contains d && !(i == p) | none=>i == p)
  | none=>false) &&
 decide ((List.range ops.size).map (dOf ops)).Nodup && st.contains 0 && decide (0 < size) && decide (p < ops.size)
end
end Go.Proofs.YtpofkokbmifhgaaGreatDoor
namespace Go.Proofs.YtpofkokbmifhgaaGreatDoor
open Go.RowKit
variable {o:Nat->Prop}
theorem ne_toList {s k:ByteArray} {l:List UInt8} (h:s≠k) (hl:k.toList=l):(s.toList == l)=false:=by
 rw [beq_eq_false_iff_ne]
 exact fun e=>h (toList_inj (e.trans hl.symm))
theorem ext_one {s:ByteArray} {n:Nat} (h:n < s.size):s.extract n (n+1)=⟨#[s[n]]⟩:=by
 apply ByteArray.ext
 rw [ByteArray.data_extract]
 have hd:n < s.data.size:=h
 apply Array.ext
 ·simp
  omega
 ·intro i h1 h2
  have hi:i=0:=by simpa using h2
  subst hi
  simp
  rfl
def bIdx (c:UInt8) (s:ByteArray):Nat:=s.data.toList.findIdx (· == c)
theorem bIdx_step {c:UInt8} {s:ByteArray} {n:Nat} (h:n<=bIdx c s) (hn:n < s.size) (hne:s[n]≠c):n+1<=bIdx c s:=by
 rcases Nat.lt_or_ge n (bIdx c s) with h' | h'
 ·exact h'
 ·exfalso
  have e:bIdx c s=n:=by omega
  unfold bIdx at e
  have:=List.findIdx_getElem (xs:=s.data.toList) (p:=fun b=>b == c) (w:=by rw [e]; simpa using hn)
  simp only [e] at this
  have h58:s.data[n]'hn=c:=by simpa using this
  exact hne h58
theorem bIdx_here {c:UInt8} {s:ByteArray} {n:Nat} (h:n<=bIdx c s) (hn:n < s.size) (he:s[n]=c):bIdx c s=n:=by
 rcases Nat.lt_or_ge n (bIdx c s) with h' | h'
 ·exfalso
  have:=List.not_of_lt_findIdx (p:=fun b=>b == c) (xs:=s.data.toList) h'
  simp at this
  exact this he
 ·omega
theorem bIdx_le (c:UInt8) (s:ByteArray):bIdx c s<=s.size:=by
 have:=List.findIdx_le_length (p:=fun b=>b == c) (xs:=s.data.toList)
 simpa [bIdx] using this
def bI (c:UInt8) (s:ByteArray):Int:=if bIdx c s < s.size then (bIdx c s:Int) else -1
theorem treeIndex (c:UInt8) (s:ByteArray) (w:World) (hs:s.size<=70368744177664):Calls Tryz.prog 149 #[.string s,.string ⟨#[c]⟩] w fun e w'=>e=.returned (.int .i64 (bI c s))/\w=w':=by
 have hcl:=bIdx_le c s
 have HC:=Lib.hid hcl
 clear hcl
 have hc1:(⟨#[c]⟩ : ByteArray).size=1:=rfl
 go_enter Tryz.func149,Tryz.ntmps149
 go_wp2
 go_loopg [5] s.size (fun g i wr=>∃ n:Nat,n<=bIdx c s/\g=s.size - n/\i=.int .i64 n/\w=wr)
 case atStart=>exact ⟨0,Nat.zero_le _,by omega,rfl,rfl⟩
 case round=>
  obtain ⟨n,hn,rfl,rfl,rfl⟩:=hrel
  have HN:=Lib.hid hn
  clear hn
  by_cases hlt:n < s.size
  ·have hlt2:decide ((n:Int)+1<=s.size)=true:=by simp; omega
   by_cases h58:s[n]=c
   ·have he:((s.extract n (n+1)).toList == [c])=true:=by
     rw [ext_one hlt,h58,ByteArray.toList_eq]
     simp
    have hc:=bIdx_here HN.out hlt h58
    have HCC:=Lib.hid hc
    have hn64:n<=70368744177664:=by omega
    clear hc h58
    go_wp2
    go_ret
    refine ⟨?_,rfl⟩
    unfold bI
    rw [HCC.out,if_pos hlt]
    rfl
   ·have he:((s.extract n (n+1)).toList == [c])=false:=ne_toList (k:=⟨#[c]⟩) (fun e=>by
     rw [ext_one hlt] at e
     have:(#[s[n]]:Array UInt8)=#[c]:=congrArg ByteArray.data e
     exact h58 (by simpa using this)) (by rw [ByteArray.toList_eq])
    have hc:=bIdx_step HN.out hlt h58
    have HCC:=Lib.hid hc
    have hn64:n<=70368744177664:=by omega
    clear hc h58
    go_wp2
    go_roundg (s.size - (n+1))
    case measure=>omega
    case rel=>exact ⟨n+1,HCC.out,rfl,by go_num,rfl⟩
  ·have hlt2:decide ((n:Int)+1<=s.size)=false:=by simp; omega
   have hn64:n<=70368744177664:=by have:=HN.out; have:=HC.out; omega
   go_wp2
   go_ret
   refine ⟨?_,rfl⟩
   unfold bI
   rw [if_neg (by have:=HN.out; omega)]
   rfl
abbrev NoDot (p:ByteArray):Prop:=(46:UInt8) ∉ p.data.toList
def jn:List ByteArray->ByteArray
 | []=>⟨#[]⟩
 | [p]=>p
 | p :: q :: r=>p++cDot++jn (q :: r)
theorem findIdx_split {c:UInt8}:∀ {a b:List UInt8},c ∉ a->(a++c :: b).findIdx (· == c)=a.length
 | [],b,_=>by simp [List.findIdx_cons]
 | x :: a,b,h=>by
  simp only [List.mem_cons,not_or] at h
  rw [List.cons_append,List.findIdx_cons,show (x == c)=false from by simpa using fun e=>h.1 e.symm]
  simp only [cond_false]
  rw [findIdx_split h.2]
  rfl
theorem findIdx_no {c:UInt8}:∀ {a:List UInt8},c ∉ a->a.findIdx (· == c)=a.length
 | [],_=>rfl
 | x :: a,h=>by
  simp only [List.mem_cons,not_or] at h
  rw [List.findIdx_cons,show (x == c)=false from by simpa using fun e=>h.1 e.symm]
  simp only [cond_false]
  rw [findIdx_no h.2]
  rfl
theorem jn_last {p:ByteArray} (h:NoDot p):bIdx 46 (jn [p])=(jn [p]).size:=by
 show p.data.toList.findIdx _=p.data.size
 rw [findIdx_no h]
 exact Array.length_toList
theorem jn_cut {p q:ByteArray} {r:List ByteArray} (h:NoDot p):bIdx 46 (jn (p :: q :: r))=p.size/\p.size < (jn (p :: q :: r)).size/\(jn (p :: q :: r)).extract 0 p.size=p/\(jn (p :: q :: r)).extract (p.size+1) (jn (p :: q :: r)).size=jn (q :: r):=by
 have hd:(jn (p :: q :: r)).data.toList=p.data.toList++46 :: (jn (q :: r)).data.toList:=by
  simp only [jn,ByteArray.data_append,Array.toList_append,List.append_assoc]
  rfl
 have hz:(jn (p :: q :: r)).size=p.size+1+(jn (q :: r)).size:=by
  show (jn (p :: q :: r)).data.size=p.data.size+1+(jn (q :: r)).data.size
  rw [<- Array.length_toList,hd]
  simp
  omega
 refine ⟨?_,by omega,?_,?_⟩
 ·unfold bIdx
  rw [hd,findIdx_split h]
  exact Array.length_toList
 ·apply ByteArray.ext
  rw [ByteArray.data_extract]
  apply Array.ext'
  rw [Array.toList_extract,hd]
  show ((p.data.toList++_).drop 0).take (p.size - 0)=_
  rw [List.drop_zero,Nat.sub_zero]
  exact List.take_left' Array.length_toList
 ·apply ByteArray.ext
  rw [ByteArray.data_extract]
  apply Array.ext'
  rw [Array.toList_extract,hd]
  show ((p.data.toList++_).drop (p.size+1)).take ((jn (p :: q :: r)).size - (p.size+1))=_
  have h1:(p.data.toList++46 :: (jn (q :: r)).data.toList).drop (p.size+1)=(jn (q :: r)).data.toList:=by
   have:p.size+1=p.data.toList.length+1:=by rw [Array.length_toList]; rfl
   rw [this,List.drop_append]
   simp
  rw [h1,List.take_of_length_le]
  rw [Array.length_toList]
  show (jn (q :: r)).data.size<=_
  have:(jn (q :: r)).size=(jn (q :: r)).data.size:=rfl
  omega
theorem app_str {w wr:World} (hcr:Chg [] w wr) {RA:Option Addr} {RC:Nat} {l:List ByteArray} (hown:wr.ownsRow w.heap.size 9 1 (.slice RA l.length RC) l.length (strC l)) (x:ByteArray) (hl:l.length<=67108864) :
  ∃ R' w2,(Builtin.append_ #[22,22] 22 #[.slice RA l.length RC,.slice (some ⟨wr.heap.size,0,none⟩) 1 1]).run Tryz.prog (wr.alloc (.cells #[.string x] 9))=.ok R' w2/\w2.ownsRow w.heap.size 9 1 R' (l++[x]).length (strC (l++[x]))/\Chg [] w w2:=by
 have hown2:=ownsRow_keep (w':=wr.alloc (.cells #[.string x] 9)) hown fun g hg=>heap_alloc_old _ _ _ (ownsRow_own hown hg).2
 obtain ⟨R',w2,hr,ho,hc,_⟩:=run_app (P:=Tryz.prog) w.heap.size 22 22 9 _ 1 16 uKs iS rfl (by decide) _ _ _ hown2 (some ⟨wr.heap.size,0,none⟩) 1 1 [.string x] rfl (fun _=>⟨_,rfl,fun j u hu=>by
  obtain rfl:j=0:=by
   have:=(List.getElem?_eq_some_iff.1 hu).1
   simpa using this
  have hv:Value.string x=u:=by simpa using hu
  subst hv
  exact cell_of_row _ wr.heap.size 0 _ _ (0,0) (heap_alloc_new _ _)⟩) (fun u hu=>by
   have:u=.string x:=by simpa using hu
   subst this
   rfl) (by omega) (by omega) (by have:=hcr.size; simp; omega)
 refine ⟨R',w2,hr,by simpa [strC] using ho,(hcr.al _).trans hc fun x hx=>?_⟩
 have:=(ownsRow_own hown (g:=x) (by simpa using hx)).1
 exact .inr this
theorem treeSplit_any (ps:List ByteArray) (hne:ps≠[]) (hd:∀ p∈ps,NoDot p) (w:World) (hs:(jn ps).size<=70368744177664) (hl:ps.length<=67108864) :
  Calls Tryz.prog 189 #[.string (jn ps),.string cDot] w fun e w'=>∃ v,e=.returned v/\Chg [] w w'/\RdK (fun b=>w.heap.size<=b) w' ps v:=by
 go_enter Tryz.func189,Tryz.ntmps189
 go_wp2_with fail
 go_loopg [0,5] ps.length (fun g a R wr=>∃ (l r:List ByteArray),a=.string (jn r)/\g=r.length/\r≠[]/\ps=l++r/\Chg [] w wr/\wr.ownsRow w.heap.size 9 1 R l.length (strC l)/\(jn r).size<=70368744177664)
 case atStart=>exact ⟨[],ps,rfl,rfl,hne,rfl,Chg.refl _ _,World.ownsRow_nil _ _ _ _,hs⟩
 case round=>
  obtain ⟨l,r,rfl,rfl,hr,hps,hcr,hown,hrs⟩:=hrel
  obtain ⟨RA,RC,rfl⟩:=ownsRow_slice hown
  have hll:l.length<=67108864:=by
   have:=congrArg List.length hps
   simp at this
   omega
  go_wp2_with fail
  refine (treeIndex 46 (jn r) _ hrs).mono ?_
  rintro e w3 ⟨rfl,rfl⟩
  match r,hr with
  | [p],_=>
   have hp:NoDot p:=hd p (by rw [hps]; simp)
   have hci:bI 46 (jn [p])=-1:=by unfold bI; rw [jn_last hp,if_neg (Nat.lt_irrefl _)]
   rw [hci]
   have HST:=Lib.hid (app_str hcr hown (jn [p]) hll)
   clear hown hci
   go_wp2_with (first | (at_builtin; refine wpList_app rfl _ _ _ rfl rfl rfl HST.out ?_) | fail)
   intro v' w2 ho hc2
   go_wp2
   go_ret
   refine ⟨v',rfl,hc2,?_⟩
   rw [hps]
   exact RdK.of_own (fun b hb=>hb) (by simpa [jn] using ho)
  | p :: q :: r,_=>
   have hp:NoDot p:=hd p (by rw [hps]; simp)
   obtain ⟨c1,c2,c3,c4⟩:=jn_cut (q:=q) (r:=r) hp
   obtain ⟨J,hJ⟩ : ∃ J,J=jn (p :: q :: r):=⟨_,rfl⟩
   obtain ⟨J2,hJ2⟩ : ∃ J2,J2=jn (q :: r):=⟨_,rfl⟩
   rw [<- hJ] at c1 c2 c3 c4 hrs ⊢
   rw [<- hJ2] at c4
   have hci:bI 46 J=(p.size:Int):=by unfold bI; rw [c1,if_pos c2]
   rw [hci]
   have hp0:(0:Int)<=(p.size:Int):=by omega
   have hlt:p.size < J.size:=c2
   have HST:=Lib.hid (app_str hcr hown p hll)
   have HC:=Lib.hid (And.intro c3 c4)
   have HJ2:=Lib.hid hJ2
   clear hown hci hJ c1 c2 hJ2 c4
   go_wp2_with (first | (at_builtin; refine wpList_app rfl _ _ _ rfl rfl rfl HST.out ?_) | fail)
   intro v' w2 ho hc2
   clear c3
   go_wp2
   rw [HC.out.2]
   go_roundg (q :: r).length
   case measure=>simp
   case rel=>
    have hz:J2.size<=J.size:=by
     have:=congrArg ByteArray.size HC.out.2
     rw [<- this]
     simp
    exact ⟨l++[p],q :: r,by rw [HJ2.out],rfl,by simp,by rw [hps]; simp,hc2,by simpa using ho,by rw [<- HJ2.out]; omega⟩
theorem parts_any (ps:List ByteArray) (hne:ps≠[]) (hd:∀ p∈ps,NoDot p) (w:World) (hs:(jn ps).size<=70368744177664) (hl:ps.length<=67108864) :
  Calls Tryz.prog 150 #[.string (jn ps)] w fun e w'=>∃ v,e=.returned v/\Chg [] w w'/\RdK (fun b=>w.heap.size<=b) w' ps v:=by
 have H:=Lib.hid (treeSplit_any ps hne hd w hs hl)
 go_enter Tryz.func150,Tryz.ntmps150
 go_wp2_with fail
 refine H.out.mono ?_
 rintro e w1 ⟨v,rfl,hc,hr⟩
 go_wp2_with fail
 go_ret
 exact ⟨v,rfl,hc,hr⟩
theorem pm_length:∀ {q p:List ByteArray},pm q p=true->q.length=p.length
 | [],[],_=>rfl
 | [],_ :: _,h=>by simp [pm] at h
 | _ :: _,[],h=>by simp [pm] at h
 | _ :: q,_ :: p,h=>by simp only [List.length_cons]; rw [pm_length (pm_tail h)]
def pmTo (q p:List ByteArray) (n:Nat):Prop:=∀ j a b,j < n->q[j]?=some a->p[j]?=some b->a=cStar∨a=b
theorem pm_of {q p:List ByteArray} (hl:q.length=p.length) (h:pmTo q p p.length):pm q p=true:=by
 induction q generalizing p with
 | nil=>
  cases p with
  | nil=>rfl
  | cons _ _=>cases hl
 | cons a q ih=>
  cases p with
  | nil=>cases hl
  | cons b p=>
   have h0:=h 0 a b (by simp) rfl rfl
   have h1:=ih (p:=p) (by simpa using hl) fun j x y hj hx hy=>h (j+1) x y (by simp; omega) hx hy
   simp only [pm,h1,Bool.and_true,Bool.or_eq_true,decide_eq_true_eq]
   exact h0
theorem pm_no {q p:List ByteArray} {n:Nat} {a b:ByteArray} (ha:q[n]?=some a) (hb:p[n]?=some b) (h1:a≠cStar) (h2:a≠b):pm q p=false:=by
 induction q generalizing p n with
 | nil=>simp at ha
 | cons x q ih=>
  cases p with
  | nil=>simp at hb
  | cons y p=>
   cases n with
   | zero=>
    simp at ha hb
    subst ha; subst hb
    simp [pm,h1,h2]
   | succ n=>
    simp only [List.getElem?_cons_succ] at ha hb
    simp only [pm,ih ha hb,Bool.and_false]
theorem matches_any (ps qs:List ByteArray) (hp:ps≠[]) (hq:qs≠[]) (hdp:∀ p∈ps,NoDot p) (hdq:∀ p∈qs,NoDot p) (w:World) (hsp:(jn ps).size<=70368744177664) (hsq:(jn qs).size<=70368744177664) (hlp:ps.length<=67108864) (hlq:qs.length<=67108864) :
  Calls Tryz.prog 105 #[.string (jn ps),.string (jn qs)] w fun e w'=>e=.returned (.bool (pm qs ps))/\Chg [] w w':=by
 have HQ:=Lib.hid (parts_any qs hq hdq w hsq hlq)
 have HP:Hid (∀ W,Calls Tryz.prog 150 #[.string (jn ps)] W fun e w'=>∃ v,e=.returned v/\Chg [] W w'/\RdK (fun b=>W.heap.size<=b) w' ps v):=Lib.hid fun W=>parts_any ps hp hdp W hsp hlp
 go_enter Tryz.func105,Tryz.ntmps105
 go_wp2_with fail
 refine HQ.out.mono ?_
 rintro e w1 ⟨vq,rfl,hc1,hrq⟩
 go_wp2_with fail
 refine (HP.out w1).mono ?_
 rintro e w2 ⟨vp,rfl,hc2,hrp⟩
 have hrq:=hrq.chg hc2
 obtain ⟨AQ,cq,rfl,hq1⟩:=id hrq
 obtain ⟨AP,cp,rfl,hp1⟩:=id hrp
 have hc:=hc1.trans hc2 New.nil
 by_cases hlen:qs.length=ps.length
 ·have hlb:((qs.length:Int) != (ps.length:Int))=false:=by simp [hlen]
  have HH:=Lib.hid (And.intro hc (And.intro hrq hrp))
  have HL:=Lib.hid hlen
  clear hc1 hc2 hc hrq hrp hq1 hp1 hlen
  go_wp2_with fail
  go_loopg [20] ps.length (fun g i wr=>∃ n:Nat,n<=ps.length/\g=ps.length - n/\i=.int .i64 n/\wr=w2/\pmTo qs ps n)
  case atStart=>exact ⟨0,Nat.zero_le _,by omega,rfl,rfl,fun j a b hj=>by omega⟩
  case round=>
   obtain ⟨n,hn,rfl,rfl,rfl,hpm⟩:=hrel
   have HPM:=Lib.hid hpm
   clear hpm
   by_cases hlt:n < ps.length
   ·obtain ⟨b,hb⟩ : ∃ b,ps[n]?=some b:=⟨_,List.getElem?_eq_getElem hlt⟩
    obtain ⟨a,ha⟩ : ∃ a,qs[n]?=some a:=⟨_,List.getElem?_eq_getElem (by have:=HL.out; omega)⟩
    obtain ⟨gq,q1,e1,hgq,kq⟩:=HH.out.2.1.elem ha
    obtain ⟨gp,p1,e2,hgp,kp⟩:=HH.out.2.2.elem hb
    cases e1
    cases e2
    have k1:=kq _ (Chg.refl [] wr)
    have k2:=kp _ (Chg.refl [] wr)
    have hltq:n < qs.length:=by have:=HL.out; omega
    have HAB:=Lib.hid (And.intro ha hb)
    clear ha hb kq kp
    by_cases h1:a=cStar
    ·subst h1
     have hstep:pmTo qs ps (n+1):=fun j x y hj hx hy=>by
      rcases Nat.lt_or_ge j n with h | h
      ·exact HPM.out j x y h hx hy
      ·obtain rfl:j=n:=by omega
       rw [HAB.out.1] at hx
       exact .inl (Option.some.inj hx).symm
     have HST:=Lib.hid hstep
     clear hstep
     go_wp2_with fail
     go_roundg (ps.length - (n+1))
     case measure=>omega
     case rel=>exact ⟨n+1,by omega,rfl,by go_num,rfl,HST.out⟩
    ·have f1:(a.toList == [42])=false:=ne_toList h1 (by kernel_rfl)
     by_cases h2:a=b
     ·have f2:(a.toList == b.toList)=true:=by rw [h2]; simp
      have hstep:pmTo qs ps (n+1):=fun j x y hj hx hy=>by
       rcases Nat.lt_or_ge j n with h | h
       ·exact HPM.out j x y h hx hy
       ·obtain rfl:j=n:=by omega
        rw [HAB.out.1] at hx
        rw [HAB.out.2] at hy
        right
        rw [<- Option.some.inj hx,<- Option.some.inj hy,h2]
      have HST:=Lib.hid hstep
      clear hstep h1 h2
      go_wp2_with fail
      go_roundg (ps.length - (n+1))
      case measure=>omega
      case rel=>exact ⟨n+1,by omega,rfl,by go_num,rfl,HST.out⟩
     ·have f2:(a.toList == b.toList)=false:=ne_toList h2 rfl
      have hno:=pm_no HAB.out.1 HAB.out.2 h1 h2
      have HNO:=Lib.hid hno
      clear hno h1 h2
      go_wp2_with fail
      go_ret
      rw [HNO.out]
      exact ⟨rfl,HH.out.1⟩
   ·have hnl:n=ps.length:=by omega
    have hyes:pm qs ps=true:=pm_of HL.out (hnl ▸ HPM.out)
    have HY:=Lib.hid hyes
    clear hyes
    go_wp2_with fail
    go_ret
    rw [HY.out]
    exact ⟨rfl,HH.out.1⟩
 ·have hlb:((qs.length:Int) != (ps.length:Int))=true:=by simp; omega
  have hno:pm qs ps=false:=by
   cases h:pm qs ps with
   | false=>rfl
   | true=>exact absurd (pm_length h) hlen
  have HNO:=Lib.hid hno
  clear hno hlen
  go_wp2_with fail
  go_ret
  rw [HNO.out]
  exact ⟨rfl,hc⟩
end Go.Proofs.YtpofkokbmifhgaaGreatDoor
