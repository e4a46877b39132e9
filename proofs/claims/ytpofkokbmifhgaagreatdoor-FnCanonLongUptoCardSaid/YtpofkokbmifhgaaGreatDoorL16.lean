/- Parts of the walk, made small by wip/tools/pack.py: Tr2, Tr3. No condition but those in each statement. -/
import Derived.Test.YtpofkokbmifhgaaGreatDoorL13
set_option maxRecDepth 100000
set_option maxHeartbeats 20000000
set_option linter.unusedVariables false
set_option linter.unusedSimpArgs false
namespace Go.Proofs.YtpofkokbmifhgaaGreatDoor
open Go.RowKit
variable {o:Nat->Prop}
theorem foldK_takeP {x:T} {l:List T} {n:Nat} {t:T} (h:l[n]?=some t):foldK x (l.take (n+1))=mins t.txt x (foldK x (l.take n)):=by
 have:l.take (n+1)=l.take n++[t]:=by rw [List.take_add_one,h]; rfl
 rw [this];simp [foldK,List.foldl_append]
theorem row_text {w:World} {l:List T} {g c:Nat} {cs:List Value} {F:List Nat} (hr:w.ownsRow 0 20 1 (.slice (some ⟨g,0,none⟩) l.length c) l.length cs) (ho:OwnL w l cs F) {n:Nat} {t:T} (hn:l[n]?=some t) :
  ∃ v F',cs[n]?=some v/\Own w t v F'/\w.cell? ⟨g,n,none⟩=some v:=by
 obtain ⟨Z,e1,e2,e3,e4⟩:=ho.ents
 obtain ⟨z,hz,rfl⟩ : ∃ z,Z[n]?=some z/\z.1=t:=by
  rw [<- e1,List.getElem?_map] at hn;exact Option.map_eq_some_iff.1 hn
 have hc:cs[n]?=some z.2.1:=by rw [<- e2,List.getElem?_map,hz]; rfl
 have:=hr.cells (g:=g) rfl n z.2.1 hc;rw [addr0] at this;exact ⟨_,_,hc,e4 z (List.mem_of_getElem? hz),this⟩
theorem slice120 (l:List T) (g cap:Nat) (cs:List Value) (F:List Nat) (p:ByteArray) (bb:Bool) (w:World) (hr:w.ownsRow 0 20 1 (.slice (some ⟨g,0,none⟩) l.length cap) l.length cs) (ho:OwnL w l cs F) (hl:l.length<=67108864) (hok:∀ x∈l,isText x) :
  Calls Tryz.prog 120 #[.iface 76 (.slice (some ⟨g,0,none⟩) l.length cap),.string p,.bool bb] w fun e w'=>∃ v',e=.returned (.tuple #[v',.nilIface])/\Res [] w (.map (foldK .null l)) v' w':=by
 have hgw:=ownsRow_lt hr;have HW:=Lib.hid (And.intro hr (And.intro ho hok));clear hr ho hok
 go_enter Tryz.func120,Tryz.ntmps120
 go_wp2_with fail
 go_loopg [24] l.length (fun gg i wr=>∃ n:Nat,n<=l.length/\gg=l.length - n/\i=.int .i64 n/\Chg [] w wr/\∃ F',Own wr (.map (foldK .null (l.take n))) (.iface 50 (.map (some w.heap.size))) F'/\F'.Nodup/\∀ x∈F',w.heap.size<=x)
 case atStart=>exact ⟨0,Nat.zero_le _,by omega,rfl,(Chg.refl [] w).al _,_,ownNew w,by simp,by simp⟩
 case round=>
  obtain ⟨n,hn,rfl,rfl,hcr,F',ho,hnd,hnew⟩:=hrel
  by_cases hlt:n < l.length
  ·obtain ⟨t,ht⟩ : ∃ t,l[n]?=some t:=⟨_,List.getElem?_eq_getElem hlt⟩
   obtain ⟨v,F1,hv,hov,hcell⟩:=row_text HW.out.1 HW.out.2.1 ht;have htx:=HW.out.2.2 t (List.mem_of_getElem? ht)
   cases t <;> simp only [isText] at htx
   rename_i s;obtain rfl:=leaf_text hov;replace hcell:=(hcr.cells.1 g n hgw).trans hcell;obtain ⟨w2,F2,hrun,ho2,hn2,hs2,hon,_⟩:=ho.store (P:=Tryz.prog) (k:=s) uM uS (foldK_srt _ _) (v:=.nilIface) (t:=.null) (Fv:=[]) (by simp [Own]) (by simpa using hnd);have H:=Lib.hid (And.intro hcr (And.intro ho2 (And.intro hn2 (And.intro hs2 (And.intro hon (And.intro hnew ht))))));clear hcr ho hnd hnew ht hv hov ho2 hn2 hs2 hon
   go_wp2_with fail
   go_roundg (l.length - (n+1))
   case measure=>omega
   case rel=>
    obtain ⟨hcr,ho2,hn2,hs2,hon,hnew,ht⟩:=H.out;refine ⟨n+1,by omega,rfl,by go_num,hcr.trans (Chg.only hon (List.mem_singleton.2 rfl)) fun y hy=>.inr (by simp at hy; omega),_,by rw [foldK_takeP ht]; exact ho2,hn2,fun x hx=>?_⟩;rcases List.mem_cons.1 hx with rfl | hx
    ·exact Nat.le_refl _
    ·rcases hs2 x hx with h | h
     ·exact hnew x h
     ·cases h
  ·have hnl:l.take n=l:=List.take_of_length_le (by omega)
   rw [hnl] at ho;have H:=Lib.hid (And.intro hcr (And.intro ho (And.intro hnd hnew)));clear hcr ho hnd hnew hnl
   go_wp2_with fail
   go_ret2
   obtain ⟨hcr,ho,hnd,hnew⟩:=H.out;exact ⟨_,rfl,F',ho,hnd,fun x hx=>.inr (hnew x hx),hcr⟩
theorem impMap (w:World):∃ w1 w',(Instr.mapUpdate 50 (.map (some w.heap.size)) (.string cCondition) (.iface 9 (.string cServiceStarted))).run Tryz.prog (w.alloc (.map #[] 0))=.ok () w1 /\
  (Instr.mapUpdate 50 (.map (some w.heap.size)) (.string cRequired) (.iface 4 (.bool true))).run Tryz.prog w1=.ok () w'/\Res [] w impC (.iface 50 (.map (some w.heap.size))) w':=by
 obtain ⟨w1,F1,hrun,ho,hn,hs,hon,_⟩:=(ownNew w).store (P:=Tryz.prog) (k:=cCondition) uM uS Srt.nil (v:=.iface 9 (.string cServiceStarted)) (t:=.text cServiceStarted) (Fv:=[]) (by simp [Own]) (by simp);obtain ⟨w2,F2,hrun2,ho2,hn2,hs2,hon2,_⟩:=ho.store (P:=Tryz.prog) (k:=cRequired) uM uS (show Srt (mins cCondition (T.text cServiceStarted) []) from Srt.nil.srt_ins) (v:=.iface 4 (.bool true)) (t:=.bool true) (Fv:=[]) (by simp [Own]) (by simpa using hn);refine ⟨w1,w2,hrun,hrun2,w.heap.size :: F2,?_,hn2,New.cons (.inr (Nat.le_refl _)) fun x hx=>.inr ?_,(((Chg.refl [] w).al _).trans (Chg.only hon (List.mem_singleton.2 rfl)) fun x hx=>.inr (by simp at hx; omega)).trans (Chg.only hon2 (List.mem_singleton.2 rfl)) fun x hx=>.inr (by simp at hx; omega)⟩
 ·have e:impC=.map (mins cRequired (.bool true) (mins cCondition (.text cServiceStarted) [])):=by
   have hb:blt cCondition cRequired=true:=by decide +kernel
   have hne:cCondition≠cRequired:=by decide +kernel
   simp [impC,mins,hb,hne]
  rw [e];exact ho2
 ·rcases hs2 x hx with h | h
  ·rcases List.mem_cons.1 h with rfl | h
   ·exact Nat.le_refl _
   ·rcases hs x h with h | h
    ·simp at h; omega
    ·cases h
  ·cases h
theorem list128 (l:List T) (g cap:Nat) (cs:List Value) (F:List Nat) (p:ByteArray) (bb:Bool) (w:World) (hr:w.ownsRow 0 20 1 (.slice (some ⟨g,0,none⟩) l.length cap) l.length cs) (ho:OwnL w l cs F) (hl:l.length<=67108864) (hok:∀ x∈l,isText x) :
  Calls Tryz.prog 128 #[.iface 76 (.slice (some ⟨g,0,none⟩) l.length cap),.string p,.bool bb] w fun e w'=>∃ v',e=.returned (.tuple #[v',.nilIface])/\Res [] w (.map (foldK impC l)) v' w':=by
 have hmk:=@run_makeMap Tryz.prog;have hgw:=ownsRow_lt hr;have HW:=Lib.hid (And.intro hr (And.intro ho hok));clear hr ho hok
 go_enter Tryz.func128,Tryz.ntmps128
 go_wp2_with fail
 go_loopg [68] l.length (fun gg i wr=>∃ n:Nat,n<=l.length/\gg=l.length - n/\i=.int .i64 n/\Chg [] w wr/\∃ F',Own wr (.map (foldK impC (l.take n))) (.iface 50 (.map (some w.heap.size))) F'/\F'.Nodup/\∀ x∈F',w.heap.size<=x)
 case atStart=>exact ⟨0,Nat.zero_le _,by omega,rfl,(Chg.refl [] w).al _,_,ownNew w,by simp,by simp⟩
 case round=>
  obtain ⟨n,hn,rfl,rfl,hcr,F',ho,hnd,hnew⟩:=hrel
  by_cases hlt:n < l.length
  ·obtain ⟨t,ht⟩ : ∃ t,l[n]?=some t:=⟨_,List.getElem?_eq_getElem hlt⟩
   obtain ⟨v,F1,hv,hov,hcell⟩:=row_text HW.out.1 HW.out.2.1 ht;have htx:=HW.out.2.2 t (List.mem_of_getElem? ht)
   cases t <;> simp only [isText] at htx
   rename_i s;obtain rfl:=leaf_text hov;replace hcell:=(hcr.cells.1 g n hgw).trans hcell;obtain ⟨w1,w2,h1,h2,Fi,hoi,hni,hNi,hci⟩:=impMap wr
   obtain ⟨w3,F2,hrun,ho2,hn2,hs2,hon,_⟩:=(ho.frame fun x hx=>hci.block x (ho.lt x hx) (by simp)).store (P:=Tryz.prog) (k:=s) uM uS (foldK_srt _ _) hoi (List.nodup_append.2 ⟨hnd,hni,fun x hx y hy e=>by
    have:=ho.lt x hx;rcases hNi y hy with h | h
    ·cases h
    ·omega⟩)
   have hB:w.heap.size < wr.heap.size:=ho.lt _ (ho.mem_block)
   have hcr3:Chg [] w w3:=(hcr.trans hci New.nil).trans (Chg.only hon (List.mem_singleton.2 rfl)) fun y hy=>.inr (by simp at hy; omega)
   have H:=Lib.hid (And.intro hcr3 (And.intro ho2 (And.intro hn2 (And.intro hs2 (And.intro hnew (And.intro ht (And.intro hNi (show w.heap.size<=wr.heap.size by omega))))))));clear hcr ho hnd hnew ht hv hov ho2 hn2 hs2 hon hoi hni hNi hci hcr3 hB
   go_wp2_with fail
   go_roundg (l.length - (n+1))
   case measure=>omega
   case rel=>
    obtain ⟨hcr,ho2,hn2,hs2,hnew,ht,hNi,hB⟩:=H.out;refine ⟨n+1,by omega,rfl,by go_num,hcr,_,by rw [foldK_takeP ht]; exact ho2,hn2,fun x hx=>?_⟩;rcases List.mem_cons.1 hx with rfl | hx
    ·exact Nat.le_refl _
    ·rcases hs2 x hx with h | h
     ·exact hnew x h
     ·rcases hNi x h with h | h
      ·cases h
      ·omega
  ·have hnl:l.take n=l:=List.take_of_length_le (by omega)
   rw [hnl] at ho;have H:=Lib.hid (And.intro hcr (And.intro ho (And.intro hnd hnew)));clear hcr ho hnd hnew hnl
   go_wp2_with fail
   go_ret2
   obtain ⟨hcr,ho,hnd,hnew⟩:=H.out;exact ⟨_,rfl,F',ho,hnd,fun x hx=>.inr (hnew x hx),hcr⟩
theorem RH.stay {w:World} {F0:List Nat} {it bt:Nat} {tl:List (ByteArray × T)} {f:ByteArray->T->T} {left:List ByteArray} {k:ByteArray} {v:Value} {t:T} {F1 F2:List Nat} {w1 w2:World} (hs:Srt tl) (hg:mget k tl=some t)
  (h:RH w F0 it bt tl f left k v F1 w1) (hc:Chg F1 w1 w2) (ho2:Own w2 (f k t) v F2) (hn2:F2.Nodup) (hN2:New w1 F1 F2):RM w F0 it bt tl f (mdel k left) w2:=by
 obtain ⟨hnd,hmem,hin,hnew,hchg,ks,Fr,hit,hl,hlk,hof,hn,hN⟩:=h;simp only [List.nodup_cons,List.mem_cons,List.mem_append,not_or] at hn;have hbt:bt < w1.heap.size:=hit.map.lt;have hitl:it < w1.heap.size:=hit.lt;have hit2:IterAt w2 it bt ks (mdel k left):=hit.frame (hc.block bt hbt hn.2.1.1) (hc.block it hitl hn.1.2.1)
 have hFrd:∀ b∈Fr,b ∉ F1:=fun b hb hb1=>(List.nodup_append.1 hn.2.2).2.2 b hb1 b hb rfl
 have hof2:OwnM w2 (mrem k (stM f left tl)) ks Fr:=hof.frame fun b hb=>hc.block b (hof.lt b hb) (hFrd b hb)
 have hput:=OwnM.put ho2 hof2 (stM_srt hs);rw [stM_del hnd hin hs hg,upd_same hlk] at hput;obtain ⟨F,hF,hp⟩:=hput
 have far:∀ b,b < w1.heap.size->b ∉ F1->b ∉ F2:=fun b hb hb1 hb2=>by
  rcases hN2 b hb2 with h | h
  ·exact hb1 h
  ·omega
 have hFn:F.Nodup:=hp.symm.nodup (List.nodup_append.2 ⟨hn2,(List.nodup_append.1 hn.2.2).2.1,fun a ha b hb e=>by
  subst e
  exact far a (hof.lt a hb) (hFrd a hb) ha⟩)
 have hbF:bt ∉ F:=fun hb=>by
  rcases List.mem_append.1 (hp.mem_iff.1 hb) with h | h
  ·exact far bt hbt hn.2.1.1 h
  ·exact hn.2.1.2 h
 have hiF:it ∉ F:=fun hb=>by
  rcases List.mem_append.1 (hp.mem_iff.1 hb) with h | h
  ·exact far it hitl hn.1.2.1 h
  ·exact hn.1.2.2 h
 have hNF:New w F0 (bt :: F):=by
  intro x hx
  rcases List.mem_cons.1 hx with rfl | hx
  ·exact hN x (by simp)
  ·rcases List.mem_append.1 (hp.mem_iff.1 hx) with h | h
   ·rcases hN2 x h with h | h
    ·exact hN x (by simp [h])
    ·exact .inr (Nat.le_trans hchg.size h)
   ·exact hN x (by simp [h])
 have hndel:(k :: mdel k left).Nodup:=(del_perm hin).nodup hnd;refine ⟨(List.nodup_cons.1 hndel).2,fun x hx=>hmem x (mem_of_del hx),hnew,hchg.trans hc (hN.sub (fun x hx=>by simp [hx])),ks,F,hit2,hl,hF,?_,hNF⟩;simp only [List.nodup_cons,List.mem_cons,not_or];exact ⟨⟨hn.1.1,hiF⟩,hbF,hFn⟩
theorem dep_put {w:World} {d:List (ByteArray × T)} {b:Nat} {F:List Nat} (k:ByteArray) (v:Value) (t:T) (ho:Own w (.map d) (.iface 50 (.map (some b))) F) (hn:F.Nodup) (hs:Srt d) (hv:Own w t v []) :
  ∃ z q,(Instr.lookup 50 (.map (some b)) (.string k) true).run Tryz.prog w=.ok (.tuple #[z,.bool q]) w/\q=hasK k d /\
   (q=false->∃ w',(Instr.mapUpdate 50 (.map (some b)) (.string k) v).run Tryz.prog w=.ok () w'/\Res F w (.map (mins k t d)) (.iface 50 (.map (some b))) w'):=by
 obtain ⟨ks,hma,hlk⟩:=look_at ho hs k;have L:=run_lookup_ok (P:=Tryz.prog) hma uM uS (zA w) k;obtain ⟨w2,F2,hrun,ho2,hn2,hs2,hon,_⟩:=ho.store (P:=Tryz.prog) (k:=k) uM uS hs hv (by simpa using hn);refine ⟨_,_,L,?_,fun _=>⟨w2,hrun,_,ho2,hn2,New.cons (.inl ho.mem_block) fun x hx=>.inl ?_,Chg.only hon ho.mem_block⟩⟩
 ·unfold hasK
  cases hg:mget k d with
  | none=>rw [hg] at hlk; rw [hlk]; rfl
  | some t=>rw [hg] at hlk; obtain ⟨v,F',h,_⟩:=hlk; rw [h]; rfl
 ·rcases hs2 x hx with h | h
  ·exact h
  ·cases h
theorem map128 (m:List (ByteArray × T)) (b:Nat) (F:List Nat) (p:ByteArray) (bb:Bool) (w:World) (ho:Own w (.map m) (.iface 50 (.map (some b))) F) (hn:F.Nodup) (hw:WF 1048576 (.map m)) (hok:∀ q∈m,isMap q.2) :
  Calls Tryz.prog 128 #[.iface 50 (.map (some b)),.string p,.bool bb] w fun e w'=>∃ v',e=.returned (.tuple #[v',.nilIface])/\Res F w (.map (m.map fun p=>(p.1,.map (needC p.2.m)))) v' w':=by
 obtain ⟨w1,left,hrun,hll,hlm,hRM⟩:=RM.start (P:=Tryz.prog) uM ho hn hw.1 (fun k t=>.map (needC t.m));have HW:=Lib.hid (And.intro hw hok);have hs:=hw.1;clear hw hok ho hn
 go_enter Tryz.func128,Tryz.ntmps128
 go_wp2_with fail
 go_loopg [] left.length (fun g wx=>∃ left,g=left.length/\RM w F w.heap.size b m (fun k t=>.map (needC t.m)) left wx)
 case atStart=>exact ⟨left,rfl,hRM⟩
 case round=>
  obtain ⟨left,rfl,hRM⟩:=hrel
  rcases hRM.next (P:=Tryz.prog) hs 0 with ⟨rfl,hnx⟩ | ⟨k,v,w2,t,F1,hk,hgk,hnx,hent,ho2,hn2,hRH⟩
  ·have hdone:=hRM.done
   clear hRM
   go_wp2_with fail
   go_ret2
   exact ⟨_,rfl,hdone⟩
  ·have hmem:=get_some hgk
   have hmp:=HW.out.2 (k,t) hmem
   cases t <;> simp only [isMap] at hmp
   rename_i d;have hsd:Srt d:=((WFM_iff.1 HW.out.1.2 (k,.map d) hmem).2).1;obtain ⟨bd,rfl⟩:=ho2.block
   have hlk:(mdel k left).length < left.length:=by
    have:=del_length hk
    omega
   obtain ⟨z1,q1,L1,hq1,hp1⟩:=dep_put cCondition (.iface 9 (.string cServiceStarted)) (.text cServiceStarted) ho2 hn2 hsd (by simp [Own])
   obtain ⟨wA,dA,hrA,hsA,hA,hdA⟩ : ∃ wA dA,Res F1 w2 (.map dA) (.iface 50 (.map (some bd))) wA/\Srt dA/\((q1=true/\wA=w2)∨(q1=false/\(Instr.mapUpdate 50 (.map (some bd)) (.string cCondition) (.iface 9 (.string cServiceStarted))).run Tryz.prog w2=.ok () wA))/\dA=(if hasK cCondition d then d else mins cCondition (.text cServiceStarted) d):=by
    cases q1 with
    | true=>exact ⟨w2,d,⟨F1,ho2,hn2,New.refl _ _,Chg.refl _ _⟩,hsd,.inl ⟨rfl,rfl⟩,by rw [<- hq1]; rfl⟩
    | false=>
     obtain ⟨w',hr,hres⟩:=hp1 rfl;exact ⟨w',_,hres,hsd.srt_ins,.inr ⟨rfl,hr⟩,by rw [<- hq1]; rfl⟩
   obtain ⟨FA,hoA,hnA,hNA,hcA⟩:=hrA;obtain ⟨z2,q2,L2,hq2,hp2⟩:=dep_put cRequired (.iface 4 (.bool true)) (.bool true) hoA hnA hsA (by simp [Own])
   obtain ⟨wB,dB,hrB,hB,hdB⟩ : ∃ wB dB,Res FA wA (.map dB) (.iface 50 (.map (some bd))) wB/\((q2=true/\wB=wA)∨(q2=false/\(Instr.mapUpdate 50 (.map (some bd)) (.string cRequired) (.iface 4 (.bool true))).run Tryz.prog wA=.ok () wB))/\dB=(if hasK cRequired dA then dA else mins cRequired (.bool true) dA):=by
    cases q2 with
    | true=>exact ⟨wA,dA,⟨FA,hoA,hnA,New.refl _ _,Chg.refl _ _⟩,.inl ⟨rfl,rfl⟩,by rw [<- hq2]; rfl⟩
    | false=>
     obtain ⟨w',hr,hres⟩:=hp2 rfl;exact ⟨w',_,hres,.inr ⟨rfl,hr⟩,by rw [<- hq2]; rfl⟩
   obtain ⟨FB,hoB,hnB,hNB,hcB⟩:=hrB
   have hneed:dB=needC d:=by rw [hdB,hdA]; rfl
   have hcc:Chg F1 w2 wB:=hcA.trans hcB hNA;have hself:=hRH.stay hs hgk hcc (by show Own wB (.map (needC d)) _ _; rw [<- hneed]; exact hoB) hnB (hNA.trans hNB hcA.size);have HS:=Lib.hid hself;have HK:=Lib.hid hk;clear hself hRM hRH hgk hk ho2 hn2 hmem hmp hp1 hp2 hoA hnA hNA hcA hoB hnB hNB hcB hcc hneed hdA hdB hq1 hq2 hsA hsd
   rcases hA with ⟨rfl,rfl⟩ | ⟨rfl,hA⟩ <;> rcases hB with ⟨rfl,rfl⟩ | ⟨rfl,hB⟩
   all_goals
    go_wp2_with fail
    go_roundg (mdel k left).length
    case measure=>exact hlk
    case rel=>exact ⟨_,rfl,HS.out⟩
theorem app_any {w wr:World} {v:Value} {n:Nat} {cs:List Value} (hcr:Chg [] w wr) (hown:wr.ownsRow w.heap.size 20 1 v n cs) (x:Value) (h1:x.oneCell'=true) (hl:n<=67108864) :
  ∃ v' w2,(Builtin.append_ #[76,76] 76 #[v,.slice (some ⟨wr.heap.size,0,none⟩) 1 1]).run Tryz.prog (wr.alloc (.cells #[x] 20))=.ok v' w2 /\
   (∃ g' c',v'=.slice (some ⟨g',0,none⟩) (n+1) c'/\w.heap.size<=g'/\w2.ownsRow w.heap.size 20 1 v' (n+1) (cs++[x]))/\Chg [] w w2:=by
 have hown2:=ownsRow_keep (w':=wr.alloc (.cells #[x] 20)) hown fun g hg=>heap_alloc_old _ _ _ (ownsRow_own hown hg).2
 obtain ⟨R',w2,hr,ho,hc,hd⟩:=run_app (P:=Tryz.prog) w.heap.size 76 76 20 _ 1 16 uL iAny rfl (by decide) _ _ _ hown2 (some ⟨wr.heap.size,0,none⟩) 1 1 [x] rfl (fun _=>⟨_,rfl,fun j u hu=>by
  obtain rfl:j=0:=by
   have:=(List.getElem?_eq_some_iff.1 hu).1
   simpa using this
  have hv:x=u:=by simpa using hu
  subst hv
  exact cell_of_row _ wr.heap.size 0 _ _ (0,0) (heap_alloc_new _ _)⟩) (fun u hu=>by
   have:u=x:=by simpa using hu
   subst this
   exact h1) (by omega) (by omega) (by have:=hcr.size; simp; omega)
 refine ⟨R',w2,hr,?_,(hcr.al _).trans hc fun y hy=>.inr ?_⟩
 ·rcases hd with ⟨_,h,_⟩ | ⟨g',c',rfl,hb,_,h⟩
  ·cases h
  ·exact ⟨g',c',rfl,hb,ho⟩
 ·exact (ownsRow_own hown (g:=y) (by simpa using hy)).1
theorem list130 (l:List T) (g cap:Nat) (cs:List Value) (F:List Nat) (p:ByteArray) (bb:Bool) (w:World) (hr:w.ownsRow 0 20 1 (.slice (some ⟨g,0,none⟩) l.length cap) l.length cs) (ho:OwnL w l cs F) (hF:F.Nodup) (hl:l.length<=67108864) (hne:l≠[]) (hok:∀ x∈l,isMap x) :
  Calls Tryz.prog 130 #[.iface 76 (.slice (some ⟨g,0,none⟩) l.length cap),.string p,.bool bb] w fun e w'=>∃ v',e=.returned (.tuple #[v',.nilIface])/\Res (g :: F) w (.list l) v' w':=by
 have hgw:=ownsRow_lt hr
 have hcl:cs.length=l.length:=by
  have:=hr.1
  omega
 have HW:=Lib.hid (And.intro hr (And.intro ho (And.intro hF (And.intro hne (And.intro hok hcl)))));have hln:0 < l.length:=List.length_pos_iff.2 hne;clear hr ho hF hne hok hcl
 go_enter Tryz.func130,Tryz.ntmps130
 go_wp2_with fail
 go_loopg [9,23] l.length (fun gg R i wr=>∃ n:Nat,n<=l.length/\gg=l.length - n/\i=.int .i64 n/\Chg [] w wr/\wr.ownsRow w.heap.size 20 1 R n (cs.take n)/\(0 < n->∃ g' c',R=.slice (some ⟨g',0,none⟩) n c'/\w.heap.size<=g'))
 case atStart=>exact ⟨0,Nat.zero_le _,by omega,rfl,Chg.refl [] w,⟨rfl,.inl ⟨rfl,rfl⟩⟩,fun h=>absurd h (Nat.lt_irrefl 0)⟩
 case round=>
  obtain ⟨n,hn,rfl,rfl,hcr,hown,hshape⟩:=hrel
  by_cases hlt:n < l.length
  ·obtain ⟨t,ht⟩ : ∃ t,l[n]?=some t:=⟨_,List.getElem?_eq_getElem hlt⟩
   obtain ⟨v,F1,hv,hov,hcell⟩:=row_text HW.out.1 HW.out.2.1 ht;have htx:=HW.out.2.2.2.2.1 t (List.mem_of_getElem? ht)
   cases t <;> simp only [isMap] at htx
   rename_i d;obtain ⟨bd,rfl⟩:=hov.block;replace hcell:=(hcr.cells.1 g n hgw).trans hcell;have hst:=app_any hcr hown (.iface 50 (.map (some bd))) rfl (by omega)
   have htk:cs.take (n+1)=cs.take n++[.iface 50 (.map (some bd))]:=by rw [List.take_add_one,hv]; rfl
   have HST:=Lib.hid hst;have H:=Lib.hid htk;clear hcr hown hshape ht hv hov hst htk
   go_wp2_with (first | (at_builtin; refine wpList_app rfl _ _ _ rfl rfl rfl HST.out ?_) | fail)
   rintro v' w4 g4 c4 rfl hg4 ho4 hc4;have H4:=Lib.hid (And.intro hg4 (And.intro ho4 hc4));clear hg4 ho4 hc4
   go_wp2_with fail
   go_roundg (l.length - (n+1))
   case measure=>omega
   case rel=>exact ⟨n+1,by omega,rfl,by go_num,H4.out.2.2,by rw [H.out]; exact H4.out.2.1,fun _=>⟨g4,c4,rfl,H4.out.1⟩⟩
  ·obtain rfl:n=l.length:=by omega
   obtain ⟨g4,c4,rfl,hg4⟩:=hshape hln;have hcs:cs.take l.length=cs:=List.take_of_length_le (by have:=HW.out.2.2.2.2.2; omega);rw [hcs] at hown;have H:=Lib.hid (And.intro hcr (And.intro hown hg4));clear hcr hown hg4 hcs hshape
   go_wp2_with fail
   go_ret2
   obtain ⟨hcr,hown,hg4⟩:=H.out;refine ⟨_,rfl,g4 :: F,?_,?_,New.cons (.inr hg4) fun x hx=>.inl (List.mem_cons_of_mem _ hx),hcr.mono (by simp)⟩
   ·simp only [Own]
    refine ⟨g4,c4,cs,F,rfl,⟨hown.1,?_⟩,HW.out.2.1.frame fun x hx=>hcr.block x (HW.out.2.1.lt x hx) (by simp),rfl⟩
    rcases hown.2 with h | ⟨a,b,c,d,e,f⟩
    ·exact .inl h
    ·exact .inr ⟨a,b,c,d,Nat.zero_le _,f⟩
   ·exact List.nodup_cons.2 ⟨fun h=>by have:=HW.out.2.1.lt _ h; omega,HW.out.2.2.1⟩
end Go.Proofs.YtpofkokbmifhgaaGreatDoor
namespace Go.Proofs.YtpofkokbmifhgaaGreatDoor
open Go.RowKit
variable {o:Nat->Prop}
theorem trans_any (ps:List ByteArray) (hp:PathOK ps) (hsp:(jn ps).size<=70368744177664) (hlp:ps.length<=67108864) (w:World) :
  Calls Tryz.prog 75 #[.string (jn ps)] w fun e w'=>e=.returned (.tuple #[trVal (trOf ps),.bool (trOf ps).isSome])/\Chg [] w w':=by
 by_cases e:ps=[]
 ·subst e
  have h:=trans_q [⟨#[]⟩] (by simp) (fun p hp=>by
   have:p=⟨#[]⟩:=by simpa using hp
   subst this
   intro h
   exact absurd h (by decide)) (by decide) (by decide) w
  have e1:trOf [⟨#[]⟩]=none:=tr_first (by decide +kernel)
  have e2:trOf []=none:=by decide +kernel
  rw [e1] at h;rw [e2];exact h
 ·exact trans_q ps e hp.1 hsp hlp w
def TrGood (n:Nat):Prop:=∀ (t:T),T.size t<=n->∀ (ps:List ByteArray) (v:Value) (F:List Nat) (bb:Bool) (w:World),Own w t v F->F.Nodup->WF 1048576 t->CanOK ps t->PathOK ps->RootK ps t->PathB ps n ->
  Calls Tryz.prog 55 #[v,.string (jn ps),.bool bb] w fun e w'=>∃ v',e=.returned (.tuple #[v',.nilIface])/\Res F w (canT ps t) v' w'
theorem mapping_of {n:Nat} (HI:TrGood n) (m:List (ByteArray × T)) (ps:List ByteArray) (b:Nat) (F:List Nat) (bb:Bool) (w:World) (hz:T.sizeM m<=n) (ho:Own w (.map m) (.iface 50 (.map (some b))) F) (hn:F.Nodup) (hw:WF 1048576 (.map m)) (hok:CanOKM ps m) (hp:PathOK ps)
  (hr:ps=[]->∀ p∈m,NoDot p.1/\p.1≠⟨#[]⟩) (hb:PathB ps (n+1)) :
  Calls Tryz.prog 76 #[.map (some b),.string (jn ps),.bool bb] w fun e w'=>e=.returned (.tuple #[.map (some b),.nilIface])/\Res F w (.map (canM ps m)) (.iface 50 (.map (some b))) w':=by
 obtain ⟨w1,left,hrun,hll,hlm,hRM⟩:=RM.start (P:=Tryz.prog) uM ho hn hw.1 (fun k t=>canT (ps++[nxt ps k]) t);have HW:=Lib.hid (And.intro hw (And.intro hok (And.intro hp (And.intro hr (And.intro hb HI)))));have hs:=hw.1
 have hps:(jn ps).size<=70368744177664:=by have:=hb.1; omega
 obtain ⟨P,hP⟩ : ∃ P,P=jn ps:=⟨_,rfl⟩
 rw [<- hP] at hps ⊢;have HP:=Lib.hid hP;clear hok hp hr hb hw hP HI ho hn
 go_enter Tryz.func76,Tryz.ntmps76
 go_wp2_with fail
 go_loopg [] left.length (fun g wx=>∃ left,g=left.length/\RM w F w.heap.size b m (fun k t=>canT (ps++[nxt ps k]) t) left wx)
 case atStart=>exact ⟨left,rfl,hRM⟩
 case round=>
  obtain ⟨left,rfl,hRM⟩:=hrel
  rcases hRM.next (P:=Tryz.prog) hs 0 with ⟨rfl,hnx⟩ | ⟨k,v,w2,t,F1,hk,hgk,hnx,hent,ho2,hn2,hRH⟩
  ·have hdone:=hRM.done
   clear hRM
   go_wp2_with fail
   go_ret2
   refine ⟨rfl,?_⟩;rw [canM_eq];exact hdone
  ·have HK:=Lib.hid (And.intro hk (And.intro hgk (And.intro ho2 (And.intro hn2 hRH))))
   have hkz:k.size<=1048576:=(WFM_iff.1 HW.out.1.2 (k,t) (get_some hgk)).1
   have hlk:(mdel k left).length < left.length:=by
    have:=del_length hk
    omega
   clear hk hgk ho2 hn2 hRH hRM
   go_wp2_with fail
   refine (next_any P k _ hps (by omega)).mono ?_;rintro e w3 ⟨rfl,hc3⟩;obtain ⟨hk,hgk,ho2,hn2,hRH⟩:=HK.out;obtain ⟨hw,hok,hp,hr,hb,HI⟩:=HW.out;have hmem:=get_some hgk
   obtain ⟨hj,hp'⟩:=jn_next (k:=k) hp fun e=>hr e (k,t) hmem
   have ho3:Own w3 t v F1:=ho2.frame fun x hx=>hc3.block x (ho2.lt x hx) (by simp)
   have hcall:=HI t (Nat.le_trans (sizeM_mem hmem) hz) (ps++[nxt ps k]) v F1 bb w3 ho3 hn2 ((WFM_iff.1 hw.2 (k,t) hmem).2) (CanOKM_iff.1 hok (k,t) hmem) hp' (fun e=>by simp at e) (path_step hb hkz);rw [<- hj,<- HP.out] at hcall;have hc3':=Lib.hid hc3;clear hk hgk ho2 hn2 hRH hw hok hp hr hb HI hmem hj hp' ho3 hc3
   go_wp2_with fail
   refine hcall.mono ?_;rintro e w4 ⟨v',rfl,F2,ho4,hn4,hN4,hc4⟩;obtain ⟨hk,hgk,ho2,hn2,hRH⟩:=HK.out;have hcc:Chg F1 w2 w4:=(hc3'.out.mono (by simp)).trans hc4 (New.refl _ _);obtain ⟨w5,hrun5,hRM5⟩:=RH.put (P:=Tryz.prog) uM uS hs hgk hRH hcc ho4 hn4 (fun x hx=>(hN4 x hx).imp id fun h=>Nat.le_trans hc3'.out.size h);clear hk hgk ho2 hn2 hRH ho4 hn4 hN4 hc4 hcall hcc
   go_wp2_with fail
   go_roundg (mdel k left).length
   case measure=>exact hlk
   case rel=>exact ⟨_,rfl,hRM5⟩
theorem set_blk {w w':World}:∀ {Z:List Ent} {n:Nat} {z z':Ent},Z[n]?=some z->(blk Z).Nodup->(∀ x∈blk Z,x < w.heap.size)->z'.2.2.Nodup->New w z.2.2 z'.2.2->(blk (Z.set n z')).Nodup/\New w (blk Z) (blk (Z.set n z'))
 | [],n,z,z',h,_,_,_,_=>by simp at h
 | y :: Z,0,z,z',h,hn,hl,hn',hN=>by
  have:y=z:=by simpa using h
  subst this
  have e1:blk (y :: Z)=y.2.2++blk Z:=by simp [blk]
  have e2:blk ((y :: Z).set 0 z')=z'.2.2++blk Z:=by simp [blk]
  rw [e1] at hn hl ⊢;rw [e2];obtain ⟨h1,h2,h3⟩:=perm_nodup_append hn;refine ⟨List.nodup_append.2 ⟨hn',h2,fun a ha b hb e=>?_⟩,fun x hx=>?_⟩
  ·subst e
   rcases hN a ha with h | h
   ·exact h3 a h hb
   ·have:=hl a (List.mem_append_right _ hb)
    omega
  ·rcases List.mem_append.1 hx with hx | hx
   ·rcases hN x hx with h | h
    ·exact .inl (List.mem_append_left _ h)
    ·exact .inr h
   ·exact .inl (List.mem_append_right _ hx)
 | y :: Z,n+1,z,z',h,hn,hl,hn',hN=>by
  have h':Z[n]?=some z:=by simpa using h
  have e1:blk (y :: Z)=y.2.2++blk Z:=by simp [blk]
  have e2:blk ((y :: Z).set (n+1) z')=y.2.2++blk (Z.set n z'):=by simp [blk]
  rw [e1] at hn hl ⊢;rw [e2];obtain ⟨h1,h2,h3⟩:=perm_nodup_append hn;obtain ⟨q1,q2⟩:=set_blk (w:=w) (w':=w') h' h2 (fun x hx=>hl x (List.mem_append_right _ hx)) hn' hN;refine ⟨List.nodup_append.2 ⟨h1,q1,fun a ha b hb e=>?_⟩,fun x hx=>?_⟩
  ·subst e
   rcases q2 a hb with h | h
   ·exact h3 a ha h
   ·have:=hl a (List.mem_append_left _ ha)
    omega
  ·rcases List.mem_append.1 hx with hx | hx
   ·exact .inl (List.mem_append_left _ hx)
   ·rcases q2 x hx with h | h
    ·exact .inl (List.mem_append_right _ h)
    ·exact .inr h
theorem blk_apart {Z:List Ent} (hn:(blk Z).Nodup) {i j:Nat} {y z:Ent} (hi:Z[i]?=some y) (hj:Z[j]?=some z) (hij:i≠j):∀ x∈y.2.2,x ∉ z.2.2:=by
 induction Z generalizing i j with
 | nil=>simp at hi
 | cons a Z ih=>
  have e1:blk (a :: Z)=a.2.2++blk Z:=by simp [blk]
  rw [e1] at hn;obtain ⟨h1,h2,h3⟩:=perm_nodup_append hn
  cases i with
  | zero=>
   cases j with
   | zero=>exact absurd rfl hij
   | succ j=>
    have:a=y:=by simpa using hi
    subst this
    exact fun x hx hz=>h3 x hx (mem_blk.2 ⟨z,List.mem_of_getElem? (by simpa using hj),hz⟩)
  | succ i=>
   cases j with
   | zero=>
    have:a=z:=by simpa using hj
    subst this
    exact fun x hx hz=>h3 x hz (mem_blk.2 ⟨y,List.mem_of_getElem? (by simpa using hi),hx⟩)
   | succ j=>exact ih h2 (by simpa using hi) (by simpa using hj) (fun e=>hij (by rw [e]))
theorem map_take_set {f:T->T} {l:List T} {n:Nat} {t:T} (h:l[n]?=some t):((l.take n).map f++l.drop n).set n (f t)=(l.take (n+1)).map f++l.drop (n+1):=by
 have hlt:=(List.getElem?_eq_some_iff.1 h).1
 have e1:l.take (n+1)=l.take n++[t]:=by rw [List.take_add_one,h]; rfl
 have e2:l.drop n=t :: l.drop (n+1):=by
  rw [List.drop_eq_getElem_cons hlt]
  congr 1
  exact (List.getElem?_eq_some_iff.1 h).2
 rw [e1,e2,List.set_append,if_neg (by simp; omega)];simp
 have:n - min n l.length=0:=by omega
 rw [this]
 rfl
theorem sizeL_mem {x:T}:∀ {l:List T},x∈l->T.size x<=T.sizeL l
 | [],h=>by cases h
 | t :: l,h=>by
  simp only [T.sizeL];rcases List.mem_cons.1 h with rfl | h
  ·omega
  ·have:=sizeL_mem h
   omega
theorem Chg.put {F:List Nat} {w w1:World} (h:Chg F w w1) {p:Addr} (hp:p.block∈F) (v:Value):Chg F w (w1.setCell p v):=
 ⟨h.os,h.tape,h.output,by rw [show (w1.setCell p v).heap.size=w1.heap.size by simp [World.setCell]]; exact h.size,fun b hb hbF=>(Below.heap_setCell w1 p v b (fun e=>hbF (e ▸ hp))).trans (h.block b hb hbF)⟩
theorem seq_step {w wr w4:World} {l:List T} {ps:List ByteArray} {g' cap' k:Nat} {F' F2:List Nat} {Z:List Ent} {z:Ent} {t:T} {v':Value} (hcr:Chg (g' :: F') w wr) (hZ:Z.map (·.1)=(l.take k).map (canT (ps++[cElems]))++l.drop k) (hZl:Z.length=l.length) (hZo:OwnZ wr Z) (hZn:(g' :: blk Z).Nodup) (hZN:New w (g' :: F') (blk Z))
  (ht:l[k]?=some t) (hz':Z[k]?=some z) (hlt:k < l.length) (hgr:g' < wr.heap.size) (ho4:Own w4 (canT (ps++[cElems]) t) v' F2) (hn4:F2.Nodup) (hN4':New wr z.2.2 F2) (hcc:Chg z.2.2 wr w4) (hgz:g' ∉ z.2.2)
  (hrow4:w4.ownsRow 0 20 1 (.slice (some ⟨g',0,none⟩) l.length cap') l.length (Z.map fun z=>z.2.1)) :
  Chg (g' :: F') w (w4.setCell ⟨g',k,none⟩ v')/\∃ Z:List Ent,Z.map (·.1)=(l.take (k+1)).map (canT (ps++[cElems]))++l.drop (k+1)/\Z.length=l.length/\OwnZ (w4.setCell ⟨g',k,none⟩ v') Z/\(g' :: blk Z).Nodup/\New w (g' :: F') (blk Z) /\
  (w4.setCell ⟨g',k,none⟩ v').ownsRow 0 20 1 (.slice (some ⟨g',0,none⟩) l.length cap') l.length (Z.map fun z=>z.2.1):=by
 have hkZ:k < Z.length:=by omega
 have hblt:∀ y∈blk Z,y < wr.heap.size:=fun y hy=>by
  obtain ⟨q,hq,hy⟩:=mem_blk.1 hy;exact (hZo q hq).lt y hy
 obtain ⟨q1,q2⟩:=set_blk (w:=wr) (w':=wr) (z':=(canT (ps++[cElems]) t,v',F2)) hz' (List.nodup_cons.1 hZn).2 hblt hn4 hN4'
 have hgF2:g' ∉ F2:=fun h=>by
  rcases hN4' g' h with h | h
  ·exact hgz h
  ·omega
 refine ⟨?_,Z.set k (canT (ps++[cElems]) t,v',F2),?_,by simp [hZl],?_,?_,?_,?_⟩
 ·exact (hcr.trans hcc fun y hy=>hZN y (mem_blk.2 ⟨z,List.mem_of_getElem? hz',hy⟩)).put (p:=⟨g',k,none⟩) (by simp) _
 ·rw [List.map_set,hZ]
  exact map_take_set ht
 ·intro y hy
  obtain ⟨i,hi⟩:=List.getElem?_of_mem hy
  have hset:∀ {tt:T} {vv:Value} {FF:List Nat},Own w4 tt vv FF->g' ∉ FF->Own (w4.setCell ⟨g',k,none⟩ v') tt vv FF:=fun h hg=>h.frame fun c hc=>Below.heap_setCell w4 ⟨g',k,none⟩ v' c (fun e=>hg (by rw [show g'=c from e.symm]; exact hc))
  by_cases hik:k=i
  ·subst hik
   rw [List.getElem?_set_self hkZ] at hi
   cases hi
   exact hset ho4 hgF2
  ·rw [List.getElem?_set_ne hik] at hi
   have hy':=hZo y (List.mem_of_getElem? hi);have hap:=blk_apart (List.nodup_cons.1 hZn).2 hi hz' (Ne.symm hik)
   refine hset (hy'.frame fun c hc=>hcc.block c (hy'.lt c hc) (hap c hc)) fun h=>(List.nodup_cons.1 hZn).1 (mem_blk.2 ⟨y,List.mem_of_getElem? hi,h⟩)
 ·refine List.nodup_cons.2 ⟨fun h=>?_,q1⟩
  rcases q2 g' h with h | h
  ·exact (List.nodup_cons.1 hZn).1 h
  ·omega
 ·exact fun y hy=>by
   rcases q2 y hy with h | h
   ·exact hZN y h
   ·exact .inr (Nat.le_trans hcr.size h)
 ·rw [List.map_set]
  exact ownsRow_put hrow4 hlt _
theorem esc_elems:esc cElems=cElems:=by decide +kernel
theorem sequence_of {n:Nat} (HI:TrGood n) (l:List T) (ps:List ByteArray) (g cap:Nat) (F:List Nat) (bb:Bool) (w:World) (hz:T.sizeL l<=n) (ho:Own w (.list l) (.iface 76 (.slice (some ⟨g,0,none⟩) l.length cap)) F) (hn:F.Nodup) (hw:WF 1048576 (.list l)) (hok:CanOKL (ps++[cElems]) l) (hp:PathOK ps)
  (hr:ps≠[]) (hb:PathB ps (n+1)) (hl:l.length<=67108864) :
  Calls Tryz.prog 77 #[.slice (some ⟨g,0,none⟩) l.length cap,.string (jn ps),.bool bb] w fun e w'=>e=.returned (.tuple #[.slice (some ⟨g,0,none⟩) l.length cap,.nilIface])/\Res F w (.list (canL (ps++[cElems]) l)) (.iface 76 (.slice (some ⟨g,0,none⟩) l.length cap)) w':=by
 have hps:(jn ps).size<=70368744177664:=by have:=hb.1; omega
 have hoo:=ho;simp only [Own] at ho;obtain ⟨g',cap',cs,F',he,hrow,hol,rfl⟩:=ho
 have he1:g'=g/\cap'=cap:=by
  injection he with _ he
  injection he with h1 h2 h3
  injection h1 with h1
  injection h1 with h1
  exact ⟨h1.symm,h3.symm⟩
 obtain ⟨rfl,rfl⟩:=he1;clear he;obtain ⟨Z0,e1,e2,e3,e4⟩:=hol.ents;have hgw:=ownsRow_lt hrow;have HW:=Lib.hid (And.intro hw (And.intro hok (And.intro hp (And.intro hr (And.intro hb (And.intro HI (And.intro hn (And.intro hoo hol))))))))
 obtain ⟨P,hP⟩ : ∃ P,P=jn ps:=⟨_,rfl⟩
 rw [<- hP] at hps ⊢;have HP:=Lib.hid hP;have HZ:=Lib.hid (And.intro e1 (And.intro e2 (And.intro e3 (And.intro e4 hrow))));clear hok hp hr hb hw hP HI hn hoo hol e1 e2 e3 e4 hrow
 go_enter Tryz.func77,Tryz.ntmps77
 go_wp2_with fail
 go_loopg [14] l.length (fun gg i wr=>∃ k:Nat,k<=l.length/\gg=l.length - k/\i=.int .i64 k/\Chg (g' :: F') w wr/\∃ Z:List Ent,Z.map (·.1)=(l.take k).map (canT (ps++[cElems]))++l.drop k/\Z.length=l.length/\OwnZ wr Z/\(g' :: blk Z).Nodup/\New w (g' :: F') (blk Z) /\
  wr.ownsRow 0 20 1 (.slice (some ⟨g',0,none⟩) l.length cap') l.length (Z.map fun z=>z.2.1))
 case atStart=>
  obtain ⟨e1,e2,e3,e4,hrow⟩:=HZ.out;refine ⟨0,Nat.zero_le _,by omega,rfl,Chg.refl _ _,Z0,by simpa using e1,by rw [<- e1]; simp,e4,by rw [e3]; exact HW.out.2.2.2.2.2.2.1,by rw [e3]; exact fun x hx=>.inl (List.mem_cons_of_mem _ hx),by rw [e2]; exact hrow⟩
 case round=>
  obtain ⟨k,hk,rfl,rfl,hcr,Z,hZ,hZl,hZo,hZn,hZN,hrow⟩:=hrel
  by_cases hlt:k < l.length
  ·obtain ⟨t,ht⟩ : ∃ t,l[k]?=some t:=⟨_,List.getElem?_eq_getElem hlt⟩
   obtain ⟨z,hz'⟩ : ∃ z,Z[k]?=some z:=⟨_,List.getElem?_eq_getElem (by omega)⟩
   have hzt:z.1=t:=by
    have h1:(Z.map (·.1))[k]?=some z.1:=by rw [List.getElem?_map,hz']; rfl
    rw [hZ,List.getElem?_append_right (by simp; omega),List.getElem?_drop] at h1
    have:k+(k - ((l.take k).map (canT (ps++[cElems]))).length)=k:=by simp; omega
    rw [this,ht] at h1;exact (Option.some.inj h1).symm
   have hcell:wr.cell? ⟨g',k,none⟩=some z.2.1:=by
    have:=hrow.cells (g:=g') rfl k z.2.1 (by rw [List.getElem?_map,hz']; rfl)
    rwa [addr0] at this
   obtain ⟨x,hx⟩ : ∃ x,x=z.2.1:=⟨_,rfl⟩
   rw [<- hx] at hcell;obtain ⟨s1,s2⟩:=row_slot (j:=k) hrow (by omega);have hgr:=ownsRow_lt hrow;have HR:=Lib.hid (And.intro hcr (And.intro hZ (And.intro hZl (And.intro hZo (And.intro hZn (And.intro hZN (And.intro hrow (And.intro ht (And.intro hz' (And.intro hzt hx))))))))));clear hcr hZ hZl hZo hZn hZN hrow ht hz' hzt hx s1 s2
   go_wp2_with fail
   refine (next_any P ⟨#[91,93]⟩ _ hps (by decide)).mono ?_;rintro e w3 ⟨rfl,hc3⟩;obtain ⟨hcr,hZ,hZl,hZo,hZn,hZN,hrow,ht,hz',hzt,hx⟩:=HR.out;obtain ⟨hw,hok,hp,hr,hb,HI,hn,hoo,hol⟩:=HW.out;have htm:=List.mem_of_getElem? ht
   have hnx:nxt ps cElems=cElems:=by unfold nxt; rw [if_neg hr,esc_elems]
   obtain ⟨hj,hp'⟩:=jn_next (k:=cElems) hp fun e=>absurd e hr
   rw [hnx] at hj hp';have hpb:=path_step (k:=cElems) hb (by decide);rw [hnx] at hpb;have hozr:=hZo z (List.mem_of_getElem? hz');rw [hzt,<- hx] at hozr
   have ho3:Own w3 t x z.2.2:=hozr.frame fun y hy=>hc3.block y (hozr.lt y hy) (by simp)
   have hnz:z.2.2.Nodup:=by
    have:=(List.nodup_cons.1 hZn).2
    have h2:z.2.2.Sublist (blk Z):=by
     obtain ⟨a,b,rfl⟩:=List.append_of_mem (List.mem_of_getElem? hz')
     have:blk (a++z :: b)=blk a++(z.2.2++blk b):=by simp [blk]
     rw [this];exact (List.sublist_append_left _ _).trans (List.sublist_append_right _ _)
    exact List.Nodup.sublist h2 this
   have hcall:=HI t (Nat.le_trans (sizeL_mem htm) hz) (ps++[cElems]) x z.2.2 bb w3 ho3 hnz (WFL_iff.1 hw t htm) (CanOKL_iff.1 hok t htm) hp' (fun e=>by simp at e) hpb;rw [<- hj,<- HP.out] at hcall;have HC:=Lib.hid hc3;clear hcr hZ hZl hZo hZn hZN hrow ht hz' hzt hx hw hok hp hr hb HI hn hoo hol htm hnx hj hp' hpb hozr ho3 hnz hc3
   go_wp2_with fail
   refine hcall.mono ?_;rintro e w4 ⟨v',rfl,F2,ho4,hn4,hN4,hc4⟩;obtain ⟨hcr,hZ,hZl,hZo,hZn,hZN,hrow,ht,hz',hzt,hx⟩:=HR.out;have hcc:Chg z.2.2 wr w4:=(HC.out.mono (by simp)).trans hc4 (New.refl _ _)
   have hgz:g' ∉ z.2.2:=fun h=>(List.nodup_cons.1 hZn).1 (mem_blk.2 ⟨z,List.mem_of_getElem? hz',h⟩)
   have hrow4:=ownsRow_frame hrow (hcc.block g' hgr hgz);obtain ⟨⟨s1,s1e⟩,s2⟩:=row_slot (j:=k) hrow4 (by omega);have hone:=ho4.anyV;have H4:=Lib.hid (And.intro ho4 (And.intro hn4 (And.intro hN4 (And.intro hcc (And.intro hgz hrow4)))));clear hcr hZ hZl hZo hZn hZN hrow ht hz' hzt hx ho4 hn4 hN4 hcc hgz hrow4 hc4 hcall
   rcases hone with hv0 | ⟨ty,u,hv0⟩
   all_goals
    subst hv0
    go_wp2_with fail
    go_roundg (l.length - (k+1))
    case measure=>omega
    case rel=>
     obtain ⟨hcr,hZ,hZl,hZo,hZn,hZN,hrow,ht,hz',hzt,hx⟩:=HR.out;obtain ⟨ho4,hn4,hN4,hcc,hgz,hrow4⟩:=H4.out;exact ⟨k+1,by omega,rfl,by go_num,seq_step hcr hZ hZl hZo hZn hZN ht hz' hlt hgr ho4 hn4 (fun y hy=>(hN4 y hy).imp id fun h=>Nat.le_trans HC.out.size h) hcc hgz hrow4⟩
  ·obtain rfl:k=l.length:=by omega
   rw [List.take_length,List.drop_length,List.append_nil] at hZ;have HR:=Lib.hid (And.intro hcr (And.intro hZ (And.intro hZl (And.intro hZo (And.intro hZn (And.intro hZN hrow))))));clear hcr hZ hZl hZo hZn hZN hrow
   go_wp2_with fail
   go_ret2
   obtain ⟨hcr,hZ,hZl,hZo,hZn,hZN,hrow⟩:=HR.out;refine ⟨rfl,g' :: blk Z,?_,hZn,New.cons (.inl (by simp)) hZN,hcr⟩
   have hlen:(canL (ps++[cElems]) l).length=l.length:=by rw [canL_eq]; simp
   simp only [Own];refine ⟨g',cap',_,_,by rw [hlen],by rw [hlen]; exact hrow,?_,rfl⟩;have:=hZo.list;rw [hZ,<- canL_eq] at this;exact this
end Go.Proofs.YtpofkokbmifhgaaGreatDoor
