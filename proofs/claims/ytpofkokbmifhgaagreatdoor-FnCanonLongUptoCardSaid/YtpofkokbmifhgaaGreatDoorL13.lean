/- Parts of the walk, made small by wip/tools/pack.py: Mount, UniF, UniG, Trans, Tr1. No condition but those in each statement. -/
import Derived.Test.YtpofkokbmifhgaaGreatDoorL12
import Derived.BigQuiet
set_option maxRecDepth 100000
set_option maxHeartbeats 20000000
set_option linter.unusedVariables false
set_option linter.unusedSimpArgs false
namespace Go.Proofs.YtpofkokbmifhgaaGreatDoor
open Go.RowKit
variable {o:Nat->Prop}
theorem mount_text (pre s:ByteArray) (p:Value) (B:Nat) (w:World) (hp:pre.size<=1000) (hs:s.size<=70368744177664) (hB:w.heap[B]?=some (.cells #[.string pre] 9)) :
  Calls Tryz.prog 153 #[.iface 9 (.string s),p,.pointer (some ⟨B,0,none⟩)] w fun e w'=>e=.returned (.tuple #[.string (mountKey pre (.text s)),.nilIface])/\Chg [] w w':=by
 have hc:w.cell? ⟨B,0,none⟩=some (.string pre):=cell_of_row _ B 0 _ _ (0,0) hB;have hcc:=Chg.refl [] w;clear hB
 go_enter Tryz.func153,Tryz.ntmps153
 go_wp2_with fail
 go_ret2
 exact ⟨rfl,hcc⟩
theorem mount_map (pre:ByteArray) (m:List (ByteArray × T)) (p:Value) (b B:Nat) (F:List Nat) (w:World) (hp:pre.size<=1000) (h:Own w (.map m) (.iface 50 (.map (some b))) F) (hs:Srt m)
  (ht:textOr (mget cTarget m)) (hso:textOr (mget cSource m)) (hw:WF 70368744177664 (.map m)) (hB:w.heap[B]?=some (.cells #[.string pre] 9)) :
  Calls Tryz.prog 153 #[.iface 50 (.map (some b)),p,.pointer (some ⟨B,0,none⟩)] w fun e w'=>e=.returned (.tuple #[.string (mountKey pre (.map m)),.nilIface])/\Chg [] w w':=by
 have hc:w.cell? ⟨B,0,none⟩=some (.string pre):=cell_of_row _ B 0 _ _ (0,0) hB;have hcc:=Chg.refl [] w;obtain ⟨ks,F',hma,hl,ho,rfl⟩:=h.mapAt
 have lk:∀ k,match mget k m with | some t=>∃ v F',mlook k ks=some v/\Own w t v F' | none=>mlook k ks=none:=fun k=>by
  cases hg:mget k m with
  | none=>exact ho.look_none hs.nodup hma.nodup hl hg
  | some t=>exact ho.look hg
 have htz:∀ k s,mget k m=some (.text s)->s.size<=70368744177664:=fun k s hg=>(hw.of_get hg:WF _ (.text s))
 have t0:=look_text (lk cTarget) ht;have t1:=look_text (lk cSource) hso;have L0:=run_lookup_ok (P:=Tryz.prog) hma uM uS (zA w) cTarget
 have L1:=fun d:Nat=>run_lookup_plain (P:=Tryz.prog) (hma.frame (w':=w.drewN d) rfl) uM uS (zA (w.drewN d)) cSource
 clear lk hma hl ho hs h ht hso hB hw
 rcases t0 with ⟨s0,g0,e0⟩ | ⟨g0,e0⟩
 ·rw [e0] at L0
  simp only [Option.getD_some,Option.isSome_some] at L0;have HG:=Lib.hid g0;clear g0 e0 t1 htz
  go_enter Tryz.func153,Tryz.ntmps153
  go_wp2_with fail
  go_ret2
  refine ⟨?_,hcc⟩;simp only [mountKey,HG.out]
  rfl
 ·rw [e0] at L0
  simp only [Option.getD_none,Option.isSome_none] at L0
  rcases t1 with ⟨s1,g1,e1⟩ | ⟨g1,e1⟩
  ·have z1:=htz _ _ g1
   rw [e1] at L1;simp only [Option.getD_some] at L1;have HV:=Lib.hid (fun W=>verb_text s1 W);have HG:=Lib.hid (And.intro g0 g1);clear g0 e0 g1 e1 htz
   go_enter Tryz.func153,Tryz.ntmps153
   go_wp2_with fail
   go_quiet (exact (verb_text _ _).mono fun e w' h=>⟨h.1,_,h.2.symm⟩)
   go_wp2_with fail
   go_ret2
   refine ⟨?_,Chg.drewN _ _ _⟩;simp only [mountKey,HG.out.1,HG.out.2]
   rfl
  ·rw [e1] at L1
   simp only [Option.getD_none] at L1;have HG:=Lib.hid (And.intro g0 g1);clear g0 e0 g1 e1 htz
   go_enter Tryz.func153,Tryz.ntmps153
   go_wp2_with fail
   go_quiet (exact (verb_nil _).mono fun e w' h=>⟨h.1,_,h.2.symm⟩)
   go_wp2_with fail
   go_ret2
   refine ⟨?_,Chg.drewN _ _ _⟩;simp only [mountKey,HG.out.1,HG.out.2]
   rfl
end Go.Proofs.YtpofkokbmifhgaaGreatDoor
namespace Go.Proofs.YtpofkokbmifhgaaGreatDoor
open Go.RowKit
variable {o:Nat->Prop}
theorem ix_call {ix:Ix} {w0 w:World} {f:Value} (h:IxVal w0 w ix f) (hT:TabP w):∃ fid caps,f=.func (.func fid) #[] caps/\(∀ args W,(callFunc fid args).run Tryz.prog W=.ok (.enter fid args) W) /\
  ∀ W,Chg [] w W->∀ (t:T) (v:Value) (F:List Nat) (q:ByteArray),Own w t v F->WF 268435456 t->ixGood ix t->Calls Tryz.prog fid (#[v,.string q]++caps) W fun e w'=>e=.returned (.tuple #[.string (ixKey ix t),.nilIface])/\Chg [] W w':=by
 have keep:∀ {W:World} {t v F},Own w t v F->Chg [] w W->Own W t v F:=fun h hc=>h.frame fun b hb=>hc.block b (h.lt b hb) (by simp)
 cases ix with
 | kv=>
  refine ⟨_,_,h,fun _ _=>rfl,fun W hW t v F q ho hw hg=>?_⟩
  cases t <;> simp only [ixGood,isText] at hg
  obtain rfl:=leaf_text ho;exact (kv_any _ _ W (Nat.le_trans hw (by omega)))
 | expose=>
  refine ⟨_,_,h,fun _ _=>rfl,fun W hW t v F q ho hw hg=>?_⟩
  cases t <;> simp only [ixGood,isText] at hg
  obtain rfl:=leaf_text ho
  exact (expose_any _ _ W).mono fun e w' h=>⟨h.1,h.2 ▸ Chg.refl _ _⟩
 | vol=>
  refine ⟨_,_,h,fun _ _=>rfl,fun W hW t v F q ho hw hg=>?_⟩;obtain ⟨m,s,rfl,hg⟩:=hg;have ho':=keep ho hW;obtain ⟨b,rfl⟩:=ho'.block
  refine (volume_any m s b F _ W ho' hw.1 hg).mono fun e w' h=>⟨?_,h.2 ▸ Chg.refl _ _⟩
  rw [h.1];simp only [ixKey,tg,hg]
  rfl
 | port=>
  refine ⟨_,_,h,fun _ _=>rfl,fun W hW t v F q ho hw hg=>?_⟩;obtain ⟨m,n,rfl,hg,h1,h2,a,b,c⟩:=hg;have ho':=keep ho hW;obtain ⟨bb,rfl⟩:=ho'.block;exact port_any m n bb F _ W ho' hw.1 hg (by omega) (by omega) a b c (hT.chg hW (by simp)) (hw.mono (by omega))
 | mount0=>
  obtain ⟨B,hB,rfl,hh⟩:=h;refine ⟨_,_,rfl,fun _ _=>rfl,fun W hW t v F q ho hw hg=>?_⟩;have hhW:=(hW.block B (Array.getElem?_eq_some_iff.1 hh).1 (by simp)).trans hh
  rcases hg with hg | ⟨m,rfl,h1,h2⟩
  ·cases t <;> simp only [isText] at hg
   obtain rfl:=leaf_text ho;exact mount_text _ _ _ B W (by decide) (Nat.le_trans hw (by omega)) hhW
  ·have ho':=keep ho hW
   obtain ⟨bb,rfl⟩:=ho'.block;exact mount_map _ m _ bb B F W (by decide) ho' hw.1 h1 h2 (hw.mono (by omega)) hhW
 | mountS=>
  obtain ⟨B,hB,rfl,hh⟩:=h;refine ⟨_,_,rfl,fun _ _=>rfl,fun W hW t v F q ho hw hg=>?_⟩;have hhW:=(hW.block B (Array.getElem?_eq_some_iff.1 hh).1 (by simp)).trans hh
  rcases hg with hg | ⟨m,rfl,h1,h2⟩
  ·cases t <;> simp only [isText] at hg
   obtain rfl:=leaf_text ho;exact mount_text _ _ _ B W (by decide) (Nat.le_trans hw (by omega)) hhW
  ·have ho':=keep ho hW
   obtain ⟨bb,rfl⟩:=ho'.block;exact mount_map _ m _ bb B F W (by decide) ho' hw.1 h1 h2 (hw.mono (by omega)) hhW
 | dev=>exact ⟨_,_,h,fun _ _=>rfl,fun W hW t v F q ho hw hg=>hg.elim⟩
 | env=>exact ⟨_,_,h,fun _ _=>rfl,fun W hW t v F q ho hw hg=>hg.elim⟩
theorem uniq_map {α β K:Type} [DecidableEq K] (f:α->β) (key:β->K) (l:List α):(uniqBy (fun a=>key (f a)) l).map f=uniqBy key (l.map f):=by
 have put:∀ (t:α) (l:List α),(putBy (fun a=>key (f a)) t l).map f=putBy key (f t) (l.map f):=by
  intro t l
  induction l with
  | nil=>rfl
  | cons x l ih=>
   simp only [putBy,List.map_cons]
   split
   ·simp
   ·simp [ih]
 have:∀ (l acc:List α),(l.foldl (fun acc t=>putBy (fun a=>key (f a)) t acc) acc).map f=(l.map f).foldl (fun acc t=>putBy key t acc) (acc.map f):=by
  intro l
  induction l with
  | nil=>intro acc; rfl
  | cons x l ih=>intro acc; simp only [List.foldl_cons,List.map_cons]; rw [ih,put]
 exact this l []
def PathB (ps:List ByteArray) (n:Nat):Prop:=(jn ps).size+n * 4194305<=35184372088832/\ps.length+n<=67108864
def RootK (ps:List ByteArray) (t:T):Prop:=ps=[]->∃ m,t=.map m/\∀ p∈m,NoDot p.1/\p.1≠⟨#[]⟩
theorem sizeM_mem {k:ByteArray} {x:T}:∀ {m:List (ByteArray × T)},(k,x)∈m->T.size x<=T.sizeM m
 | [],h=>by cases h
 | p :: m,h=>by
  simp only [T.sizeM];rcases List.mem_cons.1 h with rfl | h
  ·show T.size x<=T.size x+_
   omega
  ·have:=sizeM_mem h
   omega
theorem path_step {ps:List ByteArray} {k:ByteArray} {n:Nat} (h:PathB ps (n+1)) (hk:k.size<=1048576):PathB (ps++[nxt ps k]) n:=by
 obtain ⟨h1,h2⟩:=h
 have hz:(nxt ps k).size<=4 * k.size:=by
  unfold nxt
  split
  ·omega
  ·exact esc_size k
 refine ⟨?_,by simp; omega⟩
 by_cases e:ps=[]
 ·subst e
  have:jn ([]++[nxt [] k])=nxt [] k:=rfl;rw [this]
  omega
 ·rw [jn_snoc e,ByteArray.size_append,ByteArray.size_append]
  have:cDot.size=1:=rfl
  omega
theorem enforce_any:∀ (n:Nat) (t:T),T.size t<=n->∀ (ps:List ByteArray) (v:Value) (F:List Nat) (w:World),Own w t v F->F.Nodup->WF 1048576 t->UniOK ps t->PathOK ps->RootK ps t->PathB ps n->TabP w->gPow ∉ F ->
  Calls Tryz.prog 52 #[v,.string (jn ps)] w fun e w'=>∃ v',e=.returned (.tuple #[v',.nilIface])/\Res F w (uniT ps t) v' w':=by
 intro n
 induction n with
 | zero=>
  intro t hz
  have:=one_le_size t
  omega
 | succ n ih=>
  intro t hz ps v F w ho hn hw hok hp hr hb hT hgF
  have HI:=Lib.hid ih;clear ih
  cases t with
  | map m=>
   obtain ⟨b,rfl⟩:=ho.block;obtain ⟨w1,left,hrun,hll,hlm,hRM⟩:=RM.start (P:=Tryz.prog) uM ho hn hw.1 (fun k t=>uniT (ps++[nxt ps k]) t);have HW:=Lib.hid (And.intro hw (And.intro hok (And.intro hp (And.intro hr (And.intro hb (And.intro hT hgF))))));have hs:=hw.1
   have hps:(jn ps).size<=70368744177664:=by have:=hb.1; omega
   have hzm:T.sizeM m<=n:=by simp only [T.size] at hz; omega
   obtain ⟨P,hP⟩ : ∃ P,P=jn ps:=⟨_,rfl⟩
   rw [<- hP] at hps ⊢;have HP:=Lib.hid hP;clear hok hp hr hb hT hgF hw hP
   go_enter Tryz.func52,Tryz.ntmps52
   go_wp2_with fail
   go_loopg [] left.length (fun g wx=>∃ left,g=left.length/\RM w F w.heap.size b m (fun k t=>uniT (ps++[nxt ps k]) t) left wx)
   case atStart=>exact ⟨left,rfl,hRM⟩
   case round=>
    obtain ⟨left,rfl,hRM⟩:=hrel
    rcases hRM.next (P:=Tryz.prog) hs 0 with ⟨rfl,hnx⟩ | ⟨k,v,w2,t,F1,hk,hgk,hnx,hent,ho2,hn2,hRH⟩
    ·have hdone:=hRM.done
     clear hRM
     go_wp2_with fail
     go_ret2
     refine ⟨_,rfl,?_⟩;rw [show uniT ps (.map m)=.map (m.map fun p=>(p.1,uniT (ps++[nxt ps p.1]) p.2)) by simp only [uniT]; rw [uniM_eq]];exact hdone
    ·have HK:=Lib.hid (And.intro hk (And.intro hgk (And.intro ho2 (And.intro hn2 (And.intro hRH hRM)))))
     have hkz:k.size<=1048576:=(WFM_iff.1 HW.out.1.2 (k,t) (get_some hgk)).1
     have hlk:(mdel k left).length < left.length:=by
      have:=del_length hk
      omega
     clear hk hgk ho2 hn2 hRH hRM
     go_wp2_with fail
     refine (next_any P k _ hps (by omega)).mono ?_;rintro e w3 ⟨rfl,hc3⟩;obtain ⟨hk,hgk,ho2,hn2,hRH,hRM⟩:=HK.out;obtain ⟨hw,hok,hp,hr,hb,hT,hgF⟩:=HW.out;have hmem:=get_some hgk
     obtain ⟨hj,hp'⟩:=jn_next (k:=k) hp fun e=>by
      obtain ⟨m',e',h⟩:=hr e
      cases e'
      exact h (k,t) hmem
     have hgF1:gPow ∉ F1:=fun h=>by
      obtain ⟨ks,Fr,_,_,_,_,_,hN⟩:=hRH.own;rcases hN gPow (by simp [h]) with h | h
      ·exact hgF h
      ·have:=hT.lt
       omega
     have ho3:Own w3 t v F1:=ho2.frame fun x hx=>hc3.block x (ho2.lt x hx) (by simp)
     have hcall:=HI.out t (Nat.le_trans (sizeM_mem hmem) hzm) (ps++[nxt ps k]) v F1 w3 ho3 hn2 ((WFM_iff.1 hw.2 (k,t) hmem).2) (UniOKM_iff.1 hok (k,t) hmem) hp' (fun e=>by simp at e) (path_step hb hkz) ((hT.chg hRH.chg hgF).chg hc3 (by simp)) hgF1;rw [<- hj,<- HP.out] at hcall;have hc3':=Lib.hid hc3;clear hk hgk ho2 hn2 hRH hRM hw hok hp hr hb hT hgF hmem hj hp' hgF1 ho3 hc3
     go_wp2_with fail
     refine hcall.mono ?_;rintro e w4 ⟨v',rfl,F2,ho4,hn4,hN4,hc4⟩;obtain ⟨hk,hgk,ho2,hn2,hRH,hRM⟩:=HK.out;have hcc:Chg F1 w2 w4:=(hc3'.out.mono (by simp)).trans hc4 (New.refl _ _);obtain ⟨w5,hrun5,hRM5⟩:=RH.put (P:=Tryz.prog) uM uS hs hgk hRH hcc ho4 hn4 (fun x hx=>(hN4 x hx).imp id fun h=>Nat.le_trans hc3'.out.size h);clear hk hgk ho2 hn2 hRH hRM ho4 hn4 hN4 hc4 hcall hcc
     go_wp2_with fail
     go_roundg (mdel k left).length
     case measure=>exact hlk
     case rel=>exact ⟨_,rfl,hRM5⟩
  | list l=>
   have hne:ps≠[]:=fun e=>by
    obtain ⟨m,e,_⟩:=hr e
    cases e
   have hps:(jn ps).size<=35184372088832:=by have:=hb.1; omega
   have hl1:l.length<=67108864:=by
    have h1:=sizeL_len' l;simp only [T.size] at hz;have:=hb.2
    omega
   have hpl:ps.length<=67108864:=by have:=hb.2; omega
   have HU:=Lib.hid (unique_any ps hne hp.1 (by omega) hpl);have hoo:=ho;simp only [Own] at ho;obtain ⟨g,cap,cs,F',rfl,hrow,hol,rfl⟩:=ho
   obtain ⟨P,hP⟩ : ∃ P,P=jn ps:=⟨_,rfl⟩
   rw [<- hP] at hps HU ⊢;have HW:=Lib.hid (And.intro hoo (And.intro hn (And.intro hw (And.intro hok (And.intro hrow (And.intro hol (And.intro hT hgF)))))));clear hoo hn hw hok hrow hol hT hgF hp hr hb hz hne hP hpl
   go_enter Tryz.func52,Tryz.ntmps52
   go_wp2_with fail
   refine (HU.out _).mono ?_;rintro e w1 ⟨f,rfl,hc1,hix⟩
   cases hi:ixOf ps with
   | none=>
    have hH:=Lib.hid (And.intro hc1 hi);clear hc1 hix hi;simp only [Option.isSome_none]
    go_wp2_with fail
    go_ret2
    refine ⟨_,rfl,?_⟩;obtain ⟨hoo,hn,hw,hok,hrow,hol,hT,hgF⟩:=HW.out
    have:uniT ps (.list l)=.list l:=by simp only [uniT,hH.out.2]
    rw [this];exact ⟨g :: F',hoo.frame fun x hx=>hH.out.1.block x (hoo.lt x hx) (by simp),hn,New.refl _ _,hH.out.1.mono (by simp)⟩
   | some ix=>
    obtain ⟨hoo,hn,hw,hok,hrow,hol,hT,hgF⟩:=HW.out;have hT1:=hT.chg hc1 (by simp);obtain ⟨fid,caps,rfl,hcf,hcall⟩:=ix_call (hix ix hi) hT1;obtain ⟨Z,e1,e2,e3,e4⟩:=hol.ents
    have hZl:Z.length=l.length:=by rw [<- e1]; simp
    have hZ1:OwnZ w1 Z:=e4.keep fun x hx=>hc1.block x (hol.lt x (e3 ▸ hx)) (by simp)
    have hrow1:=ownsRow_frame hrow (hc1.block g (ownsRow_lt hrow) (by simp));rw [<- hZl,<- e2] at hrow1;have hgood:=hok ix hi;have hwl:=WFL_iff.1 hw;have hue:=uniqueE Z (ixKey ix) fid caps g cap P w1 hrow1 (fun z hz=>(hZ1 z hz).anyV) hT1 hps (by omega) hcf (fun W hW z hz q=>hcall W hW z.1 z.2.1 z.2.2 q (hZ1 z hz) ((hwl z.1 (by rw [<- e1]; exact List.mem_map_of_mem hz)).mono (by omega)) (hgood z.1 (by rw [<- e1]; exact List.mem_map_of_mem hz)));rw [hZl] at hue;have HH:=Lib.hid (And.intro hc1 (And.intro hi (And.intro e1 (And.intro e2 (And.intro e3 (And.intro hZl hZ1))))));clear hc1 hix hi hcall hcf hT1 e1 e2 e3 e4 hZl hZ1 hrow1 hgood hwl hoo hn hw hok hrow hol hT hgF;simp only [Option.isSome_some]
    go_wp2_with fail
    refine hue.mono ?_;rintro e w2 ⟨g',c',rfl,hg',hc2,hrow2⟩;have H2:=Lib.hid (And.intro hg' (And.intro hc2 hrow2));clear hg' hc2 hrow2 hue
    go_wp2_with fail
    go_ret2
    refine ⟨_,rfl,?_⟩;obtain ⟨hg',hc2,hrow2⟩:=H2.out;obtain ⟨hc1,hi,e1,e2,e3,hZl,hZ1⟩:=HH.out;obtain ⟨hoo,hn,hw,hok,hrow,hol,hT,hgF⟩:=HW.out
    have hu:uniT ps (.list l)=.list (uniqBy (ixKey ix) l):=by simp only [uniT,hi]
    rw [hu];have hnF:F'.Nodup:=(List.nodup_cons.1 hn).2;rw [<- e3] at hnF;have hub:=uniq_blk (key:=fun z:Ent=>ixKey ix z.1) Z hnF Z.length (Nat.le_refl _);rw [List.take_length] at hub
    have hms:(uniqBy (fun z:Ent=>ixKey ix z.1) Z).map (·.1)=uniqBy (ixKey ix) l:=by rw [<- e1]; exact uniq_map (fun z:Ent=>z.1) (ixKey ix) Z
    have hml:(uniqBy (ixKey ix) l).length=(uniqBy (fun z:Ent=>ixKey ix z.1) Z).length:=by rw [<- hms]; simp
    have hsub:∀ x∈blk (uniqBy (fun z:Ent=>ixKey ix z.1) Z),x∈F':=fun x hx=>e3 ▸ hub.2 x hx
    have hlt:∀ x∈F',x < w1.heap.size:=fun x hx=>Nat.lt_of_lt_of_le (hol.lt x hx) hc1.size
    refine ⟨g' :: blk (uniqBy (fun z:Ent=>ixKey ix z.1) Z),?_,?_,?_,(hc1.trans hc2 New.nil).mono (by simp)⟩
    ·simp only [Own]
     refine ⟨g',c',_,_,by rw [hml]; rfl,by rw [hml]; exact hrow2,?_,rfl⟩
     have:OwnZ w2 (uniqBy (fun z:Ent=>ixKey ix z.1) Z):=fun z hz=>(hZ1 z (mem_uniq hz)).frame fun x hx=>hc2.block x ((hZ1 z (mem_uniq hz)).lt x hx) (by simp)
     have:=this.list;rw [hms] at this;exact this
    ·exact List.nodup_cons.2 ⟨fun h=>by have:=hlt _ (hsub _ h); omega,hub.1⟩
    ·exact New.cons (.inr (Nat.le_trans hc1.size hg')) fun x hx=>.inl (List.mem_cons_of_mem _ (hsub x hx))
  | null=>
   simp only [Own] at ho;obtain ⟨rfl,rfl⟩:=ho;clear hgF hn hw hok hp hr hb hT hz HI
   go_enter Tryz.func52,Tryz.ntmps52
   go_wp2_with fail
   go_ret2
   exact ⟨_,rfl,[],by simp only [uniT,Own]; exact ⟨rfl,trivial⟩,List.nodup_nil,New.refl _ _,Chg.refl _ _⟩
  | bool b=>
   simp only [Own] at ho;obtain ⟨rfl,rfl⟩:=ho;clear hgF hn hw hok hp hr hb hT hz HI
   go_enter Tryz.func52,Tryz.ntmps52
   go_wp2_with fail
   go_ret2
   exact ⟨_,rfl,[],by simp only [uniT,Own]; exact ⟨rfl,trivial⟩,List.nodup_nil,New.refl _ _,Chg.refl _ _⟩
  | int b=>
   simp only [Own] at ho;obtain ⟨rfl,rfl⟩:=ho;clear hgF hn hw hok hp hr hb hT hz HI
   go_enter Tryz.func52,Tryz.ntmps52
   go_wp2_with fail
   go_ret2
   exact ⟨_,rfl,[],by simp only [uniT,Own]; exact ⟨rfl,trivial⟩,List.nodup_nil,New.refl _ _,Chg.refl _ _⟩
  | text b=>
   simp only [Own] at ho;obtain ⟨rfl,rfl⟩:=ho;clear hgF hn hw hok hp hr hb hT hz HI
   go_enter Tryz.func52,Tryz.ntmps52
   go_wp2_with fail
   go_ret2
   exact ⟨_,rfl,[],by simp only [uniT,Own]; exact ⟨rfl,trivial⟩,List.nodup_nil,New.refl _ _,Chg.refl _ _⟩
end Go.Proofs.YtpofkokbmifhgaaGreatDoor
namespace Go.Proofs.YtpofkokbmifhgaaGreatDoor
open Go.RowKit
variable {o:Nat->Prop}
theorem enforceTop_any (b:Nat) (m:List (ByteArray × T)) (F:List Nat) (w:World) (ho:Own w (.map m) (.iface 50 (.map (some b))) F) (hn:F.Nodup) (hw:WF 1048576 (.map m)) (hok:UniOK [] (.map m)) (hz:T.size (.map m)<=8000000)
  (hr:∀ p∈m,NoDot p.1/\p.1≠⟨#[]⟩) (hT:TabP w) (hgF:gPow ∉ F) :
  Calls Tryz.prog 32 #[.map (some b)] w fun e w'=>∃ b',e=.returned (.tuple #[.map (some b'),.nilIface])/\Res F w (uniT [] (.map m)) (.iface 50 (.map (some b'))) w':=by
 have hc:=enforce_any _ _ (Nat.le_refl _) [] _ F w ho hn hw hok ⟨fun p hp=>(by cases hp),fun p hp=>(by cases hp)⟩ (fun _=>⟨m,rfl,hr⟩) ⟨by show 0+_<=_; omega,by show 0+_<=_; omega⟩ hT hgF;have e0:jn []=⟨#[]⟩:=rfl;rw [e0] at hc;clear ho hn hw hok hz hr hT hgF e0
 go_enter Tryz.func32,Tryz.ntmps32
 go_wp2_with fail
 refine (newPath_any _ _ _).mono ?_;rintro e w1 ⟨rfl,rfl⟩
 go_wp2_with fail
 refine hc.mono ?_;rintro e w2 ⟨v',rfl,hres⟩
 obtain ⟨b',rfl⟩ : ∃ b',v'=.iface 50 (.map (some b')):=by
  obtain ⟨F',ho,_⟩:=hres;simp only [uniT] at ho;exact ho.block
 have H:=Lib.hid hres;clear hres hc
 go_wp2_with fail
 go_ret2
 exact ⟨b',rfl,H.out⟩
end Go.Proofs.YtpofkokbmifhgaaGreatDoor
namespace Go.Proofs.YtpofkokbmifhgaaGreatDoor
open Go.RowKit
variable {o:Nat->Prop}
def trFn:Tr->Nat
 | .envFile=>117
 | .strOrList=>118
 | .gpus=>119
 | .sliceMap=>120
 | .volMount=>121
 | .device=>122
 | .fileMount=>123
 | .ulimits=>124
 | .service=>125
 | .strOrX=>126
 | .keyValue=>127
 | .dependsOn=>128
 | .extends=>129
 | .ports=>130
 | .build=>131
 | .ssh=>132
 | .schedule=>133
 | .external=>134
 | .incl=>135
def trVal:Option Tr->Value
 | some tr=>.func (.func (trFn tr)) #[] #[]
 | none=>.nilFunc
theorem q_of {ps q:List ByteArray} {X:Option Tr} {tr:Tr} {r:List (List ByteArray × Tr)} (h:X=(((q,tr) :: r).find? fun e=>pm e.1 ps).map (·.2)):pm q ps=true∨pm q ps=false:=Bool.eq_false_or_eq_true _
theorem m_of {ps q:List ByteArray} {P:ByteArray} {X:Option Tr} {tr:Tr} {r:List (List ByteArray × Tr)}
  (hm:∀ (qs:List ByteArray) (s:ByteArray),qokB qs=true->jn qs=s->∀ w:World,Calls Tryz.prog 105 #[.string P,.string s] w fun e w'=>e=.returned (.bool (pm qs ps))/\Chg [] w w')
  (h:X=(((q,tr) :: r).find? fun e=>pm e.1 ps).map (·.2)) (s:ByteArray) (h1:qokB q=true) (h2:jn q=s) (w:World):Calls Tryz.prog 105 #[.string P,.string s] w fun e w'=>e=.returned (.bool (pm q ps))/\Chg [] w w':=hm q s h1 h2 w
def restA (n:Nat):List (List ByteArray × Tr):=match n with
 | 0=>tTab
 | 1=>tPre [cJobs,cStar]++tPre [cServices,cStar,cPreStart,cStar]++tTop cServices++tTop cJobs++tEnd
 | 2=>tPre [cServices,cStar,cPreStart,cStar]++tTop cServices++tTop cJobs++tEnd
 | _=>tTop cServices++tTop cJobs++tEnd
def restB (n:Nat):List (List ByteArray × Tr):=match n with
 | 0=>tTop cServices++tTop cJobs++tEnd
 | 1=>tTop cJobs++tEnd
 | _=>tEnd
theorem trans_q (ps:List ByteArray) (hp:ps≠[]) (hdp:∀ p∈ps,NoDot p) (hsp:(jn ps).size<=70368744177664) (hlp:ps.length<=67108864) (w:World) :
  Calls Tryz.prog 75 #[.string (jn ps)] w fun e w'=>e=.returned (.tuple #[trVal (trOf ps),.bool (trOf ps).isSome])/\Chg [] w w':=by
 have HM:=Lib.hid (matches_q ps hp hdp hsp hlp);have HIz:=Lib.hid (show trOf ps=((restA 0).find? fun e=>pm e.1 ps).map (·.2) from rfl)
 obtain ⟨P,hP⟩ : ∃ P,P=jn ps:=⟨_,rfl⟩
 rw [<- hP] at HM ⊢;clear hP hp hdp hsp hlp
 obtain ⟨S,hS⟩ : ∃ S,S=w.heap.size:=⟨_,rfl⟩
 have HS:=Lib.hid hS;clear hS
 go_enter Tryz.func75,Tryz.ntmps75
 go_wp2_with fail
 go_loopg [10] 3 (fun g i wr=>∃ n:Nat,n<=3/\g=3 - n/\i=.int .i64 n/\Chg [] w wr/\wr.heap[w.heap.size]?=some (.cells #[.string ⟨#[115,101,114,118,105,99,101,115,46,42]⟩,.string ⟨#[106,111,98,115,46,42]⟩,.string ⟨#[115,101,114,118,105,99,101,115,46,42,46,112,114,101,95,115,116,97,114,116,46,42]⟩] 67)/\trOf ps=((restA n).find? fun e=>pm e.1 ps).map (·.2))
 case atStart=>exact ⟨0,by omega,rfl,rfl,(Chg.refl [] w).al _,heap_alloc_new _ _,HIz.out⟩
 case round=>
  obtain ⟨n,hn,rfl,rfl,hcc,hh,hI⟩:=hrel;rcases n with _ | _ | _ | n
  ·have hcell:wr.cell? ⟨w.heap.size,0,none⟩=some (.string ⟨#[115,101,114,118,105,99,101,115,46,42]⟩):=cell_of_row wr _ 0 _ _ (0,0) hh
   have HH:=Lib.hid hh;have HI0:=Lib.hid (show trOf ps=((restA 0).find? fun e=>pm e.1 ps).map (·.2) from hI);have hcw:=hcc;replace hcc:=Chg.refl [] wr;have HCW:=Lib.hid hcw;clear hh hI hcw hn
   iterate 11
    go_wp2_with fail
    refine (m_of HM.out HI0.out _ (by kernel_rfl) (by kernel_rfl) _).mono ?_;rintro e w1 ⟨rfl,hc⟩;replace hcc:=hcc.trans hc New.nil;clear hc;rcases q_of HI0.out with hb | hb
    ·have hit:=find_hit HI0.out hb
     have HIT:=Lib.hid hit;have HCC:=Lib.hid hcc;rw [hb];clear hit hcc hb HI0
     go_wp2_with fail
     go_ret2
     exact ⟨by rw [HIT.out]; rfl,HCW.out.trans HCC.out New.nil⟩
    replace HI0:=Lib.hid (find_step HI0.out hb);rw [hb];clear hb
   have HCC:=Lib.hid hcc;clear hcc
   go_wp2_with fail
   go_roundg (3 - (0+1))
   case measure=>omega
   case rel=>exact ⟨0+1,by omega,rfl,by go_num,HCW.out.trans HCC.out New.nil,(HCC.out.block _ (Array.getElem?_eq_some_iff.1 HH.out).1 (by simp)).trans HH.out,HI0.out⟩
  ·have hcell:wr.cell? ⟨w.heap.size,1,none⟩=some (.string ⟨#[106,111,98,115,46,42]⟩):=cell_of_row wr _ 1 _ _ (0,0) hh
   have HH:=Lib.hid hh;have HI0:=Lib.hid (show trOf ps=((restA 1).find? fun e=>pm e.1 ps).map (·.2) from hI);have hcw:=hcc;replace hcc:=Chg.refl [] wr;have HCW:=Lib.hid hcw;clear hh hI hcw hn
   iterate 11
    go_wp2_with fail
    refine (m_of HM.out HI0.out _ (by kernel_rfl) (by kernel_rfl) _).mono ?_;rintro e w1 ⟨rfl,hc⟩;replace hcc:=hcc.trans hc New.nil;clear hc;rcases q_of HI0.out with hb | hb
    ·have hit:=find_hit HI0.out hb
     have HIT:=Lib.hid hit;have HCC:=Lib.hid hcc;rw [hb];clear hit hcc hb HI0
     go_wp2_with fail
     go_ret2
     exact ⟨by rw [HIT.out]; rfl,HCW.out.trans HCC.out New.nil⟩
    replace HI0:=Lib.hid (find_step HI0.out hb);rw [hb];clear hb
   have HCC:=Lib.hid hcc;clear hcc
   go_wp2_with fail
   go_roundg (3 - (1+1))
   case measure=>omega
   case rel=>exact ⟨1+1,by omega,rfl,by go_num,HCW.out.trans HCC.out New.nil,(HCC.out.block _ (Array.getElem?_eq_some_iff.1 HH.out).1 (by simp)).trans HH.out,HI0.out⟩
  ·have hcell:wr.cell? ⟨w.heap.size,2,none⟩=some (.string ⟨#[115,101,114,118,105,99,101,115,46,42,46,112,114,101,95,115,116,97,114,116,46,42]⟩):=cell_of_row wr _ 2 _ _ (0,0) hh
   have HH:=Lib.hid hh;have HI0:=Lib.hid (show trOf ps=((restA 2).find? fun e=>pm e.1 ps).map (·.2) from hI);have hcw:=hcc;replace hcc:=Chg.refl [] wr;have HCW:=Lib.hid hcw;clear hh hI hcw hn
   iterate 11
    go_wp2_with fail
    refine (m_of HM.out HI0.out _ (by kernel_rfl) (by kernel_rfl) _).mono ?_;rintro e w1 ⟨rfl,hc⟩;replace hcc:=hcc.trans hc New.nil;clear hc;rcases q_of HI0.out with hb | hb
    ·have hit:=find_hit HI0.out hb
     have HIT:=Lib.hid hit;have HCC:=Lib.hid hcc;rw [hb];clear hit hcc hb HI0
     go_wp2_with fail
     go_ret2
     exact ⟨by rw [HIT.out]; rfl,HCW.out.trans HCC.out New.nil⟩
    replace HI0:=Lib.hid (find_step HI0.out hb);rw [hb];clear hb
   have HCC:=Lib.hid hcc;clear hcc
   go_wp2_with fail
   go_roundg (3 - (2+1))
   case measure=>omega
   case rel=>exact ⟨2+1,by omega,rfl,by go_num,HCW.out.trans HCC.out New.nil,(HCC.out.block _ (Array.getElem?_eq_some_iff.1 HH.out).1 (by simp)).trans HH.out,HI0.out⟩
  ·obtain rfl:n=0:=by omega
   have HIy:=Lib.hid (show trOf ps=((restB 0).find? fun e=>pm e.1 ps).map (·.2) from hI);have HCA:=Lib.hid hcc;clear hcc hh hI hn
   obtain ⟨wa,hwa⟩ : ∃ wa,wa=wr:=⟨_,rfl⟩
   rw [<- hwa] at HCA ⊢;clear hwa
   go_wp2_with fail
   go_loopg [61] 2 (fun g i wb=>∃ n:Nat,n<=2/\g=2 - n/\i=.int .i64 n/\Chg [] wa wb/\wb.heap[wa.heap.size]?=some (.cells #[.string ⟨#[115,101,114,118,105,99,101,115]⟩,.string ⟨#[106,111,98,115]⟩] 67)/\trOf ps=((restB n).find? fun e=>pm e.1 ps).map (·.2))
   case atStart=>exact ⟨0,by omega,rfl,rfl,(Chg.refl [] wa).al _,heap_alloc_new _ _,HIy.out⟩
   case round=>
    obtain ⟨n,hn,rfl,rfl,hcc,hh,hI⟩:=hrel;rcases n with _ | _ | n
    ·have hcell:wr.cell? ⟨wa.heap.size,0,none⟩=some (.string ⟨#[115,101,114,118,105,99,101,115]⟩):=cell_of_row wr _ 0 _ _ (0,0) hh
     have HH:=Lib.hid hh;have HI0:=Lib.hid (show trOf ps=((restB 0).find? fun e=>pm e.1 ps).map (·.2) from hI);have hcw:=hcc;replace hcc:=Chg.refl [] wr;have HCW:=Lib.hid hcw;clear hh hI hcw hn
     iterate 11
      go_wp2_with fail
      refine (m_of HM.out HI0.out _ (by kernel_rfl) (by kernel_rfl) _).mono ?_;rintro e w1 ⟨rfl,hc⟩;replace hcc:=hcc.trans hc New.nil;clear hc;rcases q_of HI0.out with hb | hb
      ·have hit:=find_hit HI0.out hb
       have HIT:=Lib.hid hit;have HCC:=Lib.hid hcc;rw [hb];clear hit hcc hb HI0
       go_wp2_with fail
       go_ret2
       exact ⟨by rw [HIT.out]; rfl,HCA.out.trans (HCW.out.trans HCC.out New.nil) New.nil⟩
      replace HI0:=Lib.hid (find_step HI0.out hb);rw [hb];clear hb
     have HCC:=Lib.hid hcc;clear hcc
     go_wp2_with fail
     go_roundg (2 - (0+1))
     case measure=>omega
     case rel=>exact ⟨0+1,by omega,rfl,by go_num,HCW.out.trans HCC.out New.nil,(HCC.out.block _ (Array.getElem?_eq_some_iff.1 HH.out).1 (by simp)).trans HH.out,HI0.out⟩
    ·have hcell:wr.cell? ⟨wa.heap.size,1,none⟩=some (.string ⟨#[106,111,98,115]⟩):=cell_of_row wr _ 1 _ _ (0,0) hh
     have HH:=Lib.hid hh;have HI0:=Lib.hid (show trOf ps=((restB 1).find? fun e=>pm e.1 ps).map (·.2) from hI);have hcw:=hcc;replace hcc:=Chg.refl [] wr;have HCW:=Lib.hid hcw;clear hh hI hcw hn
     iterate 11
      go_wp2_with fail
      refine (m_of HM.out HI0.out _ (by kernel_rfl) (by kernel_rfl) _).mono ?_;rintro e w1 ⟨rfl,hc⟩;replace hcc:=hcc.trans hc New.nil;clear hc;rcases q_of HI0.out with hb | hb
      ·have hit:=find_hit HI0.out hb
       have HIT:=Lib.hid hit;have HCC:=Lib.hid hcc;rw [hb];clear hit hcc hb HI0
       go_wp2_with fail
       go_ret2
       exact ⟨by rw [HIT.out]; rfl,HCA.out.trans (HCW.out.trans HCC.out New.nil) New.nil⟩
      replace HI0:=Lib.hid (find_step HI0.out hb);rw [hb];clear hb
     have HCC:=Lib.hid hcc;clear hcc
     go_wp2_with fail
     go_roundg (2 - (1+1))
     case measure=>omega
     case rel=>exact ⟨1+1,by omega,rfl,by go_num,HCW.out.trans HCC.out New.nil,(HCC.out.block _ (Array.getElem?_eq_some_iff.1 HH.out).1 (by simp)).trans HH.out,HI0.out⟩
    ·obtain rfl:n=0:=by omega
     have HI0:=Lib.hid (show trOf ps=(tEnd.find? fun e=>pm e.1 ps).map (·.2) from hI);replace hcc:=HCA.out.trans hcc New.nil;clear hh hI hn
     iterate 8
      go_wp2_with fail
      refine (m_of HM.out HI0.out _ (by kernel_rfl) (by kernel_rfl) _).mono ?_;rintro e w1 ⟨rfl,hc⟩;replace hcc:=hcc.trans hc New.nil;clear hc;rcases q_of HI0.out with hb | hb
      ·have hit:=find_hit HI0.out hb
       have HIT:=Lib.hid hit;have HCC:=Lib.hid hcc;rw [hb];clear hit hcc hb HI0
       go_wp2_with fail
       go_ret2
       exact ⟨by rw [HIT.out]; rfl,HCC.out⟩
      replace HI0:=Lib.hid (find_step HI0.out hb);rw [hb];clear hb
     have HIT:Hid (trOf ps=none):=Lib.hid HI0.out;have HCC:=Lib.hid hcc;clear hcc HI0
     go_wp2_with fail
     go_ret2
     exact ⟨by rw [HIT.out]; rfl,HCC.out⟩
end Go.Proofs.YtpofkokbmifhgaaGreatDoor
namespace Go.Proofs.YtpofkokbmifhgaaGreatDoor
open Go.RowKit
variable {o:Nat->Prop}
@[go_sem] theorem mkM_hint (n:Int) (w:World):(Instr.makeMap 50 (some (.int .i64 n))).run Tryz.prog w=.ok (.map (some w.heap.size)) (w.alloc (.map #[] 0)):=by
 simp [Instr.makeMap,run_underlying uM,asInt,asIntOf,Result.andThen]
theorem as118_null  (p:ByteArray) (bb:Bool) (w:World):Calls Tryz.prog 118 #[.nilIface,.string p,.bool bb] w fun e w'=>e=.returned (.tuple #[.nilIface,.nilIface])/\w=w':=by
 go_enter Tryz.func118,Tryz.ntmps118
 go_wp2
 go_ret2
 exact ⟨rfl,rfl⟩
theorem as118_bool (x:Bool) (p:ByteArray) (bb:Bool) (w:World):Calls Tryz.prog 118 #[(.iface 4 (.bool x)),.string p,.bool bb] w fun e w'=>e=.returned (.tuple #[(.iface 4 (.bool x)),.nilIface])/\w=w':=by
 go_enter Tryz.func118,Tryz.ntmps118
 go_wp2
 go_ret2
 exact ⟨rfl,rfl⟩
theorem as118_int (x:Int) (p:ByteArray) (bb:Bool) (w:World):Calls Tryz.prog 118 #[(.iface 3 (.int .i64 x)),.string p,.bool bb] w fun e w'=>e=.returned (.tuple #[(.iface 3 (.int .i64 x)),.nilIface])/\w=w':=by
 go_enter Tryz.func118,Tryz.ntmps118
 go_wp2
 go_ret2
 exact ⟨rfl,rfl⟩
theorem as118_list (g n c:Nat) (p:ByteArray) (bb:Bool) (w:World):Calls Tryz.prog 118 #[(.iface 76 (.slice (some ⟨g,0,none⟩) n c)),.string p,.bool bb] w fun e w'=>e=.returned (.tuple #[(.iface 76 (.slice (some ⟨g,0,none⟩) n c)),.nilIface])/\w=w':=by
 go_enter Tryz.func118,Tryz.ntmps118
 go_wp2
 go_ret2
 exact ⟨rfl,rfl⟩
theorem as118_map (b:Nat) (p:ByteArray) (bb:Bool) (w:World):Calls Tryz.prog 118 #[(.iface 50 (.map (some b))),.string p,.bool bb] w fun e w'=>e=.returned (.tuple #[(.iface 50 (.map (some b))),.nilIface])/\w=w':=by
 go_enter Tryz.func118,Tryz.ntmps118
 go_wp2
 go_ret2
 exact ⟨rfl,rfl⟩
theorem as120_null  (p:ByteArray) (bb:Bool) (w:World):Calls Tryz.prog 120 #[.nilIface,.string p,.bool bb] w fun e w'=>e=.returned (.tuple #[.nilIface,.nilIface])/\w=w':=by
 go_enter Tryz.func120,Tryz.ntmps120
 go_wp2
 go_ret2
 exact ⟨rfl,rfl⟩
theorem as120_bool (x:Bool) (p:ByteArray) (bb:Bool) (w:World):Calls Tryz.prog 120 #[(.iface 4 (.bool x)),.string p,.bool bb] w fun e w'=>e=.returned (.tuple #[(.iface 4 (.bool x)),.nilIface])/\w=w':=by
 go_enter Tryz.func120,Tryz.ntmps120
 go_wp2
 go_ret2
 exact ⟨rfl,rfl⟩
theorem as120_int (x:Int) (p:ByteArray) (bb:Bool) (w:World):Calls Tryz.prog 120 #[(.iface 3 (.int .i64 x)),.string p,.bool bb] w fun e w'=>e=.returned (.tuple #[(.iface 3 (.int .i64 x)),.nilIface])/\w=w':=by
 go_enter Tryz.func120,Tryz.ntmps120
 go_wp2
 go_ret2
 exact ⟨rfl,rfl⟩
theorem as120_map (b:Nat) (p:ByteArray) (bb:Bool) (w:World):Calls Tryz.prog 120 #[(.iface 50 (.map (some b))),.string p,.bool bb] w fun e w'=>e=.returned (.tuple #[(.iface 50 (.map (some b))),.nilIface])/\w=w':=by
 go_enter Tryz.func120,Tryz.ntmps120
 go_wp2
 go_ret2
 exact ⟨rfl,rfl⟩
theorem as121_map (b:Nat) (p:ByteArray) (bb:Bool) (w:World):Calls Tryz.prog 121 #[(.iface 50 (.map (some b))),.string p,.bool bb] w fun e w'=>e=.returned (.tuple #[(.iface 50 (.map (some b))),.nilIface])/\w=w':=by
 go_enter Tryz.func121,Tryz.ntmps121
 go_wp2
 go_ret2
 exact ⟨rfl,rfl⟩
theorem as123_map (b:Nat) (p:ByteArray) (bb:Bool) (w:World):Calls Tryz.prog 123 #[(.iface 50 (.map (some b))),.string p,.bool bb] w fun e w'=>e=.returned (.tuple #[(.iface 50 (.map (some b))),.nilIface])/\w=w':=by
 go_enter Tryz.func123,Tryz.ntmps123
 go_wp2
 go_ret2
 exact ⟨rfl,rfl⟩
theorem as125_null  (p:ByteArray) (bb:Bool) (w:World):Calls Tryz.prog 125 #[.nilIface,.string p,.bool bb] w fun e w'=>e=.returned (.tuple #[.nilIface,.nilIface])/\w=w':=by
 go_enter Tryz.func125,Tryz.ntmps125
 go_wp2
 go_ret2
 exact ⟨rfl,rfl⟩
theorem as125_bool (x:Bool) (p:ByteArray) (bb:Bool) (w:World):Calls Tryz.prog 125 #[(.iface 4 (.bool x)),.string p,.bool bb] w fun e w'=>e=.returned (.tuple #[(.iface 4 (.bool x)),.nilIface])/\w=w':=by
 go_enter Tryz.func125,Tryz.ntmps125
 go_wp2
 go_ret2
 exact ⟨rfl,rfl⟩
theorem as125_int (x:Int) (p:ByteArray) (bb:Bool) (w:World):Calls Tryz.prog 125 #[(.iface 3 (.int .i64 x)),.string p,.bool bb] w fun e w'=>e=.returned (.tuple #[(.iface 3 (.int .i64 x)),.nilIface])/\w=w':=by
 go_enter Tryz.func125,Tryz.ntmps125
 go_wp2
 go_ret2
 exact ⟨rfl,rfl⟩
theorem as125_text (x:ByteArray) (p:ByteArray) (bb:Bool) (w:World):Calls Tryz.prog 125 #[(.iface 9 (.string x)),.string p,.bool bb] w fun e w'=>e=.returned (.tuple #[(.iface 9 (.string x)),.nilIface])/\w=w':=by
 go_enter Tryz.func125,Tryz.ntmps125
 go_wp2
 go_ret2
 exact ⟨rfl,rfl⟩
theorem as134_null  (p:ByteArray) (bb:Bool) (w:World):Calls Tryz.prog 134 #[.nilIface,.string p,.bool bb] w fun e w'=>e=.returned (.tuple #[.nilIface,.nilIface])/\w=w':=by
 go_enter Tryz.func134,Tryz.ntmps134
 go_wp2
 go_ret2
 exact ⟨rfl,rfl⟩
theorem ownNew (w:World):Own (w.alloc (.map #[] 0)) (.map []) (.iface 50 (.map (some w.heap.size))) [w.heap.size]:=by
 simp only [Own];exact ⟨_,[],[],rfl,MapAt.new w,rfl,by simp [OwnM],rfl⟩
theorem Srt.nil {α:Type}:Srt ([]:List (ByteArray × α)):=List.Pairwise.nil
theorem oneMap (w:World) (k s:ByteArray):∃ w',(Instr.mapUpdate 50 (.map (some w.heap.size)) (.string k) (.iface 9 (.string s))).run Tryz.prog (w.alloc (.map #[] 0))=.ok () w'/\Res [] w (.map [(k,.text s)]) (.iface 50 (.map (some w.heap.size))) w':=by
 obtain ⟨w',F',hrun,ho,hn,hs,hon,_⟩:=(ownNew w).store (P:=Tryz.prog) (k:=k) uM uS Srt.nil (v:=.iface 9 (.string s)) (t:=.text s) (Fv:=[]) (by simp [Own]) (by simp);refine ⟨w',hrun,w.heap.size :: F',ho,hn,New.cons (.inr (Nat.le_refl _)) fun x hx=>?_,((Chg.refl [] w).al _).trans (Chg.only hon (List.mem_singleton.2 rfl)) fun x hx=>?_⟩
 ·rcases hs x hx with h | h
  ·exact .inr (by simp at h; omega)
  ·cases h
 ·exact .inr (by simp at hx; omega)
theorem tx123 (x:ByteArray) (p:ByteArray) (bb:Bool) (w:World):Calls Tryz.prog 123 #[.iface 9 (.string x),.string p,.bool bb] w fun e w'=>∃ v',e=.returned (.tuple #[v',.nilIface])/\Res [] w (.map [(cSource,.text x)]) v' w':=by
 have hmk:=@run_makeMap Tryz.prog;obtain ⟨w',hrun,hres⟩:=oneMap w cSource x;have H:=Lib.hid hres;clear hres
 go_enter Tryz.func123,Tryz.ntmps123
 go_wp2_with fail
 go_ret2
 exact ⟨_,rfl,H.out⟩
theorem tx131 (x:ByteArray) (p:ByteArray) (bb:Bool) (w:World):Calls Tryz.prog 131 #[.iface 9 (.string x),.string p,.bool bb] w fun e w'=>∃ v',e=.returned (.tuple #[v',.nilIface])/\Res [] w (.map [(cContext,.text x)]) v' w':=by
 have hmk:=@run_makeMap Tryz.prog;obtain ⟨w',hrun,hres⟩:=oneMap w cContext x;have H:=Lib.hid hres;clear hres
 go_enter Tryz.func131,Tryz.ntmps131
 go_wp2_with fail
 go_ret2
 exact ⟨_,rfl,H.out⟩
theorem tx118 (x:ByteArray) (p:ByteArray) (bb:Bool) (w:World):Calls Tryz.prog 118 #[.iface 9 (.string x),.string p,.bool bb] w fun e w'=>∃ v',e=.returned (.tuple #[v',.nilIface])/\Res [] w (.list [.text x]) v' w':=by
 have hcc:=Lib.hid (And.intro ((Chg.refl [] w).al (.cells #[.iface 9 (.string x)] 20)) (heap_alloc_new w (.cells #[.iface 9 (.string x)] 20)))
 go_enter Tryz.func118,Tryz.ntmps118
 go_wp2_with fail
 go_ret2
 refine ⟨_,rfl,[w.heap.size],?_,by simp,New.cons (.inr (Nat.le_refl _)) New.nil,hcc.out.1⟩;simp only [Own,OwnL];refine ⟨w.heap.size,_,[.iface 9 (.string x)],[],rfl,⟨rfl,.inr ⟨w.heap.size,_,_,rfl,Nat.zero_le _,hcc.out.2,by simp,by simp [maxLen],by simp,by simp⟩⟩,⟨_,[],[],[],rfl,⟨rfl,rfl⟩,⟨rfl,rfl⟩,rfl⟩,rfl⟩
end Go.Proofs.YtpofkokbmifhgaaGreatDoor
