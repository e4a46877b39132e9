/- Parts of the walk, made small by wip/tools/pack.py: Tr4, Tr5, Impl. No condition but those in each statement. -/
import Derived.Test.YtpofkokbmifhgaaGreatDoorL16
import Derived.Test.YtpofkokbmifhgaaGreatDoorL15
set_option maxRecDepth 100000
set_option maxHeartbeats 20000000
set_option linter.unusedVariables false
set_option linter.unusedSimpArgs false
namespace Go.Proofs.YtpofkokbmifhgaaGreatDoor
open Go.RowKit
variable {o:Nat->Prop}
def TrR (F:List Nat) (w:World) (t:T) (e:Ending) (w':World):Prop:=∃ v',e=.returned (.tuple #[v',.nilIface])/\Res F w t v' w'
theorem Res.from {F G:List Nat} {w w1 w':World} {t:T} {v:Value} (hc:Chg [] w w1) (h:Res F w1 t v w'):Res F w t v w':=by
 obtain ⟨F',ho,hn,hN,hcc⟩:=h;exact ⟨F',ho,hn,fun x hx=>(hN x hx).imp id fun h=>Nat.le_trans hc.size h,(hc.mono (by simp)).trans hcc (New.refl _ _)⟩
theorem Res.wide {F G:List Nat} {w w':World} {t:T} {v:Value} (h:Res F w t v w') (hs:∀ x∈F,x∈G):Res G w t v w':=by
 obtain ⟨F',ho,hn,hN,hcc⟩:=h;exact ⟨F',ho,hn,fun x hx=>(hN x hx).imp (hs x) id,hcc.mono hs⟩
theorem tr_as {F:List Nat} {w w':World} {t:T} {v:Value} {e:Ending} (ho:Own w t v F) (hn:F.Nodup) (h:e=.returned (.tuple #[v,.nilIface])/\w=w'):TrR F w t e w':=by
 obtain ⟨rfl,rfl⟩:=h;exact ⟨v,rfl,F,ho,hn,New.refl _ _,Chg.refl _ _⟩
theorem tr_enter (tr:Tr) (args:Array Value) (W:World):(callFunc (trFn tr) args).run Tryz.prog W=.ok (.enter (trFn tr) args) W:=by cases tr <;> rfl
theorem transform_some {ps:List ByteArray} {tr:Tr} (htr:trOf ps=some tr) (hp:PathOK ps) (hsp:(jn ps).size<=70368744177664) (hlp:ps.length<=67108864) (v:Value) (bb:Bool) (F:List Nat) (t':T) (w:World)
  (hcall:∀ W,Chg [] w W->Calls Tryz.prog (trFn tr) #[v,.string (jn ps),.bool bb] W (TrR F W t')) :
  Calls Tryz.prog 55 #[v,.string (jn ps),.bool bb] w (TrR F w t'):=by
 have hq:=trans_any ps hp hsp hlp w;rw [htr] at hq;have hcf:=tr_enter tr
 obtain ⟨fid,hf⟩ : ∃ fid,fid=trFn tr:=⟨_,rfl⟩
 simp only [trVal,Option.isSome_some] at hq;rw [<- hf] at hq hcf hcall
 obtain ⟨P,hP⟩ : ∃ P,P=jn ps:=⟨_,rfl⟩
 rw [<- hP] at hq hcall ⊢;have HC:=Lib.hid hcall;clear hf hP hp hsp hlp htr hcall
 go_enter Tryz.func55,Tryz.ntmps55
 go_wp2_with fail
 refine hq.mono ?_;rintro e w1 ⟨rfl,hc1⟩;have H1:=Lib.hid hc1;clear hc1 hq
 go_wp2_with fail
 refine (HC.out _ H1.out).mono ?_;rintro e w2 ⟨v',rfl,hres⟩;have H2:=Lib.hid hres;clear hres
 go_wp2_with fail
 go_ret2
 exact ⟨_,rfl,Res.from (G:=[]) H1.out H2.out⟩
theorem none_leaf {ps:List ByteArray} (htr:trOf ps=none) (hp:PathOK ps) (hsp:(jn ps).size<=70368744177664) (hlp:ps.length<=67108864) {t:T} (v:Value) (bb:Bool) (F:List Nat) (w:World) (ho:Own w t v F) (hn:F.Nodup)
  (hl:match t with | .map _=>False | .list _=>False | _=>True) :
  Calls Tryz.prog 55 #[v,.string (jn ps),.bool bb] w (TrR F w t):=by
 have hq:=trans_any ps hp hsp hlp w;rw [htr] at hq;simp only [trVal,Option.isSome_none] at hq
 obtain ⟨P,hP⟩ : ∃ P,P=jn ps:=⟨_,rfl⟩
 rw [<- hP] at hq ⊢;have HC:=Lib.hid (And.intro ho hn);clear hP hp hsp hlp htr hn
 cases t with
 | map m=>exact hl.elim
 | list l=>exact hl.elim
 | null=>
  simp only [Own] at ho;obtain ⟨rfl,_⟩:=ho
  go_enter Tryz.func55,Tryz.ntmps55
  go_wp2_with fail
  refine hq.mono ?_;rintro e w1 ⟨rfl,hc1⟩;have H1:=Lib.hid hc1;clear hc1 hq
  go_wp2_with fail
  go_ret2
  exact ⟨_,rfl,Res.from (G:=[]) H1.out ⟨F,HC.out.1.frame fun x hx=>H1.out.block x (HC.out.1.lt x hx) (by simp),HC.out.2,New.refl _ _,Chg.refl _ _⟩⟩
 | bool b=>
  simp only [Own] at ho;obtain ⟨rfl,_⟩:=ho
  go_enter Tryz.func55,Tryz.ntmps55
  go_wp2_with fail
  refine hq.mono ?_;rintro e w1 ⟨rfl,hc1⟩;have H1:=Lib.hid hc1;clear hc1 hq
  go_wp2_with fail
  go_ret2
  exact ⟨_,rfl,Res.from (G:=[]) H1.out ⟨F,HC.out.1.frame fun x hx=>H1.out.block x (HC.out.1.lt x hx) (by simp),HC.out.2,New.refl _ _,Chg.refl _ _⟩⟩
 | int b=>
  simp only [Own] at ho;obtain ⟨rfl,_⟩:=ho
  go_enter Tryz.func55,Tryz.ntmps55
  go_wp2_with fail
  refine hq.mono ?_;rintro e w1 ⟨rfl,hc1⟩;have H1:=Lib.hid hc1;clear hc1 hq
  go_wp2_with fail
  go_ret2
  exact ⟨_,rfl,Res.from (G:=[]) H1.out ⟨F,HC.out.1.frame fun x hx=>H1.out.block x (HC.out.1.lt x hx) (by simp),HC.out.2,New.refl _ _,Chg.refl _ _⟩⟩
 | text b=>
  simp only [Own] at ho;obtain ⟨rfl,_⟩:=ho
  go_enter Tryz.func55,Tryz.ntmps55
  go_wp2_with fail
  refine hq.mono ?_;rintro e w1 ⟨rfl,hc1⟩;have H1:=Lib.hid hc1;clear hc1 hq
  go_wp2_with fail
  go_ret2
  exact ⟨_,rfl,Res.from (G:=[]) H1.out ⟨F,HC.out.1.frame fun x hx=>H1.out.block x (HC.out.1.lt x hx) (by simp),HC.out.2,New.refl _ _,Chg.refl _ _⟩⟩
theorem none_map {ps:List ByteArray} (htr:trOf ps=none) (hp:PathOK ps) (hsp:(jn ps).size<=70368744177664) (hlp:ps.length<=67108864) (b:Nat) (bb:Bool) (F:List Nat) (t':T) (w:World)
  (hcall:∀ W,Chg [] w W->Calls Tryz.prog 76 #[.map (some b),.string (jn ps),.bool bb] W fun e w'=>e=.returned (.tuple #[.map (some b),.nilIface])/\Res F W t' (.iface 50 (.map (some b))) w') :
  Calls Tryz.prog 55 #[.iface 50 (.map (some b)),.string (jn ps),.bool bb] w (TrR F w t'):=by
 have hq:=trans_any ps hp hsp hlp w;rw [htr] at hq;simp only [trVal,Option.isSome_none] at hq
 obtain ⟨P,hP⟩ : ∃ P,P=jn ps:=⟨_,rfl⟩
 rw [<- hP] at hq hcall ⊢;have HC:=Lib.hid hcall;clear hP hp hsp hlp htr hcall
 go_enter Tryz.func55,Tryz.ntmps55
 go_wp2_with fail
 refine hq.mono ?_;rintro e w1 ⟨rfl,hc1⟩;have H1:=Lib.hid hc1;clear hc1 hq
 go_wp2_with fail
 refine (HC.out _ H1.out).mono ?_;rintro e w2 ⟨rfl,hres⟩;have H2:=Lib.hid hres;clear hres
 go_wp2_with fail
 go_ret2
 exact ⟨_,rfl,Res.from (G:=[]) H1.out H2.out⟩
theorem none_list {ps:List ByteArray} (htr:trOf ps=none) (hp:PathOK ps) (hsp:(jn ps).size<=70368744177664) (hlp:ps.length<=67108864) (g n cap:Nat) (bb:Bool) (F:List Nat) (t':T) (w:World)
  (hcall:∀ W,Chg [] w W->Calls Tryz.prog 77 #[.slice (some ⟨g,0,none⟩) n cap,.string (jn ps),.bool bb] W fun e w'=>e=.returned (.tuple #[.slice (some ⟨g,0,none⟩) n cap,.nilIface])/\Res F W t' (.iface 76 (.slice (some ⟨g,0,none⟩) n cap)) w') :
  Calls Tryz.prog 55 #[.iface 76 (.slice (some ⟨g,0,none⟩) n cap),.string (jn ps),.bool bb] w (TrR F w t'):=by
 have hq:=trans_any ps hp hsp hlp w;rw [htr] at hq;simp only [trVal,Option.isSome_none] at hq
 obtain ⟨P,hP⟩ : ∃ P,P=jn ps:=⟨_,rfl⟩
 rw [<- hP] at hq hcall ⊢;have HC:=Lib.hid hcall;clear hP hp hsp hlp htr hcall
 go_enter Tryz.func55,Tryz.ntmps55
 go_wp2_with fail
 refine hq.mono ?_;rintro e w1 ⟨rfl,hc1⟩;have H1:=Lib.hid hc1;clear hc1 hq
 go_wp2_with fail
 refine (HC.out _ H1.out).mono ?_;rintro e w2 ⟨rfl,hres⟩;have H2:=Lib.hid hres;clear hres
 go_wp2_with fail
 go_ret2
 exact ⟨_,rfl,Res.from (G:=[]) H1.out H2.out⟩
theorem svc_map (b:Nat) (p:ByteArray) (bb:Bool) (F:List Nat) (t':T) (w:World)
  (hcall:Calls Tryz.prog 76 #[.map (some b),.string p,.bool bb] w fun e w'=>e=.returned (.tuple #[.map (some b),.nilIface])/\Res F w t' (.iface 50 (.map (some b))) w') :
  Calls Tryz.prog 125 #[.iface 50 (.map (some b)),.string p,.bool bb] w (TrR F w t'):=by
 go_enter Tryz.func125,Tryz.ntmps125
 go_wp2_with fail
 refine hcall.mono ?_;rintro e w2 ⟨rfl,hres⟩;have H2:=Lib.hid hres;clear hres hcall
 go_wp2_with fail
 go_ret2
 exact ⟨_,rfl,H2.out⟩
theorem build_map (b:Nat) (p:ByteArray) (bb:Bool) (F:List Nat) (t':T) (w:World)
  (hcall:Calls Tryz.prog 76 #[.map (some b),.string p,.bool bb] w fun e w'=>e=.returned (.tuple #[.map (some b),.nilIface])/\Res F w t' (.iface 50 (.map (some b))) w') :
  Calls Tryz.prog 131 #[.iface 50 (.map (some b)),.string p,.bool bb] w (TrR F w t'):=by
 go_enter Tryz.func131,Tryz.ntmps131
 go_wp2_with fail
 refine hcall.mono ?_;rintro e w2 ⟨rfl,hres⟩;have H2:=Lib.hid hres;clear hres hcall
 go_wp2_with fail
 go_ret2
 exact ⟨_,rfl,H2.out⟩
theorem ext_map (b:Nat) (p:ByteArray) (bb:Bool) (F:List Nat) (m':List (ByteArray × T)) (hs:Srt m') (hno:∀ x,mget cExternal m'=some x->¬ isMap x) (w:World)
  (hcall:Calls Tryz.prog 76 #[.map (some b),.string p,.bool bb] w fun e w'=>e=.returned (.tuple #[.map (some b),.nilIface])/\Res F w (.map m') (.iface 50 (.map (some b))) w') :
  Calls Tryz.prog 134 #[.iface 50 (.map (some b)),.string p,.bool bb] w (TrR F w (.map m')):=by
 go_enter Tryz.func134,Tryz.ntmps134
 go_wp2_with fail
 refine hcall.mono ?_;rintro e w2 ⟨rfl,hres⟩;have H2:=Lib.hid hres;obtain ⟨F',ho,_,_,_⟩:=hres;obtain ⟨ks,hma,hlk⟩:=look_at ho hs cExternal;have L1:=run_lookup_ok (P:=Tryz.prog) hma uM uS (zA w2) cExternal;have L2:=run_lookup_ok (P:=Tryz.prog) hma uM uS (zA w2) cName
 obtain ⟨z2,hz2⟩ : ∃ z,z=(mlook cName ks).getD Value.nilIface:=⟨_,rfl⟩
 obtain ⟨q2,hq2⟩ : ∃ q,q=(mlook cName ks).isSome:=⟨_,rfl⟩
 rw [<- hz2,<- hq2] at L2
 cases hg:mget cExternal m' with
 | none=>
  rw [hg] at hlk;rw [hlk] at L1;simp only [Option.getD_none,Option.isSome_none] at L1;clear hlk hma ho hg hcall hz2 hq2 hno hs
  go_wp2_with fail
  go_ret2
  exact ⟨_,rfl,H2.out⟩
 | some x=>
  rw [hg] at hlk;obtain ⟨v,F1,hlk,hv⟩:=hlk;have hnm:=hno x hg;rw [hlk] at L1;simp only [Option.getD_some,Option.isSome_some] at L1;clear hlk hma ho hg hcall hz2 hq2 hno hs
  cases x with
  | map m=>exact absurd trivial hnm
  | list l=>
   simp only [Own] at hv;obtain ⟨g,cap,cs,F',rfl,_⟩:=hv
   go_wp2_with fail
   go_ret2
   exact ⟨_,rfl,H2.out⟩
  | null=>
   simp only [Own] at hv;obtain ⟨rfl,_⟩:=hv
   go_wp2_with fail
   go_ret2
   exact ⟨_,rfl,H2.out⟩
  | bool q=>
   simp only [Own] at hv;obtain ⟨rfl,_⟩:=hv
   go_wp2_with fail
   go_ret2
   exact ⟨_,rfl,H2.out⟩
  | int q=>
   simp only [Own] at hv;obtain ⟨rfl,_⟩:=hv
   go_wp2_with fail
   go_ret2
   exact ⟨_,rfl,H2.out⟩
  | text q=>
   simp only [Own] at hv;obtain ⟨rfl,_⟩:=hv
   go_wp2_with fail
   go_ret2
   exact ⟨_,rfl,H2.out⟩
end Go.Proofs.YtpofkokbmifhgaaGreatDoor
namespace Go.Proofs.YtpofkokbmifhgaaGreatDoor
open Go.RowKit
variable {o:Nat->Prop}
theorem canM_srt {ps:List ByteArray} {m:List (ByteArray × T)} (h:Srt m):Srt (canM ps m):=by
 rw [canM_eq];exact List.Pairwise.map _ (fun _ _ h=>h) h
theorem mget_canM {ps:List ByteArray} {k:ByteArray}:∀ {m:List (ByteArray × T)},mget k (canM ps m)=(mget k m).map (canT (ps++[nxt ps k]))
 | []=>rfl
 | p :: m=>by
  simp only [canM,mget]
  by_cases e:p.1=k
  ·subst e; simp
  ·simp only [if_neg e]; exact mget_canM
theorem transform_any:∀ n,TrGood n:=by
 intro n
 induction n with
 | zero=>
  intro t hz
  have:=one_le_size t
  omega
 | succ n ih=>
  intro t hz ps v F bb w ho hn hw hok hp hr hb
  have hsp:(jn ps).size<=70368744177664:=by have:=hb.1; omega
  have hlp:ps.length<=67108864:=by have:=hb.2; omega
  have hne:∀ {tr},trOf ps=some tr->ps≠[]:=fun h e=>by
   subst e;rw [root_tr] at h
   cases h
  have keep:∀ {W:World},Chg [] w W->Own W t v F:=fun hc=>ho.frame fun x hx=>hc.block x (ho.lt x hx) (by simp)
  cases t with
  | map m=>
   obtain ⟨b,rfl⟩:=ho.block
   have hzm:T.sizeM m<=n:=by simp only [T.size] at hz; omega
   have hmap:CanOKM ps m->∀ W,Chg [] w W->Calls Tryz.prog 76 #[.map (some b),.string (jn ps),.bool bb] W fun e w'=>e=.returned (.tuple #[.map (some b),.nilIface])/\Res F W (.map (canM ps m)) (.iface 50 (.map (some b))) w':=fun hok W hc=>mapping_of ih m ps b F bb W hzm (keep hc) hn hw hok hp (fun e=>by
    obtain ⟨m',e',h⟩:=hr e
    cases e'
    exact h) hb
   cases htr:trOf ps with
   | none=>
    simp only [CanOK,htr] at hok;simp only [canT,htr];exact none_map htr hp hsp hlp b bb F _ w (hmap hok)
   | some tr=>
    refine transform_some htr hp hsp hlp _ bb F _ w fun W hc=>?_
    cases tr <;> simp only [CanOK,htr] at hok
    ·simp only [canT,htr]
     exact (as118_map b _ bb W).mono fun e w' h=>tr_as (keep hc) hn h
    ·simp only [canT,htr]
     exact (as120_map b _ bb W).mono fun e w' h=>tr_as (keep hc) hn h
    ·simp only [canT,htr]
     exact (as121_map b _ bb W).mono fun e w' h=>tr_as (keep hc) hn h
    ·simp only [canT,htr]
     exact (as123_map b _ bb W).mono fun e w' h=>tr_as (keep hc) hn h
    ·simp only [canT,htr]
     exact svc_map b _ bb F _ W (hmap hok W hc)
    ·simp only [canT,htr]
     exact map128 m b F _ bb W (keep hc) hn hw hok
    ·simp only [canT,htr]
     exact build_map b _ bb F _ W (hmap hok W hc)
    ·simp only [canT,htr]
     refine ext_map b _ bb F _ (canM_srt hw.1) (fun x hx=>?_) W (hmap hok.1 W hc);rw [mget_canM] at hx;obtain ⟨y,hy,rfl⟩:=Option.map_eq_some_iff.1 hx;exact hok.2 y hy
  | list l=>
   have hoo:=ho;simp only [Own] at ho;obtain ⟨g,cap,cs,F',rfl,hrow,hol,rfl⟩:=ho
   have hzl:T.sizeL l<=n:=by simp only [T.size] at hz; omega
   have hl1:l.length<=67108864:=by
    have h1:=sizeL_len' l;have:=hb.2
    omega
   have hpne:ps≠[]:=fun e=>by
    obtain ⟨m,e,_⟩:=hr e
    cases e
   have krow:∀ {W:World},Chg [] w W->W.ownsRow 0 20 1 (.slice (some ⟨g,0,none⟩) l.length cap) l.length cs:=fun hc=>ownsRow_frame hrow (hc.block g (ownsRow_lt hrow) (by simp))
   have kol:∀ {W:World},Chg [] w W->OwnL W l cs F':=fun hc=>hol.frame fun x hx=>hc.block x (hol.lt x hx) (by simp)
   cases htr:trOf ps with
   | none=>
    simp only [CanOK,htr] at hok;simp only [canT,htr]
    exact none_list htr hp hsp hlp g _ cap bb _ _ w fun W hc=>sequence_of ih l ps g cap _ bb W hzl (keep hc) hn hw hok hp hpne hb hl1
   | some tr=>
    refine transform_some htr hp hsp hlp _ bb _ _ w fun W hc=>?_
    cases tr <;> simp only [CanOK,htr] at hok
    ·simp only [canT,htr]
     exact (as118_list g l.length cap _ bb W).mono fun e w' h=>tr_as (keep hc) hn h
    ·simp only [canT,htr]
     exact (slice120 l g cap cs F' _ bb W (krow hc) (kol hc) hl1 hok).mono fun e w' ⟨v',h1,h2⟩=>⟨v',h1,h2.wide (by simp)⟩
    ·simp only [canT,htr]
     exact (list128 l g cap cs F' _ bb W (krow hc) (kol hc) hl1 hok).mono fun e w' ⟨v',h1,h2⟩=>⟨v',h1,h2.wide (by simp)⟩
    ·simp only [canT,htr]
     exact list130 l g cap cs F' _ bb W (krow hc) (kol hc) (List.nodup_cons.1 hn).2 hl1 hok.1 hok.2
  | text s=>
   cases htr:trOf ps with
   | none=>
    simp only [canT,htr];exact none_leaf htr hp hsp hlp v bb F w ho hn trivial
   | some tr=>
    refine transform_some htr hp hsp hlp _ bb _ _ w fun W hc=>?_
    have hoW:=keep hc;simp only [Own] at ho;obtain ⟨rfl,rfl⟩:=ho
    cases tr <;> simp only [CanOK,htr] at hok
    ·simp only [canT,htr]
     exact tx118 s _ bb W
    ·simp only [canT,htr]
     exact tx123 s _ bb W
    ·simp only [canT,htr]
     exact (as125_text s _ bb W).mono fun e w' h=>tr_as hoW hn h
    ·simp only [canT,htr]
     exact tx131 s _ bb W
  | null=>
   simp only [canT]
   cases htr:trOf ps with
   | none=>exact none_leaf htr hp hsp hlp v bb F w ho hn trivial
   | some tr=>
    refine transform_some htr hp hsp hlp _ bb _ _ w fun W hc=>?_
    have hoW:=keep hc;simp only [Own] at ho;obtain ⟨rfl,rfl⟩:=ho
    cases tr <;> simp only [CanOK,htr] at hok
    ·exact (as118_null _ bb W).mono fun e w' h=>tr_as hoW hn h
    ·exact (as120_null _ bb W).mono fun e w' h=>tr_as hoW hn h
    ·exact (as125_null _ bb W).mono fun e w' h=>tr_as hoW hn h
    ·exact (as134_null _ bb W).mono fun e w' h=>tr_as hoW hn h
  | bool s=>
   simp only [canT]
   cases htr:trOf ps with
   | none=>exact none_leaf htr hp hsp hlp v bb F w ho hn trivial
   | some tr=>
    refine transform_some htr hp hsp hlp _ bb _ _ w fun W hc=>?_
    have hoW:=keep hc;simp only [Own] at ho;obtain ⟨rfl,rfl⟩:=ho
    cases tr <;> simp only [CanOK,htr] at hok
    ·exact (as118_bool s _ bb W).mono fun e w' h=>tr_as hoW hn h
    ·exact (as120_bool s _ bb W).mono fun e w' h=>tr_as hoW hn h
    ·exact (as125_bool s _ bb W).mono fun e w' h=>tr_as hoW hn h
  | int s=>
   simp only [canT]
   cases htr:trOf ps with
   | none=>exact none_leaf htr hp hsp hlp v bb F w ho hn trivial
   | some tr=>
    refine transform_some htr hp hsp hlp _ bb _ _ w fun W hc=>?_
    have hoW:=keep hc;simp only [Own] at ho;obtain ⟨rfl,rfl⟩:=ho
    cases tr <;> simp only [CanOK,htr] at hok
    ·exact (as118_int s _ bb W).mono fun e w' h=>tr_as hoW hn h
    ·exact (as120_int s _ bb W).mono fun e w' h=>tr_as hoW hn h
    ·exact (as125_int s _ bb W).mono fun e w' h=>tr_as hoW hn h
theorem canonTop_any (b:Nat) (m:List (ByteArray × T)) (F:List Nat) (bb:Bool) (w:World) (ho:Own w (.map m) (.iface 50 (.map (some b))) F) (hn:F.Nodup) (hw:WF 1048576 (.map m)) (hok:CanOK [] (.map m)) (hz:T.size (.map m)<=8000000)
  (hr:∀ p∈m,NoDot p.1/\p.1≠⟨#[]⟩) :
  Calls Tryz.prog 34 #[.map (some b),.bool bb] w fun e w'=>∃ b',e=.returned (.tuple #[.map (some b'),.nilIface])/\Res F w (canT [] (.map m)) (.iface 50 (.map (some b'))) w':=by
 have hc:=transform_any _ _ (Nat.le_refl _) [] _ F bb w ho hn hw hok ⟨fun p hp=>(by cases hp),fun p hp=>(by cases hp)⟩ (fun _=>⟨m,rfl,hr⟩) ⟨by show 0+_<=_; omega,by show 0+_<=_; omega⟩;have e0:jn []=⟨#[]⟩:=rfl;rw [e0] at hc;clear ho hn hw hok hz hr e0
 go_enter Tryz.func34,Tryz.ntmps34
 go_wp2_with fail
 refine (newPath_any _ _ _).mono ?_;rintro e w1 ⟨rfl,rfl⟩
 go_wp2_with fail
 refine hc.mono ?_;rintro e w2 ⟨v',rfl,hres⟩
 obtain ⟨b',rfl⟩ : ∃ b',v'=.iface 50 (.map (some b')):=by
  obtain ⟨F',ho,_⟩:=hres;simp only [canT,root_tr] at ho;exact ho.block
 have H:=Lib.hid hres;clear hres hc
 go_wp2_with fail
 go_ret2
 exact ⟨b',rfl,H.out⟩
end Go.Proofs.YtpofkokbmifhgaaGreatDoor
namespace Go.Proofs.YtpofkokbmifhgaaGreatDoor
open Go.RowKit
variable {o:Nat->Prop}
abbrev vM (b:Nat):Value:=.iface 50 (.map (some b))
theorem toMap_any (m:List (ByteArray × T)) (v:Value) (w:World) (h:Rd o w (.map m) v) (hf:Fine (.map m)) :
  Calls Tryz.prog 33 #[v] w fun e w'=>∃ b F,e=.returned (.map (some b))/\Chg [] w w'/\Own w' (.map m) (vM b) F/\F.Nodup/\∀ x∈F,w.heap.size<=x:=by
 have hsz:=hf.size;exact toMap_step (o:=o) (T.size (.map m)) (fun t v w h1 h2 h3=>toAny_any (T.size (.map m)) t v w h1 hsz h2 h3) m v w (by omega) h hf.wf hsz
theorem fromMap_any (m:List (ByteArray × T)) (b:Nat) (w:World) (F:List Nat) (h:Own w (.map m) (vM b) F) (hf:Fine (.map m)) :
  Calls Tryz.prog 51 #[.map (some b)] w (FromR w (.map m)):=by
 have hsz:=hf.size;exact fromMap_step (T.size (.map m)) (fun t v w F h1 h2 h3=>fromAny_any (T.size (.map m)) t v w F h1 hsz h2 h3) m b w F (by omega) h hf.wf hsz
theorem model_any (m:List (ByteArray × T)) (b:Nat) (w:World) (F:List Nat) (h:Own w (.map m) (vM b) F) (hf:Fine (.map m)) :
  Calls Tryz.prog 31 #[.map (some b),.nilIface] w (FromR w (.map m)):=by
 have HF:Hid (∀ W,Chg [] w W->Calls Tryz.prog 51 #[.map (some b)] W (FromR W (.map m))):=Lib.hid fun W hc=>fromMap_any m b W F (h.frame fun x hx=>hc.block x (h.lt x hx) (by simp)) hf
 clear h
 go_enter Tryz.func31,Tryz.ntmps31
 go_wp2_with fail
 refine (HF.out _ ((Chg.refl [] w).al _)).mono ?_;rintro e w1 ⟨v',rfl,hc1,hr1⟩;obtain ⟨A5,q5,A6,q6,rfl,hyz⟩:=hr1.five;clear hyz;have hcw:Chg [] w w1:=((Chg.refl [] w).al _).trans hc1 New.nil;have z1:=box5 (heap_alloc_new w (.cells #[.int .i64 0,.int .i64 0,.string ⟨#[]⟩,.slice none 0 0,.slice none 0 0] 32)) _ hc1;obtain ⟨W7,hW7,Q,hne,hcW,_⟩:=store5 z1 hcw (Nat.le_refl _) (.int .i64 (T.map m).kind) (.int .i64 (T.map m).num) (.string (T.map m).txt) (.slice A5 (T.map m).keys.length q5) (.slice A6 (T.map m).vals.length q6)
 have hr7:Rd (fun b=>w.heap.size<=b) W7 (.map m) (.agg #[.int .i64 (T.map m).kind,.int .i64 (T.map m).num,.string (T.map m).txt,.slice A5 (T.map m).keys.length q5,.slice A6 (T.map m).vals.length q6]):=hr1.to fun b hb ho=>by
  have ho:(w.alloc (.cells #[.int .i64 0,.int .i64 0,.string ⟨#[]⟩,.slice none 0 0,.slice none 0 0] 32)).heap.size<=b:=ho;simp at ho;exact ⟨by omega,hne b (by omega)⟩
 have HR7:=Lib.hid (And.intro hr7 (And.intro Q hcW));obtain ⟨d0,d1,d2,d3,d4,df⟩:=cells5 z1;clear hr1 hc1 hr7 hne Q hcW hcw
 go_wp2_with fail
 rw [<- hW7];obtain ⟨h1,Q,h2⟩:=HR7.out;obtain ⟨e0,e1,e2,e3,e4,_⟩:=cells5 Q;refine bodyPost_ret (v:=.tuple #[.agg #[.int .i64 (T.map m).kind,.int .i64 (T.map m).num,.string (T.map m).txt,.slice A5 (T.map m).keys.length q5,.slice A6 (T.map m).vals.length q6],.bool true]) (by simp [results,Tryz.results31,go_sem,e0,e1,e2,e3,e4]) rfl ⟨_,rfl,h2,h1⟩
theorem implUni_any (m m':List (ByteArray × T)) (v:Value) (w:World) (h:Rd o w (.map m) v) (hf:Fine (.map m)) (hfn:Fine (.map m')) (hm':uniT [] (.map m)=.map m') (hw:WF 1048576 (.map m)) (hz:T.size (.map m)<=8000000) (hok:UniOK [] (.map m)) (hr:∀ p∈m,NoDot p.1/\p.1≠⟨#[]⟩) (hT:TabP w) :
  Calls Tryz.prog 11 #[v] w (FromR w (.map m')):=by
 obtain ⟨A3,q3,A4,q4,rfl,hyz⟩:=h.five;clear hyz
 have HM:Hid (∀ W,Chg [] w W->Calls Tryz.prog 33 #[.agg #[.int .i64 (T.map m).kind,.int .i64 (T.map m).num,.string (T.map m).txt,.slice A3 (T.map m).keys.length q3,.slice A4 (T.map m).vals.length q4]] W fun e w'=>∃ b F,e=.returned (.map (some b))/\Chg [] W w'/\Own w' (.map m) (vM b) F/\F.Nodup/\∀ x∈F,W.heap.size<=x):=
  Lib.hid fun W hc=>toMap_any m _ W (h.chg hc) hf
 have HK:=Lib.hid (And.intro hw (And.intro hok (And.intro hz (And.intro hr hT))));clear h hw hok hz hr hT
 go_enter Tryz.func11,Tryz.ntmps11
 go_wp2_with fail
 refine (HM.out _ (((Chg.refl [] w).al _).al _)).mono ?_;rintro e w1 ⟨b,F,rfl,hc1,ho1,hn1,hF1⟩
 have hs1:w.heap.size+2<=w1.heap.size:=by have:=hc1.size; simpa using this
 have HO1:=Lib.hid (And.intro hc1 (And.intro ho1 (And.intro hn1 hF1)));clear hc1 ho1 hn1 hF1
 go_wp2_with fail
 have hcw1:Chg [] w w1:=(((Chg.refl [] w).al _).al _).trans HO1.out.1 New.nil
 refine (enforceTop_any b m F w1 HO1.out.2.1 HO1.out.2.2.1 HK.out.1 HK.out.2.1 HK.out.2.2.1 HK.out.2.2.2.1 (HK.out.2.2.2.2.chg hcw1 (by simp)) (fun h=>by
  have h1:=HO1.out.2.2.2 _ h;have h2:=HK.out.2.2.2.2.lt;simp at h1
  omega)).mono ?_
 clear hcw1;rintro e w3 ⟨b3,rfl,F3,ho3,hn3,hN3,hc3⟩;rw [hm'] at ho3;have HO3:=Lib.hid (And.intro ho3 (And.intro hN3 hc3));clear ho3 hn3 hN3 hc3
 go_wp2_with fail
 refine (model_any m' b3 w3 F3 HO3.out.1 hfn).mono ?_;rintro e w4 ⟨v',rfl,hc4,hr4⟩;obtain ⟨A5,q5,A6,q6,rfl,hyz⟩:=hr4.five;clear hyz;obtain ⟨hc1,ho1,hn1,hF1⟩:=HO1.out;obtain ⟨ho3,hN3,hc3⟩:=HO3.out;have hs3:=hc3.size;have hs4:=hc4.size
 have hF2:∀ x∈F,w.heap.size+2<=x:=fun x hx=>by have:=hF1 x hx; simpa using this
 have hlow:∀ x,x < w.heap.size+2->w4.heap[x]?=w1.heap[x]?:=fun x hx=>(hc4.block x (by omega) (by simp)).trans (hc3.block x (by omega) (fun hm=>by have:=hF2 x hm; omega))
 have z1:w4.heap[w.heap.size+1]?=some (.cells #[.int .i64 0,.int .i64 0,.string ⟨#[]⟩,.slice none 0 0,.slice none 0 0] 32):=(hlow _ (by omega)).trans ((hc1.block _ (by simp) (by simp)).trans (heap_al2 w _ _));have hcw1:Chg [] w w1:=(((Chg.refl [] w).al _).al _).trans hc1 New.nil;have hcw:Chg [] w w4:=(hcw1.trans hc3 (fun x hx=>.inr (by have:=hF2 x hx; omega))).trans hc4 New.nil;obtain ⟨W7,hW7,Q,hne,hcW,_⟩:=store5 z1 hcw (by omega:w.heap.size<=w.heap.size+1) (.int .i64 (T.map m').kind) (.int .i64 (T.map m').num) (.string (T.map m').txt) (.slice A5 (T.map m').keys.length q5) (.slice A6 (T.map m').vals.length q6)
 have hr7:Rd (fun b=>w.heap.size<=b) W7 (.map m') (.agg #[.int .i64 (T.map m').kind,.int .i64 (T.map m').num,.string (T.map m').txt,.slice A5 (T.map m').keys.length q5,.slice A6 (T.map m').vals.length q6]):=hr4.to fun b hb ho=>⟨by omega,hne b (by omega)⟩
 have HR7:=Lib.hid (And.intro hr7 (And.intro Q hcW));obtain ⟨d0,d1,d2,d3,d4,df⟩:=cells5 z1;clear hr4 hc4 hr7 hne Q hcW hcw hcw1 hlow hc1 ho1 hn1 hF1 ho3 hN3 hc3 hF2 hs3
 go_wp2_with fail
 rw [<- hW7];obtain ⟨h1,Q,h2⟩:=HR7.out;obtain ⟨e0,e1,e2,e3,e4,_⟩:=cells5 Q;refine bodyPost_ret (v:=.tuple #[.agg #[.int .i64 (T.map m').kind,.int .i64 (T.map m').num,.string (T.map m').txt,.slice A5 (T.map m').keys.length q5,.slice A6 (T.map m').vals.length q6],.bool true]) (by simp [results,Tryz.results11,go_sem,e0,e1,e2,e3,e4]) rfl ⟨_,rfl,h2,h1⟩
theorem implCan_any (m m':List (ByteArray × T)) (v:Value) (bb:Bool) (w:World) (h:Rd o w (.map m) v) (hf:Fine (.map m)) (hfn:Fine (.map m')) (hm':canT [] (.map m)=.map m') (hw:WF 1048576 (.map m)) (hz:T.size (.map m)<=8000000) (hok:CanOK [] (.map m)) (hr:∀ p∈m,NoDot p.1/\p.1≠⟨#[]⟩) :
  Calls Tryz.prog 13 #[v,.bool bb] w (FromR w (.map m')):=by
 obtain ⟨A3,q3,A4,q4,rfl,hyz⟩:=h.five;clear hyz
 have HM:Hid (∀ W,Chg [] w W->Calls Tryz.prog 33 #[.agg #[.int .i64 (T.map m).kind,.int .i64 (T.map m).num,.string (T.map m).txt,.slice A3 (T.map m).keys.length q3,.slice A4 (T.map m).vals.length q4]] W fun e w'=>∃ b F,e=.returned (.map (some b))/\Chg [] W w'/\Own w' (.map m) (vM b) F/\F.Nodup/\∀ x∈F,W.heap.size<=x):=
  Lib.hid fun W hc=>toMap_any m _ W (h.chg hc) hf
 have HK:=Lib.hid (And.intro hw (And.intro hok (And.intro hz hr)));clear h hw hok hz hr
 go_enter Tryz.func13,Tryz.ntmps13
 go_wp2_with fail
 refine (HM.out _ (((Chg.refl [] w).al _).al _)).mono ?_;rintro e w1 ⟨b,F,rfl,hc1,ho1,hn1,hF1⟩
 have hs1:w.heap.size+2<=w1.heap.size:=by have:=hc1.size; simpa using this
 have HO1:=Lib.hid (And.intro hc1 (And.intro ho1 (And.intro hn1 hF1)));clear hc1 ho1 hn1 hF1
 go_wp2_with fail
 refine (canonTop_any b m F bb w1 HO1.out.2.1 HO1.out.2.2.1 HK.out.1 HK.out.2.1 HK.out.2.2.1 HK.out.2.2.2).mono ?_;rintro e w3 ⟨b3,rfl,F3,ho3,hn3,hN3,hc3⟩;rw [hm'] at ho3;have HO3:=Lib.hid (And.intro ho3 (And.intro hN3 hc3));clear ho3 hn3 hN3 hc3
 go_wp2_with fail
 refine (model_any m' b3 w3 F3 HO3.out.1 hfn).mono ?_;rintro e w4 ⟨v',rfl,hc4,hr4⟩;obtain ⟨A5,q5,A6,q6,rfl,hyz⟩:=hr4.five;clear hyz;obtain ⟨hc1,ho1,hn1,hF1⟩:=HO1.out;obtain ⟨ho3,hN3,hc3⟩:=HO3.out;have hs3:=hc3.size;have hs4:=hc4.size
 have hF2:∀ x∈F,w.heap.size+2<=x:=fun x hx=>by have:=hF1 x hx; simpa using this
 have hlow:∀ x,x < w.heap.size+2->w4.heap[x]?=w1.heap[x]?:=fun x hx=>(hc4.block x (by omega) (by simp)).trans (hc3.block x (by omega) (fun hm=>by have:=hF2 x hm; omega))
 have z1:w4.heap[w.heap.size+1]?=some (.cells #[.int .i64 0,.int .i64 0,.string ⟨#[]⟩,.slice none 0 0,.slice none 0 0] 32):=(hlow _ (by omega)).trans ((hc1.block _ (by simp) (by simp)).trans (heap_al2 w _ _));have hcw1:Chg [] w w1:=(((Chg.refl [] w).al _).al _).trans hc1 New.nil;have hcw:Chg [] w w4:=(hcw1.trans hc3 (fun x hx=>.inr (by have:=hF2 x hx; omega))).trans hc4 New.nil;obtain ⟨W7,hW7,Q,hne,hcW,_⟩:=store5 z1 hcw (by omega:w.heap.size<=w.heap.size+1) (.int .i64 (T.map m').kind) (.int .i64 (T.map m').num) (.string (T.map m').txt) (.slice A5 (T.map m').keys.length q5) (.slice A6 (T.map m').vals.length q6)
 have hr7:Rd (fun b=>w.heap.size<=b) W7 (.map m') (.agg #[.int .i64 (T.map m').kind,.int .i64 (T.map m').num,.string (T.map m').txt,.slice A5 (T.map m').keys.length q5,.slice A6 (T.map m').vals.length q6]):=hr4.to fun b hb ho=>⟨by omega,hne b (by omega)⟩
 have HR7:=Lib.hid (And.intro hr7 (And.intro Q hcW));obtain ⟨d0,d1,d2,d3,d4,df⟩:=cells5 z1;clear hr4 hc4 hr7 hne Q hcW hcw hcw1 hlow hc1 ho1 hn1 hF1 ho3 hN3 hc3 hF2 hs3
 go_wp2_with fail
 rw [<- hW7];obtain ⟨h1,Q,h2⟩:=HR7.out;obtain ⟨e0,e1,e2,e3,e4,_⟩:=cells5 Q;refine bodyPost_ret (v:=.tuple #[.agg #[.int .i64 (T.map m').kind,.int .i64 (T.map m').num,.string (T.map m').txt,.slice A5 (T.map m').keys.length q5,.slice A6 (T.map m').vals.length q6],.bool true]) (by simp [results,Tryz.results13,go_sem,e0,e1,e2,e3,e4]) rfl ⟨_,rfl,h2,h1⟩
end Go.Proofs.YtpofkokbmifhgaaGreatDoor
