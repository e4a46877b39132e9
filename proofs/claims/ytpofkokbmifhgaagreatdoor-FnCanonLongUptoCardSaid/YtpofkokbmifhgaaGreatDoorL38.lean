/- Parts of the walk, made small by wip/tools/pack.py: MM, Guard, LawL. No condition but those in each statement. -/
import Derived.Test.YtpofkokbmifhgaaGreatDoorL37
import Derived.Test.YtpofkokbmifhgaaGreatDoorL18
import Derived.Test.YtpofkokbmifhgaaGreatDoorL24
import Derived.Test.YtpofkokbmifhgaaGreatDoorL25
import Derived.Test.YtpofkokbmifhgaaGreatDoorL06
import Derived.Test.YtpofkokbmifhgaaGreatDoorL05
import Derived.Test.YtpofkokbmifhgaaGreatDoorL02
import Derived.Test.YtpofkokbmifhgaaGreatDoorL34
import Derived.Test.YtpofkokbmifhgaaGreatDoorL36
import Derived.Test.YtpofkokbmifhgaaGreatDoorL19
set_option maxRecDepth 100000
set_option maxHeartbeats 20000000
set_option linter.unusedVariables false
set_option linter.unusedSimpArgs false
namespace Go.Proofs.YtpofkokbmifhgaaGreatDoor
open Go.RowKit
variable {o:Nat->Prop}
def MMc (mu:List (ByteArray × T)) (n:Nat):List (ByteArray × T):=if n=0 then [] else mu
def BI (o:Nat->Prop) (B:Nat) (t:T) (w:World):Prop:=∃ A5 q5 A6 q6,w.heap[B]?=some (.cells #[.int .i64 t.kind,.int .i64 t.num,.string t.txt,.slice A5 t.keys.length q5,.slice A6 t.vals.length q6] 32)/\Rd o w t (.agg #[.int .i64 t.kind,.int .i64 t.num,.string t.txt,.slice A5 t.keys.length q5,.slice A6 t.vals.length q6])
theorem mergeModel_any (m mu:List (ByteArray × T)) (g c:Nat) (w:World) (h:RdV o w [.map m] (.slice (some ⟨g,0,none⟩) 1 c)) (HB:Hid (CanB m mu)) (hT:TabP w) (hno:∀ b,w.heap.size<=b->o b) :
  Calls Tryz.prog 20 #[.slice (some ⟨g,0,none⟩) 1 c] w fun e w'=>∃ v',e=.returned (.tuple #[v',.bool true])/\Chg [] w w'/\Rd (fun b=>w.heap.size<=b) w' (.map (formP m)) v':=by
 have HV:=Lib.hid h;have HT:=Lib.hid hT;clear h hT
 go_enter Tryz.func20,Tryz.ntmps20
 go_wp2_with fail
 refine (specEmpty (o:=fun _=>False) _).mono ?_;rintro e w1 ⟨v1,rfl,hc1,hr1⟩;have c1:=((Chg.refl [] w).al (.cells #[.int .i64 0,.int .i64 0,.string ⟨#[]⟩,.slice none 0 0,.slice none 0 0] 25)).trans hc1 New.nil;have zz1:=box5 (heap_alloc_new w (.cells #[.int .i64 0,.int .i64 0,.string ⟨#[]⟩,.slice none 0 0,.slice none 0 0] 25)) _ hc1;clear hc1
 go_wp2_with fail
 refine (to_any 67108864 (.map []) _ w1 (by decide) (by decide) hr1).mono ?_;rintro e w2 ⟨v2,rfl,hc2,hr2⟩;obtain ⟨E5,r5,E6,r6,rfl,hj⟩:=hr2.five;have hsz1:=(Array.getElem?_eq_some_iff.1 zz1).1;have hs12:=hc2.size
 obtain ⟨w3,hw⟩ : ∃ W:World,W=w2.alloc (.cells #[.int .i64 (T.map ([]:List (ByteArray × T))).kind,.int .i64 (T.map ([]:List (ByteArray × T))).num,.string (T.map ([]:List (ByteArray × T))).txt,.slice E5 (T.map ([]:List (ByteArray × T))).keys.length r5,.slice E6 (T.map ([]:List (ByteArray × T))).vals.length r6] 32):=⟨_,rfl⟩
 have hc23:Chg [] w2 w3:=hw ▸ (Chg.refl [] w2).al _;have c3:=(c1.trans hc2 New.nil).trans hc23 New.nil;have zz3:=box5 (box5 zz1 _ hc2) _ hc23
 have hB3:BI (fun b=>w.heap.size < b/\b≠w2.heap.size) w2.heap.size (.map []) w3:=⟨E5,r5,E6,r6,hw ▸ heap_alloc_new _ _,hr2.to fun b hb ho=>⟨⟨by omega,by omega⟩,hc23.block b hb (by simp)⟩⟩
 have hss:w.heap.size < w2.heap.size/\w2.heap.size < w3.heap.size:=⟨by omega,by rw [hw]; simp⟩
 clear hr1 hr2 hj zz1 c1 hc2 hc23 hs12 hsz1
 go_upto_region 2 with fail
 rw [<- hw];clear hw
 go_wp2_with fail
 go_loopg [5] 1 (fun gg i wr=>∃ n:Nat,n<=1/\gg=1 - n/\i=.int .i64 n/\Chg [] w wr/\w3.heap.size<=wr.heap.size/\wr.heap[w.heap.size]?=some (.cells #[.int .i64 0,.int .i64 0,.string ⟨#[]⟩,.slice none 0 0,.slice none 0 0] 25)/\BI (fun b=>w.heap.size < b/\b≠w2.heap.size) w2.heap.size (.map (MMc mu n)) wr)
 case atStart=>exact ⟨0,Nat.zero_le _,by omega,rfl,c3,Nat.le_refl _,zz3,hB3⟩
 case round=>
  clear zz3 hB3;obtain ⟨n,hn,rfl,rfl,hcr,hsr,zz,hB⟩:=hrel
  by_cases hlt:n < 1
  ·have hn0:n=0:=by omega
   subst hn0;have e0:MMc mu 0=[]:=rfl;rw [e0] at hB;obtain ⟨F5,f5,F6,f6,hbx,hrx⟩:=hB;obtain ⟨g',c',A5,q5,A6,q6,e,hge,rx,ye⟩:=HV.out.elem (n:=0) (x:=.map m) rfl
   cases e
   have YE:=Lib.hid ye;have HLX:=Lib.hid rx.lo;have HBX:=Lib.hid (And.intro hbx hrx);have HZ:=Lib.hid zz;clear rx ye hrx zz
   go_wp2_with fail
   rename_i K hK;have HK:=Lib.hid hK;clear hK
   refine wp_region_put3 (by rfl) (by kernel_rfl) [0,4,5] 11 10 (by kernel_rfl) (by kernel_rfl) (.cells #[.int .i64 0,.int .i64 0,.string ⟨#[]⟩,.slice none 0 0,.slice none 0 0] 32)
    (fun jo u b V=>match jo with
     | 0=>u=.agg #[.int .i64 (T.map ([]:List (ByteArray × T))).kind,.int .i64 (T.map ([]:List (ByteArray × T))).num,.string (T.map ([]:List (ByteArray × T))).txt,.slice F5 (T.map ([]:List (ByteArray × T))).keys.length f5,.slice F6 (T.map ([]:List (ByteArray × T))).vals.length f6]
     | 1=>u=.slice (some ⟨g,0,none⟩) 1 c
     | 2=>u=.int .i64 (0:Nat)
     | 3=>u=.pointer (some ⟨g,0,none⟩)
     | 4=>u=.agg #[.int .i64 (T.map m).kind,.int .i64 (T.map m).num,.string (T.map m).txt,.slice A5 (T.map m).keys.length q5,.slice A6 (T.map m).vals.length q6]
     | 5=>Rd (Av (Ex o [w.heap.size,w2.heap.size]) b) V (T.map m) u
     | 6=>∃ v,u=.tuple #[v,.bool true]/\Rd (Av (Ex o [w.heap.size,w2.heap.size]) b) V (T.map m) v
     | 7=>∃ v,u=.tuple #[v,.bool true]/\Rd (Av (Ex o [w.heap.size,w2.heap.size]) b) V (T.map m) v
     | 8=>Rd (Av (Ex o [w.heap.size,w2.heap.size]) b) V (T.map m) u
     | 9=>u=.bool true
     | 12=>u=.bool true
     | _=>True) ?_ ?_
    (fun B V=>∃ E5 e5 E6 e6,V.heap[B]?=some (.cells #[.int .i64 (T.map m).kind,.int .i64 (T.map m).num,.string (T.map m).txt,.slice E5 (T.map m).keys.length e5,.slice E6 (T.map m).vals.length e6] 32)/\Rd (Av (Ex o [w.heap.size,w2.heap.size]) (some B)) V (T.map m) (.agg #[.int .i64 (T.map m).kind,.int .i64 (T.map m).num,.string (T.map m).txt,.slice E5 (T.map m).keys.length e5,.slice E6 (T.map m).vals.length e6])) ?_ (fun j=>[7,9,12].contains j) ?_ ?_ ?_ ?_
   ·intro j u b V V' hc hφ
    rcases j with _ | _ | _ | _ | _ | _ | _ | _ | _ | _ | _ | _ | _ | j
    ·exact hφ
    ·exact hφ
    ·exact hφ
    ·exact hφ
    ·exact hφ
    ·exact Rd.chg hφ hc
    ·obtain ⟨v,e,h⟩:=hφ
     exact ⟨v,e,h.chg hc⟩
    ·obtain ⟨v,e,h⟩:=hφ
     exact ⟨v,e,h.chg hc⟩
    ·exact Rd.chg hφ hc
    ·exact hφ
    ·exact hφ
    ·exact hφ
    ·exact hφ
    ·exact hφ
   ·intro j u V hφ
    rcases j with _ | _ | _ | _ | _ | _ | _ | _ | _ | _ | _ | _ | _ | j
    ·exact hφ
    ·exact hφ
    ·exact hφ
    ·exact hφ
    ·exact hφ
    ·exact Rd.av_born hφ
    ·obtain ⟨v,e,h⟩:=hφ
     exact ⟨v,e,h.av_born⟩
    ·obtain ⟨v,e,h⟩:=hφ
     exact ⟨v,e,h.av_born⟩
    ·exact Rd.av_born hφ
    ·exact hφ
    ·exact hφ
    ·exact hφ
    ·exact hφ
    ·exact hφ
   ·rintro B V V' hc ⟨E5,e5,E6,e6,h,hr⟩
    exact ⟨E5,e5,E6,e6,box5 h _ hc,hr.chg hc⟩
   ·intro oo ho a' w' hst K2 hK2
    obtain rfl:_=oo:=Option.some.inj ho;unfold Oper.wp;go_simp;exact ⟨_,rfl,hK2⟩
   ·intro j oo hj hip hijb ho a' w' b hb hst hch hdep K2 hK2
    have hcB:Chg [] wr w':=(Chg.refl [] wr).dr.trans hch New.nil;have hcw':Chg [] w w':=hcr.trans hcB New.nil;have hsB:=hcB.size;obtain ⟨d0,d1,d2,d3,d4,df⟩:=cells5 (box5 HBX.out.1 _ hcB);obtain ⟨y0,y1,y2,y3,y4⟩:=YE.out _ hcw'
    have hrX:Rd (Av (Ex o [w.heap.size,w2.heap.size]) b) w' (.map m) (.agg #[.int .i64 (T.map m).kind,.int .i64 (T.map m).num,.string (T.map m).txt,.slice A5 (T.map m).keys.length q5,.slice A6 (T.map m).vals.length q6]):=(HLX.out.chg hcw').weak fun z hz=>⟨⟨hz.1,by simp; omega⟩,fun B hB=>by have:=(hb B hB).1; omega⟩
    have hrE:Rd (Av (Ex o [w.heap.size,w2.heap.size]) b) w' (.map []) (.agg #[.int .i64 (T.map ([]:List (ByteArray × T))).kind,.int .i64 (T.map ([]:List (ByteArray × T))).num,.string (T.map ([]:List (ByteArray × T))).txt,.slice F5 (T.map ([]:List (ByteArray × T))).keys.length f5,.slice F6 (T.map ([]:List (ByteArray × T))).vals.length f6]):=((HBX.out.2.lo).chg hcB).weak fun z hz=>⟨⟨hno z (by omega),by simp; omega⟩,fun B hB=>by have:=(hb B hB).1; have:=hz.2; omega⟩
    have hnoX:∀ z,w'.heap.size<=z->Av (Ex o [w.heap.size,w2.heap.size]) b z:=fun z hz=>⟨⟨hno z (by omega),by simp; omega⟩,fun B hB=>by have:=(hb B hB).2; omega⟩
    have hj':j < 13:=hj;rcases j with _ | _ | _ | _ | _ | _ | _ | _ | _ | _ | _ | _ | _ | j
    ·obtain rfl:_=oo:=Option.some.inj ho
     have h4:=g_eq (t:=4) (v:=.pointer (some ⟨w2.heap.size,0,none⟩)) (hst 4 (by simp));unfold Oper.wp;go_simp;exact ⟨_,rfl,hK2 _ _ (Chg.refl _ _) rfl⟩
    ·obtain rfl:_=oo:=Option.some.inj ho
     have h0:=g_eq (t:=0) (v:=.slice (some ⟨g,0,none⟩) 1 c) (hst 0 (by simp));unfold Oper.wp;go_simp;exact ⟨_,rfl,hK2 _ _ (Chg.refl _ _) rfl⟩
    ·obtain rfl:_=oo:=Option.some.inj ho
     have h5:=g_eq (t:=5) (v:=.int .i64 (0:Nat)) (hst 5 (by simp));unfold Oper.wp;go_simp;exact ⟨_,rfl,hK2 _ _ (Chg.refl _ _) rfl⟩
    ·obtain rfl:_=oo:=Option.some.inj ho
     have h22:=g_eq (t:=22) (v:=.slice (some ⟨g,0,none⟩) 1 c) (hdep 1 (by decide) (by decide) (by kernel_rfl) (.inl (by kernel_rfl)));have h23:=g_eq (t:=23) (v:=.int .i64 (0:Nat)) (hdep 2 (by decide) (by decide) (by kernel_rfl) (.inl (by kernel_rfl)));unfold Oper.wp;go_simp;exact ⟨_,rfl,hK2 _ _ (Chg.refl _ _) rfl⟩
    ·obtain rfl:_=oo:=Option.some.inj ho
     have h24:=g_eq (t:=24) (v:=.pointer (some ⟨g,0,none⟩)) (hdep 3 (by decide) (by decide) (by kernel_rfl) (.inl (by kernel_rfl)));unfold Oper.wp;go_simp;exact ⟨_,rfl,hK2 _ _ (Chg.refl _ _) rfl⟩
    ·obtain rfl:_=oo:=Option.some.inj ho
     have h25:=g_eq (t:=25) (v:=.agg #[.int .i64 (T.map m).kind,.int .i64 (T.map m).num,.string (T.map m).txt,.slice A5 (T.map m).keys.length q5,.slice A6 (T.map m).vals.length q6]) (hdep 4 (by decide) (by decide) (by kernel_rfl) (.inl (by kernel_rfl)));unfold Oper.wp;go_simp;refine (to_any (o:=Av (Ex o [w.heap.size,w2.heap.size]) b) 67108864 (.map m) _ w' HB.out.fm.size HB.out.fm.size hrX).mono ?_;rintro e w4 ⟨z,rfl,hc4,hr4⟩;exact ⟨_,rfl,hK2 _ _ hc4 (hr4.weak hnoX)⟩
    ·obtain rfl:_=oo:=Option.some.inj ho
     have h21:=g_eq (t:=21) (v:=.agg #[.int .i64 (T.map ([]:List (ByteArray × T))).kind,.int .i64 (T.map ([]:List (ByteArray × T))).num,.string (T.map ([]:List (ByteArray × T))).txt,.slice F5 (T.map ([]:List (ByteArray × T))).keys.length f5,.slice F6 (T.map ([]:List (ByteArray × T))).vals.length f6]) (hdep 0 (by decide) (by decide) (by kernel_rfl) (.inl (by kernel_rfl)));have hr26:Rd (Av (Ex o [w.heap.size,w2.heap.size]) b) w' (T.map m) (Act.g a' 26):=hdep 5 (by decide) (by decide) (by kernel_rfl) (.inl (by kernel_rfl));generalize hg26:Act.g a' 26=v26 at hr26;have h26:=g_eq (t:=26) hg26;unfold Oper.wp;go_simp;refine (implMerge_any (o:=Av (Ex o [w.heap.size,w2.heap.size]) b) m _ _ w' hrE hr26 HB.out.fm).mono ?_;rintro e w4 ⟨z,rfl,hc4,hr4⟩;exact ⟨_,rfl,hK2 _ _ hc4 ⟨z,rfl,hr4.weak hnoX⟩⟩
    ·obtain rfl:_=oo:=Option.some.inj ho
     obtain ⟨v27,hg27,hr27⟩ : ∃ v,Act.g a' 27=.tuple #[v,.bool true]/\Rd (Av (Ex o [w.heap.size,w2.heap.size]) b) w' (T.map m) v:=hdep 6 (by decide) (by decide) (by kernel_rfl) (.inl (by kernel_rfl));have h27:=g_eq (t:=27) hg27;unfold Oper.wp;go_simp;exact ⟨_,rfl,hK2 _ _ (Chg.refl _ _) ⟨_,rfl,hr27⟩⟩
    ·obtain rfl:_=oo:=Option.some.inj ho
     obtain ⟨v20,hg20,hr20⟩ : ∃ v,Act.g a' 20=.tuple #[v,.bool true]/\Rd (Av (Ex o [w.heap.size,w2.heap.size]) b) w' (T.map m) v:=hdep 7 (by decide) (by decide) (by kernel_rfl) (.inl (by kernel_rfl));have h20:=g_eq (t:=20) hg20;unfold Oper.wp;go_simp;exact ⟨_,rfl,hK2 _ _ (Chg.refl _ _) hr20⟩
    ·obtain rfl:_=oo:=Option.some.inj ho
     obtain ⟨v20,hg20,hr20⟩ : ∃ v,Act.g a' 20=.tuple #[v,.bool true]/\Rd (Av (Ex o [w.heap.size,w2.heap.size]) b) w' (T.map m) v:=hdep 7 (by decide) (by decide) (by kernel_rfl) (.inr (by decide));have h20:=g_eq (t:=20) hg20;unfold Oper.wp;go_simp;exact ⟨_,rfl,hK2 _ _ (Chg.refl _ _) rfl⟩
    ·exact absurd rfl hijb
    ·exact absurd rfl hip
    ·obtain rfl:_=oo:=Option.some.inj ho
     have h29:=g_eq (t:=29) (v:=.bool true) (hdep 9 (by decide) (by decide) (by kernel_rfl) (.inr (by decide)));unfold Oper.wp;go_simp;exact ⟨_,rfl,hK2 _ _ (Chg.refl _ _) rfl⟩
    ·omega
   ·intro oo ho a' w' B hgB hB hbox hst hch hdep K2 hK2
    obtain rfl:_=oo:=Option.some.inj ho;have hrS:Rd (Av (Ex o [w.heap.size,w2.heap.size]) (some B)) w' (T.map m) (Act.g a' 28):=hdep 8 (by decide) (by kernel_rfl);generalize hgS:Act.g a' 28=vv at hrS;obtain ⟨E5,e5,E6,e6,rfl,_⟩:=hrS.five;have hsv:=g_eq (t:=28) hgS;have hgB':Act.g a' 6=.pointer (some ⟨B,0,none⟩):=hgB;have hsb:=g_eq (t:=6) hgB';obtain ⟨b0,b1,b2,b3,b4,bf⟩:=cells5 hbox;obtain ⟨W,hW,Q,hne,hcW,hszW⟩:=store5 hbox hch (by show wr.heap.size<=B; exact hB) (.int .i64 (T.map m).kind) (.int .i64 (T.map m).num) (.string (T.map m).txt) (.slice E5 (T.map m).keys.length e5) (.slice E6 (T.map m).vals.length e6);unfold Oper.wp;go_simp;rw [<- hW];refine hK2 W hcW (by omega) ⟨E5,e5,E6,e6,Q,hrS.mono fun b hb ho=>hne b (ho.2 B rfl)⟩ ?_
    intro j u hjp hjjb hk hφ
    rcases j with _ | _ | _ | _ | _ | _ | _ | _ | _ | _ | _ | _ | _ | j
    ·exact absurd hk (by decide)
    ·exact absurd hk (by decide)
    ·exact absurd hk (by decide)
    ·exact absurd hk (by decide)
    ·exact absurd hk (by decide)
    ·exact absurd hk (by decide)
    ·exact absurd hk (by decide)
    ·obtain ⟨v,e,h⟩:=hφ
     exact ⟨v,e,h.mono fun x hx ho=>hne x (ho.2 B rfl)⟩
    ·exact absurd hk (by decide)
    ·exact hφ
    ·exact absurd hk (by decide)
    ·exact absurd hk (by decide)
    ·exact hφ
    ·exact absurd hk (by simp)
   ·intro u w' B hch huB hB1 hB2 hφ hup hψ A2 hA2
    obtain ⟨G5,g5,G6,g6,hBx,hrB⟩:=hψ;have hu7:∃ v,(u 7)=.tuple #[v,.bool true]/\Rd (Av (Ex o [w.heap.size,w2.heap.size]) (some B)) w' (T.map m) v:=hφ 7 (by decide) (by decide) (by decide) (by decide);have hu9:(u 9)=.bool true:=hφ 9 (by decide) (by decide) (by decide) (by decide);have hu12:(u 12)=.bool true:=hφ 12 (by decide) (by decide) (by decide) (by decide);have hcB:Chg [] wr w':=(Chg.refl [] wr).dr.trans hch New.nil;simp [putAll,dOf,Act.put,huB,hup,hu9,hu12,Act.g] at hA2;subst hA2;have c7:=hcr.trans hcB New.nil;have hs7:=hcB.size;have zz7:=box5 HZ.out _ hcB;have hbx7:=box5 HBX.out.1 _ hcB;have HX:=Lib.hid (And.intro (And.intro hrB.av_none c7) (And.intro hbx7 zz7));have HTw:=Lib.hid (HT.out.chg c7 (by simp))
    obtain ⟨w7,rfl⟩ : ∃ w7,w7=w':=⟨_,rfl⟩
    obtain ⟨x0,x1,x2,x3,x4,xf⟩:=cells5 hBx;clear hφ huB hup hch hcB c7 zz7 hrB hbx7 hBx;refine HK.out _ _ ?_;clear HK
    go_wp2_with fail
    refine (implUni_any m mu _ w7 HX.out.1.1 HB.out.fm HB.out.fu HB.out.uni HB.out.wfm (by have:=HB.out.szm; omega) HB.out.okm HB.out.km HTw.out).mono ?_;rintro e w8 ⟨v8,rfl,hc8,hr8⟩;obtain ⟨U5,u5,U6,u6,rfl,hj⟩:=hr8.five
    obtain ⟨W8,hW8⟩ : ∃ W8,W8=w8.alloc (.cells #[.int .i64 (T.map mu).kind,.int .i64 (T.map mu).num,.string (T.map mu).txt,.slice U5 (T.map mu).keys.length u5,.slice U6 (T.map mu).vals.length u6] 32):=⟨_,rfl⟩
    have hc88:Chg [] w8 W8:=hW8 ▸ (Chg.refl [] w8).al _;have hc78:=hc8.trans hc88 New.nil;have zU:W8.heap[w8.heap.size]?=some (.cells #[.int .i64 (T.map mu).kind,.int .i64 (T.map mu).num,.string (T.map mu).txt,.slice U5 (T.map mu).keys.length u5,.slice U6 (T.map mu).vals.length u6] 32):=hW8 ▸ heap_alloc_new w8 _;have hbx8:=box5 HX.out.2.1 _ hc78;have zz8:=box5 HX.out.2.2 _ hc78;have hs8:w7.heap.size<=w8.heap.size:=hc8.size;obtain ⟨W,hW,QW,hne,hcW,hszW⟩:=store5 (w0:=w) hbx8 (HX.out.1.2.trans hc78 New.nil) (by omega) (.int .i64 (T.map mu).kind) (.int .i64 (T.map mu).num) (.string (T.map mu).txt) (.slice U5 (T.map mu).keys.length u5) (.slice U6 (T.map mu).vals.length u6)
    have hrW:Rd (fun b=>w.heap.size < b/\b≠w2.heap.size) W (.map mu) (.agg #[.int .i64 (T.map mu).kind,.int .i64 (T.map mu).num,.string (T.map mu).txt,.slice U5 (T.map mu).keys.length u5,.slice U6 (T.map mu).vals.length u6]):=hr8.to fun b hb ho=>⟨⟨by omega,by omega⟩,(hne b (by omega)).trans (hc88.block b hb (by simp))⟩
    have zzW:=(hne w.heap.size (by omega)).trans zz8
    have hsW:w3.heap.size<=W.heap.size:=by have:=hc88.size; omega
    have HW:=Lib.hid (And.intro (And.intro hcW hsW) (And.intro zzW (And.intro QW hrW)));obtain ⟨i0,i1,i2,i3,i4,iff⟩:=cells5 zU;obtain ⟨k0,k1,k2,k3,k4,kf⟩:=cells5 hbx8;rw [hW8] at i0 i1 i2 i3 i4 iff k0 k1 k2 k3 k4 kf;clear hj hr8 hc8 hc88 hc78 zU hbx8 zz8 QW hne hcW hszW hrW zzW x0 x1 x2 x3 x4 xf
    go_wp2_with fail
    rw [<- hW8,<- hW];clear hW hW8
    go_roundg 0
    case measure=>omega
    case rel=>exact ⟨1,by omega,rfl,by go_num,HW.out.1.1,HW.out.1.2,HW.out.2.1,_,_,_,_,HW.out.2.2.1,HW.out.2.2.2⟩
  ·obtain rfl:n=1:=by omega
   have e1:MMc mu 1=mu:=rfl;rw [e1] at hB;obtain ⟨U5,u5,U6,u6,hbx,hrx⟩:=hB;have HX:=Lib.hid hrx;obtain ⟨d0,d1,d2,d3,d4,df⟩:=cells5 hbx;clear hrx
   go_wp2_with fail
   refine (implCan_any mu (formP m) _ false wr HX.out HB.out.fu HB.out.fp HB.out.can HB.out.wfu (by have:=HB.out.szu; omega) HB.out.oku HB.out.ku).mono ?_;rintro e w6 ⟨v6,rfl,hc6,hr6⟩;obtain ⟨D5,d5,D6,d6,rfl,hj⟩:=hr6.five
   obtain ⟨W6,hW6⟩ : ∃ W6,W6=w6.alloc (.cells #[.int .i64 (T.map (formP m)).kind,.int .i64 (T.map (formP m)).num,.string (T.map (formP m)).txt,.slice D5 (T.map (formP m)).keys.length d5,.slice D6 (T.map (formP m)).vals.length d6] 32):=⟨_,rfl⟩
   have hc66:Chg [] w6 W6:=hW6 ▸ (Chg.refl [] w6).al _;have zI:W6.heap[w6.heap.size]?=some (.cells #[.int .i64 (T.map (formP m)).kind,.int .i64 (T.map (formP m)).num,.string (T.map (formP m)).txt,.slice D5 (T.map (formP m)).keys.length d5,.slice D6 (T.map (formP m)).vals.length d6] 32):=hW6 ▸ heap_alloc_new w6 _;have HI:=Lib.hid (And.intro (hr6.chg hc66) (hcr.trans (hc6.trans hc66 New.nil) New.nil));have zz6:=box5 zz _ (hc6.trans hc66 New.nil);have hs6:w3.heap.size<=W6.heap.size:=Nat.le_trans hsr (Nat.le_trans hc6.size hc66.size);obtain ⟨i0,i1,i2,i3,i4,iff⟩:=cells5 zI;rw [hW6] at i0 i1 i2 i3 i4 iff;have HZ6:=Lib.hid (And.intro zI zz6)
   obtain ⟨NB,hNB⟩ : ∃ NB,NB=w6.heap.size:=⟨_,rfl⟩
   clear hj hr6 hc6 hc66 zI zz6 d0 d1 d2 d3 d4 df hbx
   go_wp2_with fail
   rw [<- hW6];clear hW6 i0 i1 i2 i3 i4 iff;refine (from_any 67108864 (.map (formP m)) _ W6 HB.out.fp.size HB.out.fp.size HI.out.1).mono ?_;rintro e w7 ⟨v7,rfl,hc7,hr7⟩;obtain ⟨H5,h5,H6,h6,rfl,hj⟩:=hr7.five;have c7:=HI.out.2.trans hc7 New.nil;have zz7:=box5 HZ6.out.2 _ hc7;obtain ⟨W,hW,QW,hne,hcW,hszW⟩:=store5 zz7 c7 (Nat.le_refl _) (.int .i64 (T.map (formP m)).kind) (.int .i64 (T.map (formP m)).num) (.string (T.map (formP m)).txt) (.slice H5 (T.map (formP m)).keys.length h5) (.slice H6 (T.map (formP m)).vals.length h6)
   have hrW:Rd (fun b=>w.heap.size<=b) W (.map (formP m)) (.agg #[.int .i64 (T.map (formP m)).kind,.int .i64 (T.map (formP m)).num,.string (T.map (formP m)).txt,.slice H5 (T.map (formP m)).keys.length h5,.slice H6 (T.map (formP m)).vals.length h6]):=hr7.to fun b hb ho=>⟨by omega,hne b (by omega)⟩
   have HRW:=Lib.hid (And.intro hcW hrW);obtain ⟨z0,z1,z2,z3,z4,zf⟩:=cells5 zz7;clear hj hr7 hc7 c7 zz7 hne hcW hrW hszW
   go_wp2_with fail
   rw [<- hW];clear hW;obtain ⟨f0,f1,f2,f3,f4,_⟩:=cells5 QW;refine bodyPost_ret (v:=.tuple #[(.agg #[.int .i64 (T.map (formP m)).kind,.int .i64 (T.map (formP m)).num,.string (T.map (formP m)).txt,.slice H5 (T.map (formP m)).keys.length h5,.slice H6 (T.map (formP m)).vals.length h6]),.bool true]) (by simp [results,Tryz.results20,go_sem,f0,f1,f2,f3,f4]) rfl ⟨_,rfl,HRW.out.1,HRW.out.2⟩
theorem canonOf_any (m mu:List (ByteArray × T)) (v:Value) (w:World) (h:Rd o w (.map m) v) (HB:Hid (CanB m mu)) (hT:TabP w) (hno:∀ b,w.heap.size<=b->o b) :
  Calls Tryz.prog 18 #[v] w fun e w'=>∃ v',e=.returned (.tuple #[v',.bool true])/\Chg [] w w'/\Rd (fun b=>w.heap.size<=b) w' (.map (formP m)) v':=by
 obtain ⟨A5,q5,A6,q6,rfl,hj⟩:=h.five;clear hj;have HV:=Lib.hid h;have HT:=Lib.hid hT;clear h hT
 go_enter Tryz.func18,Tryz.ntmps18
 go_wp2_with fail
 obtain ⟨W3,hW3⟩ : ∃ W3,W3=((w.alloc (.cells #[.int .i64 (T.map m).kind,.int .i64 (T.map m).num,.string (T.map m).txt,.slice A5 (T.map m).keys.length q5,.slice A6 (T.map m).vals.length q6] 25)).alloc (.cells #[.int .i64 0,.int .i64 0,.string ⟨#[]⟩,.slice none 0 0,.slice none 0 0] 25)).alloc (.cells #[.int .i64 (T.map m).kind,.int .i64 (T.map m).num,.string (T.map m).txt,.slice A5 (T.map m).keys.length q5,.slice A6 (T.map m).vals.length q6] 25):=⟨_,rfl⟩
 have hc3:Chg [] w W3:=hW3 ▸ (((Chg.refl [] w).al _).al _).al _;have z1:W3.heap[w.heap.size+1]?=some (.cells #[.int .i64 0,.int .i64 0,.string ⟨#[]⟩,.slice none 0 0,.slice none 0 0] 25):=hW3 ▸ box5 (heap_al2 w _ _) _ ((Chg.refl [] ((w.alloc _).alloc _)).al _);have z2:W3.heap[w.heap.size+2]?=some (.cells #[.int .i64 (T.map m).kind,.int .i64 (T.map m).num,.string (T.map m).txt,.slice A5 (T.map m).keys.length q5,.slice A6 (T.map m).vals.length q6] 25):=hW3 ▸ heap_al3 w _ _ _
 have hs3:W3.heap.size=w.heap.size+3:=by rw [hW3]; simp
 have hrow:RdV o W3 [.map m] (.slice (some ⟨w.heap.size+2,0,none⟩) 1 1):=RdV.litF (l:=[.map m]) (hno _ (by omega)) z2 ⟨_,_,HV.out.chg hc3,rfl,rfl⟩;rw [<- hW3];clear hW3;refine (mergeModel_any m mu _ 1 W3 hrow HB (HT.out.chg hc3 (by simp)) (fun b hb=>hno b (by omega))).mono ?_;rintro e w4 ⟨v4,rfl,hc4,hr4⟩;obtain ⟨H5,h5,H6,h6,rfl,hj⟩:=hr4.five;have c4:=hc3.trans hc4 New.nil;have zz4:=box5 z1 _ hc4;obtain ⟨W,hW,QW,hne,hcW,hszW⟩:=store5 zz4 c4 (by omega) (.int .i64 (T.map (formP m)).kind) (.int .i64 (T.map (formP m)).num) (.string (T.map (formP m)).txt) (.slice H5 (T.map (formP m)).keys.length h5) (.slice H6 (T.map (formP m)).vals.length h6)
 have hrW:Rd (fun b=>w.heap.size<=b) W (.map (formP m)) (.agg #[.int .i64 (T.map (formP m)).kind,.int .i64 (T.map (formP m)).num,.string (T.map (formP m)).txt,.slice H5 (T.map (formP m)).keys.length h5,.slice H6 (T.map (formP m)).vals.length h6]):=hr4.to fun b hb ho=>⟨by omega,hne b (by omega)⟩
 have HRW:=Lib.hid (And.intro hcW hrW);obtain ⟨z0,z1,z2,z3,z4,zf⟩:=cells5 zz4;clear hj hr4 hc4 c4 zz4 hne hcW hrW hszW hrow
 go_wp2_with fail
 rw [<- hW];clear hW;obtain ⟨f0,f1,f2,f3,f4,_⟩:=cells5 QW;refine bodyPost_ret (v:=.tuple #[(.agg #[.int .i64 (T.map (formP m)).kind,.int .i64 (T.map (formP m)).num,.string (T.map (formP m)).txt,.slice H5 (T.map (formP m)).keys.length h5,.slice H6 (T.map (formP m)).vals.length h6]),.bool true]) (by simp [results,Tryz.results18,go_sem,f0,f1,f2,f3,f4]) rfl ⟨_,rfl,HRW.out.1,HRW.out.2⟩
end Go.Proofs.YtpofkokbmifhgaaGreatDoor
namespace Go.Proofs.YtpofkokbmifhgaaGreatDoor
section
variable {P:Program} {ops:Array Oper} {Q:Exit->Act->World->Prop}
def allFormG (ops:Array Oper) (size:Nat) (st:List Nat) (gs:List (Nat × Bool)):Bool:=
 ((List.range ops.size).all fun i=>match ops[i]? with
  | some o=>(match o.guard with | none=>true | some p=>gs.contains p && waits ops i p.1 && decide (p.1 < ops.size))
  | none=>false) &&
 ((List.range ops.size).all fun i=>match ops[i]? with
  | some o=>(match o.dst with | some d=>decide (d < size) && !st.contains d | none=>false)
  | none=>false) &&
 decide ((List.range ops.size).map (dOf ops)).Nodup
theorem wp_region_allg {id:Nat} {a:Act} {w:World} (hm:P.follows .mixedOrders=true) (hord:ordered ops=true) (st:List Nat) (gs:List (Nat × Bool)) (hform:allFormG ops a.tmps.size st gs=true)
  (φ:Nat->Value->World->Prop) (hgs:∀ p∈gs,∀ v w',φ p.1 v w'->v=.bool p.2) (mono:∀ i v w w',Chg [] w w'->φ i v w->φ i v w')
  (step:∀ (i:Nat) (o:Oper),i < ops.size->ops[i]?=some o->∀ (a':Act) (w':World),(∀ s∈st,Act.g a' s=Act.g a s)->Chg [] w.drew w'->(∀ j,waits ops i j=true->φ j (Act.g a' (dOf ops j)) w') ->
   ∀ K:Value->World->Prop,(∀ v w'',Chg [] w' w''->φ i v w''->K v w'')->o.wp P a' w' (fun a2 w2=>∃ v,a2=a'.put o.dst v/\K v w2) Q)
  (fin:∀ (u:Nat->Value) (w':World),Chg [] w.drew w'->(∀ j,j < ops.size->φ j (u j) w')->∀ A2,A2=putAll ops u ops.size a->Q .normal A2 w'):(Code.region id ops true).wp P Q a w:=by
 unfold allFormG at hform;simp only [Bool.and_eq_true,decide_eq_true_eq] at hform;obtain ⟨⟨hgd,hdst⟩,hnd⟩:=hform
 have guard:∀ (i:Nat) (o:Oper),ops[i]?=some o->o.guard=none∨∃ j b,o.guard=some (j,b)/\(j,b)∈gs/\waits ops i j=true/\j < ops.size:=by
  intro i o ho
  have h1:=List.all_eq_true.1 hgd i (List.mem_range.2 (Array.getElem?_eq_some_iff.1 ho).1);rw [ho] at h1;simp only at h1
  cases hg:o.guard with
  | none=>exact .inl rfl
  | some p=>
   rw [hg] at h1;obtain ⟨j,b⟩:=p;simp only [Bool.and_eq_true,List.contains_eq_mem,decide_eq_true_eq] at h1;exact .inr ⟨j,b,rfl,h1.1.1,h1.1.2,h1.2⟩
 have head:∀ i,i < ops.size->∃ o d,ops[i]?=some o/\o.dst=some d/\dOf ops i=d/\d < a.tmps.size/\d ∉ st:=by
  intro i hi
  have h1:=List.all_eq_true.1 hdst i (List.mem_range.2 hi);have ho:ops[i]?=some (ops[i]'(by omega)):=Array.getElem?_eq_getElem (by omega);rw [ho] at h1;simp only at h1
  cases hd:(ops[i]'(by omega)).dst with
  | none=>rw [hd] at h1; simp at h1
  | some d=>
   rw [hd] at h1;simp only [Bool.and_eq_true,decide_eq_true_eq,Bool.not_eq_true',List.contains_eq_mem,decide_eq_false_iff_not] at h1;exact ⟨_,d,ho,hd,by unfold dOf; rw [ho]; simp [hd],h1.1,h1.2⟩
 have distinct:∀ i j,i < ops.size->j < ops.size->i≠j->dOf ops i≠dOf ops j:=by
  intro i j hi hj hij he
  have hp:=List.pairwise_iff_getElem.1 hnd;simp only [List.length_map,List.length_range,List.getElem_map,List.getElem_range] at hp;rcases Nat.lt_or_gt_of_ne hij with h | h
  ·exact hp i j hi hj h he
  ·exact hp j i hj hi h he.symm
 refine wp_region_inv hm hord (fun L a' w'=>(∀ s,(∀ j,j < ops.size->dOf ops j≠s)->Act.g a' s=Act.g a s)/\a'.tmps.size=a.tmps.size/\a'.defers=a.defers/\Chg [] w.drew w'/\(∀ j,j < ops.size->L j=true->φ j (Act.g a' (dOf ops j)) w'))
  ⟨fun _ _=>rfl,rfl,rfl,Chg.refl _ _,fun j _ h=>by cases h⟩ ?_ ?_
 ·intro L i o ho hLi hcl hdeps a' w' ⟨hst,hsz,hdf,hch,hφ⟩
  have hi:i < ops.size:=(Array.getElem?_eq_some_iff.1 ho).1
  have hwd:∀ j,waits ops i j=true->φ j (Act.g a' (dOf ops j)) w':=fun j hj=>by
   unfold waits at hj;rw [ho] at hj;obtain ⟨e,he,hb⟩:=Array.any_eq_true'.1 hj;simp only [Bool.and_eq_true,beq_iff_eq] at hb;have h1:=hdeps e he hb.1;have h2:=ordered_spec hord ho e he hb.1;rw [hb.2] at h1 h2;exact hφ j (by omega) h1
  have hwant:Region.wanted o (yielded ops a'.tmps)=true:=by
   rcases guard i o ho with h | ⟨j,b,h,hm1,hw1,hj1⟩
   ·simp [Region.wanted,h]
   ·have hv:=hgs _ hm1 _ _ (hwd j hw1)
    obtain ⟨oj,dj,hoj,hdj,hdoj,hdl,_⟩:=head j hj1;rw [hdoj] at hv
    have ht:a'.tmps[dj]?=some (.bool b):=by
     have hl:dj < a'.tmps.size:=by rw [hsz]; exact hdl
     rw [Array.getElem?_eq_getElem hl];unfold Act.g at hv;rw [Array.getD,dif_pos hl] at hv;exact congrArg some hv
    simp [Region.wanted,h,yielded,hoj,hdj,ht]
  unfold wpOp;simp only [ho,hwant,if_true];refine .inl ?_;obtain ⟨o1,d,ho1,hd,hdi,hdl,hds⟩:=head i hi;obtain rfl:o1=o:=Option.some.inj (ho1.symm.trans ho)
  refine Oper.wp_mono ?_ (step i o1 hi ho a' w' (fun s hs=>hst s (fun j hj e=>by obtain ⟨_,_,_,_,hd1,_,hds1⟩:=head j hj; exact hds1 (by rw [<- hd1,e]; exact hs))) hch (fun j hj=>by
   unfold waits at hj;rw [ho] at hj;obtain ⟨e,he,hb⟩:=Array.any_eq_true'.1 hj;simp only [Bool.and_eq_true,beq_iff_eq] at hb;have h1:=hdeps e he hb.1;have h2:=ordered_spec hord ho e he hb.1;rw [hb.2] at h1 h2
   exact hφ j (by omega) h1) (fun v w2=>Chg [] w' w2/\φ i v w2) (fun v w2 h1 h2=>⟨h1,h2⟩))
  rintro a2 w2 ⟨v,rfl,hc2,hv⟩;rw [hd];refine ⟨fun s hs=>?_,by rw [size_put]; exact hsz,hdf,hch.trans hc2 New.nil,fun j hj hL=>?_⟩
  ·rw [g_put_ne _ _ _ _ (fun e=>by subst e; exact hs i hi hdi)]
   exact hst s hs
  ·by_cases hji:j=i
   ·subst hji
    rw [hdi,g_put_same _ _ _ (by rw [hsz]; exact hdl)];exact hv
   ·have hb:(j == i)=false:=by simp [hji]
    rw [g_put_ne _ _ _ _ (by rw [<- hdi]; exact distinct j i hj hi hji)];exact mono _ _ _ _ hc2 (hφ j hj (by simpa [hb] using hL))
 ·intro a' w' ⟨hst,hsz,hdf,hch,hφ⟩
  have hd:∀ j,j < ops.size->φ j (Act.g a' (dOf ops j)) w':=fun j hj=>hφ j hj (by simp [hj])
  refine fin (fun j=>Act.g a' (dOf ops j)) w' hch hd a' ?_
  refine act_ext (by rw [putAll_size,hsz]) (by rw [putAll_defers,hdf]) fun s=>?_
  by_cases hs:∃ j,j < ops.size/\dOf ops j=s
  ·obtain ⟨j,hj,rfl⟩:=hs
   obtain ⟨o1,d1,_,_,hd1,hdl1,_⟩:=head j hj;rw [putAll_eq ops _ a j _ hj (fun k hk hkj=>distinct k j hk hj hkj) (by rw [hd1]; exact hdl1)]
  ·rw [putAll_ne ops _ a s _ (fun j hj e=>hs ⟨j,hj,e⟩)]
   exact hst s (fun j hj e=>hs ⟨j,hj,e⟩)
end
end Go.Proofs.YtpofkokbmifhgaaGreatDoor
namespace Go.Proofs.YtpofkokbmifhgaaGreatDoor
open Go.RowKit
variable {o:Nat->Prop}
theorem fnLong_any (r:Raw) (v:Value) (w:World) (hr:RdR w r v) (hw:WFR 1048576 r) (hz:Raw.size r<=1048576) (hT:TabP w) :
  Calls Tryz.prog 5 #[v] w fun e w'=>e=.returned (.bool true)/\Chg [] w w':=by
 obtain ⟨A3,q3,A4,q4,rfl,hyz⟩:=hr.five;clear hyz;have hw2:WFR 67108864 r:=WFR.mono (by decide) hw;have HR:=Lib.hid (And.intro hr (And.intro hw (And.intro hz (And.intro hT hw2))));clear hr hw hz hT hw2
 go_enter Tryz.func5,Tryz.ntmps5
 go_wp2_with fail
 refine (fits1_any r _ _ (HR.out.1.chg ((Chg.refl [] w).al _)) HR.out.2.2.2.2).mono ?_;rintro e w1 ⟨b1,rfl,hc1⟩;have hcw2:Chg [] w w1:=((Chg.refl [] w).al _).trans hc1 New.nil;have z0:w1.heap[w.heap.size]?=some (.cells #[.int .i64 r.kind,.int .i64 r.num,.string r.txt,.slice A3 r.keys.length q3,.slice A4 r.vals.length q4] 25):=box5 (heap_alloc_new w _) _ hc1;clear hc1
 cases b1 with
 | false=>
  go_wp2_with fail
  go_ret
  exact ⟨rfl,hcw2⟩
 | true=>
   obtain ⟨a0,a1,a2,a3,a4,af⟩:=cells5 z0
   go_wp2_with fail
   refine (fit_any (B:=1048576) (by omega) 1048576 r _ w1 HR.out.2.2.1 (by omega) HR.out.2.1 (HR.out.1.chg hcw2)).mono ?_;rintro e w3 ⟨v3,t,rfl,hc3,hr3,hwt,hzt⟩;obtain ⟨X5,x5,X6,x6,rfl,hyz⟩:=hr3.five;have hzt:T.size t<=1048576:=Nat.le_trans hzt HR.out.2.2.1;have hlt2:w.heap.size < w1.heap.size:=(Array.getElem?_eq_some_iff.1 z0).1;have z0:=box5 z0 _ hc3;have hcw3:=hcw2.trans hc3 New.nil;have hs23:=hc3.size;clear hyz a0 a1 a2 a3 a4 af;obtain ⟨W3,hW3,Q,hne,hcW3,hsz3⟩:=store5 z0 hcw3 (Nat.le_refl _) (.int .i64 t.kind) (.int .i64 t.num) (.string t.txt) (.slice X5 t.keys.length x5) (.slice X6 t.vals.length x6)
   have hr4:Rd (fun b=>b≠w.heap.size) W3 t (.agg #[.int .i64 (t).kind,.int .i64 (t).num,.string (t).txt,.slice X5 (t).keys.length x5,.slice X6 (t).vals.length x6]):=hr3.to fun b hb ho=>⟨by omega,hne b (by omega)⟩
   have hft:Fine t:=⟨hwt.mono (by decide),by omega⟩
   obtain ⟨a0,a1,a2,a3,a4,af⟩:=cells5 z0;obtain ⟨p0,p1,p2,p3,p4,pf⟩:=cells5 Q;rw [hW3] at p0 p1 p2 p3 p4 pf;have HT:=Lib.hid (And.intro Q (And.intro hr4 (And.intro hft (And.intro hcW3 hwt))));clear Q hr4 hne hcW3 hr3 hc3 hcw2 hcw3 z0 hwt
   go_wp2_with fail
   rw [<- hW3];clear hW3 a0 a1 a2 a3 a4 af p0 p1 p2 p3 p4 pf
   have hsW3:w.heap.size < W3.heap.size:=by omega
   obtain ⟨W5,hW5⟩ : ∃ W5,W5=W3.alloc (.cells #[.int .i64 (t).kind,.int .i64 (t).num,.string (t).txt,.slice X5 (t).keys.length x5,.slice X6 (t).vals.length x6] 25):=⟨_,rfl⟩
   have hc35:Chg [] W3 W5:=hW5 ▸ (Chg.refl [] W3).al _
   have hrow:RdV (fun b=>b≠w.heap.size) W5 [t] (.slice (some ⟨w3.heap.size,0,none⟩) 1 1):=by
    rw [<- hsz3];exact RdV.litF (l:=[t]) (by omega) (hW5 ▸ heap_alloc_new W3 _) ⟨_,_,HT.out.2.1.chg hc35,rfl,rfl⟩
   have hs35:w.heap.size < W5.heap.size:=by have:=hc35.size; omega
   rw [<- hW5];clear hW5;refine (models_any (o:=(fun b=>b≠w.heap.size)) t w3.heap.size 1 W5 hrow HT.out.2.2.1 (by omega) (fun b hb=>by omega)).mono ?_;rintro e w4 ⟨v4,b4,t4,rfl,hc4,hr4,hq⟩;obtain ⟨C5,c5,C6,c6,rfl,hyz⟩:=hr4.five;have hc3:Chg [] W3 w4:=hc35.trans hc4 New.nil
   obtain ⟨W4,hW4⟩ : ∃ W4,W4=w4.alloc (.cells #[.int .i64 (t4).kind,.int .i64 (t4).num,.string (t4).txt,.slice C5 (t4).keys.length c5,.slice C6 (t4).vals.length c6] 25):=⟨_,rfl⟩
   have hc44:Chg [] w4 W4:=hW4 ▸ (Chg.refl [] w4).al _;have hcW4:Chg [] w W4:=(HT.out.2.2.2.1.trans hc3 New.nil).trans hc44 New.nil;have zC:W4.heap[w4.heap.size]?=some (.cells #[.int .i64 (t4).kind,.int .i64 (t4).num,.string (t4).txt,.slice C5 (t4).keys.length c5,.slice C6 (t4).vals.length c6] 25):=hW4 ▸ heap_alloc_new w4 _;have zP:=box5 HT.out.1 _ (hc3.trans hc44 New.nil)
   have hs4:W3.heap.size<=w4.heap.size/\w4.heap.size < W4.heap.size:=⟨hc3.size,by rw [hW4]; simp⟩
   have HQ:=Lib.hid (And.intro hq hr4);have HT4:=Lib.hid (HT.out.2.1.chg (hc3.trans hc44 New.nil));clear hq hr4 hyz hc4 hc3 hc35 hrow hsz3
   cases b4 with
   | false=>
    go_wp2_with fail
    go_ret
    rw [<- hW4];exact ⟨rfl,hcW4⟩
   | true=>
    obtain ⟨m,rfl,hok,hsaid,rfl⟩:=HQ.out.1 rfl;have HB:=Lib.hid (canB hok HT.out.2.2.2.2 hzt);obtain ⟨n,hln⟩:=lgB HT.out.2.2.2.2.1 hok hsaid HT.out.2.2.2.2 hzt;have HL:=Lib.hid hln;have HV:Hid (viewM (formP m)=viewM n):=Lib.hid ((model_view HT.out.2.2.2.2.1 hok hsaid).trans hln.view.symm)
    obtain ⟨mu,hmu⟩ : ∃ mu,mu=(m.map fun p=>(p.1,uniT [p.1] p.2)):=⟨_,rfl⟩
    rw [<- hmu] at HB;have HK:=Lib.hid (HQ.out.2.chg hc44);have HTP:=Lib.hid (HR.out.2.2.2.1.chg hcW4 (by simp));obtain ⟨p0,p1,p2,p3,p4,pf⟩:=cells5 zP;rw [hW4] at p0 p1 p2 p3 p4 pf
    obtain ⟨CB,hCB⟩ : ∃ CB,CB=w4.heap.size:=⟨_,rfl⟩
    have HZ:=Lib.hid (And.intro (hCB ▸ zC) hcW4);clear hok hsaid hcW4 HQ zC zP hc44 hmu hln
    go_wp2_with fail
    rw [<- hW4,<- hCB];rw [<- hCB] at hs4;clear hW4 hCB p0 p1 p2 p3 p4 pf;refine (canonOf_any (o:=(fun b=>b≠w.heap.size)) m mu _ W4 HT4.out HB HTP.out (fun b hb=>by omega)).mono ?_;rintro e w5 ⟨v5,rfl,hc5,hr5⟩;obtain ⟨G5,g5,G6,g6,rfl,hyz⟩:=hr5.five
    obtain ⟨W5,hW5⟩ : ∃ W5,W5=w5.alloc (.cells #[.int .i64 (T.map (formP m)).kind,.int .i64 (T.map (formP m)).num,.string (T.map (formP m)).txt,.slice G5 (T.map (formP m)).keys.length g5,.slice G6 (T.map (formP m)).vals.length g6] 25):=⟨_,rfl⟩
    have hcF:Chg [] w5 W5:=hW5 ▸ (Chg.refl [] w5).al _
    obtain ⟨FB,hFB⟩ : ∃ FB,FB=w5.heap.size:=⟨_,rfl⟩
    have zF:W5.heap[FB]?=some (.cells #[.int .i64 (T.map (formP m)).kind,.int .i64 (T.map (formP m)).num,.string (T.map (formP m)).txt,.slice G5 (T.map (formP m)).keys.length g5,.slice G6 (T.map (formP m)).vals.length g6] 25):=by
     rw [hFB,hW5];exact heap_alloc_new _ _
    have hs5:W4.heap.size<=FB/\FB < W5.heap.size:=⟨by rw [hFB]; exact hc5.size,by rw [hFB,hW5]; simp⟩
    have hcA:=hc5.trans hcF New.nil;have HF:=Lib.hid (And.intro zF (And.intro ((hr5.weak fun b hb=>by omega:Rd (fun b=>b≠w.heap.size) w5 (.map (formP m)) (.agg #[.int .i64 (T.map (formP m)).kind,.int .i64 (T.map (formP m)).num,.string (T.map (formP m)).txt,.slice G5 (T.map (formP m)).keys.length g5,.slice G6 (T.map (formP m)).vals.length g6])).chg hcF) hcA));have zC5:=box5 HZ.out.1 _ hcA;obtain ⟨i0,i1,i2,i3,i4,iff⟩:=cells5 zC5;rw [hW5] at i0 i1 i2 i3 i4 iff;clear hyz hr5 hc5 hcF zF hcA zC5
    go_wp2_with fail
    rw [<- hW5,<- hFB];clear hW5 hFB i0 i1 i2 i3 i4 iff;refine (to_any 67108864 (.map (canonS m)) _ W5 HB.out.fc.size HB.out.fc.size (HK.out.chg HF.out.2.2)).mono ?_;rintro e w6 ⟨v6,rfl,hc6,hr6⟩
    go_wp2_with fail
    refine (implCan_any (canonS m) n _ false w6 hr6 HB.out.fc HL.out.fn HL.out.can HL.out.wfc HL.out.szc HL.out.okc HL.out.kc).mono ?_;rintro e w8 ⟨v8,rfl,hc8,hr8⟩;obtain ⟨D5,d5,D6,d6,rfl,hyz⟩:=hr8.five
    obtain ⟨W8,hW8⟩ : ∃ W8,W8=w8.alloc (.cells #[.int .i64 (T.map n).kind,.int .i64 (T.map n).num,.string (T.map n).txt,.slice D5 (T.map n).keys.length d5,.slice D6 (T.map n).vals.length d6] 32):=⟨_,rfl⟩
    have hcI:Chg [] w8 W8:=hW8 ▸ (Chg.refl [] w8).al _
    obtain ⟨IB,hIB⟩ : ∃ IB,IB=w8.heap.size:=⟨_,rfl⟩
    have zI:W8.heap[IB]?=some (.cells #[.int .i64 (T.map n).kind,.int .i64 (T.map n).num,.string (T.map n).txt,.slice D5 (T.map n).keys.length d5,.slice D6 (T.map n).vals.length d6] 32):=by
     rw [hIB,hW8];exact heap_alloc_new _ _
    have hs8:W5.heap.size<=IB/\IB < W8.heap.size:=⟨by rw [hIB]; exact Nat.le_trans hc6.size hc8.size,by rw [hIB,hW8]; simp⟩
    have hs68:W5.heap.size<=w6.heap.size:=hc6.size;have hc58:Chg [] W5 W8:=(hc6.trans hc8 New.nil).trans hcI New.nil;have HY:=Lib.hid (And.intro zI (box5 HF.out.1 _ hc58));have HX:Hid (Chg [] w W8/\Rd (fun b=>b≠w.heap.size) W8 (.map n) (.agg #[.int .i64 (T.map n).kind,.int .i64 (T.map n).num,.string (T.map n).txt,.slice D5 (T.map n).keys.length d5,.slice D6 (T.map n).vals.length d6])/\Rd (fun b=>b≠w.heap.size) W8 (.map (formP m)) (.agg #[.int .i64 (T.map (formP m)).kind,.int .i64 (T.map (formP m)).num,.string (T.map (formP m)).txt,.slice G5 (T.map (formP m)).keys.length g5,.slice G6 (T.map (formP m)).vals.length g6])):=Lib.hid ⟨(HZ.out.2.trans HF.out.2.2 New.nil).trans hc58 New.nil,(hr8.weak fun b hb=>by omega).chg hcI,HF.out.2.1.chg hc58⟩;clear hyz hr8 hr6 hc8 hc6 hcI zI hc58
    go_wp2_with fail
    rw [<- hW8,<- hIB];clear hW8 hIB;rename_i K hK
    refine wp_region_allg (by rfl) (by kernel_rfl) [5,6,7,8] [(1,true),(4,true)] (by kernel_rfl)
     (fun j u V=>match j with
      | 0=>u=.bool true
      | 1=>u=.bool true
      | 2=>u=.bool true
      | 3=>u=.bool true
      | 4=>u=.bool true
      | 5=>u=.agg #[.int .i64 (T.map (formP m)).kind,.int .i64 (T.map (formP m)).num,.string (T.map (formP m)).txt,.slice G5 (T.map (formP m)).keys.length g5,.slice G6 (T.map (formP m)).vals.length g6]
      | 6=>Rd (fun b=>b≠w.heap.size) V (.map (viewM (formP m))) u
      | 7=>u=.agg #[.int .i64 (T.map n).kind,.int .i64 (T.map n).num,.string (T.map n).txt,.slice D5 (T.map n).keys.length d5,.slice D6 (T.map n).vals.length d6]
      | 8=>Rd (fun b=>b≠w.heap.size) V (.map n) u
      | 9=>Rd (fun b=>b≠w.heap.size) V (.map (viewM n)) u
      | 10=>u=.bool true
      | 11=>u=.bool true
      | 12=>u=.bool true
      | _=>True) ?_ ?_ ?_ ?_
    ·intro q hq V w' hφ
     simp only [List.mem_cons,List.not_mem_nil,or_false] at hq
     rcases hq with rfl | rfl <;> exact hφ
    ·intro j u V V' hc hφ
     rcases j with _ | _ | _ | _ | _ | _ | _ | _ | _ | _ | _ | _ | _ | j
     all_goals first | exact hφ | exact Rd.chg hφ hc
    ·intro j oo hj ho a' w' hst hch hdep K2 hK2
     have hsz:W8.heap.size<=w'.heap.size:=hch.size;have hcB:Chg [] W8 w':=(Chg.refl [] W8).dr.trans hch New.nil;obtain ⟨i0,i1,i2,i3,i4,iff⟩:=cells5 (box5 HY.out.1 _ hcB);obtain ⟨s0,s1,s2,s3,s4,sf⟩:=cells5 (box5 HY.out.2 _ hcB);have hj':j < 13:=hj;rcases j with _ | _ | _ | _ | _ | _ | _ | _ | _ | _ | _ | _ | _ | j
     ·obtain rfl:_=oo:=Option.some.inj ho
      have h6:=g_eq (t:=6) (v:=.bool true) (hst 6 (by simp));unfold Oper.wp;go_simp;exact ⟨_,rfl,hK2 _ _ (Chg.refl _ _) rfl⟩
     ·obtain rfl:_=oo:=Option.some.inj ho
      have h33:=g_eq (t:=33) (v:=.bool true) (hdep 0 (by kernel_rfl));unfold Oper.wp;go_simp;exact ⟨_,rfl,hK2 _ _ (Chg.refl _ _) rfl⟩
     ·obtain rfl:_=oo:=Option.some.inj ho
      have h8:=g_eq (t:=8) (v:=.bool true) (hst 8 (by simp));unfold Oper.wp;go_simp;exact ⟨_,rfl,hK2 _ _ (Chg.refl _ _) rfl⟩
     ·obtain rfl:_=oo:=Option.some.inj ho
      have h34:=g_eq (t:=34) (v:=.bool true) (hdep 1 (by kernel_rfl));have h35:=g_eq (t:=35) (v:=.bool true) (hdep 2 (by kernel_rfl));have h34:=g_eq (t:=34) (v:=.bool true) (hdep 1 (by kernel_rfl));have h35:=g_eq (t:=35) (v:=.bool true) (hdep 2 (by kernel_rfl));unfold Oper.wp;go_simp;exact ⟨_,rfl,hK2 _ _ (Chg.refl _ _) rfl⟩
     ·obtain rfl:_=oo:=Option.some.inj ho
      have h36:=g_eq (t:=36) (v:=.bool true) (hdep 3 (by kernel_rfl));unfold Oper.wp;go_simp;exact ⟨_,rfl,hK2 _ _ (Chg.refl _ _) rfl⟩
     ·obtain rfl:_=oo:=Option.some.inj ho
      have h5:=g_eq (t:=5) (v:=.pointer (some ⟨FB,0,none⟩)) (hst 5 (by simp));unfold Oper.wp;go_simp;exact ⟨_,rfl,hK2 _ _ (Chg.refl _ _) rfl⟩
     ·obtain rfl:_=oo:=Option.some.inj ho
      have h38:=g_eq (t:=38) (v:=.agg #[.int .i64 (T.map (formP m)).kind,.int .i64 (T.map (formP m)).num,.string (T.map (formP m)).txt,.slice G5 (T.map (formP m)).keys.length g5,.slice G6 (T.map (formP m)).vals.length g6]) (hdep 5 (by kernel_rfl));have h38:=g_eq (t:=38) (v:=.agg #[.int .i64 (T.map (formP m)).kind,.int .i64 (T.map (formP m)).num,.string (T.map (formP m)).txt,.slice G5 (T.map (formP m)).keys.length g5,.slice G6 (T.map (formP m)).vals.length g6]) (hdep 5 (by kernel_rfl));unfold Oper.wp;go_simp;refine (view_any (o:=(fun b=>b≠w.heap.size)) (formP m) _ w' (HX.out.2.2.chg hcB) HB.out.fp (fun b hb=>by omega)).mono ?_;rintro e w3 ⟨v',rfl,hc3,hr3⟩;exact ⟨_,rfl,hK2 _ _ hc3 hr3⟩
     ·obtain rfl:_=oo:=Option.some.inj ho
      have h7:=g_eq (t:=7) (v:=.pointer (some ⟨IB,0,none⟩)) (hst 7 (by simp));unfold Oper.wp;go_simp;exact ⟨_,rfl,hK2 _ _ (Chg.refl _ _) rfl⟩
     ·obtain rfl:_=oo:=Option.some.inj ho
      have h40:=g_eq (t:=40) (v:=.agg #[.int .i64 (T.map n).kind,.int .i64 (T.map n).num,.string (T.map n).txt,.slice D5 (T.map n).keys.length d5,.slice D6 (T.map n).vals.length d6]) (hdep 7 (by kernel_rfl));have h40:=g_eq (t:=40) (v:=.agg #[.int .i64 (T.map n).kind,.int .i64 (T.map n).num,.string (T.map n).txt,.slice D5 (T.map n).keys.length d5,.slice D6 (T.map n).vals.length d6]) (hdep 7 (by kernel_rfl));unfold Oper.wp;go_simp;refine (from_any 67108864 (.map n) _ w' HL.out.fn.size HL.out.fn.size (HX.out.2.1.chg hcB)).mono ?_;rintro e w3 ⟨v',rfl,hc3,hr3⟩;exact ⟨_,rfl,hK2 _ _ hc3 (hr3.weak fun b hb=>by omega)⟩
     ·obtain rfl:_=oo:=Option.some.inj ho
      have hrv:Rd (fun b=>b≠w.heap.size) w' (.map n) (Act.g a' 41):=hdep 8 (by kernel_rfl);generalize h41:Act.g a' 41=vv at hrv;have h41:=g_eq (t:=41) h41;unfold Oper.wp;go_simp;refine (view_any (o:=(fun b=>b≠w.heap.size)) _ vv w' hrv HL.out.fn (fun b hb=>by omega)).mono ?_;rintro e w3 ⟨v',rfl,hc3,hr3⟩;exact ⟨_,rfl,hK2 _ _ hc3 hr3⟩
     ·obtain rfl:_=oo:=Option.some.inj ho
      have hr39:Rd (fun b=>b≠w.heap.size) w' (.map (viewM (formP m))) (Act.g a' 39):=hdep 6 (by kernel_rfl);have hr42:Rd (fun b=>b≠w.heap.size) w' (.map (viewM n)) (Act.g a' 42):=hdep 9 (by kernel_rfl);rw [<- HV.out] at hr42;generalize h39:Act.g a' 39=vv at hr39;generalize h42:Act.g a' 42=vw at hr42;have h39:=g_eq (t:=39) h39;have h42:=g_eq (t:=42) h42;unfold Oper.wp;go_simp;refine (same_eq (o:=(fun b=>b≠w.heap.size)) 67108864 (.map (viewM (formP m))) _ _ w' HB.out.fvp.size HB.out.fvp.size hr39 hr42).mono ?_;rintro e w3 ⟨rfl,hc3⟩;exact ⟨_,rfl,hK2 _ _ hc3 rfl⟩
     ·obtain rfl:_=oo:=Option.some.inj ho
      have h37:=g_eq (t:=37) (v:=.bool true) (hdep 4 (by kernel_rfl));have h43:=g_eq (t:=43) (v:=.bool true) (hdep 10 (by kernel_rfl));unfold Oper.wp;go_simp;exact ⟨_,rfl,hK2 _ _ (Chg.refl _ _) rfl⟩
     ·obtain rfl:_=oo:=Option.some.inj ho
      have h44:=g_eq (t:=44) (v:=.bool true) (hdep 11 (by kernel_rfl));unfold Oper.wp;go_simp;exact ⟨_,rfl,hK2 _ _ (Chg.refl _ _) rfl⟩
     ·omega
    ·intro u w' hch hφ A2 hA2
     have hu:u 12=.bool true:=hφ 12 (by decide);have hcB:Chg [] W8 w':=(Chg.refl [] W8).dr.trans hch New.nil;have hcE:=HX.out.1.trans hcB New.nil;simp [putAll,dOf,Act.put,hu] at hA2;subst hA2;clear hφ hu hch hcB;refine hK _ _ ?_
     go_wp2_with fail
     go_ret
     exact ⟨rfl,hcE⟩
end Go.Proofs.YtpofkokbmifhgaaGreatDoor
