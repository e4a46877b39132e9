/- Parts of the walk, made small by wip/tools/pack.py: Models, Dig. No condition but those in each statement. -/
import Derived.Test.YtpofkokbmifhgaaGreatDoorL33
import Derived.Test.YtpofkokbmifhgaaGreatDoorL24
import Derived.Lib.ItoaLen
set_option maxRecDepth 100000
set_option maxHeartbeats 20000000
set_option linter.unusedVariables false
set_option linter.unusedSimpArgs false
namespace Go.Proofs.YtpofkokbmifhgaaGreatDoor
open Go.RowKit
variable {o:Nat->Prop}
def OutM (t:T) (n:Nat) (c:T):Prop:=(n=0/\c=.map [])∨(n=1/\∃ m,t=.map m/\SaysOK m/\c=.map m)
theorem two_any (t:T) (v0 v:Value) (w:World) (h0:Rd o w (.map []) v0) (h:Rd o w t v) (hf:Fine t) (hm:∃ m,t=.map m) (hno:∀ b,w.heap.size<=b->o b) :
  Calls Tryz.prog 29 #[v0,v] w fun e w'=>∃ v',e=.returned (.tuple #[v',.bool true])/\Chg [] w w'/\Rd o w' t v':=by
 obtain ⟨m,rfl⟩:=hm;exact mergeTwo_empty m v0 v w h0 h hf hno
theorem canonT_any (t:T) (v:Value) (w:World) (h:Rd o w t v) (hf:Fine t) (hs:T.size t<=8388608) (hm:∃ m,t=.map m/\SaysOK m) (hno:∀ b,w.heap.size<=b->o b) :
  Calls Tryz.prog 30 #[v] w fun e w'=>∃ v' b,e=.returned (.tuple #[v',.bool b])/\Chg [] w w'/\Rd o w' (.map (canonS t.m)) v'/\(b=true->SaidM t.m):=by
 obtain ⟨m,rfl,hok⟩:=hm;exact canon_any m v w h hf hs hok hno
theorem models_end {cc u:T} (hm:∃ m,cc=.map m/\SaysOK m) (hq:SaidM cc.m) (hu:u=.map (canonS cc.m)):∃ m,cc=.map m/\SaysOK m/\SaidM m/\u=.map (canonS m):=by
 obtain ⟨m,rfl,h2⟩:=hm;exact ⟨m,rfl,h2,hq,hu⟩
theorem models_any (t:T) (g c:Nat) (w:World) (h:RdV o w [t] (.slice (some ⟨g,0,none⟩) 1 c)) (hf:Fine t) (hs:T.size t<=8388608) (hno:∀ b,w.heap.size<=b->o b) :
  Calls Tryz.prog 10 #[.slice (some ⟨g,0,none⟩) 1 c] w fun e w'=>∃ v' b t',e=.returned (.tuple #[v',.bool b])/\Chg [] w w'/\Rd o w' t' v'/\(b=true->∃ m,t=.map m/\SaysOK m/\SaidM m/\t'=.map (canonS m)):=by
 have HV:=Lib.hid h;have HS:=Lib.hid hs;clear h hs
 go_enter Tryz.func10,Tryz.ntmps10
 go_wp2_with fail
 refine (specEmpty (o:=fun _=>False) _).mono ?_;rintro e w1 ⟨v1,rfl,hc1,hr1⟩;obtain ⟨E5,r5,E6,r6,rfl,hj⟩:=hr1.five;have c1:=((Chg.refl [] w).al (.cells #[.int .i64 0,.int .i64 0,.string ⟨#[]⟩,.slice none 0 0,.slice none 0 0] 25)).trans hc1 New.nil;have zz1:=box5 (heap_alloc_new w (.cells #[.int .i64 0,.int .i64 0,.string ⟨#[]⟩,.slice none 0 0,.slice none 0 0] 25)) _ hc1;have hsz1:=(Array.getElem?_eq_some_iff.1 zz1).1
 obtain ⟨w2,hw⟩ : ∃ W:World,W=w1.alloc (.cells #[.int .i64 (T.map []).kind,.int .i64 (T.map []).num,.string (T.map []).txt,.slice E5 (T.map []).keys.length r5,.slice E6 (T.map []).vals.length r6] 25):=⟨_,rfl⟩
 have hc12:Chg [] w1 w2:=hw ▸ (Chg.refl [] w1).al _;have c2:=c1.trans hc12 New.nil;have zz2:=box5 zz1 _ hc12
 have hB2:Bx o [w.heap.size,w1.heap.size] w1.heap.size (.map []) w2:=⟨E5,r5,E6,r6,hw ▸ heap_alloc_new _ _,(hw ▸ hr1.chg ((Chg.refl [] w1).al _):Rd (fun _=>False) w2 _ _).weak fun _ h=>h.elim⟩
 clear hr1 hc1 hj zz1
 go_upto_region 2 with fail
 rw [<- hw];clear hw
 go_wp2_with fail
 go_loopg [5,6] 1 (fun gg sd i wr=>∃ (n:Nat) (cc:T),n<=1/\gg=1 - n/\sd=.bool true/\i=.int .i64 n/\Chg [] w wr/\wr.heap[w.heap.size]?=some (.cells #[.int .i64 0,.int .i64 0,.string ⟨#[]⟩,.slice none 0 0,.slice none 0 0] 25)/\Bx o [w.heap.size,w1.heap.size] w1.heap.size cc wr/\Hid (OutM t n cc))
 case atStart=>exact ⟨0,.map [],Nat.zero_le _,by omega,rfl,rfl,c2,zz2,hB2,Lib.hid (.inl ⟨rfl,rfl⟩)⟩
 case round=>
  clear zz2 hB2;obtain ⟨n,cc,hn,rfl,rfl,rfl,hcr,zz,hB,hout⟩:=hrel;have hszr:w1.heap.size < wr.heap.size:=hB.lt
  by_cases hlt:n < 1
  ·have hn0:n=0:=by omega
   subst hn0
   have hcc:cc=.map []:=by rcases hout.out with ⟨_,e⟩ | ⟨e,_⟩ <;> first | exact e | omega
   subst hcc;obtain ⟨g',c',A5,q5,A6,q6,e,hge,rx,ye⟩:=HV.out.elem (n:=0) (x:=t) rfl
   cases e
   have YE:=Lib.hid ye;have HLX:=Lib.hid rx.lo;have HRX:=Lib.hid rx;obtain ⟨y0,y1,y2,y3,y4⟩:=ye _ hcr;clear rx ye hout
   go_wp2_with fail
   refine (says_q t _ wr (HRX.out.chg hcr) hf).mono ?_;rintro e w3 ⟨b,rfl,hc3,hq3⟩;have HQ:=Lib.hid hq3;have c3:=hcr.trans hc3 New.nil;have zz3:=box5 zz _ hc3;have hB3:=hB.go hc3;have hs3:=hc3.size;clear hq3 hc3 y0 y1 y2 y3 y4
   cases b
   ·obtain ⟨z0,z1,z2,z3,z4,zf⟩:=cells5 zz3
    obtain ⟨W,hW,QW,hcW,hrW⟩:=ret5 (L:=[w.heap.size]) zz3 c3 (Nat.le_refl _) (Rd.zero w3:Rd (Ex o [w.heap.size]) w3 .null (.agg #[.int .i64 T.null.kind,.int .i64 T.null.num,.string T.null.txt,.slice none T.null.keys.length 0,.slice none T.null.vals.length 0])) (by simp);have HRW:=Lib.hid hrW;clear hrW
    go_wp2_with fail
    rw [show (((((w3.setCell ⟨w.heap.size,0,none⟩ (.int .i64 0)).setCell ⟨w.heap.size,1,none⟩ (.int .i64 0)).setCell ⟨w.heap.size,2,none⟩ (.string ⟨#[]⟩)).setCell ⟨w.heap.size,3,none⟩ (.slice none 0 0)).setCell ⟨w.heap.size,4,none⟩ (.slice none 0 0))=W from hW.symm];clear hW;obtain ⟨f0,f1,f2,f3,f4,_⟩:=cells5 QW
    go_wp2
    refine bodyPost_ret (v:=(.tuple #[.agg #[.int .i64 T.null.kind,.int .i64 T.null.num,.string T.null.txt,.slice none T.null.keys.length 0,.slice none T.null.vals.length 0],.bool false])) (by simp [results,Tryz.results10,go_sem,f0,f1,f2,f3,f4]) rfl ⟨_,_,.null,rfl,hcW,HRW.out,fun h=>by cases h⟩
   ·have HM:Hid (∃ m,t=.map m/\SaysOK m):=Lib.hid (by first | exact HQ.out rfl | exact HQ.out trivial)
    obtain ⟨F5,f5,F6,f6,hbx,hrx⟩:=hB3.box;have HBX:=Lib.hid (And.intro hbx hrx);clear hbx hrx
    go_wp2_with fail
    rename_i K hK;have HK:=Lib.hid hK;clear hK
    refine wp_region_put3 (by rfl) (by kernel_rfl) [0,4,6] 10 9 (by kernel_rfl) (by kernel_rfl) (.cells #[.int .i64 0,.int .i64 0,.string ⟨#[]⟩,.slice none 0 0,.slice none 0 0] 25)
     (fun jo u b V=>match jo with
      | 0=>u=.agg #[.int .i64 (T.map []).kind,.int .i64 (T.map []).num,.string (T.map []).txt,.slice F5 (T.map []).keys.length f5,.slice F6 (T.map []).vals.length f6]
      | 1=>u=.slice (some ⟨g,0,none⟩) 1 c
      | 2=>u=.int .i64 (0:Nat)
      | 3=>u=.pointer (some ⟨g,0,none⟩)
      | 4=>u=.agg #[.int .i64 t.kind,.int .i64 t.num,.string t.txt,.slice A5 t.keys.length q5,.slice A6 t.vals.length q6]
      | 5=>∃ v,u=.tuple #[v,.bool true]/\Rd (Av (Ex o [w.heap.size,w1.heap.size]) b) V (t) v
      | 6=>∃ v,u=.tuple #[v,.bool true]/\Rd (Av (Ex o [w.heap.size,w1.heap.size]) b) V (t) v
      | 7=>Rd (Av (Ex o [w.heap.size,w1.heap.size]) b) V (t) u
      | 8=>u=.bool true
      | 11=>u=.bool true
      | _=>True) ?_ ?_
     (fun B V=>∃ E5 e5 E6 e6,V.heap[B]?=some (.cells #[.int .i64 (t).kind,.int .i64 (t).num,.string (t).txt,.slice E5 (t).keys.length e5,.slice E6 (t).vals.length e6] 25)/\Rd (Av (Ex o [w.heap.size,w1.heap.size]) (some B)) V (t) (.agg #[.int .i64 (t).kind,.int .i64 (t).num,.string (t).txt,.slice E5 (t).keys.length e5,.slice E6 (t).vals.length e6])) ?_ (fun j=>[6,8,11].contains j) ?_ ?_ ?_ ?_
    ·intro j u b V V' hc hφ
     rcases j with _ | _ | _ | _ | _ | _ | _ | _ | _ | _ | _ | _ | j
     ·exact hφ
     ·exact hφ
     ·exact hφ
     ·exact hφ
     ·exact hφ
     ·obtain ⟨v,e,h⟩:=hφ
      exact ⟨v,e,h.chg hc⟩
     ·obtain ⟨v,e,h⟩:=hφ
      exact ⟨v,e,h.chg hc⟩
     ·exact Rd.chg hφ hc
     ·exact hφ
     ·exact hφ
     ·exact hφ
     ·exact hφ
     ·exact hφ
    ·intro j u V hφ
     rcases j with _ | _ | _ | _ | _ | _ | _ | _ | _ | _ | _ | _ | j
     ·exact hφ
     ·exact hφ
     ·exact hφ
     ·exact hφ
     ·exact hφ
     ·obtain ⟨v,e,h⟩:=hφ
      exact ⟨v,e,h.av_born⟩
     ·obtain ⟨v,e,h⟩:=hφ
      exact ⟨v,e,h.av_born⟩
     ·exact Rd.av_born hφ
     ·exact hφ
     ·exact hφ
     ·exact hφ
     ·exact hφ
     ·exact hφ
    ·rintro B V V' hc ⟨E5,e5,E6,e6,h,hr⟩
     exact ⟨E5,e5,E6,e6,box5 h _ hc,hr.chg hc⟩
    ·intro oo ho a' w' hst K2 hK2
     obtain rfl:_=oo:=Option.some.inj ho;unfold Oper.wp;go_simp;exact ⟨_,rfl,hK2⟩
    ·intro j oo hj hip hijb ho a' w' b hb hst hch hdep K2 hK2
     have hcB:Chg [] w3 w':=(Chg.refl [] w3).dr.trans hch New.nil;have hcw':Chg [] w w':=c3.trans hcB New.nil;obtain ⟨d0,d1,d2,d3,d4,df⟩:=cells5 (box5 HBX.out.1 _ hcB);obtain ⟨y0,y1,y2,y3,y4⟩:=YE.out _ hcw'
     have hrX:Rd (Av (Ex o [w.heap.size,w1.heap.size]) b) w' t (.agg #[.int .i64 t.kind,.int .i64 t.num,.string t.txt,.slice A5 t.keys.length q5,.slice A6 t.vals.length q6]):=(HLX.out.chg hcw').weak fun z hz=>⟨⟨hz.1,by simp; omega⟩,fun B hB=>by have:=(hb B hB).1; omega⟩
     have hrE:Rd (Av (Ex o [w.heap.size,w1.heap.size]) b) w' (.map []) (.agg #[.int .i64 (T.map []).kind,.int .i64 (T.map []).num,.string (T.map []).txt,.slice F5 (T.map []).keys.length f5,.slice F6 (T.map []).vals.length f6]):=((HBX.out.2.lo).chg hcB).weak fun z hz=>⟨hz.1,fun B hB=>by have:=(hb B hB).1; have:=hz.2; omega⟩
     have hnoX:∀ z,w'.heap.size<=z->Av (Ex o [w.heap.size,w1.heap.size]) b z:=fun z hz=>⟨⟨hno z (by have:=hcw'.size; omega),by have:=hcB.size; simp; omega⟩,fun B hB=>by have:=(hb B hB).2; omega⟩
     have hj':j < 12:=hj;rcases j with _ | _ | _ | _ | _ | _ | _ | _ | _ | _ | _ | _ | j
     ·obtain rfl:_=oo:=Option.some.inj ho
      have h4:=g_eq (t:=4) (v:=.pointer (some ⟨w1.heap.size,0,none⟩)) (hst 4 (by simp));unfold Oper.wp;go_simp;exact ⟨_,rfl,hK2 _ _ (Chg.refl _ _) rfl⟩
     ·obtain rfl:_=oo:=Option.some.inj ho
      have h0:=g_eq (t:=0) (v:=.slice (some ⟨g,0,none⟩) 1 c) (hst 0 (by simp));unfold Oper.wp;go_simp;exact ⟨_,rfl,hK2 _ _ (Chg.refl _ _) rfl⟩
     ·obtain rfl:_=oo:=Option.some.inj ho
      have h6:=g_eq (t:=6) (v:=.int .i64 (0:Nat)) (hst 6 (by simp));unfold Oper.wp;go_simp;exact ⟨_,rfl,hK2 _ _ (Chg.refl _ _) rfl⟩
     ·obtain rfl:_=oo:=Option.some.inj ho
      have h38:=g_eq (t:=38) (v:=.slice (some ⟨g,0,none⟩) 1 c) (hdep 1 (by decide) (by decide) (by kernel_rfl) (.inl (by kernel_rfl)));have h39:=g_eq (t:=39) (v:=.int .i64 (0:Nat)) (hdep 2 (by decide) (by decide) (by kernel_rfl) (.inl (by kernel_rfl)));unfold Oper.wp;go_simp;exact ⟨_,rfl,hK2 _ _ (Chg.refl _ _) rfl⟩
     ·obtain rfl:_=oo:=Option.some.inj ho
      have h40:=g_eq (t:=40) (v:=.pointer (some ⟨g,0,none⟩)) (hdep 3 (by decide) (by decide) (by kernel_rfl) (.inl (by kernel_rfl)));unfold Oper.wp;go_simp;exact ⟨_,rfl,hK2 _ _ (Chg.refl _ _) rfl⟩
     ·obtain rfl:_=oo:=Option.some.inj ho
      have h37:=g_eq (t:=37) (v:=.agg #[.int .i64 (T.map []).kind,.int .i64 (T.map []).num,.string (T.map []).txt,.slice F5 (T.map []).keys.length f5,.slice F6 (T.map []).vals.length f6]) (hdep 0 (by decide) (by decide) (by kernel_rfl) (.inl (by kernel_rfl)));have h41:=g_eq (t:=41) (v:=.agg #[.int .i64 t.kind,.int .i64 t.num,.string t.txt,.slice A5 t.keys.length q5,.slice A6 t.vals.length q6]) (hdep 4 (by decide) (by decide) (by kernel_rfl) (.inl (by kernel_rfl)));unfold Oper.wp;go_simp;refine (two_any (o:=Av (Ex o [w.heap.size,w1.heap.size]) b) t _ _ w' hrE hrX hf (by obtain ⟨m,h,_⟩:=HM.out; exact ⟨m,h⟩) hnoX).mono ?_;rintro e w4 ⟨z,rfl,hc4,hr4⟩;exact ⟨_,rfl,hK2 _ _ hc4 ⟨z,rfl,hr4⟩⟩
     ·obtain rfl:_=oo:=Option.some.inj ho
      obtain ⟨v42,hg42,hr42⟩ : ∃ v,Act.g a' 42=.tuple #[v,.bool true]/\Rd (Av (Ex o [w.heap.size,w1.heap.size]) b) w' (t) v:=hdep 5 (by decide) (by decide) (by kernel_rfl) (.inl (by kernel_rfl));have h42:=g_eq (t:=42) hg42;unfold Oper.wp;go_simp;exact ⟨_,rfl,hK2 _ _ (Chg.refl _ _) ⟨_,rfl,hr42⟩⟩
     ·obtain rfl:_=oo:=Option.some.inj ho
      obtain ⟨v36,hg36,hr36⟩ : ∃ v,Act.g a' 36=.tuple #[v,.bool true]/\Rd (Av (Ex o [w.heap.size,w1.heap.size]) b) w' (t) v:=hdep 6 (by decide) (by decide) (by kernel_rfl) (.inl (by kernel_rfl));have h36:=g_eq (t:=36) hg36;unfold Oper.wp;go_simp;exact ⟨_,rfl,hK2 _ _ (Chg.refl _ _) hr36⟩
     ·obtain rfl:_=oo:=Option.some.inj ho
      obtain ⟨v36,hg36,hr36⟩ : ∃ v,Act.g a' 36=.tuple #[v,.bool true]/\Rd (Av (Ex o [w.heap.size,w1.heap.size]) b) w' (t) v:=hdep 6 (by decide) (by decide) (by kernel_rfl) (.inr (by decide));have h36:=g_eq (t:=36) hg36;unfold Oper.wp;go_simp;exact ⟨_,rfl,hK2 _ _ (Chg.refl _ _) rfl⟩
     ·exact absurd rfl hijb
     ·exact absurd rfl hip
     ·obtain rfl:_=oo:=Option.some.inj ho
      have h44:=g_eq (t:=44) (v:=.bool true) (hdep 8 (by decide) (by decide) (by kernel_rfl) (.inr (by decide)));unfold Oper.wp;go_simp;exact ⟨_,rfl,hK2 _ _ (Chg.refl _ _) rfl⟩
     ·omega
    ·intro oo ho a' w' B hgB hB hbox hst hch hdep K2 hK2
     obtain rfl:_=oo:=Option.some.inj ho;have hrS:Rd (Av (Ex o [w.heap.size,w1.heap.size]) (some B)) w' (t) (Act.g a' 43):=hdep 7 (by decide) (by kernel_rfl);generalize hgS:Act.g a' 43=vv at hrS;obtain ⟨E5,e5,E6,e6,rfl,_⟩:=hrS.five;have hsv:=g_eq (t:=43) hgS;have hgB':Act.g a' 7=.pointer (some ⟨B,0,none⟩):=hgB;have hsb:=g_eq (t:=7) hgB';obtain ⟨b0,b1,b2,b3,b4,bf⟩:=cells5 hbox;obtain ⟨W,hW,Q,hne,hcW,hszW⟩:=store5 hbox hch (by show w3.heap.size<=B; exact hB) (.int .i64 (t).kind) (.int .i64 (t).num) (.string (t).txt) (.slice E5 (t).keys.length e5) (.slice E6 (t).vals.length e6);unfold Oper.wp;go_simp;rw [<- hW];refine hK2 W hcW (by omega) ⟨E5,e5,E6,e6,Q,hrS.mono fun b hb ho=>hne b (ho.2 B rfl)⟩ ?_
     intro j u hjp hjjb hk hφ
     rcases j with _ | _ | _ | _ | _ | _ | _ | _ | _ | _ | _ | _ | j
     ·exact absurd hk (by decide)
     ·exact absurd hk (by decide)
     ·exact absurd hk (by decide)
     ·exact absurd hk (by decide)
     ·exact absurd hk (by decide)
     ·exact absurd hk (by decide)
     ·obtain ⟨v,e,h⟩:=hφ
      exact ⟨v,e,h.mono fun x hx ho=>hne x (ho.2 B rfl)⟩
     ·exact absurd hk (by decide)
     ·exact hφ
     ·exact absurd hk (by decide)
     ·exact absurd hk (by decide)
     ·exact hφ
     ·exact absurd hk (by simp)
    ·intro u w' B hch huB hB1 hB2 hφ hup hψ A2 hA2
     obtain ⟨G5,g5,G6,g6,hBx,hrB⟩:=hψ;have hu6:∃ v,(u 6)=.tuple #[v,.bool true]/\Rd (Av (Ex o [w.heap.size,w1.heap.size]) (some B)) w' (t) v:=hφ 6 (by decide) (by decide) (by decide) (by decide);have hu8:(u 8)=.bool true:=hφ 8 (by decide) (by decide) (by decide) (by decide);have hu11:(u 11)=.bool true:=hφ 11 (by decide) (by decide) (by decide) (by decide);have hcB:Chg [] w3 w':=(Chg.refl [] w3).dr.trans hch New.nil;simp [putAll,dOf,Act.put,huB,hup,hu8,hu11,Act.g] at hA2;subst hA2;have hB7:=hB3.go hcB;have zz7:=box5 zz3 _ hcB;have c7:=c3.trans hcB New.nil;have hrB':Rd (Ex o [w.heap.size,w1.heap.size]) w' t (.agg #[.int .i64 t.kind,.int .i64 t.num,.string t.txt,.slice G5 t.keys.length g5,.slice G6 t.vals.length g6]):=hrB.av_none
     obtain ⟨w7,rfl⟩ : ∃ w7,w7=w':=⟨_,rfl⟩
     have hs7:=hcB.size
     have hBne:B≠w1.heap.size:=by omega
     obtain ⟨W,hW,hBW,hcW,hne,hszW,_⟩:=hB7.put (by simp) c7 (by omega) hrB';have zzW:=(hne w.heap.size (by omega)).trans zz7;have HBY:=hBx;have hbx7:=box5 HBX.out.1 _ hcB;obtain ⟨x0,x1,x2,x3,x4,xf⟩:=cells5 HBY;obtain ⟨d0,d1,d2,d3,d4,df⟩:=cells5 hbx7;have HW:=Lib.hid (And.intro hBW (And.intro hcW zzW));clear hφ huB hup hrB hBx hch hrB' hB1 hB2 zz hB hBW hcW hne hszW zzW hbx7 HBY hB7 hu11;refine HK.out _ _ ?_;clear HK
     go_wp2_with fail
     rw [<- hW];clear hW
     go_roundg 0
     case measure=>omega
     case rel=>exact ⟨1,t,by omega,rfl,rfl,by go_num,HW.out.2.1,HW.out.2.2,HW.out.1,Lib.hid (.inr ⟨rfl,by obtain ⟨m,h1,h2⟩:=HM.out; exact ⟨m,h1,h2,h1⟩⟩)⟩
  ·have hn1:n=1:=by omega
   have hcm:∃ m,t=.map m/\SaysOK m/\cc=.map m:=(by rcases hout.out with ⟨e,_⟩ | ⟨_,h⟩ <;> first | exact h | omega)
   have HM:Hid (∃ m,t=.map m/\SaysOK m):=Lib.hid (by obtain ⟨m,h1,h2,_⟩:=hcm; exact ⟨m,h1,h2⟩)
   have hct:cc=t:=by obtain ⟨m,h1,_,h2⟩:=hcm; rw [h1,h2]
   subst hct;subst hn1;obtain ⟨F5,f5,F6,f6,hbx,hrx⟩:=hB.box;obtain ⟨d0,d1,d2,d3,d4,df⟩:=cells5 hbx;have HRB:=Lib.hid hrx;clear hrx hcm
   go_wp2_with fail
   refine (canonT_any (o:=Ex o [w.heap.size,w1.heap.size]) cc _ wr HRB.out hf HS.out HM.out (Ex.no hno hcr.size (by simp; omega))).mono ?_;rintro e w4 ⟨v4,b,rfl,hc4,hr4,hq4⟩;have HQ4:=Lib.hid hq4
   obtain ⟨u,hu⟩ : ∃ u,u=T.map (canonS cc.m):=⟨_,rfl⟩
   rw [<- hu] at hr4;have HU:=Lib.hid hu;obtain ⟨e5,n5,e6,n6,rfl,hjunk⟩:=hr4.five;have c4:=hcr.trans hc4 New.nil;have zz4:=box5 zz _ hc4;clear hjunk hc4 hq4 hu d0 d1 d2 d3 d4 df;obtain ⟨z0,z1,z2,z3,z4,zf⟩:=cells5 zz4;obtain ⟨W,hW,QW,hcW,hrW⟩:=ret5 zz4 c4 (Nat.le_refl _) hr4 (by simp);have HRW:=Lib.hid hrW;clear hr4 hrW
   go_wp2_with fail
   rw [<- hW];clear hW;obtain ⟨f0,f1,f2,f3,f4,_⟩:=cells5 QW
   go_wp2
   refine bodyPost_ret (v:=(.tuple #[(.agg #[.int .i64 u.kind,.int .i64 u.num,.string u.txt,.slice e5 u.keys.length n5,.slice e6 u.vals.length n6]),.bool b])) (by simp [results,Tryz.results10,go_sem,f0,f1,f2,f3,f4]) rfl ⟨_,_,u,rfl,hcW,HRW.out,fun hb=>models_end HM.out (HQ4.out hb) HU.out⟩
end Go.Proofs.YtpofkokbmifhgaaGreatDoor
namespace Go.Proofs.YtpofkokbmifhgaaGreatDoor
open Go.RowKit
variable {o:Nat->Prop}
theorem byteN {n:Nat} (h:n < 208):(((UInt8.ofNat (48+n)).toNat:Nat):Int)=48+(n:Int):=by
 rw [UInt8.toNat_ofNat']
 omega
theorem wrap64 (n:Int) (h0:-9223372036854775808<=n) (h1:n<=9223372036854775807):IntKind.i64.wrap n=n:=by
 simp [IntKind.wrap,IntKind.bits,IntKind.signed]
 omega
theorem wrap8 (n:Int) (h0:0<=n) (h1:n<=255):IntKind.u8.wrap n=n:=by
 simp [IntKind.wrap,IntKind.bits,IntKind.signed]
 omega
theorem conv_at (W:World) (g:Nat) (b:UInt8) (z:Int) (hz:(b.toNat:Int)=z) (h:W.heap[g]?=some (.cells #[.int .u8 z] 5)):(convert 109 9 (.slice (some ⟨g,0,none⟩) 1 1)).run Tryz.prog W=.ok (.string ⟨#[b]⟩) W:=
 run_convert_bytes_back (P:=Tryz.prog) _ _ _ 5 ⟨g,0,none⟩ 1 [b] (by kernel_rfl) (by kernel_rfl) (by kernel_rfl) (fun j hj=>by
  obtain rfl:j=0:=by simpa using hj
  subst hz
  exact cell_of_row _ g 0 _ _ (0,0) h)
theorem digits_size {n:Int} (h0:-9223372036854775808<=n) (h1:n<=9223372036854775807):(digits n).size<=64:=by
 have:=Lib.itoa_length_le n h0 h1;show (Lib.itoa n).toArray.size<=64;simp
 omega
theorem dec_small {u:Nat} (h:u < 10):Lib.decDigits u=[UInt8.ofNat (48+u)]:=by rw [Lib.decDigits,dif_pos h]
theorem dec_big {u:Nat} (h:¬ u < 10):Lib.decDigits u=Lib.decDigits (u / 10)++[UInt8.ofNat (48+u % 10)]:=by rw [Lib.decDigits,dif_neg h]
theorem digits_nat (u:Nat):digits (u:Int)=⟨(Lib.decDigits u).toArray⟩:=by
 unfold digits Lib.itoa;rw [if_neg (by omega)]
 rfl
theorem digits_negN {u:Nat} (h:0 < u):digits (-(u:Int))=⟨(45 :: Lib.decDigits u).toArray⟩:=by
 unfold digits Lib.itoa;rw [if_pos (by omega)]
 have:(-(u:Int)).natAbs=u:=by omega
 rw [this]
theorem digits_step {u:Nat} (h:¬ u < 10):digits (u:Int)=digits ((u / 10:Nat):Int)++⟨#[UInt8.ofNat (48+u % 10)]⟩:=by
 rw [digits_nat,digits_nat,dec_big h]
 apply ByteArray.ext
 simp [ByteArray.data_append]
theorem digits_stepN {u:Nat} (h:¬ u < 10):digits (-(u:Int))=digits (-((u / 10:Nat):Int))++⟨#[UInt8.ofNat (48+u % 10)]⟩:=by
 rw [digits_negN (by omega),digits_negN (by omega),dec_big h]
 apply ByteArray.ext
 simp [ByteArray.data_append]
theorem digits0 (n:Nat) (w:World) (h1:n < 10):Calls Tryz.prog 78 #[.int .i64 (n:Int)] w fun e w'=>e=.returned (.string ⟨#[UInt8.ofNat (48+n)]⟩)/\Chg [] w w':=by
 have n1:decide ((n:Int) > -10)=true:=decide_eq_true (by omega);have n2:decide ((n:Int) < 0)=false:=decide_eq_false (by omega);have n3:decide ((n:Int) ≥ 0)=true:=decide_eq_true (by omega);have n4:decide ((n:Int) < 10)=true:=decide_eq_true (by omega)
 obtain ⟨b,hb⟩ : ∃ b,b=UInt8.ofNat (48+n):=⟨_,rfl⟩
 have hcv:=conv_at _ w.heap.size b (48+(n:Int)) (by rw [hb]; exact byteN (by omega)) (heap_alloc_new w (.cells #[.int .u8 (48+(n:Int))] 5));rw [<- hb];clear hb
 go_enter Tryz.func78,Tryz.ntmps78
 go_wp2
 go_ret
 exact ⟨rfl,(Chg.refl [] w).al _⟩
theorem digits1 (n:Nat) (w:World) (h0:0 < n) (h1:n < 10):Calls Tryz.prog 78 #[.int .i64 (-(n:Int))] w fun e w'=>e=.returned (.string (digits (-(n:Int))))/\Chg [] w w':=by
 have n1:decide (-(n:Int) > -10)=true:=decide_eq_true (by omega);have n2:decide (-(n:Int) < 0)=true:=decide_eq_true (by omega)
 have n5:- -(n:Int)=(n:Int):=by omega
 have HD:Hid (digits (-(n:Int))=⟨#[45]⟩++⟨#[UInt8.ofNat (48+n)]⟩):=Lib.hid (by
  rw [digits_negN h0,dec_small h1]
  apply ByteArray.ext
  simp [ByteArray.data_append])
 rw [HD.out]
 have hsz:(⟨#[UInt8.ofNat (48+n)]⟩ : ByteArray).size<=64:=by show (1:Nat)<=64; omega
 go_enter Tryz.func78,Tryz.ntmps78
 go_wp2_with fail
 refine (digits0 n _ h1).mono ?_;rintro e w1 ⟨rfl,hc1⟩
 obtain ⟨sd,hsd⟩ : ∃ sd,sd=(⟨#[UInt8.ofNat (48+n)]⟩ : ByteArray):=⟨_,rfl⟩
 rw [<- hsd] at hsz ⊢;have HSD:=Lib.hid hsd;clear hsd
 go_wp2
 go_ret
 exact ⟨by rw [<- HSD.out]; rfl,hc1⟩
theorem digitsP (u q d:Nat) (w:World) (hu:¬ u < 10) (hq:u / 10=q) (hd:u % 10=d) (hr:u<=9223372036854775808/\(u:Int)<=9223372036854775807) (IH:∀ W,w.heap.size<=W.heap.size->Calls Tryz.prog 78 #[.int .i64 (q:Int)] W fun e w'=>e=.returned (.string (digits (q:Int)))/\Chg [] W w'):Calls Tryz.prog 78 #[.int .i64 (u:Int)] w fun e w'=>e=.returned (.string (digits (u:Int)))/\Chg [] w w':=by
 have HD:=Lib.hid (digits_step (u:=u) hu);rw [hq,hd] at HD;obtain ⟨hr1,hr2⟩:=hr;have HSZ:Hid ((digits (q:Int)).size<=64):=Lib.hid (digits_size (by omega) (by omega));have n1:decide ((u:Int) > -10)=true:=decide_eq_true (by omega);have n2:decide ((u:Int) < 0)=false:=decide_eq_false (by omega);have n3:decide ((u:Int) ≥ 0)=true:=decide_eq_true (by omega);have n4:decide ((u:Int) < 10)=false:=decide_eq_false (by omega)
 have t1:Int.tdiv (u:Int) 10=(q:Int):=by rw [<- hq]; rfl
 have t2:Int.tmod (u:Int) 10=(d:Int):=by rw [<- hd]; rfl
 have t3:decide ((d:Int) < 0)=false:=decide_eq_false (by omega)
 obtain ⟨b,hb⟩ : ∃ b,b=UInt8.ofNat (48+d):=⟨_,rfl⟩
 have hd10:d < 10:=by omega
 have hq10:q<=u:=by omega
 have HB:Hid ((b.toNat:Int)=48+(d:Int)):=Lib.hid (by rw [hb]; exact byteN (by omega));rw [<- hb] at HD;have hw1:IntKind.i64.wrap (q:Int)=(q:Int):=wrap64 _ (by omega) (by omega);have hw2:IntKind.i64.wrap (48+(d:Int))=48+(d:Int):=wrap64 _ (by omega) (by omega);have hw3:IntKind.u8.wrap (48+(d:Int))=48+(d:Int):=wrap8 _ (by omega) (by omega);clear hq hd hb
 go_enter Tryz.func78,Tryz.ntmps78
 go_wp2_with fail
 rename_i K hK;have HK:=Lib.hid hK;clear hK
 refine wp_region_all (by rfl) (by kernel_rfl) [0,3] (by kernel_rfl)
  (fun jo u_ V=>match jo with
   | 0=>u_=.int .i64 (u:Int)
   | 1=>u_=.int .i64 (q:Int)
   | 2=>u_=.string (digits (q:Int))
   | 3=>u_=.int .i64 (d:Int)
   | 4=>u_=.int .i64 (48+(d:Int))
   | 5=>u_=.int .u8 (48+(d:Int))
   | 6=>∃ g,u_=.slice (some ⟨g,0,none⟩) 1 1/\V.heap[g]?=some (.cells #[.int .u8 (48+(d:Int))] 5)
   | 7=>u_=.string ⟨#[b]⟩
   | 8=>u_=.string (digits (q:Int)++⟨#[b]⟩)
   | 9=>u_=.string (digits (q:Int)++⟨#[b]⟩)
   | _=>True) ?_ ?_ ?_
 ·intro j u V V' hc hφ
  rcases j with _ | _ | _ | _ | _ | _ | _ | _ | _ | _ | j
  ·exact hφ
  ·exact hφ
  ·exact hφ
  ·exact hφ
  ·exact hφ
  ·exact hφ
  ·obtain ⟨g,e,h⟩:=hφ
   exact ⟨g,e,(hc.block _ (Array.getElem?_eq_some_iff.1 h).1 (by simp)).trans h⟩
  ·exact hφ
  ·exact hφ
  ·exact hφ
  ·exact hφ
 ·intro j oo hj ho a' w' hst hch hdep K2 hK2
  have hcB:Chg [] w w':=(Chg.refl [] w).dr.trans hch New.nil;have hj':j < 10:=hj;rcases j with _ | _ | _ | _ | _ | _ | _ | _ | _ | _ | j
  ·obtain rfl:_=oo:=Option.some.inj ho
   have h0:=g_eq (t:=0) (v:=.int .i64 (u:Int)) (hst 0 (by simp));unfold Oper.wp;go_simp;exact ⟨_,rfl,hK2 _ _ (Chg.refl _ _) rfl⟩
  ·obtain rfl:_=oo:=Option.some.inj ho
   have h31:=g_eq (t:=31) (v:=.int .i64 (u:Int)) (hdep 0 (by kernel_rfl));unfold Oper.wp;go_simp;exact ⟨_,rfl,hK2 _ _ (Chg.refl _ _) rfl⟩
  ·obtain rfl:_=oo:=Option.some.inj ho
   have h32:=g_eq (t:=32) (v:=.int .i64 (q:Int)) (hdep 1 (by kernel_rfl));have h32:=h32;unfold Oper.wp;go_simp;refine (IH _ (hcB.size)).mono ?_;rintro e w3 ⟨rfl,hc3⟩;exact ⟨_,rfl,hK2 _ _ hc3 rfl⟩
  ·obtain rfl:_=oo:=Option.some.inj ho
   have h3:=g_eq (t:=3) (v:=.int .i64 (d:Int)) (hst 3 (by simp));unfold Oper.wp;go_simp;exact ⟨_,rfl,hK2 _ _ (Chg.refl _ _) rfl⟩
  ·obtain rfl:_=oo:=Option.some.inj ho
   have h34:=g_eq (t:=34) (v:=.int .i64 (d:Int)) (hdep 3 (by kernel_rfl));unfold Oper.wp;go_simp;exact ⟨_,rfl,hK2 _ _ (Chg.refl _ _) rfl⟩
  ·obtain rfl:_=oo:=Option.some.inj ho
   have h35:=g_eq (t:=35) (v:=.int .i64 (48+(d:Int))) (hdep 4 (by kernel_rfl));unfold Oper.wp;go_simp;exact ⟨_,rfl,hK2 _ _ (Chg.refl _ _) rfl⟩
  ·obtain rfl:_=oo:=Option.some.inj ho
   have h36:=g_eq (t:=36) (v:=.int .u8 (48+(d:Int))) (hdep 5 (by kernel_rfl));unfold Oper.wp;go_simp;exact ⟨_,rfl,hK2 _ _ ((Chg.refl [] w').al _) ⟨_,rfl,heap_alloc_new _ _⟩⟩
  ·obtain rfl:_=oo:=Option.some.inj ho
   obtain ⟨g,e,hg⟩ : ∃ g,Act.g a' 37=.slice (some ⟨g,0,none⟩) 1 1/\w'.heap[g]?=some (.cells #[.int .u8 (48+(d:Int))] 5):=hdep 6 (by kernel_rfl);have h37:=g_eq e;have hcv:=conv_at w' g b _ HB.out hg;unfold Oper.wp;go_simp;exact ⟨_,rfl,hK2 _ _ (Chg.refl _ _) rfl⟩
  ·obtain rfl:_=oo:=Option.some.inj ho
   have h33:=g_eq (t:=33) (v:=.string (digits (q:Int))) (hdep 2 (by kernel_rfl));have h38:=g_eq (t:=38) (v:=.string ⟨#[b]⟩) (hdep 7 (by kernel_rfl));have hsz:(digits (q:Int)).size<=64:=HSZ.out
   have hz:¬ 9223372036854775807 < (digits (q:Int)).size+1:=by omega
   unfold Oper.wp;go_simp;exact ⟨_,rfl,hK2 _ _ (Chg.refl _ _) rfl⟩
  ·obtain rfl:_=oo:=Option.some.inj ho
   have h39:=g_eq (t:=39) (v:=.string (digits (q:Int)++⟨#[b]⟩)) (hdep 8 (by kernel_rfl));unfold Oper.wp;go_simp;exact ⟨_,rfl,hK2 _ _ (Chg.refl _ _) rfl⟩
  ·omega
 ·intro UU w' hch hφ A2 hA2
  have hu9:UU 9=.string (digits (q:Int)++⟨#[b]⟩):=hφ 9 (by decide);have hcB:Chg [] w w':=(Chg.refl [] w).dr.trans hch New.nil;simp [putAll,dOf,Act.put,hu9] at hA2;subst hA2;clear hφ hu9;refine HK.out _ _ ?_;clear HK
  go_wp2
  go_ret
  exact ⟨by rw [HD.out]; rfl,hcB⟩
theorem digitsN0 (u q d:Nat) (w:World) (hu:¬ u < 10) (hq:u / 10=q) (hd:u % 10=d) (hd0:d=0) (hr:u<=9223372036854775808/\(-(u:Int))<=9223372036854775807) (IH:∀ W,w.heap.size<=W.heap.size->Calls Tryz.prog 78 #[.int .i64 (-(q:Int))] W fun e w'=>e=.returned (.string (digits (-(q:Int))))/\Chg [] W w'):Calls Tryz.prog 78 #[.int .i64 (-(u:Int))] w fun e w'=>e=.returned (.string (digits (-(u:Int))))/\Chg [] w w':=by
 have HD:=Lib.hid (digits_stepN (u:=u) hu);rw [hq,hd] at HD;obtain ⟨hr1,hr2⟩:=hr;have HSZ:Hid ((digits (-(q:Int))).size<=64):=Lib.hid (digits_size (by omega) (by omega));have n1:decide ((-(u:Int)) > -10)=false:=decide_eq_false (by omega);have n2:decide ((-(u:Int)) < 0)=true:=decide_eq_true (by omega);have n3:decide ((-(u:Int)) ≥ 0)=false:=decide_eq_false (by omega);have n4:decide ((-(u:Int)) < 10)=true:=decide_eq_true (by omega)
 have t1:Int.tdiv (-(u:Int)) 10=(-(q:Int)):=by rw [Int.neg_tdiv,<- hq]; rfl
 have t2:Int.tmod (-(u:Int)) 10=(d:Int):=by rw [Int.neg_tmod,show ((u:Int).tmod 10)=((u % 10:Nat):Int) from rfl,hd,hd0]; rfl
 have t3:decide ((d:Int) < 0)=false:=decide_eq_false (by omega)
 obtain ⟨b,hb⟩ : ∃ b,b=UInt8.ofNat (48+d):=⟨_,rfl⟩
 have hd10:d < 10:=by omega
 have hq10:q<=u:=by omega
 have HB:Hid ((b.toNat:Int)=48+(d:Int)):=Lib.hid (by rw [hb]; exact byteN (by omega));rw [<- hb] at HD;have hw1:IntKind.i64.wrap (-(q:Int))=(-(q:Int)):=wrap64 _ (by omega) (by omega);have hw2:IntKind.i64.wrap (48+(d:Int))=48+(d:Int):=wrap64 _ (by omega) (by omega);have hw3:IntKind.u8.wrap (48+(d:Int))=48+(d:Int):=wrap8 _ (by omega) (by omega);clear hq hd hb;clear hd0
 go_enter Tryz.func78,Tryz.ntmps78
 go_wp2_with fail
 rename_i K hK hjk;have HK:=Lib.hid hK;clear hK
 refine wp_region_all (by rfl) (by kernel_rfl) [0,3] (by kernel_rfl)
  (fun jo u_ V=>match jo with
   | 0=>u_=.int .i64 (-(u:Int))
   | 1=>u_=.int .i64 (-(q:Int))
   | 2=>u_=.string (digits (-(q:Int)))
   | 3=>u_=.int .i64 (d:Int)
   | 4=>u_=.int .i64 (48+(d:Int))
   | 5=>u_=.int .u8 (48+(d:Int))
   | 6=>∃ g,u_=.slice (some ⟨g,0,none⟩) 1 1/\V.heap[g]?=some (.cells #[.int .u8 (48+(d:Int))] 5)
   | 7=>u_=.string ⟨#[b]⟩
   | 8=>u_=.string (digits (-(q:Int))++⟨#[b]⟩)
   | 9=>u_=.string (digits (-(q:Int))++⟨#[b]⟩)
   | _=>True) ?_ ?_ ?_
 ·intro j u V V' hc hφ
  rcases j with _ | _ | _ | _ | _ | _ | _ | _ | _ | _ | j
  ·exact hφ
  ·exact hφ
  ·exact hφ
  ·exact hφ
  ·exact hφ
  ·exact hφ
  ·obtain ⟨g,e,h⟩:=hφ
   exact ⟨g,e,(hc.block _ (Array.getElem?_eq_some_iff.1 h).1 (by simp)).trans h⟩
  ·exact hφ
  ·exact hφ
  ·exact hφ
  ·exact hφ
 ·intro j oo hj ho a' w' hst hch hdep K2 hK2
  have hcB:Chg [] w w':=(Chg.refl [] w).dr.trans hch New.nil;have hj':j < 10:=hj;rcases j with _ | _ | _ | _ | _ | _ | _ | _ | _ | _ | j
  ·obtain rfl:_=oo:=Option.some.inj ho
   have h0:=g_eq (t:=0) (v:=.int .i64 (-(u:Int))) (hst 0 (by simp));unfold Oper.wp;go_simp;exact ⟨_,rfl,hK2 _ _ (Chg.refl _ _) rfl⟩
  ·obtain rfl:_=oo:=Option.some.inj ho
   have h31:=g_eq (t:=31) (v:=.int .i64 (-(u:Int))) (hdep 0 (by kernel_rfl));unfold Oper.wp;go_simp;exact ⟨_,rfl,hK2 _ _ (Chg.refl _ _) rfl⟩
  ·obtain rfl:_=oo:=Option.some.inj ho
   have h32:=g_eq (t:=32) (v:=.int .i64 (-(q:Int))) (hdep 1 (by kernel_rfl));have h32:=h32;unfold Oper.wp;go_simp;refine (IH _ (hcB.size)).mono ?_;rintro e w3 ⟨rfl,hc3⟩;exact ⟨_,rfl,hK2 _ _ hc3 rfl⟩
  ·obtain rfl:_=oo:=Option.some.inj ho
   have h3:=g_eq (t:=3) (v:=.int .i64 (d:Int)) (hst 3 (by simp));unfold Oper.wp;go_simp;exact ⟨_,rfl,hK2 _ _ (Chg.refl _ _) rfl⟩
  ·obtain rfl:_=oo:=Option.some.inj ho
   have h34:=g_eq (t:=34) (v:=.int .i64 (d:Int)) (hdep 3 (by kernel_rfl));unfold Oper.wp;go_simp;exact ⟨_,rfl,hK2 _ _ (Chg.refl _ _) rfl⟩
  ·obtain rfl:_=oo:=Option.some.inj ho
   have h35:=g_eq (t:=35) (v:=.int .i64 (48+(d:Int))) (hdep 4 (by kernel_rfl));unfold Oper.wp;go_simp;exact ⟨_,rfl,hK2 _ _ (Chg.refl _ _) rfl⟩
  ·obtain rfl:_=oo:=Option.some.inj ho
   have h36:=g_eq (t:=36) (v:=.int .u8 (48+(d:Int))) (hdep 5 (by kernel_rfl));unfold Oper.wp;go_simp;exact ⟨_,rfl,hK2 _ _ ((Chg.refl [] w').al _) ⟨_,rfl,heap_alloc_new _ _⟩⟩
  ·obtain rfl:_=oo:=Option.some.inj ho
   obtain ⟨g,e,hg⟩ : ∃ g,Act.g a' 37=.slice (some ⟨g,0,none⟩) 1 1/\w'.heap[g]?=some (.cells #[.int .u8 (48+(d:Int))] 5):=hdep 6 (by kernel_rfl);have h37:=g_eq e;have hcv:=conv_at w' g b _ HB.out hg;unfold Oper.wp;go_simp;exact ⟨_,rfl,hK2 _ _ (Chg.refl _ _) rfl⟩
  ·obtain rfl:_=oo:=Option.some.inj ho
   have h33:=g_eq (t:=33) (v:=.string (digits (-(q:Int)))) (hdep 2 (by kernel_rfl));have h38:=g_eq (t:=38) (v:=.string ⟨#[b]⟩) (hdep 7 (by kernel_rfl));have hsz:(digits (-(q:Int))).size<=64:=HSZ.out
   have hz:¬ 9223372036854775807 < (digits (-(q:Int))).size+1:=by omega
   unfold Oper.wp;go_simp;exact ⟨_,rfl,hK2 _ _ (Chg.refl _ _) rfl⟩
  ·obtain rfl:_=oo:=Option.some.inj ho
   have h39:=g_eq (t:=39) (v:=.string (digits (-(q:Int))++⟨#[b]⟩)) (hdep 8 (by kernel_rfl));unfold Oper.wp;go_simp;exact ⟨_,rfl,hK2 _ _ (Chg.refl _ _) rfl⟩
  ·omega
 ·intro UU w' hch hφ A2 hA2
  have hu9:UU 9=.string (digits (-(q:Int))++⟨#[b]⟩):=hφ 9 (by decide);have hcB:Chg [] w w':=(Chg.refl [] w).dr.trans hch New.nil;simp [putAll,dOf,Act.put,hu9] at hA2;subst hA2;clear hφ hu9;refine HK.out _ _ ?_;clear HK
  go_wp2
  go_ret
  exact ⟨by rw [HD.out]; rfl,hcB⟩
theorem digitsN1 (u q d:Nat) (w:World) (hu:¬ u < 10) (hq:u / 10=q) (hd:u % 10=d) (hd0:0 < d) (hr:u<=9223372036854775808/\(-(u:Int))<=9223372036854775807) (IH:∀ W,w.heap.size<=W.heap.size->Calls Tryz.prog 78 #[.int .i64 (-(q:Int))] W fun e w'=>e=.returned (.string (digits (-(q:Int))))/\Chg [] W w'):Calls Tryz.prog 78 #[.int .i64 (-(u:Int))] w fun e w'=>e=.returned (.string (digits (-(u:Int))))/\Chg [] w w':=by
 have HD:=Lib.hid (digits_stepN (u:=u) hu);rw [hq,hd] at HD;obtain ⟨hr1,hr2⟩:=hr;have HSZ:Hid ((digits (-(q:Int))).size<=64):=Lib.hid (digits_size (by omega) (by omega));have n1:decide ((-(u:Int)) > -10)=false:=decide_eq_false (by omega);have n2:decide ((-(u:Int)) < 0)=true:=decide_eq_true (by omega);have n3:decide ((-(u:Int)) ≥ 0)=false:=decide_eq_false (by omega);have n4:decide ((-(u:Int)) < 10)=true:=decide_eq_true (by omega)
 have t1:Int.tdiv (-(u:Int)) 10=(-(q:Int)):=by rw [Int.neg_tdiv,<- hq]; rfl
 have t2:Int.tmod (-(u:Int)) 10=(-(d:Int)):=by rw [Int.neg_tmod,<- hd]; rfl
 have t3:decide ((-(d:Int)) < 0)=true:=decide_eq_true (by omega)
 have t4:- -(d:Int)=(d:Int):=by omega
 obtain ⟨b,hb⟩ : ∃ b,b=UInt8.ofNat (48+d):=⟨_,rfl⟩
 have hd10:d < 10:=by omega
 have hq10:q<=u:=by omega
 have HB:Hid ((b.toNat:Int)=48+(d:Int)):=Lib.hid (by rw [hb]; exact byteN (by omega));rw [<- hb] at HD;have hw1:IntKind.i64.wrap (-(q:Int))=(-(q:Int)):=wrap64 _ (by omega) (by omega);have hw2:IntKind.i64.wrap (48+(d:Int))=48+(d:Int):=wrap64 _ (by omega) (by omega);have hw3:IntKind.u8.wrap (48+(d:Int))=48+(d:Int):=wrap8 _ (by omega) (by omega);clear hq hd hb
 go_enter Tryz.func78,Tryz.ntmps78
 go_wp2_with fail
 rename_i K hK hjk;have HK:=Lib.hid hK;clear hK
 refine wp_region_all (by rfl) (by kernel_rfl) [0,3] (by kernel_rfl)
  (fun jo u_ V=>match jo with
   | 0=>u_=.int .i64 (-(u:Int))
   | 1=>u_=.int .i64 (-(q:Int))
   | 2=>u_=.string (digits (-(q:Int)))
   | 3=>u_=.int .i64 (d:Int)
   | 4=>u_=.int .i64 (48+(d:Int))
   | 5=>u_=.int .u8 (48+(d:Int))
   | 6=>∃ g,u_=.slice (some ⟨g,0,none⟩) 1 1/\V.heap[g]?=some (.cells #[.int .u8 (48+(d:Int))] 5)
   | 7=>u_=.string ⟨#[b]⟩
   | 8=>u_=.string (digits (-(q:Int))++⟨#[b]⟩)
   | 9=>u_=.string (digits (-(q:Int))++⟨#[b]⟩)
   | _=>True) ?_ ?_ ?_
 ·intro j u V V' hc hφ
  rcases j with _ | _ | _ | _ | _ | _ | _ | _ | _ | _ | j
  ·exact hφ
  ·exact hφ
  ·exact hφ
  ·exact hφ
  ·exact hφ
  ·exact hφ
  ·obtain ⟨g,e,h⟩:=hφ
   exact ⟨g,e,(hc.block _ (Array.getElem?_eq_some_iff.1 h).1 (by simp)).trans h⟩
  ·exact hφ
  ·exact hφ
  ·exact hφ
  ·exact hφ
 ·intro j oo hj ho a' w' hst hch hdep K2 hK2
  have hcB:Chg [] w w':=(Chg.refl [] w).dr.trans hch New.nil;have hj':j < 10:=hj;rcases j with _ | _ | _ | _ | _ | _ | _ | _ | _ | _ | j
  ·obtain rfl:_=oo:=Option.some.inj ho
   have h0:=g_eq (t:=0) (v:=.int .i64 (-(u:Int))) (hst 0 (by simp));unfold Oper.wp;go_simp;exact ⟨_,rfl,hK2 _ _ (Chg.refl _ _) rfl⟩
  ·obtain rfl:_=oo:=Option.some.inj ho
   have h31:=g_eq (t:=31) (v:=.int .i64 (-(u:Int))) (hdep 0 (by kernel_rfl));unfold Oper.wp;go_simp;exact ⟨_,rfl,hK2 _ _ (Chg.refl _ _) rfl⟩
  ·obtain rfl:_=oo:=Option.some.inj ho
   have h32:=g_eq (t:=32) (v:=.int .i64 (-(q:Int))) (hdep 1 (by kernel_rfl));have h32:=h32;unfold Oper.wp;go_simp;refine (IH _ (hcB.size)).mono ?_;rintro e w3 ⟨rfl,hc3⟩;exact ⟨_,rfl,hK2 _ _ hc3 rfl⟩
  ·obtain rfl:_=oo:=Option.some.inj ho
   have h3:=g_eq (t:=3) (v:=.int .i64 (d:Int)) (hst 3 (by simp));unfold Oper.wp;go_simp;exact ⟨_,rfl,hK2 _ _ (Chg.refl _ _) rfl⟩
  ·obtain rfl:_=oo:=Option.some.inj ho
   have h34:=g_eq (t:=34) (v:=.int .i64 (d:Int)) (hdep 3 (by kernel_rfl));unfold Oper.wp;go_simp;exact ⟨_,rfl,hK2 _ _ (Chg.refl _ _) rfl⟩
  ·obtain rfl:_=oo:=Option.some.inj ho
   have h35:=g_eq (t:=35) (v:=.int .i64 (48+(d:Int))) (hdep 4 (by kernel_rfl));unfold Oper.wp;go_simp;exact ⟨_,rfl,hK2 _ _ (Chg.refl _ _) rfl⟩
  ·obtain rfl:_=oo:=Option.some.inj ho
   have h36:=g_eq (t:=36) (v:=.int .u8 (48+(d:Int))) (hdep 5 (by kernel_rfl));unfold Oper.wp;go_simp;exact ⟨_,rfl,hK2 _ _ ((Chg.refl [] w').al _) ⟨_,rfl,heap_alloc_new _ _⟩⟩
  ·obtain rfl:_=oo:=Option.some.inj ho
   obtain ⟨g,e,hg⟩ : ∃ g,Act.g a' 37=.slice (some ⟨g,0,none⟩) 1 1/\w'.heap[g]?=some (.cells #[.int .u8 (48+(d:Int))] 5):=hdep 6 (by kernel_rfl);have h37:=g_eq e;have hcv:=conv_at w' g b _ HB.out hg;unfold Oper.wp;go_simp;exact ⟨_,rfl,hK2 _ _ (Chg.refl _ _) rfl⟩
  ·obtain rfl:_=oo:=Option.some.inj ho
   have h33:=g_eq (t:=33) (v:=.string (digits (-(q:Int)))) (hdep 2 (by kernel_rfl));have h38:=g_eq (t:=38) (v:=.string ⟨#[b]⟩) (hdep 7 (by kernel_rfl));have hsz:(digits (-(q:Int))).size<=64:=HSZ.out
   have hz:¬ 9223372036854775807 < (digits (-(q:Int))).size+1:=by omega
   unfold Oper.wp;go_simp;exact ⟨_,rfl,hK2 _ _ (Chg.refl _ _) rfl⟩
  ·obtain rfl:_=oo:=Option.some.inj ho
   have h39:=g_eq (t:=39) (v:=.string (digits (-(q:Int))++⟨#[b]⟩)) (hdep 8 (by kernel_rfl));unfold Oper.wp;go_simp;exact ⟨_,rfl,hK2 _ _ (Chg.refl _ _) rfl⟩
  ·omega
 ·intro UU w' hch hφ A2 hA2
  have hu9:UU 9=.string (digits (-(q:Int))++⟨#[b]⟩):=hφ 9 (by decide);have hcB:Chg [] w w':=(Chg.refl [] w).dr.trans hch New.nil;simp [putAll,dOf,Act.put,hu9] at hA2;subst hA2;clear hφ hu9;refine HK.out _ _ ?_;clear HK
  go_wp2
  go_ret
  exact ⟨by rw [HD.out]; rfl,hcB⟩
theorem mergeDigits_any (f:Nat):∀ (n:Int) (w:World),n.natAbs<=f->-9223372036854775808<=n->n<=9223372036854775807->Calls Tryz.prog 78 #[.int .i64 n] w fun e w'=>e=.returned (.string (digits n))/\Chg [] w w':=by
 induction f using Nat.strongRecOn with
 | _ f ih=>
  intro n w hf h0 h1
  by_cases hn:0<=n
  ·obtain ⟨u,rfl⟩ : ∃ u:Nat,n=(u:Int):=⟨n.toNat,by omega⟩
   by_cases hu:u < 10
   ·have:=digits0 u w hu
    rw [digits_nat,dec_small hu];exact this
   ·exact digitsP u (u / 10) (u % 10) w hu rfl rfl ⟨by omega,h1⟩ fun W _=>ih (u / 10) (by omega) _ W (by omega) (by omega) (by omega)
  ·obtain ⟨u,rfl⟩ : ∃ u:Nat,n=-(u:Int):=⟨n.natAbs,by omega⟩
   by_cases hu:u < 10
   ·exact digits1 u w (by omega) hu
   ·by_cases hd:u % 10=0
    ·exact digitsN0 u (u / 10) (u % 10) w hu rfl rfl hd ⟨by omega,by omega⟩ fun W _=>ih (u / 10) (by omega) _ W (by omega) (by omega) (by omega)
    ·exact digitsN1 u (u / 10) (u % 10) w hu rfl rfl (by omega) ⟨by omega,by omega⟩ fun W _=>ih (u / 10) (by omega) _ W (by omega) (by omega) (by omega)
end Go.Proofs.YtpofkokbmifhgaaGreatDoor
