/- Parts of the walk, made small by wip/tools/pack.py: Canon. No condition but those in each statement. -/
import Derived.Test.YtpofkokbmifhgaaGreatDoorL32
set_option maxRecDepth 100000
set_option maxHeartbeats 20000000
set_option linter.unusedVariables false
set_option linter.unusedSimpArgs false
namespace Go.Proofs.YtpofkokbmifhgaaGreatDoor
open Go.RowKit
variable {o:Nat->Prop}
theorem canonService_t (x:T) (v:Value) (w:World) (h:Rd o w x v) (hf:Fine x) (hs:T.size x<=8388608) (hok:SvcSaid x) (hno:∀ b,w.heap.size<=b->o b) :
  Calls Tryz.prog 50 #[v] w fun e w'=>∃ v' b,e=.returned (.tuple #[v',.bool b])/\Chg [] w w'/\Rd o w' (canonSvc x) v'/\(b=true->∀ q∈x.m,q.1∈uniqA->SaidU q.1 q.2.vals):=by
 obtain ⟨m,rfl,hat⟩:=hok;exact canonService_any m v w h hf hs hat hno
noncomputable def fS (_:ByteArray) (x:T):T:=canonSvc x
def SaidL (l:List (ByteArray × T)) (n:Nat):Prop:=∀ (j:Nat) (k:ByteArray) (x:T),j < n->l[j]?=some (k,x)->∀ q∈x.m,q.1∈uniqA->SaidU q.1 q.2.vals
theorem SaidL.step {l:List (ByteArray × T)} {n:Nat} {k:ByteArray} {x:T} (h:SaidL l n) (hx:l[n]?=some (k,x)) (hq:∀ q∈x.m,q.1∈uniqA->SaidU q.1 q.2.vals):SaidL l (n+1):=fun j k' x' hj hx'=>by
 rcases Nat.lt_succ_iff_lt_or_eq.1 hj with h' | rfl
 ·exact h j k' x' h' hx'
 ·rw [hx] at hx'
  cases hx'
  exact hq
theorem SaidL.all {l:List (ByteArray × T)} {n:Nat} (h:SaidL l n) (hn:n=l.length) {m:List (ByteArray × T)} (hg:mget cServices m=some (.map l)):SaidM m:=fun l' hl' p hp=>by
 rw [hg] at hl'
 cases hl'
 obtain ⟨j,hj⟩:=List.getElem?_of_mem hp;exact h j p.1 p.2 (by have:=(List.getElem?_eq_some_iff.1 hj).1; omega) hj
theorem canon_any (m:List (ByteArray × T)) (v:Value) (w:World) (h:Rd o w (.map m) v) (hf:Fine (.map m)) (hs:T.size (.map m)<=8388608) (hok:SaysOK m) (hno:∀ b,w.heap.size<=b->o b) :
  Calls Tryz.prog 30 #[v] w fun e w'=>∃ v' b,e=.returned (.tuple #[v',.bool b])/\Chg [] w w'/\Rd o w' (.map (canonS m)) v'/\(b=true->SaidM m):=by
 obtain ⟨A3,q3,A4,q4,rfl,hk,hv⟩:=h.five;have hml:Hid (m.length<=67108864):=Lib.hid (by have:=hf.len.1; simpa [T.vals] using this);have hsm:Hid (Srt m):=Lib.hid hf.wf.1;have HOK:=Lib.hid hok;have HS:=Lib.hid hs;clear hok hs hk hv
 go_enter Tryz.func30,Tryz.ntmps30
 go_upto_region 1 with fail
 obtain ⟨w1,hw⟩ : ∃ W:World,W=(w.alloc (.cells #[.int .i64 (T.map m).kind,.int .i64 (T.map m).num,.string (T.map m).txt,.slice A3 (T.map m).keys.length q3,.slice A4 (T.map m).vals.length q4] 25)).alloc (.cells #[.int .i64 0,.int .i64 0,.string ⟨#[]⟩,.slice none 0 0,.slice none 0 0] 25):=⟨_,rfl⟩
 rw [<- hw];have c1:Chg [] w w1:=hw ▸ ((Chg.refl [] w).al _).al _;have zt1:w1.heap[w.heap.size]?=some (.cells #[.int .i64 (T.map m).kind,.int .i64 (T.map m).num,.string (T.map m).txt,.slice A3 (T.map m).keys.length q3,.slice A4 (T.map m).vals.length q4] 25):=hw ▸ heap_al1 w _ _;have zz1:w1.heap[w.heap.size+1]?=some (.cells #[.int .i64 0,.int .i64 0,.string ⟨#[]⟩,.slice none 0 0,.slice none 0 0] 25):=hw ▸ heap_al2 w _ _;clear hw
 have HRX:Hid (∀ W,Chg [] w W->Rd (Ex o [w.heap.size+1]) W (.map m) (.agg #[.int .i64 (T.map m).kind,.int .i64 (T.map m).num,.string (T.map m).txt,.slice A3 (T.map m).keys.length q3,.slice A4 (T.map m).vals.length q4])):=Lib.hid fun W hc=>(h.ex (by simp)).chg hc
 obtain ⟨a0,a1,a2,a3,a4,af⟩:=cells5 zt1;have hsz1:=(Array.getElem?_eq_some_iff.1 zz1).1
 go_wp2_with fail
 refine (get_any (T.map m) _ cServices _ (HRX.out _ c1) (fun m' e=>by cases e; exact hsm.out) (by have:=hml.out; simpa [T.keys] using this)).mono ?_;rintro e w2 ⟨v2,rfl,hc2,hr2⟩;have hs12:=hc2.size
 cases hg:mget cServices m with
 | none=>
  rw [show tget cServices (T.map m)=none from hg] at hr2 ⊢;rw [show (Option.none (α:=T)).isSome=false from rfl];have HE:Hid (canonS m=m/\SaidM m):=Lib.hid ⟨by unfold canonS; rw [hg],fun l hl=>by rw [hg] at hl; cases hl⟩;obtain ⟨E5,r5,E6,r6,rfl,_⟩:=hr2.five
  obtain ⟨w3,hw⟩ : ∃ W:World,W=w2.alloc (.cells #[.int .i64 T.null.kind,.int .i64 T.null.num,.string T.null.txt,.slice E5 T.null.keys.length r5,.slice E6 T.null.vals.length r6] 25):=⟨_,rfl⟩
  have hc13:Chg [] w1 w3:=hw ▸ hc2.al _;have c3:=c1.trans hc13 New.nil;have zt3:=box5 zt1 _ hc13;have zz3:=box5 zz1 _ hc13;have hrx:=HRX.out _ c3;clear hr2 hc2 a0 a1 a2 a3 a4 af hg h
  go_upto_region 2 with fail
  rw [<- hw];clear hw;obtain ⟨a0,a1,a2,a3,a4,af⟩:=cells5 zt3;obtain ⟨z0,z1,z2,z3,z4,zf⟩:=cells5 zz3;obtain ⟨W,hW,QW,hcW,hrW⟩:=ret5 zz3 c3 (by omega) hrx (by simp);have HRW:=Lib.hid hrW;clear hrx hrW
  go_wp2_with fail
  rw [<- hW];clear hW;obtain ⟨f0,f1,f2,f3,f4,_⟩:=cells5 QW
  go_wp2
  refine bodyPost_ret (v:=(.tuple #[(.agg #[.int .i64 (T.map m).kind,.int .i64 (T.map m).num,.string (T.map m).txt,.slice A3 (T.map m).keys.length q3,.slice A4 (T.map m).vals.length q4]),.bool true])) (by simp [results,Tryz.results30,go_sem,f0,f1,f2,f3,f4]) rfl ⟨_,_,rfl,hcW,by rw [HE.out.1]; exact HRW.out,fun _=>HE.out.2⟩
 | some xs=>
  rw [show tget cServices (T.map m)=some xs from hg] at hr2 ⊢;rw [show (some xs).isSome=true from rfl];rw [show (some xs).getD .null=xs from rfl] at hr2;obtain ⟨l,rfl,hsv⟩:=svcs_is (HOK.out _ (get_some hg));have hfl:Fine (.map l):=hf.get (t:=.map m) (k:=cServices) hg;have hsl:Hid (T.size (.map l)<=8388608):=Lib.hid (by have h1:=sizeM_get hg; have h2:=HS.out; simp only [T.size] at h1 h2 ⊢; omega)
  have hll:l.length<=67108864:=by have:=hfl.len.1; simpa [T.vals] using this
  have HD:Hid (Srt l/\(∀ p∈l,SvcSaid p.2)):=Lib.hid ⟨hfl.wf.1,hsv⟩;have HG:=Lib.hid hg;obtain ⟨E5,r5,E6,r6,rfl,_⟩:=hr2.five
  obtain ⟨w3,hw⟩ : ∃ W:World,W=w2.alloc (.cells #[.int .i64 (T.map l).kind,.int .i64 (T.map l).num,.string (T.map l).txt,.slice E5 (T.map l).keys.length r5,.slice E6 (T.map l).vals.length r6] 25):=⟨_,rfl⟩
  have hc13:Chg [] w1 w3:=hw ▸ hc2.al _;have c3:=c1.trans hc13 New.nil;have zt3:=box5 zt1 _ hc13;have zz3:=box5 zz1 _ hc13
  have hB3:Bx o [w.heap.size+1,w2.heap.size] w2.heap.size (.map (mapTo fS l 0)) w3:=by
   rw [mapTo_zero];refine ⟨E5,r5,E6,r6,hw ▸ heap_alloc_new _ _,?_⟩
   have h2:=hr2.to (o':=Ex o [w.heap.size+1,w2.heap.size]) (w':=w2) fun b hb ho=>⟨⟨ho.1,by have:=ho.2; simp at this ⊢; omega⟩,rfl⟩
   exact hw ▸ h2.chg ((Chg.refl [] w2).al _)
  clear hr2 hc2 a0 a1 a2 a3 a4 af hg hsv
  go_upto_region 2 with fail
  rw [<- hw];clear hw
  go_wp2_with fail
  go_loopg [6,7] l.length (fun g sd i wr=>∃ (n:Nat) (bs:Bool),n<=l.length/\g=l.length - n/\sd=.bool bs/\i=.int .i64 n/\Chg [] w wr/\wr.heap[w.heap.size]?=some (.cells #[.int .i64 (T.map m).kind,.int .i64 (T.map m).num,.string (T.map m).txt,.slice A3 (T.map m).keys.length q3,.slice A4 (T.map m).vals.length q4] 25)/\wr.heap[w.heap.size+1]?=some (.cells #[.int .i64 0,.int .i64 0,.string ⟨#[]⟩,.slice none 0 0,.slice none 0 0] 25)/\Bx o [w.heap.size+1,w2.heap.size] w2.heap.size (.map (mapTo fS l n)) wr/\Hid (bs=true->SaidL l n))
  case atStart=>exact ⟨0,true,Nat.zero_le _,by omega,rfl,rfl,c3,zt3,zz3,hB3,Lib.hid fun _ j k x hj=>absurd hj (Nat.not_lt_zero _)⟩
  case round=>
   clear zt3 zz3 hB3 zt1 zz1;obtain ⟨n,bs,hn,rfl,rfl,rfl,hcr,zt,zz,hB,hsd⟩:=hrel;have hszr:w2.heap.size < wr.heap.size:=hB.lt;obtain ⟨E5,r5,E6,r6,hbx,hrx⟩:=hB.box;obtain ⟨hkl1,hkl2⟩:=@mapTo_lens fS l n
   by_cases hlt:n < l.length
   ·have hltb:decide ((n:Int) < ((T.map (mapTo fS l n)).keys.length:Int))=true:=decide_eq_true (by omega)
    have hlv:n < (T.map (mapTo fS l n)).vals.length:=by omega
    have hlk:n < (T.map (mapTo fS l n)).keys.length:=by omega
    clear hkl1 hkl2
    obtain ⟨⟨k,x⟩,hq⟩ : ∃ q,l[n]?=some q:=⟨_,List.getElem?_eq_getElem hlt⟩
    obtain ⟨hqv,hqk⟩:=mapTo_val (f:=fS) hq;obtain ⟨E7,r7,E8,r8,e,hk,hv⟩:=hrx.five
    cases e
    obtain ⟨gk,ck,ek,hgk,yk⟩:=hk.elem hqk;obtain ⟨ge,ce,A5,q5,A6,q6,ee,hge,rx,ye⟩:=hv.elem hqv
    cases ek
    cases ee
    have hqm:=List.mem_of_getElem? hq;have hfx:Fine x:=hfl.vals (vals_mem hqm)
    have hsx:T.size x<=8388608:=by
     obtain ⟨j,hj⟩:=List.getElem?_of_mem (vals_mem hqm);have h1:T.size x<=_:=T.sizeL_at hj;have h2:=T.size_vals (.map l);have h3:=hsl.out
     omega
    obtain ⟨y,hy⟩ : ∃ y,y=canonSvc x:=⟨_,rfl⟩
    have HY:=Lib.hid hy;have HQ:=Lib.hid hq;have YK:=Lib.hid yk;have HRX2:=Lib.hid rx;have HBX:=Lib.hid (And.intro hbx hrx);obtain ⟨y0,y1,y2,y3,y4⟩:=ye _ (Chg.refl [] wr);obtain ⟨d0,d1,d2,d3,d4,df⟩:=cells5 hbx;have HSX:=Lib.hid (And.intro hfx (And.intro hsx (show SvcSaid x from HD.out.2 _ hqm)));clear hq hqv hqk yk ye rx hbx hrx hk hv hqm hy hfx hsx
    go_wp2_with fail
    refine (canonService_t (o:=Ex o [w.heap.size+1,w2.heap.size]) x _ wr HRX2.out HSX.out.1 HSX.out.2.1 HSX.out.2.2 (Ex.no hno hcr.size (by simp; omega))).mono ?_;rintro e w4 ⟨v4,q,rfl,hc4,hr4,hq4⟩;rw [<- HY.out] at hr4;have HQ4:=Lib.hid hq4;obtain ⟨F5,f5,F6,f6,rfl,hjunk⟩:=hr4.five;clear hjunk
    obtain ⟨w5,hw⟩ : ∃ W:World,W=w4.alloc (.cells #[.int .i64 y.kind,.int .i64 y.num,.string y.txt,.slice F5 y.keys.length f5,.slice F6 y.vals.length f6] 25):=⟨_,rfl⟩
    have hc5:Chg [] wr w5:=hw ▸ hc4.al _;have c5:=hcr.trans hc5 New.nil;have zt5:=box5 zt _ hc5;have zz5:=box5 zz _ hc5;have hB5:=hB.go hc5;have hs5:=hc5.size;have hs4:=hc4.size;have HBY:Hid (w5.heap[w4.heap.size]?=some (.cells #[.int .i64 y.kind,.int .i64 y.num,.string y.txt,.slice F5 y.keys.length f5,.slice F6 y.vals.length f6] 25)/\Rd (Ex o [w.heap.size+1,w2.heap.size]) w5 y (.agg #[.int .i64 y.kind,.int .i64 y.num,.string y.txt,.slice F5 y.keys.length f5,.slice F6 y.vals.length f6])):=Lib.hid ⟨hw ▸ heap_alloc_new _ _,hw ▸ hr4.chg ((Chg.refl [] w4).al _)⟩;have HBX5:=Lib.hid (And.intro (box5 HBX.out.1 _ hc5) (HBX.out.2.chg hc5));have hyk5:=Lib.hid (fun W (hc:Chg [] w5 W)=>YK.out W (hc5.trans hc New.nil));clear hr4 hc4 hq4 y0 y1 y2 y3 y4 d0 d1 d2 d3 d4 df HBX HRX2 YK
    go_upto_region 9 with fail
    rw [<- hw];clear hw;have HBX:=HBX5
    cases bs
    ·go_wp2_with fail
     rename_i K hK;have HK:=Lib.hid hK;clear hK
     refine wp_region_sa (by rfl) (by kernel_rfl) [4,6,7,8,9] [0,1,2,3,4,5,6,7,8,9,10,11] 12 (fun j=>[8,9,10,11].contains j) (fun j=>[10].contains j) [] [(9,true)] (by kernel_rfl)
      (fun jo u V=>match jo with
       | 0=>u=.agg #[.int .i64 (T.map (mapTo fS l n)).kind,.int .i64 (T.map (mapTo fS l n)).num,.string (T.map (mapTo fS l n)).txt,.slice (some ⟨gk,0,none⟩) (T.map (mapTo fS l n)).keys.length r5,.slice (some ⟨ge,0,none⟩) (T.map (mapTo fS l n)).vals.length r6]
       | 1=>u=.pointer (some ⟨w2.heap.size,3,none⟩)
       | 2=>u=.slice (some ⟨gk,0,none⟩) (T.map (mapTo fS l n)).keys.length r5
       | 3=>u=.int .i64 n
       | 4=>u=.pointer (some ⟨gk,n,none⟩)
       | 5=>u=.string k
       | 6=>u=.agg #[.int .i64 y.kind,.int .i64 y.num,.string y.txt,.slice F5 y.keys.length f5,.slice F6 y.vals.length f6]
       | 7=>Rd (Ex o [w.heap.size+1,w2.heap.size]) V (.map (mapTo fS l (n+1))) u
       | 8=>u=.bool false
       | 9=>u=.bool false
       | 11=>u=.bool false
       | _=>True)
      (fun V=>Bx o [w.heap.size+1,w2.heap.size] (w2.heap.size) (.map (mapTo fS l (n+1))) V/\Chg [] w V/\(∀ b,b < w5.heap.size->b≠w2.heap.size->V.heap[b]?=w5.heap[b]?)/\w5.heap.size<=V.heap.size) ?_ ?_ ?_ ?_ ?_ ?_ ?_ ?_
     ·intro q hq
      cases hq
     ·intro q hq v w' h
      rw [List.mem_singleton] at hq;subst hq;exact h
     ·intro i v w' h
      simp only [List.contains_eq_mem,List.mem_cons,List.not_mem_nil,or_false,decide_eq_true_eq] at h;subst h
      all_goals trivial
     ·intro j u V V' hc hφ
      rcases j with _ | _ | _ | _ | _ | _ | _ | _ | _ | _ | _ | _ | _ | _ | j
      ·exact hφ
      ·exact hφ
      ·exact hφ
      ·exact hφ
      ·exact hφ
      ·exact hφ
      ·exact hφ
      ·exact Rd.chg hφ hc
      ·exact hφ
      ·exact hφ
      ·trivial
      ·exact hφ
      ·trivial
      ·trivial
      ·trivial
     ·intro j oo hjB hsk ho a' w' hst hch hdep K2 hK2
      have hcB:Chg [] w5 w':=(Chg.refl [] w5).dr.trans hch New.nil;have hcw':Chg [] w w':=c5.trans hcB New.nil;obtain ⟨d0,d1,d2,d3,d4,df⟩:=cells5 (box5 HBX.out.1 _ hcB);have hrc:=HBX.out.2.chg hcB;have hyk:=hyk5.out _ hcB;obtain ⟨x0,x1,x2,x3,x4,xf⟩:=cells5 (box5 HBY.out.1 _ hcB);have hrY:=HBY.out.2.chg hcB;simp only [List.mem_cons,List.not_mem_nil,or_false] at hjB;rcases hjB with rfl | rfl | rfl | rfl | rfl | rfl | rfl | rfl | rfl | rfl | rfl | rfl
      ·obtain rfl:_=oo:=Option.some.inj ho
       have h4:=g_eq (t:=4) (v:=.pointer (some ⟨w2.heap.size,0,none⟩)) (hst 4 (by simp));unfold Oper.wp;go_simp;exact ⟨_,rfl,hK2 _ _ (Chg.refl _ _) rfl⟩
      ·obtain rfl:_=oo:=Option.some.inj ho
       have h4:=g_eq (t:=4) (v:=.pointer (some ⟨w2.heap.size,0,none⟩)) (hst 4 (by simp));unfold Oper.wp;go_simp;exact ⟨_,rfl,hK2 _ _ (Chg.refl _ _) rfl⟩
      ·obtain rfl:_=oo:=Option.some.inj ho
       have h35:=g_eq (t:=35) (v:=.pointer (some ⟨w2.heap.size,3,none⟩)) (hdep 1 (by kernel_rfl));unfold Oper.wp;go_simp;exact ⟨_,rfl,hK2 _ _ (Chg.refl _ _) rfl⟩
      ·obtain rfl:_=oo:=Option.some.inj ho
       have h7:=g_eq (t:=7) (v:=.int .i64 n) (hst 7 (by simp));unfold Oper.wp;go_simp;exact ⟨_,rfl,hK2 _ _ (Chg.refl _ _) rfl⟩
      ·obtain rfl:_=oo:=Option.some.inj ho
       have h36:=g_eq (t:=36) (v:=.slice (some ⟨gk,0,none⟩) (T.map (mapTo fS l n)).keys.length r5) (hdep 2 (by kernel_rfl));have h37:=g_eq (t:=37) (v:=.int .i64 n) (hdep 3 (by kernel_rfl));unfold Oper.wp;go_simp;exact ⟨_,rfl,hK2 _ _ (Chg.refl _ _) rfl⟩
      ·obtain rfl:_=oo:=Option.some.inj ho
       have h38:=g_eq (t:=38) (v:=.pointer (some ⟨gk,n,none⟩)) (hdep 4 (by kernel_rfl));unfold Oper.wp;go_simp;exact ⟨_,rfl,hK2 _ _ (Chg.refl _ _) rfl⟩
      ·obtain rfl:_=oo:=Option.some.inj ho
       have h8:=g_eq (t:=8) (v:=.pointer (some ⟨w4.heap.size,0,none⟩)) (hst 8 (by simp));unfold Oper.wp;go_simp;exact ⟨_,rfl,hK2 _ _ (Chg.refl _ _) rfl⟩
      ·obtain rfl:_=oo:=Option.some.inj ho
       have h34:=g_eq (t:=34) (v:=.agg #[.int .i64 (T.map (mapTo fS l n)).kind,.int .i64 (T.map (mapTo fS l n)).num,.string (T.map (mapTo fS l n)).txt,.slice (some ⟨gk,0,none⟩) (T.map (mapTo fS l n)).keys.length r5,.slice (some ⟨ge,0,none⟩) (T.map (mapTo fS l n)).vals.length r6]) (hdep 0 (by kernel_rfl));have h39:=g_eq (t:=39) (v:=.string k) (hdep 5 (by kernel_rfl));have h40:=g_eq (t:=40) (v:=.agg #[.int .i64 y.kind,.int .i64 y.num,.string y.txt,.slice F5 y.keys.length f5,.slice F6 y.vals.length f6]) (hdep 6 (by kernel_rfl));unfold Oper.wp;go_simp;refine (with_map (o:=Ex o [w.heap.size+1,w2.heap.size]) (mapTo fS l n) y _ _ k w' hrc (mapTo_srt HD.out.1) hrY (by rw [mapTo_length]; exact hll) (Ex.no hno hcw'.size (by have:=hcB.size; simp; omega))).mono ?_;rintro e w3 ⟨v',rfl,hc3,hr3⟩;rw [HY.out,show canonSvc x=fS k x from rfl,mapTo_step HD.out.1 HQ.out] at hr3;exact ⟨_,rfl,hK2 _ _ hc3 hr3⟩
      ·obtain rfl:_=oo:=Option.some.inj ho
       have h6:=g_eq (t:=6) (v:=.bool false) (hst 6 (by simp));unfold Oper.wp;go_simp;exact ⟨_,rfl,hK2 _ _ (Chg.refl _ _) rfl⟩
      ·obtain rfl:_=oo:=Option.some.inj ho
       have h42:=g_eq (t:=42) (v:=.bool false) (hdep 8 (by kernel_rfl));unfold Oper.wp;go_simp;exact ⟨_,rfl,hK2 _ _ (Chg.refl _ _) rfl⟩
      ·exact absurd hsk (by decide)
      ·obtain rfl:_=oo:=Option.some.inj ho
       have h43:=g_eq (t:=43) (v:=.bool false) (hdep 9 (by kernel_rfl));unfold Oper.wp;go_simp;exact ⟨_,rfl,hK2 _ _ (Chg.refl _ _) rfl⟩
     ·intro j oo hjB hsk hpl hnw ho a' w' hst hψ hdep K2 hK2
      simp only [List.mem_cons,List.not_mem_nil,or_false] at hjB;rcases hjB with rfl | rfl | rfl | rfl | rfl | rfl | rfl | rfl | rfl | rfl | rfl | rfl
      ·exact (no_late (by kernel_rfl) hnw).elim
      ·exact (no_late (by kernel_rfl) hnw).elim
      ·exact (no_late (by kernel_rfl) hnw).elim
      ·exact (no_late (by kernel_rfl) hnw).elim
      ·exact (no_late (by kernel_rfl) hnw).elim
      ·exact (no_late (by kernel_rfl) hnw).elim
      ·exact (no_late (by kernel_rfl) hnw).elim
      ·exact (no_late (by kernel_rfl) hnw).elim
      ·obtain rfl:_=oo:=Option.some.inj ho
       have h6:=g_eq (t:=6) (v:=.bool false) (hst 6 (by simp));unfold Oper.wp;go_simp;exact ⟨_,rfl,hK2 _ rfl⟩
      ·exact (no_late (by kernel_rfl) hnw).elim
      ·exact absurd hsk (by decide)
      ·obtain rfl:_=oo:=Option.some.inj ho
       have h43:=g_eq (t:=43) (v:=.bool false) (hdep 9 (by kernel_rfl));unfold Oper.wp;go_simp;exact ⟨_,rfl,hK2 _ rfl⟩
     ·intro oo ho a' w' hst hch hdep K2 hK2
      obtain rfl:_=oo:=Option.some.inj ho;have huS:Rd (Ex o [w.heap.size+1,w2.heap.size]) w' (.map (mapTo fS l (n+1))) (Act.g a' 41):=hdep 7 (by kernel_rfl);generalize hgS:Act.g a' 41=vS at huS;obtain ⟨e5,n5,e6,n6,rfl,_⟩:=huS.five;have hS:=g_eq (t:=41) hgS;have h4:=g_eq (t:=4) (v:=.pointer (some ⟨w2.heap.size,0,none⟩)) (hst 4 (by simp));have hcB:Chg [] w5 w':=(Chg.refl [] w5).dr.trans hch New.nil;have hcw':Chg [] w w':=c5.trans hcB New.nil;obtain ⟨W,hW,hBW,hcW,hne,hszW,hoth⟩:=(hB5.go hcB).put (by simp) hcw' (by omega) huS;obtain ⟨b0,b1,b2,b3,b4,bf⟩:=cells5 (box5 HBX.out.1 _ hcB);have HW:=Lib.hid (And.intro hBW (And.intro hcW (And.intro (show ∀ b,b < w5.heap.size->b≠w2.heap.size->W.heap[b]?=w5.heap[b]? from fun b hb hbn=>(hne b hbn).trans (hcB.block b hb (by simp))) (show w5.heap.size<=W.heap.size by rw [hszW]; exact hcB.size))));clear huS hBW hcW hne hszW hoth;unfold Oper.wp;go_simp;rw [<- hW]
      refine hK2 W HW.out fun j u hk hφ=>?_
      rcases j with _ | _ | _ | _ | _ | _ | _ | _ | _ | _ | _ | _ | _ | _ | j
      ·exact absurd hk (by decide)
      ·exact absurd hk (by decide)
      ·exact absurd hk (by decide)
      ·exact absurd hk (by decide)
      ·exact absurd hk (by decide)
      ·exact absurd hk (by decide)
      ·exact absurd hk (by decide)
      ·exact absurd hk (by decide)
      ·exact hφ
      ·exact hφ
      ·exact hφ
      ·exact hφ
      ·exact absurd hk (by decide)
      ·exact absurd hk (by decide)
      ·exact absurd hk (by simp)
     ·intro oo ho u w' hψ hnp hφ A2 hA2
      obtain rfl:_=oo:=Option.some.inj ho;have hu11:u 11=.bool false:=hφ 11 (by simp) (fun _=>by decide);obtain ⟨hBW,hcW,hsame,hszW⟩:=hψ (by decide);clear hψ hnp;simp [putL,dOf,Act.put,hu11] at hA2;subst hA2;clear hφ ho;unfold Oper.wp;go_simp;refine HK.out _ _ ?_;clear HK;have ztW:=(hsame w.heap.size (by omega) (by omega)).trans zt5;have zzW:=(hsame (w.heap.size+1) (by omega) (by omega)).trans zz5;clear hsame
      go_wp2_with fail
      go_roundg (l.length - (n+1))
      case measure=>omega
      case rel=>exact ⟨n+1,_,by omega,rfl,rfl,by go_num,hcW,ztW,zzW,hBW,Lib.hid fun hb=>by cases hb⟩
    ·go_wp2_with fail
     rename_i K hK;have HK:=Lib.hid hK;clear hK
     refine wp_region_sa (by rfl) (by kernel_rfl) [4,6,7,8,9] [0,1,2,3,4,5,6,7,8,9,10,11] 12 (fun j=>[8,9,10,11].contains j) (fun j=>[].contains j) [(9,true)] [] (by kernel_rfl)
      (fun jo u V=>match jo with
       | 0=>u=.agg #[.int .i64 (T.map (mapTo fS l n)).kind,.int .i64 (T.map (mapTo fS l n)).num,.string (T.map (mapTo fS l n)).txt,.slice (some ⟨gk,0,none⟩) (T.map (mapTo fS l n)).keys.length r5,.slice (some ⟨ge,0,none⟩) (T.map (mapTo fS l n)).vals.length r6]
       | 1=>u=.pointer (some ⟨w2.heap.size,3,none⟩)
       | 2=>u=.slice (some ⟨gk,0,none⟩) (T.map (mapTo fS l n)).keys.length r5
       | 3=>u=.int .i64 n
       | 4=>u=.pointer (some ⟨gk,n,none⟩)
       | 5=>u=.string k
       | 6=>u=.agg #[.int .i64 y.kind,.int .i64 y.num,.string y.txt,.slice F5 y.keys.length f5,.slice F6 y.vals.length f6]
       | 7=>Rd (Ex o [w.heap.size+1,w2.heap.size]) V (.map (mapTo fS l (n+1))) u
       | 8=>u=.bool true
       | 9=>u=.bool true
       | 10=>u=.bool q
       | 11=>u=.bool q
       | _=>True)
      (fun V=>Bx o [w.heap.size+1,w2.heap.size] (w2.heap.size) (.map (mapTo fS l (n+1))) V/\Chg [] w V/\(∀ b,b < w5.heap.size->b≠w2.heap.size->V.heap[b]?=w5.heap[b]?)/\w5.heap.size<=V.heap.size) ?_ ?_ ?_ ?_ ?_ ?_ ?_ ?_
     ·intro q hq v w' h
      rw [List.mem_singleton] at hq;subst hq;exact h
     ·intro q hq
      cases hq
     ·intro i v w' h
      exact absurd h (by simp)
     ·intro j u V V' hc hφ
      rcases j with _ | _ | _ | _ | _ | _ | _ | _ | _ | _ | _ | _ | _ | _ | j
      ·exact hφ
      ·exact hφ
      ·exact hφ
      ·exact hφ
      ·exact hφ
      ·exact hφ
      ·exact hφ
      ·exact Rd.chg hφ hc
      ·exact hφ
      ·exact hφ
      ·exact hφ
      ·exact hφ
      ·trivial
      ·trivial
      ·trivial
     ·intro j oo hjB hsk ho a' w' hst hch hdep K2 hK2
      have hcB:Chg [] w5 w':=(Chg.refl [] w5).dr.trans hch New.nil;have hcw':Chg [] w w':=c5.trans hcB New.nil;obtain ⟨d0,d1,d2,d3,d4,df⟩:=cells5 (box5 HBX.out.1 _ hcB);have hrc:=HBX.out.2.chg hcB;have hyk:=hyk5.out _ hcB;obtain ⟨x0,x1,x2,x3,x4,xf⟩:=cells5 (box5 HBY.out.1 _ hcB);have hrY:=HBY.out.2.chg hcB;simp only [List.mem_cons,List.not_mem_nil,or_false] at hjB;rcases hjB with rfl | rfl | rfl | rfl | rfl | rfl | rfl | rfl | rfl | rfl | rfl | rfl
      ·obtain rfl:_=oo:=Option.some.inj ho
       have h4:=g_eq (t:=4) (v:=.pointer (some ⟨w2.heap.size,0,none⟩)) (hst 4 (by simp));unfold Oper.wp;go_simp;exact ⟨_,rfl,hK2 _ _ (Chg.refl _ _) rfl⟩
      ·obtain rfl:_=oo:=Option.some.inj ho
       have h4:=g_eq (t:=4) (v:=.pointer (some ⟨w2.heap.size,0,none⟩)) (hst 4 (by simp));unfold Oper.wp;go_simp;exact ⟨_,rfl,hK2 _ _ (Chg.refl _ _) rfl⟩
      ·obtain rfl:_=oo:=Option.some.inj ho
       have h35:=g_eq (t:=35) (v:=.pointer (some ⟨w2.heap.size,3,none⟩)) (hdep 1 (by kernel_rfl));unfold Oper.wp;go_simp;exact ⟨_,rfl,hK2 _ _ (Chg.refl _ _) rfl⟩
      ·obtain rfl:_=oo:=Option.some.inj ho
       have h7:=g_eq (t:=7) (v:=.int .i64 n) (hst 7 (by simp));unfold Oper.wp;go_simp;exact ⟨_,rfl,hK2 _ _ (Chg.refl _ _) rfl⟩
      ·obtain rfl:_=oo:=Option.some.inj ho
       have h36:=g_eq (t:=36) (v:=.slice (some ⟨gk,0,none⟩) (T.map (mapTo fS l n)).keys.length r5) (hdep 2 (by kernel_rfl));have h37:=g_eq (t:=37) (v:=.int .i64 n) (hdep 3 (by kernel_rfl));unfold Oper.wp;go_simp;exact ⟨_,rfl,hK2 _ _ (Chg.refl _ _) rfl⟩
      ·obtain rfl:_=oo:=Option.some.inj ho
       have h38:=g_eq (t:=38) (v:=.pointer (some ⟨gk,n,none⟩)) (hdep 4 (by kernel_rfl));unfold Oper.wp;go_simp;exact ⟨_,rfl,hK2 _ _ (Chg.refl _ _) rfl⟩
      ·obtain rfl:_=oo:=Option.some.inj ho
       have h8:=g_eq (t:=8) (v:=.pointer (some ⟨w4.heap.size,0,none⟩)) (hst 8 (by simp));unfold Oper.wp;go_simp;exact ⟨_,rfl,hK2 _ _ (Chg.refl _ _) rfl⟩
      ·obtain rfl:_=oo:=Option.some.inj ho
       have h34:=g_eq (t:=34) (v:=.agg #[.int .i64 (T.map (mapTo fS l n)).kind,.int .i64 (T.map (mapTo fS l n)).num,.string (T.map (mapTo fS l n)).txt,.slice (some ⟨gk,0,none⟩) (T.map (mapTo fS l n)).keys.length r5,.slice (some ⟨ge,0,none⟩) (T.map (mapTo fS l n)).vals.length r6]) (hdep 0 (by kernel_rfl));have h39:=g_eq (t:=39) (v:=.string k) (hdep 5 (by kernel_rfl));have h40:=g_eq (t:=40) (v:=.agg #[.int .i64 y.kind,.int .i64 y.num,.string y.txt,.slice F5 y.keys.length f5,.slice F6 y.vals.length f6]) (hdep 6 (by kernel_rfl));unfold Oper.wp;go_simp;refine (with_map (o:=Ex o [w.heap.size+1,w2.heap.size]) (mapTo fS l n) y _ _ k w' hrc (mapTo_srt HD.out.1) hrY (by rw [mapTo_length]; exact hll) (Ex.no hno hcw'.size (by have:=hcB.size; simp; omega))).mono ?_;rintro e w3 ⟨v',rfl,hc3,hr3⟩;rw [HY.out,show canonSvc x=fS k x from rfl,mapTo_step HD.out.1 HQ.out] at hr3;exact ⟨_,rfl,hK2 _ _ hc3 hr3⟩
      ·obtain rfl:_=oo:=Option.some.inj ho
       have h6:=g_eq (t:=6) (v:=.bool true) (hst 6 (by simp));unfold Oper.wp;go_simp;exact ⟨_,rfl,hK2 _ _ (Chg.refl _ _) rfl⟩
      ·obtain rfl:_=oo:=Option.some.inj ho
       have h42:=g_eq (t:=42) (v:=.bool true) (hdep 8 (by kernel_rfl));unfold Oper.wp;go_simp;exact ⟨_,rfl,hK2 _ _ (Chg.refl _ _) rfl⟩
      ·obtain rfl:_=oo:=Option.some.inj ho
       have h9:=g_eq (t:=9) (v:=.bool q) (hst 9 (by simp));unfold Oper.wp;go_simp;exact ⟨_,rfl,hK2 _ _ (Chg.refl _ _) rfl⟩
      ·obtain rfl:_=oo:=Option.some.inj ho
       have h43:=g_eq (t:=43) (v:=.bool true) (hdep 9 (by kernel_rfl));have h44:=g_eq (t:=44) (v:=.bool q) (hdep 10 (by kernel_rfl));unfold Oper.wp;go_simp;exact ⟨_,rfl,hK2 _ _ (Chg.refl _ _) rfl⟩
     ·intro j oo hjB hsk hpl hnw ho a' w' hst hψ hdep K2 hK2
      simp only [List.mem_cons,List.not_mem_nil,or_false] at hjB;rcases hjB with rfl | rfl | rfl | rfl | rfl | rfl | rfl | rfl | rfl | rfl | rfl | rfl
      ·exact (no_late (by kernel_rfl) hnw).elim
      ·exact (no_late (by kernel_rfl) hnw).elim
      ·exact (no_late (by kernel_rfl) hnw).elim
      ·exact (no_late (by kernel_rfl) hnw).elim
      ·exact (no_late (by kernel_rfl) hnw).elim
      ·exact (no_late (by kernel_rfl) hnw).elim
      ·exact (no_late (by kernel_rfl) hnw).elim
      ·exact (no_late (by kernel_rfl) hnw).elim
      ·obtain rfl:_=oo:=Option.some.inj ho
       have h6:=g_eq (t:=6) (v:=.bool true) (hst 6 (by simp));unfold Oper.wp;go_simp;exact ⟨_,rfl,hK2 _ rfl⟩
      ·exact (no_late (by kernel_rfl) hnw).elim
      ·obtain rfl:_=oo:=Option.some.inj ho
       have h9:=g_eq (t:=9) (v:=.bool q) (hst 9 (by simp));unfold Oper.wp;go_simp;exact ⟨_,rfl,hK2 _ rfl⟩
      ·obtain rfl:_=oo:=Option.some.inj ho
       have h43:=g_eq (t:=43) (v:=.bool true) (hdep 9 (by kernel_rfl));have h44:=g_eq (t:=44) (v:=.bool q) (hdep 10 (by kernel_rfl));unfold Oper.wp;go_simp;exact ⟨_,rfl,hK2 _ rfl⟩
     ·intro oo ho a' w' hst hch hdep K2 hK2
      obtain rfl:_=oo:=Option.some.inj ho;have huS:Rd (Ex o [w.heap.size+1,w2.heap.size]) w' (.map (mapTo fS l (n+1))) (Act.g a' 41):=hdep 7 (by kernel_rfl);generalize hgS:Act.g a' 41=vS at huS;obtain ⟨e5,n5,e6,n6,rfl,_⟩:=huS.five;have hS:=g_eq (t:=41) hgS;have h4:=g_eq (t:=4) (v:=.pointer (some ⟨w2.heap.size,0,none⟩)) (hst 4 (by simp));have hcB:Chg [] w5 w':=(Chg.refl [] w5).dr.trans hch New.nil;have hcw':Chg [] w w':=c5.trans hcB New.nil;obtain ⟨W,hW,hBW,hcW,hne,hszW,hoth⟩:=(hB5.go hcB).put (by simp) hcw' (by omega) huS;obtain ⟨b0,b1,b2,b3,b4,bf⟩:=cells5 (box5 HBX.out.1 _ hcB);have HW:=Lib.hid (And.intro hBW (And.intro hcW (And.intro (show ∀ b,b < w5.heap.size->b≠w2.heap.size->W.heap[b]?=w5.heap[b]? from fun b hb hbn=>(hne b hbn).trans (hcB.block b hb (by simp))) (show w5.heap.size<=W.heap.size by rw [hszW]; exact hcB.size))));clear huS hBW hcW hne hszW hoth;unfold Oper.wp;go_simp;rw [<- hW]
      refine hK2 W HW.out fun j u hk hφ=>?_
      rcases j with _ | _ | _ | _ | _ | _ | _ | _ | _ | _ | _ | _ | _ | _ | j
      ·exact absurd hk (by decide)
      ·exact absurd hk (by decide)
      ·exact absurd hk (by decide)
      ·exact absurd hk (by decide)
      ·exact absurd hk (by decide)
      ·exact absurd hk (by decide)
      ·exact absurd hk (by decide)
      ·exact absurd hk (by decide)
      ·exact hφ
      ·exact hφ
      ·exact hφ
      ·exact hφ
      ·exact absurd hk (by decide)
      ·exact absurd hk (by decide)
      ·exact absurd hk (by simp)
     ·intro oo ho u w' hψ hnp hφ A2 hA2
      obtain rfl:_=oo:=Option.some.inj ho;have hu11:u 11=.bool q:=hφ 11 (by simp) (fun _=>by decide);obtain ⟨hBW,hcW,hsame,hszW⟩:=hψ (by decide);clear hψ hnp;simp [putL,dOf,Act.put,hu11] at hA2;subst hA2;clear hφ ho;unfold Oper.wp;go_simp;refine HK.out _ _ ?_;clear HK;have ztW:=(hsame w.heap.size (by omega) (by omega)).trans zt5;have zzW:=(hsame (w.heap.size+1) (by omega) (by omega)).trans zz5;clear hsame
      go_wp2_with fail
      go_roundg (l.length - (n+1))
      case measure=>omega
      case rel=>exact ⟨n+1,_,by omega,rfl,rfl,by go_num,hcW,ztW,zzW,hBW,Lib.hid fun hb=>(hsd.out (by first | rfl | trivial)).step HQ.out (HQ4.out hb)⟩
   ·have hlk:¬ n < (T.map (mapTo fS l n)).keys.length:=by omega
    clear hkl1 hkl2
    have hne:n=l.length:=by omega
    have he:T.map (mapTo fS l n)=.map (l.map fun p=>(p.1,canonSvc p.2)):=by rw [hne,mapTo_all]; rfl
    obtain ⟨U,hU⟩ : ∃ U,U=T.map (l.map fun p=>(p.1,canonSvc p.2)):=⟨_,rfl⟩
    have hlk':¬ n < U.keys.length:=by rw [hU,<- he]; exact hlk
    rw [he,<- hU] at hbx hrx
    have HSD:Hid (bs=true->SaidM m):=Lib.hid fun hb=>(hsd.out hb).all hne HG.out
    have HU:Hid (mins cServices U m=canonS m):=Lib.hid (by rw [hU]; unfold canonS; rw [HG.out]; rfl);clear he hU hne hlk;obtain ⟨d0,d1,d2,d3,d4,df⟩:=cells5 hbx;obtain ⟨a0,a1,a2,a3,a4,af⟩:=cells5 zt;have HR:=Lib.hid (And.intro hrx (((h.ex (L:=[w.heap.size+1,w2.heap.size]) (by simp; omega)).chg hcr)));clear hrx hB
    go_wp2_with fail
    refine (with_map (o:=Ex o [w.heap.size+1,w2.heap.size]) m U _ _ cServices wr HR.out.2 hsm.out HR.out.1 hml.out (Ex.no hno hcr.size (by simp; omega))).mono ?_;rintro e w6 ⟨v6,rfl,hc6,hr6⟩;rw [HU.out] at hr6;obtain ⟨e5,n5,e6,n6,rfl,_⟩:=hr6.five;have c6:=hcr.trans hc6 New.nil;have zz6:=box5 zz _ hc6;obtain ⟨z0,z1,z2,z3,z4,zf⟩:=cells5 zz6;obtain ⟨W,hW,QW,hcW,hrW⟩:=ret5 zz6 c6 (by omega) hr6 (by simp);have HRW:=Lib.hid hrW;clear hr6 hrW
    go_wp2_with fail
    rw [<- hW];clear hW;obtain ⟨f0,f1,f2,f3,f4,_⟩:=cells5 QW
    go_wp2
    refine bodyPost_ret (v:=(.tuple #[(.agg #[.int .i64 (T.map (canonS m)).kind,.int .i64 (T.map (canonS m)).num,.string (T.map (canonS m)).txt,.slice e5 (T.map (canonS m)).keys.length n5,.slice e6 (T.map (canonS m)).vals.length n6]),.bool bs])) (by simp [results,Tryz.results30,go_sem,f0,f1,f2,f3,f4]) rfl ⟨_,_,rfl,hcW,HRW.out,HSD.out⟩
end Go.Proofs.YtpofkokbmifhgaaGreatDoor
