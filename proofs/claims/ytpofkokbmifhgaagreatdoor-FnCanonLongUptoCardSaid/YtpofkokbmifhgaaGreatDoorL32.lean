/- Parts of the walk, made small by wip/tools/pack.py: CSvc. No condition but those in each statement. -/
import Derived.Test.YtpofkokbmifhgaaGreatDoorL31
set_option maxRecDepth 100000
set_option maxHeartbeats 20000000
set_option linter.unusedVariables false
set_option linter.unusedSimpArgs false
namespace Go.Proofs.YtpofkokbmifhgaaGreatDoor
open Go.RowKit
variable {o:Nat->Prop}
theorem al3 (w:World) (o1 o2 o3:Obj):(((w.alloc o1).alloc o2).alloc o3).heap[w.heap.size]?=some o1/\(((w.alloc o1).alloc o2).alloc o3).heap[w.heap.size+1]?=some o2/\(((w.alloc o1).alloc o2).alloc o3).heap[w.heap.size+2]?=some o3:=
 ⟨(heap_alloc_old _ _ _ (by simp; omega)).trans (heap_al1 w o1 o2),(heap_alloc_old _ _ _ (by simp)).trans (heap_al2 w o1 o2),heap_alloc_at _ _ _ (by simp)⟩
def SaidS (m:List (ByteArray × T)) (n:Nat):Prop:=∀ (j:Nat) (k:ByteArray) (x:T),j < n->m[j]?=some (k,x)->k∈uniqA->SaidU k x.vals
theorem SaidS.step {m:List (ByteArray × T)} {n:Nat} {k:ByteArray} {x:T} (h:SaidS m n) (hx:m[n]?=some (k,x)) (hq:k∈uniqA->SaidU k x.vals):SaidS m (n+1):=fun j k' x' hj hx' hu=>by
 rcases Nat.lt_succ_iff_lt_or_eq.1 hj with h' | rfl
 ·exact h j k' x' h' hx' hu
 ·rw [hx] at hx'
  cases hx'
  exact hq hu
theorem SaidS.all {m:List (ByteArray × T)} {n:Nat} (h:SaidS m n) (hn:n=m.length):∀ p∈m,p.1∈uniqA->SaidU p.1 p.2.vals:=fun p hp hu=>by
 obtain ⟨j,hj⟩:=List.getElem?_of_mem hp;exact h j p.1 p.2 (by have:=(List.getElem?_eq_some_iff.1 hj).1; omega) hj hu
theorem canonService_any (m:List (ByteArray × T)) (v:Value) (w:World) (h:Rd o w (.map m) v) (hf:Fine (.map m)) (hs:T.size (.map m)<=8388608) (hok:∀ p∈m,AttrOK p.1 p.2) (hno:∀ b,w.heap.size<=b->o b) :
  Calls Tryz.prog 50 #[v] w fun e w'=>∃ v' b,e=.returned (.tuple #[v',.bool b])/\Chg [] w w'/\Rd o w' (canonSvc (.map m)) v'/\(b=true->∀ p∈m,p.1∈uniqA->SaidU p.1 p.2.vals):=by
 obtain ⟨A3,q3,A4,q4,rfl,hk,hv⟩:=h.five;have hml:Hid (m.length<=67108864):=Lib.hid (by have:=hf.len.1; simpa [T.vals] using this);have hsm:Hid (Srt m):=Lib.hid hf.wf.1
 have hkl:(T.map m).keys.length=m.length:=by simp [T.keys]
 have HKL:=Lib.hid hkl;have HOK:=Lib.hid hok;have HS:=Lib.hid hs;clear hkl hok hs
 go_enter Tryz.func50,Tryz.ntmps50
 go_wp2_with fail
 go_loopg [5,6] m.length (fun g sd i wr=>∃ (n:Nat) (bs:Bool),n<=m.length/\g=m.length - n/\sd=.bool bs/\i=.int .i64 n/\Chg [] w wr/\wr.heap[w.heap.size]?=some (.cells #[.int .i64 (T.map m).kind,.int .i64 (T.map m).num,.string (T.map m).txt,.slice A3 (T.map m).keys.length q3,.slice A4 (T.map m).vals.length q4] 25)/\wr.heap[w.heap.size+1]?=some (.cells #[.int .i64 0,.int .i64 0,.string ⟨#[]⟩,.slice none 0 0,.slice none 0 0] 25)/\Bx o [w.heap.size+1,w.heap.size+2] (w.heap.size+2) (.map (mapTo canonA m n)) wr/\Hid (bs=true->SaidS m n))
 case atStart=>
  obtain ⟨z1,z2,z3⟩:=al3 w (.cells #[.int .i64 (T.map m).kind,.int .i64 (T.map m).num,.string (T.map m).txt,.slice A3 (T.map m).keys.length q3,.slice A4 (T.map m).vals.length q4] 25) (.cells #[.int .i64 0,.int .i64 0,.string ⟨#[]⟩,.slice none 0 0,.slice none 0 0] 25) (.cells #[.int .i64 (T.map m).kind,.int .i64 (T.map m).num,.string (T.map m).txt,.slice A3 (T.map m).keys.length q3,.slice A4 (T.map m).vals.length q4] 25);refine ⟨0,true,Nat.zero_le _,by omega,rfl,rfl,(((Chg.refl [] w).al _).al _).al _,z1,z2,⟨A3,q3,A4,q4,z3,?_⟩,Lib.hid fun _ j k x hj=>absurd hj (Nat.not_lt_zero _)⟩;rw [mapTo_zero];exact (h.ex (by simp)).chg ((((Chg.refl [] w).al _).al _).al _)
 case round=>
  obtain ⟨n,bs,hn,rfl,rfl,rfl,hcr,zt,zz,hB,hsd⟩:=hrel;obtain ⟨a0,a1,a2,a3,a4,af⟩:=cells5 zt;have hszr:w.heap.size+2 < wr.heap.size:=hB.lt
  by_cases hlt:n < m.length
  ·have hlk:n < (T.map m).keys.length:=by rw [HKL.out]; exact hlt
   have hlv:n < (T.map m).vals.length:=by simp [T.vals]; exact hlt
   have hn64:n<=67108864:=by have:=hml.out; omega
   obtain ⟨⟨s,x⟩,hq⟩ : ∃ q,m[n]?=some q:=⟨_,List.getElem?_eq_getElem hlt⟩
   obtain ⟨gk,ck,ek,hgk,yk⟩:=hk.elem (n:=n) (s:=s) (by simp [T.keys,hq]);obtain ⟨ge,ce,A5,q5,A6,q6,ee,hge,rx,ye⟩:=hv.elem (n:=n) (x:=x) (by simp [T.vals,hq])
   cases ek
   cases ee
   have hqm:=List.mem_of_getElem? hq;have hfx:Fine x:=hf.vals (vals_mem hqm)
   have hsx:T.size x<=8388608:=by
    obtain ⟨j,hj⟩:=List.getElem?_of_mem (vals_mem hqm);have h1:T.size x<=_:=T.sizeL_at hj;have h2:=T.size_vals (.map m);have h3:=HS.out
    omega
   have HAX:Hid (AttrOK s x):=Lib.hid (HOK.out _ hqm);have HQ:=Lib.hid hq;have YK:=Lib.hid yk;have YE:=Lib.hid ye;have HLX:=Lib.hid rx.lo
   obtain ⟨y,hy⟩ : ∃ y,y=canonA s x:=⟨_,rfl⟩
   have HY:=Lib.hid hy;have hszw:w.heap.size<=wr.heap.size:=hcr.size;clear hq hqm yk ye rx hy
   go_wp2_with fail
   clear a0 a1 a2 a3 a4 af;rename_i K hK;have HK:=Lib.hid hK;clear hK
   refine wp_region_put3 (by rfl) (by kernel_rfl) [0,1,6] 15 14 (by kernel_rfl) (by kernel_rfl) (.cells #[.int .i64 0,.int .i64 0,.string ⟨#[]⟩,.slice none 0 0,.slice none 0 0] 25)
    (fun jo u b V=>match jo with
     | 0=>u=.pointer (some ⟨w.heap.size,3,none⟩)
     | 1=>u=.slice (some ⟨gk,0,none⟩) (T.map m).keys.length q3
     | 2=>u=.int .i64 n
     | 3=>u=.pointer (some ⟨gk,n,none⟩)
     | 4=>u=.string s
     | 5=>u=.pointer (some ⟨w.heap.size,4,none⟩)
     | 6=>u=.slice (some ⟨ge,0,none⟩) (T.map m).vals.length q4
     | 7=>u=.int .i64 n
     | 8=>u=.pointer (some ⟨ge,n * 5,none⟩)
     | 9=>u=.agg #[.int .i64 x.kind,.int .i64 x.num,.string x.txt,.slice A5 x.keys.length q5,.slice A6 x.vals.length q6]
     | 10=>∃ (z:Value) (q:Bool),u=.tuple #[z,.bool q]/\Rd (Av (Ex o [w.heap.size+1,w.heap.size+2]) b) V y z/\(q=true->s∈uniqA->SaidU s x.vals)
     | 11=>∃ (z:Value) (q:Bool),u=.tuple #[z,.bool q]/\Rd (Av (Ex o [w.heap.size+1,w.heap.size+2]) b) V y z/\(q=true->s∈uniqA->SaidU s x.vals)
     | 12=>Rd (Av (Ex o [w.heap.size+1,w.heap.size+2]) b) V (y) u
     | 13=>∃ q:Bool,u=.bool q/\(q=true->s∈uniqA->SaidU s x.vals)
     | 16=>∃ q:Bool,u=.bool q/\(q=true->s∈uniqA->SaidU s x.vals)
     | _=>True) ?_ ?_
    (fun B V=>∃ E5 e5 E6 e6,V.heap[B]?=some (.cells #[.int .i64 (y).kind,.int .i64 (y).num,.string (y).txt,.slice E5 (y).keys.length e5,.slice E6 (y).vals.length e6] 25)/\Rd (Av (Ex o [w.heap.size+1,w.heap.size+2]) (some B)) V (y) (.agg #[.int .i64 (y).kind,.int .i64 (y).num,.string (y).txt,.slice E5 (y).keys.length e5,.slice E6 (y).vals.length e6])) ?_ (fun j=>[11,13,16].contains j) ?_ ?_ ?_ ?_
   ·intro j u b V V' hc hφ
    rcases j with _ | _ | _ | _ | _ | _ | _ | _ | _ | _ | _ | _ | _ | _ | _ | _ | _ | j
    ·exact hφ
    ·exact hφ
    ·exact hφ
    ·exact hφ
    ·exact hφ
    ·exact hφ
    ·exact hφ
    ·exact hφ
    ·exact hφ
    ·exact hφ
    ·obtain ⟨z,q,e,h,hq⟩:=hφ
     exact ⟨z,q,e,h.chg hc,hq⟩
    ·obtain ⟨z,q,e,h,hq⟩:=hφ
     exact ⟨z,q,e,h.chg hc,hq⟩
    ·exact Rd.chg hφ hc
    ·exact hφ
    ·exact hφ
    ·exact hφ
    ·exact hφ
    ·exact hφ
   ·intro j u V hφ
    rcases j with _ | _ | _ | _ | _ | _ | _ | _ | _ | _ | _ | _ | _ | _ | _ | _ | _ | j
    ·exact hφ
    ·exact hφ
    ·exact hφ
    ·exact hφ
    ·exact hφ
    ·exact hφ
    ·exact hφ
    ·exact hφ
    ·exact hφ
    ·exact hφ
    ·obtain ⟨z,q,e,h,hq⟩:=hφ
     exact ⟨z,q,e,h.av_born,hq⟩
    ·obtain ⟨z,q,e,h,hq⟩:=hφ
     exact ⟨z,q,e,h.av_born,hq⟩
    ·exact Rd.av_born hφ
    ·exact hφ
    ·exact hφ
    ·exact hφ
    ·exact hφ
    ·exact hφ
   ·rintro B V V' hc ⟨E5,e5,E6,e6,h,hr⟩
    exact ⟨E5,e5,E6,e6,box5 h _ hc,hr.chg hc⟩
   ·intro oo ho a' w' hst K2 hK2
    obtain rfl:_=oo:=Option.some.inj ho;unfold Oper.wp;go_simp;exact ⟨_,rfl,hK2⟩
   ·intro j oo hj hip hijb ho a' w' b hb hst hch hdep K2 hK2
    have hcB:Chg [] wr w':=(Chg.refl [] wr).dr.trans hch New.nil;have hcw':Chg [] w w':=hcr.trans hcB New.nil;obtain ⟨a0,a1,a2,a3,a4,af⟩:=cells5 (box5 zt _ hcB);obtain ⟨y0,y1,y2,y3,y4⟩:=YE.out _ hcw';have hyk:=YK.out _ hcw'
    have hrX:Rd (Av (Ex o [w.heap.size+1,w.heap.size+2]) b) w' x (.agg #[.int .i64 x.kind,.int .i64 x.num,.string x.txt,.slice A5 x.keys.length q5,.slice A6 x.vals.length q6]):=(HLX.out.chg hcw').weak fun z hz=>⟨⟨hz.1,by simp; omega⟩,fun B hB=>by have:=(hb B hB).1; omega⟩
    have hnoX:∀ z,w'.heap.size<=z->Av (Ex o [w.heap.size+1,w.heap.size+2]) b z:=fun z hz=>⟨⟨hno z (by have:=hcw'.size; omega),by have:=hcB.size; simp; omega⟩,fun B hB=>by have:=(hb B hB).2; omega⟩
    have hj':j < 17:=hj;rcases j with _ | _ | _ | _ | _ | _ | _ | _ | _ | _ | _ | _ | _ | _ | _ | _ | _ | j
    ·obtain rfl:_=oo:=Option.some.inj ho
     have h1:=g_eq (t:=1) (v:=.pointer (some ⟨w.heap.size,0,none⟩)) (hst 1 (by simp));unfold Oper.wp;go_simp;exact ⟨_,rfl,hK2 _ _ (Chg.refl _ _) rfl⟩
    ·obtain rfl:_=oo:=Option.some.inj ho
     have h18:=g_eq (t:=18) (v:=.pointer (some ⟨w.heap.size,3,none⟩)) (hdep 0 (by decide) (by decide) (by kernel_rfl) (.inl (by kernel_rfl)));unfold Oper.wp;go_simp;exact ⟨_,rfl,hK2 _ _ (Chg.refl _ _) rfl⟩
    ·obtain rfl:_=oo:=Option.some.inj ho
     have h6:=g_eq (t:=6) (v:=.int .i64 n) (hst 6 (by simp));unfold Oper.wp;go_simp;exact ⟨_,rfl,hK2 _ _ (Chg.refl _ _) rfl⟩
    ·obtain rfl:_=oo:=Option.some.inj ho
     have h19:=g_eq (t:=19) (v:=.slice (some ⟨gk,0,none⟩) (T.map m).keys.length q3) (hdep 1 (by decide) (by decide) (by kernel_rfl) (.inl (by kernel_rfl)));have h20:=g_eq (t:=20) (v:=.int .i64 n) (hdep 2 (by decide) (by decide) (by kernel_rfl) (.inl (by kernel_rfl)));unfold Oper.wp;go_simp;exact ⟨_,rfl,hK2 _ _ (Chg.refl _ _) rfl⟩
    ·obtain rfl:_=oo:=Option.some.inj ho
     have h21:=g_eq (t:=21) (v:=.pointer (some ⟨gk,n,none⟩)) (hdep 3 (by decide) (by decide) (by kernel_rfl) (.inl (by kernel_rfl)));unfold Oper.wp;go_simp;exact ⟨_,rfl,hK2 _ _ (Chg.refl _ _) rfl⟩
    ·obtain rfl:_=oo:=Option.some.inj ho
     have h1:=g_eq (t:=1) (v:=.pointer (some ⟨w.heap.size,0,none⟩)) (hst 1 (by simp));unfold Oper.wp;go_simp;exact ⟨_,rfl,hK2 _ _ (Chg.refl _ _) rfl⟩
    ·obtain rfl:_=oo:=Option.some.inj ho
     have h23:=g_eq (t:=23) (v:=.pointer (some ⟨w.heap.size,4,none⟩)) (hdep 5 (by decide) (by decide) (by kernel_rfl) (.inl (by kernel_rfl)));unfold Oper.wp;go_simp;exact ⟨_,rfl,hK2 _ _ (Chg.refl _ _) rfl⟩
    ·obtain rfl:_=oo:=Option.some.inj ho
     have h6:=g_eq (t:=6) (v:=.int .i64 n) (hst 6 (by simp));unfold Oper.wp;go_simp;exact ⟨_,rfl,hK2 _ _ (Chg.refl _ _) rfl⟩
    ·obtain rfl:_=oo:=Option.some.inj ho
     have h24:=g_eq (t:=24) (v:=.slice (some ⟨ge,0,none⟩) (T.map m).vals.length q4) (hdep 6 (by decide) (by decide) (by kernel_rfl) (.inl (by kernel_rfl)));have h25:=g_eq (t:=25) (v:=.int .i64 n) (hdep 7 (by decide) (by decide) (by kernel_rfl) (.inl (by kernel_rfl)));unfold Oper.wp;go_simp;exact ⟨_,rfl,hK2 _ _ (Chg.refl _ _) rfl⟩
    ·obtain rfl:_=oo:=Option.some.inj ho
     have h26:=g_eq (t:=26) (v:=.pointer (some ⟨ge,n * 5,none⟩)) (hdep 8 (by decide) (by decide) (by kernel_rfl) (.inl (by kernel_rfl)));unfold Oper.wp;go_simp;exact ⟨_,rfl,hK2 _ _ (Chg.refl _ _) rfl⟩
    ·obtain rfl:_=oo:=Option.some.inj ho
     have h22:=g_eq (t:=22) (v:=.string s) (hdep 4 (by decide) (by decide) (by kernel_rfl) (.inl (by kernel_rfl)));have h27:=g_eq (t:=27) (v:=.agg #[.int .i64 x.kind,.int .i64 x.num,.string x.txt,.slice A5 x.keys.length q5,.slice A6 x.vals.length q6]) (hdep 9 (by decide) (by decide) (by kernel_rfl) (.inl (by kernel_rfl)));unfold Oper.wp;go_simp;refine (canonAttr_any (o:=Av (Ex o [w.heap.size+1,w.heap.size+2]) b) s x _ w' hrX hfx hsx HAX.out hnoX).mono ?_;rintro e w3 ⟨z,q,rfl,hc3,hr3,hq3⟩;rw [<- HY.out] at hr3;exact ⟨_,rfl,hK2 _ _ hc3 ⟨z,q,rfl,hr3,hq3⟩⟩
    ·obtain rfl:_=oo:=Option.some.inj ho
     have hr28:∃ (z:Value) (q:Bool),(Act.g a' 28)=.tuple #[z,.bool q]/\Rd (Av (Ex o [w.heap.size+1,w.heap.size+2]) b) w' y z/\(q=true->s∈uniqA->SaidU s x.vals):=hdep 10 (by decide) (by decide) (by kernel_rfl) (.inl (by kernel_rfl));generalize hg28:Act.g a' 28=v28 at hr28;have h28:=g_eq (t:=28) hg28;obtain ⟨z,q,e28,hr28,hq28⟩:=hr28;subst e28;unfold Oper.wp;go_simp;exact ⟨_,rfl,hK2 _ _ (Chg.refl _ _) ⟨z,q,rfl,hr28,hq28⟩⟩
    ·obtain rfl:_=oo:=Option.some.inj ho
     have hr17:∃ (z:Value) (q:Bool),(Act.g a' 17)=.tuple #[z,.bool q]/\Rd (Av (Ex o [w.heap.size+1,w.heap.size+2]) b) w' y z/\(q=true->s∈uniqA->SaidU s x.vals):=hdep 11 (by decide) (by decide) (by kernel_rfl) (.inl (by kernel_rfl));generalize hg17:Act.g a' 17=v17 at hr17;have h17:=g_eq (t:=17) hg17;obtain ⟨z,q,e17,hr17,hq17⟩:=hr17;subst e17;unfold Oper.wp;go_simp;exact ⟨_,rfl,hK2 _ _ (Chg.refl _ _) hr17⟩
    ·obtain rfl:_=oo:=Option.some.inj ho
     have hr17:∃ (z:Value) (q:Bool),(Act.g a' 17)=.tuple #[z,.bool q]/\Rd (Av (Ex o [w.heap.size+1,w.heap.size+2]) b) w' y z/\(q=true->s∈uniqA->SaidU s x.vals):=hdep 11 (by decide) (by decide) (by kernel_rfl) (.inr (by decide));generalize hg17:Act.g a' 17=v17 at hr17;have h17:=g_eq (t:=17) hg17;obtain ⟨z,q,e17,hr17,hq17⟩:=hr17;subst e17;unfold Oper.wp;go_simp;exact ⟨_,rfl,hK2 _ _ (Chg.refl _ _) ⟨q,rfl,hq17⟩⟩
    ·exact absurd rfl hijb
    ·exact absurd rfl hip
    ·obtain rfl:_=oo:=Option.some.inj ho
     have hr30:∃ q:Bool,(Act.g a' 30)=.bool q/\(q=true->s∈uniqA->SaidU s x.vals):=hdep 13 (by decide) (by decide) (by kernel_rfl) (.inr (by decide));generalize hg30:Act.g a' 30=v30 at hr30;have h30:=g_eq (t:=30) hg30;obtain ⟨q,e30,hq30⟩:=hr30;subst e30;unfold Oper.wp;go_simp;exact ⟨_,rfl,hK2 _ _ (Chg.refl _ _) ⟨q,rfl,hq30⟩⟩
    ·omega
   ·intro oo ho a' w' B hgB hB hbox hst hch hdep K2 hK2
    obtain rfl:_=oo:=Option.some.inj ho;have hrS:Rd (Av (Ex o [w.heap.size+1,w.heap.size+2]) (some B)) w' (y) (Act.g a' 29):=hdep 12 (by decide) (by kernel_rfl);generalize hgS:Act.g a' 29=vv at hrS;obtain ⟨E5,e5,E6,e6,rfl,_⟩:=hrS.five;have hsv:=g_eq (t:=29) hgS;have hgB':Act.g a' 7=.pointer (some ⟨B,0,none⟩):=hgB;have hsb:=g_eq (t:=7) hgB';obtain ⟨b0,b1,b2,b3,b4,bf⟩:=cells5 hbox;obtain ⟨W,hW,Q,hne,hcW,hszW⟩:=store5 hbox hch (by show wr.heap.size<=B; exact hB) (.int .i64 (y).kind) (.int .i64 (y).num) (.string (y).txt) (.slice E5 (y).keys.length e5) (.slice E6 (y).vals.length e6);unfold Oper.wp;go_simp;rw [<- hW];refine hK2 W hcW (by omega) ⟨E5,e5,E6,e6,Q,hrS.mono fun b hb ho=>hne b (ho.2 B rfl)⟩ ?_
    intro j u hjp hjjb hk hφ
    rcases j with _ | _ | _ | _ | _ | _ | _ | _ | _ | _ | _ | _ | _ | _ | _ | _ | _ | j
    ·exact absurd hk (by decide)
    ·exact absurd hk (by decide)
    ·exact absurd hk (by decide)
    ·exact absurd hk (by decide)
    ·exact absurd hk (by decide)
    ·exact absurd hk (by decide)
    ·exact absurd hk (by decide)
    ·exact absurd hk (by decide)
    ·exact absurd hk (by decide)
    ·exact absurd hk (by decide)
    ·exact absurd hk (by decide)
    ·obtain ⟨z,q,e,h,hq⟩:=hφ
     exact ⟨z,q,e,h.mono fun x hx ho=>hne x (ho.2 B rfl),hq⟩
    ·exact absurd hk (by decide)
    ·exact hφ
    ·exact absurd hk (by decide)
    ·exact absurd hk (by decide)
    ·exact hφ
    ·exact absurd hk (by simp)
   ·intro u w' B hch huB hB1 hB2 hφ hup hψ A2 hA2
    obtain ⟨F5,f5,F6,f6,hBx,hrB⟩:=hψ;have hu11:∃ (z:Value) (q:Bool),(u 11)=.tuple #[z,.bool q]/\Rd (Av (Ex o [w.heap.size+1,w.heap.size+2]) (some B)) w' y z/\(q=true->s∈uniqA->SaidU s x.vals):=hφ 11 (by decide) (by decide) (by decide) (by decide);have hu13:∃ q:Bool,(u 13)=.bool q/\(q=true->s∈uniqA->SaidU s x.vals):=hφ 13 (by decide) (by decide) (by decide) (by decide);have hu16:∃ q:Bool,(u 16)=.bool q/\(q=true->s∈uniqA->SaidU s x.vals):=hφ 16 (by decide) (by decide) (by decide) (by decide);have hcB:Chg [] wr w':=(Chg.refl [] wr).dr.trans hch New.nil;obtain ⟨q,hu16,hq16⟩:=hu16;simp [putAll,dOf,Act.put,huB,hup,hu16,Act.g] at hA2;subst hA2;have hQ:=Lib.hid hq16;have hB5:=hB.go hcB;have zt5:=box5 zt _ hcB;have zz5:=box5 zz _ hcB;have c5:=hcr.trans hcB New.nil;have hrB':Rd (Ex o [w.heap.size+1,w.heap.size+2]) w' y (.agg #[.int .i64 y.kind,.int .i64 y.num,.string y.txt,.slice F5 y.keys.length f5,.slice F6 y.vals.length f6]):=hrB.av_none
    obtain ⟨w5,rfl⟩ : ∃ w5,w5=w':=⟨_,rfl⟩
    have hs5:=hcB.size;have HBY:=Lib.hid (And.intro hBx hrB');obtain ⟨E5,r5,E6,r6,hbx,hrx⟩:=hB5.box;have HBX:=Lib.hid (And.intro hbx hrx)
    have hBne:B≠w.heap.size+2:=by omega
    clear hφ huB hup hrB hBx hch hrB' hbx hrx hB1 hB2 zt zz hB;refine HK.out _ _ ?_;clear HK
    cases bs
    ·go_wp2_with fail
     rename_i K hK;have HK:=Lib.hid hK;clear hK
     refine wp_region_sa (by rfl) (by kernel_rfl) [1,4,5,6,7,8] [0,1,2,3,4,5,6,7,8,9,10,11] 12 (fun j=>[8,9,10,11].contains j) (fun j=>[10].contains j) [] [(9,true)] (by kernel_rfl)
      (fun jo u V=>match jo with
       | 0=>u=.agg #[.int .i64 (T.map (mapTo canonA m n)).kind,.int .i64 (T.map (mapTo canonA m n)).num,.string (T.map (mapTo canonA m n)).txt,.slice E5 (T.map (mapTo canonA m n)).keys.length r5,.slice E6 (T.map (mapTo canonA m n)).vals.length r6]
       | 1=>u=.pointer (some ⟨w.heap.size,3,none⟩)
       | 2=>u=.slice (some ⟨gk,0,none⟩) (T.map m).keys.length q3
       | 3=>u=.int .i64 n
       | 4=>u=.pointer (some ⟨gk,n,none⟩)
       | 5=>u=.string s
       | 6=>u=.agg #[.int .i64 y.kind,.int .i64 y.num,.string y.txt,.slice F5 y.keys.length f5,.slice F6 y.vals.length f6]
       | 7=>Rd (Ex o [w.heap.size+1,w.heap.size+2]) V (.map (mapTo canonA m (n+1))) u
       | 8=>u=.bool false
       | 9=>u=.bool false
       | 11=>u=.bool false
       | _=>True)
      (fun V=>Bx o [w.heap.size+1,w.heap.size+2] (w.heap.size+2) (.map (mapTo canonA m (n+1))) V/\Chg [] w V/\(∀ b,b < w5.heap.size->b≠w.heap.size+2->V.heap[b]?=w5.heap[b]?)/\w5.heap.size<=V.heap.size) ?_ ?_ ?_ ?_ ?_ ?_ ?_ ?_
     ·intro q hq
      cases hq
     ·intro q hq v w' h
      rw [List.mem_singleton] at hq;subst hq;exact h
     ·intro i v w' h
      simp only [List.contains_eq_mem,List.mem_cons,List.not_mem_nil,or_false,decide_eq_true_eq] at h;subst h
      all_goals trivial
     ·intro j u V V' hc hφ
      rcases j with _ | _ | _ | _ | _ | _ | _ | _ | _ | _ | _ | _ | _ | _ | j
      ·exact hφ
      ·exact hφ
      ·exact hφ
      ·exact hφ
      ·exact hφ
      ·exact hφ
      ·exact hφ
      ·exact Rd.chg hφ hc
      ·exact hφ
      ·exact hφ
      ·trivial
      ·exact hφ
      ·trivial
      ·trivial
      ·trivial
     ·intro j oo hjB hsk ho a' w' hst hch hdep K2 hK2
      have hcB:Chg [] w5 w':=(Chg.refl [] w5).dr.trans hch New.nil;have hcw':Chg [] w w':=c5.trans hcB New.nil;obtain ⟨d0,d1,d2,d3,d4,df⟩:=cells5 (box5 HBX.out.1 _ hcB);have hrc:=HBX.out.2.chg hcB;obtain ⟨a0,a1,a2,a3,a4,af⟩:=cells5 (box5 zt5 _ hcB);have hyk:=YK.out _ hcw';obtain ⟨x0,x1,x2,x3,x4,xf⟩:=cells5 (box5 HBY.out.1 _ hcB);have hrY:=HBY.out.2.chg hcB;simp only [List.mem_cons,List.not_mem_nil,or_false] at hjB;rcases hjB with rfl | rfl | rfl | rfl | rfl | rfl | rfl | rfl | rfl | rfl | rfl | rfl
      ·obtain rfl:_=oo:=Option.some.inj ho
       have h4:=g_eq (t:=4) (v:=.pointer (some ⟨w.heap.size+2,0,none⟩)) (hst 4 (by simp));unfold Oper.wp;go_simp;exact ⟨_,rfl,hK2 _ _ (Chg.refl _ _) rfl⟩
      ·obtain rfl:_=oo:=Option.some.inj ho
       have h1:=g_eq (t:=1) (v:=.pointer (some ⟨w.heap.size,0,none⟩)) (hst 1 (by simp));unfold Oper.wp;go_simp;exact ⟨_,rfl,hK2 _ _ (Chg.refl _ _) rfl⟩
      ·obtain rfl:_=oo:=Option.some.inj ho
       have h32:=g_eq (t:=32) (v:=.pointer (some ⟨w.heap.size,3,none⟩)) (hdep 1 (by kernel_rfl));unfold Oper.wp;go_simp;exact ⟨_,rfl,hK2 _ _ (Chg.refl _ _) rfl⟩
      ·obtain rfl:_=oo:=Option.some.inj ho
       have h6:=g_eq (t:=6) (v:=.int .i64 n) (hst 6 (by simp));unfold Oper.wp;go_simp;exact ⟨_,rfl,hK2 _ _ (Chg.refl _ _) rfl⟩
      ·obtain rfl:_=oo:=Option.some.inj ho
       have h33:=g_eq (t:=33) (v:=.slice (some ⟨gk,0,none⟩) (T.map m).keys.length q3) (hdep 2 (by kernel_rfl));have h34:=g_eq (t:=34) (v:=.int .i64 n) (hdep 3 (by kernel_rfl));unfold Oper.wp;go_simp;exact ⟨_,rfl,hK2 _ _ (Chg.refl _ _) rfl⟩
      ·obtain rfl:_=oo:=Option.some.inj ho
       have h35:=g_eq (t:=35) (v:=.pointer (some ⟨gk,n,none⟩)) (hdep 4 (by kernel_rfl));unfold Oper.wp;go_simp;exact ⟨_,rfl,hK2 _ _ (Chg.refl _ _) rfl⟩
      ·obtain rfl:_=oo:=Option.some.inj ho
       have h7:=g_eq (t:=7) (v:=.pointer (some ⟨B,0,none⟩)) (hst 7 (by simp));unfold Oper.wp;go_simp;exact ⟨_,rfl,hK2 _ _ (Chg.refl _ _) rfl⟩
      ·obtain rfl:_=oo:=Option.some.inj ho
       have h31:=g_eq (t:=31) (v:=.agg #[.int .i64 (T.map (mapTo canonA m n)).kind,.int .i64 (T.map (mapTo canonA m n)).num,.string (T.map (mapTo canonA m n)).txt,.slice E5 (T.map (mapTo canonA m n)).keys.length r5,.slice E6 (T.map (mapTo canonA m n)).vals.length r6]) (hdep 0 (by kernel_rfl));have h36:=g_eq (t:=36) (v:=.string s) (hdep 5 (by kernel_rfl));have h37:=g_eq (t:=37) (v:=.agg #[.int .i64 y.kind,.int .i64 y.num,.string y.txt,.slice F5 y.keys.length f5,.slice F6 y.vals.length f6]) (hdep 6 (by kernel_rfl));unfold Oper.wp;go_simp;refine (with_map (o:=Ex o [w.heap.size+1,w.heap.size+2]) (mapTo canonA m n) y _ _ s w' hrc (mapTo_srt hsm.out) hrY (by rw [mapTo_length]; exact hml.out) (Ex.no hno hcw'.size (by have:=hcB.size; simp; omega))).mono ?_;rintro e w3 ⟨v',rfl,hc3,hr3⟩;rw [HY.out,mapTo_step hsm.out HQ.out] at hr3;exact ⟨_,rfl,hK2 _ _ hc3 hr3⟩
      ·obtain rfl:_=oo:=Option.some.inj ho
       have h5:=g_eq (t:=5) (v:=.bool false) (hst 5 (by simp));unfold Oper.wp;go_simp;exact ⟨_,rfl,hK2 _ _ (Chg.refl _ _) rfl⟩
      ·obtain rfl:_=oo:=Option.some.inj ho
       have h39:=g_eq (t:=39) (v:=.bool false) (hdep 8 (by kernel_rfl));unfold Oper.wp;go_simp;exact ⟨_,rfl,hK2 _ _ (Chg.refl _ _) rfl⟩
      ·exact absurd hsk (by decide)
      ·obtain rfl:_=oo:=Option.some.inj ho
       have h40:=g_eq (t:=40) (v:=.bool false) (hdep 9 (by kernel_rfl));unfold Oper.wp;go_simp;exact ⟨_,rfl,hK2 _ _ (Chg.refl _ _) rfl⟩
     ·intro j oo hjB hsk hpl hnw ho a' w' hst hψ hdep K2 hK2
      simp only [List.mem_cons,List.not_mem_nil,or_false] at hjB;rcases hjB with rfl | rfl | rfl | rfl | rfl | rfl | rfl | rfl | rfl | rfl | rfl | rfl
      ·exact (no_late (by kernel_rfl) hnw).elim
      ·exact (no_late (by kernel_rfl) hnw).elim
      ·exact (no_late (by kernel_rfl) hnw).elim
      ·exact (no_late (by kernel_rfl) hnw).elim
      ·exact (no_late (by kernel_rfl) hnw).elim
      ·exact (no_late (by kernel_rfl) hnw).elim
      ·exact (no_late (by kernel_rfl) hnw).elim
      ·exact (no_late (by kernel_rfl) hnw).elim
      ·obtain rfl:_=oo:=Option.some.inj ho
       have h5:=g_eq (t:=5) (v:=.bool false) (hst 5 (by simp));unfold Oper.wp;go_simp;exact ⟨_,rfl,hK2 _ rfl⟩
      ·exact (no_late (by kernel_rfl) hnw).elim
      ·exact absurd hsk (by decide)
      ·obtain rfl:_=oo:=Option.some.inj ho
       have h40:=g_eq (t:=40) (v:=.bool false) (hdep 9 (by kernel_rfl));unfold Oper.wp;go_simp;exact ⟨_,rfl,hK2 _ rfl⟩
     ·intro oo ho a' w' hst hch hdep K2 hK2
      obtain rfl:_=oo:=Option.some.inj ho;have huS:Rd (Ex o [w.heap.size+1,w.heap.size+2]) w' (.map (mapTo canonA m (n+1))) (Act.g a' 38):=hdep 7 (by kernel_rfl);generalize hgS:Act.g a' 38=vS at huS;obtain ⟨e5,n5,e6,n6,rfl,_⟩:=huS.five;have hS:=g_eq (t:=38) hgS;have h4:=g_eq (t:=4) (v:=.pointer (some ⟨w.heap.size+2,0,none⟩)) (hst 4 (by simp));have hcB:Chg [] w5 w':=(Chg.refl [] w5).dr.trans hch New.nil;have hcw':Chg [] w w':=c5.trans hcB New.nil;obtain ⟨W,hW,hBW,hcW,hne,hszW,hoth⟩:=(hB5.go hcB).put (by simp) hcw' (by omega) huS;obtain ⟨b0,b1,b2,b3,b4,bf⟩:=cells5 (box5 HBX.out.1 _ hcB);have HW:=Lib.hid (And.intro hBW (And.intro hcW (And.intro (show ∀ b,b < w5.heap.size->b≠w.heap.size+2->W.heap[b]?=w5.heap[b]? from fun b hb hbn=>(hne b hbn).trans (hcB.block b hb (by simp))) (show w5.heap.size<=W.heap.size by rw [hszW]; exact hcB.size))));clear huS hBW hcW hne hszW hoth;unfold Oper.wp;go_simp;rw [<- hW]
      refine hK2 W HW.out fun j u hk hφ=>?_
      rcases j with _ | _ | _ | _ | _ | _ | _ | _ | _ | _ | _ | _ | _ | _ | j
      ·exact absurd hk (by decide)
      ·exact absurd hk (by decide)
      ·exact absurd hk (by decide)
      ·exact absurd hk (by decide)
      ·exact absurd hk (by decide)
      ·exact absurd hk (by decide)
      ·exact absurd hk (by decide)
      ·exact absurd hk (by decide)
      ·exact hφ
      ·exact hφ
      ·exact hφ
      ·exact hφ
      ·exact absurd hk (by decide)
      ·exact absurd hk (by decide)
      ·exact absurd hk (by simp)
     ·intro oo ho u w' hψ hnp hφ A2 hA2
      obtain rfl:_=oo:=Option.some.inj ho;have hu11:u 11=.bool false:=hφ 11 (by simp) (fun _=>by decide);obtain ⟨hBW,hcW,hsame,hszW⟩:=hψ (by decide);clear hψ hnp;simp [putL,dOf,Act.put,hu11] at hA2;subst hA2;clear hφ ho;unfold Oper.wp;go_simp;refine HK.out _ _ ?_;clear HK;have ztW:=(hsame w.heap.size (by omega) (by omega)).trans zt5;have zzW:=(hsame (w.heap.size+1) (by omega) (by omega)).trans zz5;clear hsame
      go_wp2_with fail
      go_roundg (m.length - (n+1))
      case measure=>omega
      case rel=>exact ⟨n+1,_,by omega,rfl,rfl,by go_num,hcW,ztW,zzW,hBW,Lib.hid fun hb=>by cases hb⟩
    ·go_wp2_with fail
     rename_i K hK;have HK:=Lib.hid hK;clear hK
     refine wp_region_sa (by rfl) (by kernel_rfl) [1,4,5,6,7,8] [0,1,2,3,4,5,6,7,8,9,10,11] 12 (fun j=>[8,9,10,11].contains j) (fun j=>[].contains j) [(9,true)] [] (by kernel_rfl)
      (fun jo u V=>match jo with
       | 0=>u=.agg #[.int .i64 (T.map (mapTo canonA m n)).kind,.int .i64 (T.map (mapTo canonA m n)).num,.string (T.map (mapTo canonA m n)).txt,.slice E5 (T.map (mapTo canonA m n)).keys.length r5,.slice E6 (T.map (mapTo canonA m n)).vals.length r6]
       | 1=>u=.pointer (some ⟨w.heap.size,3,none⟩)
       | 2=>u=.slice (some ⟨gk,0,none⟩) (T.map m).keys.length q3
       | 3=>u=.int .i64 n
       | 4=>u=.pointer (some ⟨gk,n,none⟩)
       | 5=>u=.string s
       | 6=>u=.agg #[.int .i64 y.kind,.int .i64 y.num,.string y.txt,.slice F5 y.keys.length f5,.slice F6 y.vals.length f6]
       | 7=>Rd (Ex o [w.heap.size+1,w.heap.size+2]) V (.map (mapTo canonA m (n+1))) u
       | 8=>u=.bool true
       | 9=>u=.bool true
       | 10=>u=.bool q
       | 11=>u=.bool q
       | _=>True)
      (fun V=>Bx o [w.heap.size+1,w.heap.size+2] (w.heap.size+2) (.map (mapTo canonA m (n+1))) V/\Chg [] w V/\(∀ b,b < w5.heap.size->b≠w.heap.size+2->V.heap[b]?=w5.heap[b]?)/\w5.heap.size<=V.heap.size) ?_ ?_ ?_ ?_ ?_ ?_ ?_ ?_
     ·intro q hq v w' h
      rw [List.mem_singleton] at hq;subst hq;exact h
     ·intro q hq
      cases hq
     ·intro i v w' h
      exact absurd h (by simp)
     ·intro j u V V' hc hφ
      rcases j with _ | _ | _ | _ | _ | _ | _ | _ | _ | _ | _ | _ | _ | _ | j
      ·exact hφ
      ·exact hφ
      ·exact hφ
      ·exact hφ
      ·exact hφ
      ·exact hφ
      ·exact hφ
      ·exact Rd.chg hφ hc
      ·exact hφ
      ·exact hφ
      ·exact hφ
      ·exact hφ
      ·trivial
      ·trivial
      ·trivial
     ·intro j oo hjB hsk ho a' w' hst hch hdep K2 hK2
      have hcB:Chg [] w5 w':=(Chg.refl [] w5).dr.trans hch New.nil;have hcw':Chg [] w w':=c5.trans hcB New.nil;obtain ⟨d0,d1,d2,d3,d4,df⟩:=cells5 (box5 HBX.out.1 _ hcB);have hrc:=HBX.out.2.chg hcB;obtain ⟨a0,a1,a2,a3,a4,af⟩:=cells5 (box5 zt5 _ hcB);have hyk:=YK.out _ hcw';obtain ⟨x0,x1,x2,x3,x4,xf⟩:=cells5 (box5 HBY.out.1 _ hcB);have hrY:=HBY.out.2.chg hcB;simp only [List.mem_cons,List.not_mem_nil,or_false] at hjB;rcases hjB with rfl | rfl | rfl | rfl | rfl | rfl | rfl | rfl | rfl | rfl | rfl | rfl
      ·obtain rfl:_=oo:=Option.some.inj ho
       have h4:=g_eq (t:=4) (v:=.pointer (some ⟨w.heap.size+2,0,none⟩)) (hst 4 (by simp));unfold Oper.wp;go_simp;exact ⟨_,rfl,hK2 _ _ (Chg.refl _ _) rfl⟩
      ·obtain rfl:_=oo:=Option.some.inj ho
       have h1:=g_eq (t:=1) (v:=.pointer (some ⟨w.heap.size,0,none⟩)) (hst 1 (by simp));unfold Oper.wp;go_simp;exact ⟨_,rfl,hK2 _ _ (Chg.refl _ _) rfl⟩
      ·obtain rfl:_=oo:=Option.some.inj ho
       have h32:=g_eq (t:=32) (v:=.pointer (some ⟨w.heap.size,3,none⟩)) (hdep 1 (by kernel_rfl));unfold Oper.wp;go_simp;exact ⟨_,rfl,hK2 _ _ (Chg.refl _ _) rfl⟩
      ·obtain rfl:_=oo:=Option.some.inj ho
       have h6:=g_eq (t:=6) (v:=.int .i64 n) (hst 6 (by simp));unfold Oper.wp;go_simp;exact ⟨_,rfl,hK2 _ _ (Chg.refl _ _) rfl⟩
      ·obtain rfl:_=oo:=Option.some.inj ho
       have h33:=g_eq (t:=33) (v:=.slice (some ⟨gk,0,none⟩) (T.map m).keys.length q3) (hdep 2 (by kernel_rfl));have h34:=g_eq (t:=34) (v:=.int .i64 n) (hdep 3 (by kernel_rfl));unfold Oper.wp;go_simp;exact ⟨_,rfl,hK2 _ _ (Chg.refl _ _) rfl⟩
      ·obtain rfl:_=oo:=Option.some.inj ho
       have h35:=g_eq (t:=35) (v:=.pointer (some ⟨gk,n,none⟩)) (hdep 4 (by kernel_rfl));unfold Oper.wp;go_simp;exact ⟨_,rfl,hK2 _ _ (Chg.refl _ _) rfl⟩
      ·obtain rfl:_=oo:=Option.some.inj ho
       have h7:=g_eq (t:=7) (v:=.pointer (some ⟨B,0,none⟩)) (hst 7 (by simp));unfold Oper.wp;go_simp;exact ⟨_,rfl,hK2 _ _ (Chg.refl _ _) rfl⟩
      ·obtain rfl:_=oo:=Option.some.inj ho
       have h31:=g_eq (t:=31) (v:=.agg #[.int .i64 (T.map (mapTo canonA m n)).kind,.int .i64 (T.map (mapTo canonA m n)).num,.string (T.map (mapTo canonA m n)).txt,.slice E5 (T.map (mapTo canonA m n)).keys.length r5,.slice E6 (T.map (mapTo canonA m n)).vals.length r6]) (hdep 0 (by kernel_rfl));have h36:=g_eq (t:=36) (v:=.string s) (hdep 5 (by kernel_rfl));have h37:=g_eq (t:=37) (v:=.agg #[.int .i64 y.kind,.int .i64 y.num,.string y.txt,.slice F5 y.keys.length f5,.slice F6 y.vals.length f6]) (hdep 6 (by kernel_rfl));unfold Oper.wp;go_simp;refine (with_map (o:=Ex o [w.heap.size+1,w.heap.size+2]) (mapTo canonA m n) y _ _ s w' hrc (mapTo_srt hsm.out) hrY (by rw [mapTo_length]; exact hml.out) (Ex.no hno hcw'.size (by have:=hcB.size; simp; omega))).mono ?_;rintro e w3 ⟨v',rfl,hc3,hr3⟩;rw [HY.out,mapTo_step hsm.out HQ.out] at hr3;exact ⟨_,rfl,hK2 _ _ hc3 hr3⟩
      ·obtain rfl:_=oo:=Option.some.inj ho
       have h5:=g_eq (t:=5) (v:=.bool true) (hst 5 (by simp));unfold Oper.wp;go_simp;exact ⟨_,rfl,hK2 _ _ (Chg.refl _ _) rfl⟩
      ·obtain rfl:_=oo:=Option.some.inj ho
       have h39:=g_eq (t:=39) (v:=.bool true) (hdep 8 (by kernel_rfl));unfold Oper.wp;go_simp;exact ⟨_,rfl,hK2 _ _ (Chg.refl _ _) rfl⟩
      ·obtain rfl:_=oo:=Option.some.inj ho
       have h8:=g_eq (t:=8) (v:=.bool q) (hst 8 (by simp));unfold Oper.wp;go_simp;exact ⟨_,rfl,hK2 _ _ (Chg.refl _ _) rfl⟩
      ·obtain rfl:_=oo:=Option.some.inj ho
       have h40:=g_eq (t:=40) (v:=.bool true) (hdep 9 (by kernel_rfl));have h41:=g_eq (t:=41) (v:=.bool q) (hdep 10 (by kernel_rfl));unfold Oper.wp;go_simp;exact ⟨_,rfl,hK2 _ _ (Chg.refl _ _) rfl⟩
     ·intro j oo hjB hsk hpl hnw ho a' w' hst hψ hdep K2 hK2
      simp only [List.mem_cons,List.not_mem_nil,or_false] at hjB;rcases hjB with rfl | rfl | rfl | rfl | rfl | rfl | rfl | rfl | rfl | rfl | rfl | rfl
      ·exact (no_late (by kernel_rfl) hnw).elim
      ·exact (no_late (by kernel_rfl) hnw).elim
      ·exact (no_late (by kernel_rfl) hnw).elim
      ·exact (no_late (by kernel_rfl) hnw).elim
      ·exact (no_late (by kernel_rfl) hnw).elim
      ·exact (no_late (by kernel_rfl) hnw).elim
      ·exact (no_late (by kernel_rfl) hnw).elim
      ·exact (no_late (by kernel_rfl) hnw).elim
      ·obtain rfl:_=oo:=Option.some.inj ho
       have h5:=g_eq (t:=5) (v:=.bool true) (hst 5 (by simp));unfold Oper.wp;go_simp;exact ⟨_,rfl,hK2 _ rfl⟩
      ·exact (no_late (by kernel_rfl) hnw).elim
      ·obtain rfl:_=oo:=Option.some.inj ho
       have h8:=g_eq (t:=8) (v:=.bool q) (hst 8 (by simp));unfold Oper.wp;go_simp;exact ⟨_,rfl,hK2 _ rfl⟩
      ·obtain rfl:_=oo:=Option.some.inj ho
       have h40:=g_eq (t:=40) (v:=.bool true) (hdep 9 (by kernel_rfl));have h41:=g_eq (t:=41) (v:=.bool q) (hdep 10 (by kernel_rfl));unfold Oper.wp;go_simp;exact ⟨_,rfl,hK2 _ rfl⟩
     ·intro oo ho a' w' hst hch hdep K2 hK2
      obtain rfl:_=oo:=Option.some.inj ho;have huS:Rd (Ex o [w.heap.size+1,w.heap.size+2]) w' (.map (mapTo canonA m (n+1))) (Act.g a' 38):=hdep 7 (by kernel_rfl);generalize hgS:Act.g a' 38=vS at huS;obtain ⟨e5,n5,e6,n6,rfl,_⟩:=huS.five;have hS:=g_eq (t:=38) hgS;have h4:=g_eq (t:=4) (v:=.pointer (some ⟨w.heap.size+2,0,none⟩)) (hst 4 (by simp));have hcB:Chg [] w5 w':=(Chg.refl [] w5).dr.trans hch New.nil;have hcw':Chg [] w w':=c5.trans hcB New.nil;obtain ⟨W,hW,hBW,hcW,hne,hszW,hoth⟩:=(hB5.go hcB).put (by simp) hcw' (by omega) huS;obtain ⟨b0,b1,b2,b3,b4,bf⟩:=cells5 (box5 HBX.out.1 _ hcB);have HW:=Lib.hid (And.intro hBW (And.intro hcW (And.intro (show ∀ b,b < w5.heap.size->b≠w.heap.size+2->W.heap[b]?=w5.heap[b]? from fun b hb hbn=>(hne b hbn).trans (hcB.block b hb (by simp))) (show w5.heap.size<=W.heap.size by rw [hszW]; exact hcB.size))));clear huS hBW hcW hne hszW hoth;unfold Oper.wp;go_simp;rw [<- hW]
      refine hK2 W HW.out fun j u hk hφ=>?_
      rcases j with _ | _ | _ | _ | _ | _ | _ | _ | _ | _ | _ | _ | _ | _ | j
      ·exact absurd hk (by decide)
      ·exact absurd hk (by decide)
      ·exact absurd hk (by decide)
      ·exact absurd hk (by decide)
      ·exact absurd hk (by decide)
      ·exact absurd hk (by decide)
      ·exact absurd hk (by decide)
      ·exact absurd hk (by decide)
      ·exact hφ
      ·exact hφ
      ·exact hφ
      ·exact hφ
      ·exact absurd hk (by decide)
      ·exact absurd hk (by decide)
      ·exact absurd hk (by simp)
     ·intro oo ho u w' hψ hnp hφ A2 hA2
      obtain rfl:_=oo:=Option.some.inj ho;have hu11:u 11=.bool q:=hφ 11 (by simp) (fun _=>by decide);obtain ⟨hBW,hcW,hsame,hszW⟩:=hψ (by decide);clear hψ hnp;simp [putL,dOf,Act.put,hu11] at hA2;subst hA2;clear hφ ho;unfold Oper.wp;go_simp;refine HK.out _ _ ?_;clear HK;have ztW:=(hsame w.heap.size (by omega) (by omega)).trans zt5;have zzW:=(hsame (w.heap.size+1) (by omega) (by omega)).trans zz5;clear hsame
      go_wp2_with fail
      go_roundg (m.length - (n+1))
      case measure=>omega
      case rel=>exact ⟨n+1,_,by omega,rfl,rfl,by go_num,hcW,ztW,zzW,hBW,Lib.hid fun hb=>(hsd.out (by first | rfl | trivial)).step HQ.out (hQ.out hb)⟩
  ·have hlk:¬ n < (T.map m).keys.length:=by rw [HKL.out]; exact hlt
   have hne:n=m.length:=by omega
   have he:T.map (mapTo canonA m n)=canonSvc (.map m):=by rw [hne,mapTo_all]; rfl
   obtain ⟨U,hU⟩ : ∃ U,U=canonSvc (.map m):=⟨_,rfl⟩
   rw [he,<- hU] at hB;have HU:=Lib.hid hU
   have HSD:Hid (bs=true->∀ p∈m,p.1∈uniqA->SaidU p.1 p.2.vals):=Lib.hid fun hb=>(hsd.out hb).all hne
   obtain ⟨E5,r5,E6,r6,hbx,hrx⟩:=hB.box;obtain ⟨d0,d1,d2,d3,d4,df⟩:=cells5 hbx;obtain ⟨z0,z1,z2,z3,z4,zf⟩:=cells5 zz;clear he hU hne;obtain ⟨W,hW,QW,hcW,hrW⟩:=ret5 zz hcr (by omega) hrx (by simp);have HRW:=Lib.hid hrW;clear hrx hrW hbx
   go_wp2_with fail
   rw [<- hW];clear hW;obtain ⟨f0,f1,f2,f3,f4,_⟩:=cells5 QW
   go_wp2
   refine bodyPost_ret (v:=(.tuple #[(.agg #[.int .i64 U.kind,.int .i64 U.num,.string U.txt,.slice E5 U.keys.length r5,.slice E6 U.vals.length r6]),.bool bs])) (by simp [results,Tryz.results50,go_sem,f0,f1,f2,f3,f4]) rfl ⟨_,_,rfl,hcW,by rw [<- HU.out]; exact HRW.out,HSD.out⟩
end Go.Proofs.YtpofkokbmifhgaaGreatDoor
