/- Parts of the walk, made small by wip/tools/pack.py: WithM, Same, Make, Row, To. No condition but those in each statement. -/
import Derived.Test.YtpofkokbmifhgaaGreatDoorL04
set_option maxRecDepth 100000
set_option maxHeartbeats 20000000
set_option linter.unusedVariables false
set_option linter.unusedSimpArgs false
namespace Go.Proofs.YtpofkokbmifhgaaGreatDoor
open Go.RowKit
variable {o:Nat->Prop}
theorem ins_with {k:ByteArray} {x:T}:∀ {m:List (ByteArray × T)},Srt m->(mins k x m).map (·.1)=withK k (m.map (·.1))/\(mins k x m).map (·.2)=withV k (m.map (·.1)) (m.map (·.2)) x
 | [],_=>by simp [mins,withK,withV,posK]
 | p :: m,hs=>by
  have ih:=ins_with (k:=k) (x:=x) hs.tail;unfold withK withV at ih ⊢;simp only [List.map_cons,mins,posK]
  by_cases e:p.1=k
  ·subst e
   rw [blt_irrefl];simp
  ·rw [if_neg e]
   by_cases hb:blt p.1 k=true
   ·rw [if_pos hb,if_pos hb]
    simp only [List.map_cons,List.getElem?_cons_succ,List.take_succ_cons,List.drop_succ_cons,List.set_cons_succ]
    by_cases hf:(m.map (·.1))[posK k (m.map (·.1))]?=some k
    ·rw [if_pos hf,if_pos hf] at ih ⊢
     rw [ih.1,ih.2];exact ⟨rfl,rfl⟩
    ·rw [if_neg hf,if_neg hf] at ih ⊢
     rw [ih.1,ih.2];exact ⟨rfl,rfl⟩
   ·rw [if_neg hb,if_neg hb]
    simp [e]
theorem with_map (m:List (ByteArray × T)) (x:T) (v vx:Value) (k:ByteArray) (w:World) (h:Rd o w (.map m) v) (hs:Srt m) (hx:Rd o w x vx) (hl:m.length<=67108864) (hno:∀ b,w.heap.size<=b->o b) :
  Calls Tryz.prog 27 #[v,.string k,vx] w fun e w'=>∃ v',e=.returned v'/\Chg [] w w'/\Rd o w' (.map (mins k x m)) v':=by
 refine (with_any (.map m) x v vx k w h hx (by simpa [T.vals] using hl) (by simp [T.vals,T.keys]) hno).mono ?_;rintro e w' ⟨ka,va,rfl,hc,hk,hv⟩;have hi:=ins_with (k:=k) (x:=x) hs;simp only [T.keys,T.vals] at hk hv;rw [<- hi.1] at hk;rw [<- hi.2] at hv;exact ⟨_,rfl,hc,Rd.mk_map hk hv⟩
end Go.Proofs.YtpofkokbmifhgaaGreatDoor
namespace Go.Proofs.YtpofkokbmifhgaaGreatDoor
open Go.RowKit
variable {o:Nat->Prop}
theorem T.sizeL_at {l:List T} {j:Nat} {t:T} (h:l[j]?=some t):T.size t<=T.sizeL l:=by
 induction l generalizing j with
 | nil=>simp at h
 | cons a l ih=>
  cases j with
  | zero=>simp at h; subst h; simp [T.sizeL]
  | succ j=>have:=ih (by simpa using h); simp [T.sizeL]; omega
theorem T.size_pos (t:T):1<=T.size t:=by cases t <;> simp [T.size]
theorem T.sizeL_len (l:List T):l.length<=T.sizeL l:=by
 induction l with
 | nil=>simp [T.sizeL]
 | cons a l ih=>have:=T.size_pos a; simp [T.sizeL]; omega
theorem T.sizeM_L (m:List (ByteArray × T)):T.sizeM m=T.sizeL (m.map (·.2)):=by
 induction m with
 | nil=>rfl
 | cons p m ih=>simp [T.sizeM,T.sizeL,ih]
theorem T.size_vals (t:T):1+T.sizeL t.vals=T.size t:=by
 cases t <;> simp [T.vals,T.size,T.sizeL,T.sizeM_L]
theorem T.keys_vals (t:T):t.keys.length<=t.vals.length:=by cases t <;> simp [T.keys,T.vals]
theorem T.vals_len (t:T):t.vals.length < T.size t:=by
 have h1:=T.size_vals t;have h2:=T.sizeL_len t.vals
 omega
theorem same_eq (n:Nat):∀ (t:T) (va vb:Value) (w:World),T.size t<=n->T.size t<=67108864->Rd o w t va->Rd o w t vb ->
  Calls Tryz.prog 14 #[va,vb] w fun e w'=>e=.returned (.bool true)/\Chg [] w w':=by
 induction n with
 | zero=>exact fun t _ _ _ hn=>absurd hn (by have:=T.size_pos t; omega)
 | succ nn ih=>
  intro t va vb w hn hb h h'
  have hvl:=T.vals_len t;have hkl:=T.keys_vals t;obtain ⟨Ak,qk,Av,qv,rfl,hk,hv⟩:=h.five;obtain ⟨Bk,pk,Bv,pv,rfl,hk',hv'⟩:=h'.five
  go_enter Tryz.func14,Tryz.ntmps14
  go_wp2
  go_loopg [5] t.keys.length (fun g i wr=>∃ n d:Nat,n<=t.keys.length/\g=t.keys.length - n/\i=.int .i64 n/\((w.alloc (.cells #[.int .i64 t.kind,.int .i64 t.num,.string t.txt,.slice Ak t.keys.length qk,.slice Av t.vals.length qv] 25)).alloc (.cells #[.int .i64 t.kind,.int .i64 t.num,.string t.txt,.slice Bk t.keys.length pk,.slice Bv t.vals.length pv] 25)).drewN d=wr)
  case atStart=>exact ⟨0,0,Nat.zero_le _,by omega,rfl,rfl⟩
  case round=>
   obtain ⟨n,d,hn',rfl,rfl,rfl⟩:=hrel
   by_cases hlt:n < t.keys.length
   ·obtain ⟨s,hs⟩ : ∃ s,t.keys[n]?=some s:=⟨_,List.getElem?_eq_getElem hlt⟩
    obtain ⟨g1,c1,e1,hc1,hx1⟩:=hk.at_ hs;obtain ⟨g2,c2,e2,hc2,hx2⟩:=hk'.at_ hs
    cases e1
    cases e2
    have hg1:g1 < w.heap.size:=World.block_lt_of_cell? w _ hx1;have hg2:g2 < w.heap.size:=World.block_lt_of_cell? w _ hx2;have HS:=Lib.hid hs;clear hs
    go_wp2
    go_quiet (fail)
    go_wp2
    go_roundg (t.keys.length - (n+1))
    case measure=>omega
    case rel=>exact ⟨n+1,_,by omega,rfl,by go_num,rfl⟩
   ·have HE:=Lib.hid (show n=t.keys.length by omega)
    go_wp2
    clear HE
    go_loopg [6] t.vals.length (fun g i wr=>∃ n:Nat,n<=t.vals.length/\g=t.vals.length - n/\i=.int .i64 n/\Chg [] w wr /\
     wr.heap[w.heap.size]?=some (.cells #[.int .i64 t.kind,.int .i64 t.num,.string t.txt,.slice Ak t.keys.length qk,.slice Av t.vals.length qv] 25) /\
     wr.heap[w.heap.size+1]?=some (.cells #[.int .i64 t.kind,.int .i64 t.num,.string t.txt,.slice Bk t.keys.length pk,.slice Bv t.vals.length pv] 25))
    case atStart=>
     refine ⟨0,Nat.zero_le _,by omega,rfl,(((Chg.refl [] w).al _).al _).drN _,?_,?_⟩
     ·exact (heap_alloc_old _ _ _ (by simp)).trans (heap_alloc_new _ _)
     ·have h1:∀ o,(w.alloc o).heap.size=w.heap.size+1:=fun o=>by simp
      have:=heap_alloc_new (w.alloc (.cells #[.int .i64 t.kind,.int .i64 t.num,.string t.txt,.slice Ak t.keys.length qk,.slice Av t.vals.length qv] 25)) (.cells #[.int .i64 t.kind,.int .i64 t.num,.string t.txt,.slice Bk t.keys.length pk,.slice Bv t.vals.length pv] 25);rw [h1] at this;exact this
    case round=>
     obtain ⟨n2,hn2,rfl,rfl,hcr,z2,z3⟩:=hrel;obtain ⟨a0,a1,a2,a3,a4,_⟩:=cells5 z2;obtain ⟨b0,b1,b2,b3,b4,_⟩:=cells5 z3
     by_cases hlt2:n2 < t.vals.length
     ·obtain ⟨x,hx⟩ : ∃ x,t.vals[n2]?=some x:=⟨_,List.getElem?_eq_getElem hlt2⟩
      obtain ⟨g1,c1,ka,va,e1,hc1,hka,hva,x0,x1,x2,x3,x4⟩:=hv.at_ hx;obtain ⟨g2,c2,kb,vb,e2,hc2,hkb,hvb,y0,y1,y2,y3,y4⟩:=hv'.at_ hx
      cases e1
      cases e2
      have hxs:=T.sizeL_at hx;have hts:=T.size_vals t;have rx:=Rd.mk (t:=x) hka hva;have ry:=Rd.mk (t:=x) hkb hvb;have hgw1:g1 < w.heap.size:=World.block_lt_of_cell? w _ x0;have hgw2:g2 < w.heap.size:=World.block_lt_of_cell? w _ y0
      go_wp2
      rename_i K hK;have HK:=Lib.hid hK;clear hK
      refine wp_region_all (by rfl) (by kernel_rfl) [2,3,6] (by kernel_rfl)
       (fun j u V=>match j with
        | 0=>u=.pointer (some ⟨w.heap.size,4,none⟩)
        | 1=>u=.slice (some ⟨g1,0,none⟩) t.vals.length qv
        | 2=>u=.int .i64 n2
        | 3=>u=.pointer (some ⟨g1,n2 * 5,none⟩)
        | 4=>u=.agg #[.int .i64 x.kind,.int .i64 x.num,.string x.txt,ka,va]
        | 5=>u=.pointer (some ⟨w.heap.size+1,4,none⟩)
        | 6=>u=.slice (some ⟨g2,0,none⟩) t.vals.length pv
        | 7=>u=.int .i64 n2
        | 8=>u=.pointer (some ⟨g2,n2 * 5,none⟩)
        | 9=>u=.agg #[.int .i64 x.kind,.int .i64 x.num,.string x.txt,kb,vb]
        | 10=>u=.bool true
        | 11=>u=.bool false
        | _=>True) ?_ ?_ ?_
      ·intro j u V V' hc hφ
       rcases j with _ | _ | _ | _ | _ | _ | _ | _ | _ | _ | _ | _ | j <;> exact hφ
      ·intro j o hj ho a' w' hst hch hdep K2 hK2
       have h2:=g_eq (t:=2) (v:=.pointer (some ⟨w.heap.size,0,none⟩)) (hst 2 (by simp));have h3:=g_eq (t:=3) (v:=.pointer (some ⟨w.heap.size+1,0,none⟩)) (hst 3 (by simp));have h6:=g_eq (t:=6) (v:=.int .i64 n2) (hst 6 (by simp));have hcw:Chg [] w w':=hcr.trans ((Chg.refl [] _).dr.trans hch New.nil) New.nil;have hsz1:w.heap.size+1 < wr.heap.size:=(Array.getElem?_eq_some_iff.1 z3).1;have a4':w'.cell? ⟨w.heap.size,4,none⟩=_:=(World.cell?_of_block (hch.block w.heap.size (by show w.heap.size < wr.heap.size; omega) (by simp))).trans a4;have b4':w'.cell? ⟨w.heap.size+1,4,none⟩=_:=(World.cell?_of_block (hch.block (w.heap.size+1) (by show w.heap.size+1 < wr.heap.size; omega) (by simp))).trans b4;have hj':j < 12:=hj;rcases j with _ | _ | _ | _ | _ | _ | _ | _ | _ | _ | _ | _ | j
       ·obtain rfl:_=o:=Option.some.inj ho
        unfold Oper.wp;go_simp;exact ⟨_,rfl,hK2 _ _ (Chg.refl _ _) rfl⟩
       ·obtain rfl:_=o:=Option.some.inj ho
        have h69:=g_eq (t:=69) (v:=.pointer (some ⟨w.heap.size,4,none⟩)) (hdep 0 (by kernel_rfl));unfold Oper.wp;go_simp;exact ⟨_,rfl,hK2 _ _ (Chg.refl _ _) rfl⟩
       ·obtain rfl:_=o:=Option.some.inj ho
        unfold Oper.wp;go_simp;exact ⟨_,rfl,hK2 _ _ (Chg.refl _ _) rfl⟩
       ·obtain rfl:_=o:=Option.some.inj ho
        have h70:=g_eq (t:=70) (v:=.slice (some ⟨g1,0,none⟩) t.vals.length qv) (hdep 1 (by kernel_rfl));have h71:=g_eq (t:=71) (v:=.int .i64 n2) (hdep 2 (by kernel_rfl));unfold Oper.wp;go_simp;exact ⟨_,rfl,hK2 _ _ (Chg.refl _ _) rfl⟩
       ·obtain rfl:_=o:=Option.some.inj ho
        have h72:=g_eq (t:=72) (v:=.pointer (some ⟨g1,n2 * 5,none⟩)) (hdep 3 (by kernel_rfl));have x0':=(hcw.cells.1 _ _ hgw1).trans x0;have x1':=(hcw.cells.1 _ _ hgw1).trans x1;have x2':=(hcw.cells.1 _ _ hgw1).trans x2;have x3':=(hcw.cells.1 _ _ hgw1).trans x3;have x4':=(hcw.cells.1 _ _ hgw1).trans x4;unfold Oper.wp;go_simp;exact ⟨_,rfl,hK2 _ _ (Chg.refl _ _) rfl⟩
       ·obtain rfl:_=o:=Option.some.inj ho
        unfold Oper.wp;go_simp;exact ⟨_,rfl,hK2 _ _ (Chg.refl _ _) rfl⟩
       ·obtain rfl:_=o:=Option.some.inj ho
        have h74:=g_eq (t:=74) (v:=.pointer (some ⟨w.heap.size+1,4,none⟩)) (hdep 5 (by kernel_rfl));unfold Oper.wp;go_simp;exact ⟨_,rfl,hK2 _ _ (Chg.refl _ _) rfl⟩
       ·obtain rfl:_=o:=Option.some.inj ho
        unfold Oper.wp;go_simp;exact ⟨_,rfl,hK2 _ _ (Chg.refl _ _) rfl⟩
       ·obtain rfl:_=o:=Option.some.inj ho
        have h75:=g_eq (t:=75) (v:=.slice (some ⟨g2,0,none⟩) t.vals.length pv) (hdep 6 (by kernel_rfl));have h76:=g_eq (t:=76) (v:=.int .i64 n2) (hdep 7 (by kernel_rfl));unfold Oper.wp;go_simp;exact ⟨_,rfl,hK2 _ _ (Chg.refl _ _) rfl⟩
       ·obtain rfl:_=o:=Option.some.inj ho
        have h77:=g_eq (t:=77) (v:=.pointer (some ⟨g2,n2 * 5,none⟩)) (hdep 8 (by kernel_rfl));have y0':=(hcw.cells.1 _ _ hgw2).trans y0;have y1':=(hcw.cells.1 _ _ hgw2).trans y1;have y2':=(hcw.cells.1 _ _ hgw2).trans y2;have y3':=(hcw.cells.1 _ _ hgw2).trans y3;have y4':=(hcw.cells.1 _ _ hgw2).trans y4;unfold Oper.wp;go_simp;exact ⟨_,rfl,hK2 _ _ (Chg.refl _ _) rfl⟩
       ·obtain rfl:_=o:=Option.some.inj ho
        have h73:=g_eq (t:=73) (v:=.agg #[.int .i64 x.kind,.int .i64 x.num,.string x.txt,ka,va]) (hdep 4 (by kernel_rfl));have h78:=g_eq (t:=78) (v:=.agg #[.int .i64 x.kind,.int .i64 x.num,.string x.txt,kb,vb]) (hdep 9 (by kernel_rfl));unfold Oper.wp;go_simp;refine (ih x _ _ w' (by omega) (by omega) (rx.chg hcw) (ry.chg hcw)).mono ?_;rintro e w3 ⟨rfl,hc3⟩;exact ⟨_,rfl,hK2 _ _ hc3 rfl⟩
       ·obtain rfl:_=o:=Option.some.inj ho
        have h79:=g_eq (t:=79) (v:=.bool true) (hdep 10 (by kernel_rfl));unfold Oper.wp;go_simp;exact ⟨_,rfl,hK2 _ _ (Chg.refl _ _) rfl⟩
       ·omega
      ·intro u w' hch hφ A2 hA2
       have l11:11 < 12:=by omega
       have hu11:u 11=.bool false:=hφ 11 l11;simp [putAll,dOf,Act.put,hu11] at hA2;subst hA2;clear hφ l11 hu11;have hsz1:w.heap.size+1 < wr.heap.size:=(Array.getElem?_eq_some_iff.1 z3).1;have z2':=(hch.block w.heap.size (by show w.heap.size < wr.heap.size; omega) (by simp)).trans z2;have z3':=(hch.block (w.heap.size+1) (by show w.heap.size+1 < wr.heap.size; omega) (by simp)).trans z3;have hcw:Chg [] w w':=hcr.trans ((Chg.refl [] _).dr.trans hch New.nil) New.nil;refine HK.out _ _ ?_;clear HK
       go_wp2
       go_roundg (t.vals.length - (n2+1))
       case measure=>omega
       case rel=>exact ⟨n2+1,by omega,rfl,by go_num,hcw,z2',z3'⟩
     ·go_wp2
      go_ret
      exact ⟨rfl,hcr⟩
end Go.Proofs.YtpofkokbmifhgaaGreatDoor
namespace Go.Proofs.YtpofkokbmifhgaaGreatDoor
open Go.RowKit
variable {o:Nat->Prop}
theorem Rd.one_text (w:World) (s:ByteArray):Rd o w (.text s) (.agg #[.int .i64 3,.int .i64 0,.string s,.slice none 0 0,.slice none 0 0]):=Rd.mk (t:=.text s) (RdK.nil _) (RdV.nil _)
theorem Rd.one_bool (w:World) (b:Bool):Rd o w (.bool b) (.agg #[.int .i64 1,.int .i64 (if b then 1 else 0),.string ⟨#[]⟩,.slice none 0 0,.slice none 0 0]):=by
 cases b
 ·exact Rd.mk (t:=.bool false) (RdK.nil _) (RdV.nil _)
 ·exact Rd.mk (t:=.bool true) (RdK.nil _) (RdV.nil _)
theorem Rd.one_map (w:World):Rd o w (.map []) (.agg #[.int .i64 5,.int .i64 0,.string ⟨#[]⟩,.slice none 0 0,.slice none 0 0]):=Rd.mk (t:=.map []) (RdK.nil _) (RdV.nil _)
theorem specT (s:ByteArray) (w:World):Calls Tryz.prog 25 #[.string s] w fun e w'=>∃ v,e=.returned v/\Chg [] w w'/\Rd o w' (.text s) v:=by
 go_enter Tryz.func25,Tryz.ntmps25
 go_wp2
 refine bodyPost_ret (v:=.agg #[.int .i64 3,.int .i64 0,.string s,.slice none 0 0,.slice none 0 0]) (by simp [results,Tryz.results25,go_sem]) rfl ⟨_,rfl,?_,Rd.one_text _ s⟩
 repeat refine Chg.st ?_ (Nat.le_refl _) _
 exact (Chg.refl [] w).al _
theorem specB (b:Bool) (w:World):Calls Tryz.prog 23 #[.bool b] w fun e w'=>∃ v,e=.returned v/\Chg [] w w'/\Rd o w' (.bool b) v:=by
 cases b with
 | true=>
  go_enter Tryz.func23,Tryz.ntmps23
  go_wp2
  refine bodyPost_ret (v:=.agg #[.int .i64 1,.int .i64 1,.string ⟨#[]⟩,.slice none 0 0,.slice none 0 0]) (by simp [results,Tryz.results23,go_sem]) rfl ⟨_,rfl,?_,Rd.one_bool _ true⟩
  repeat refine Chg.st ?_ (Nat.le_refl _) _
  exact (Chg.refl [] w).al _
 | false=>
  go_enter Tryz.func23,Tryz.ntmps23
  go_wp2
  refine bodyPost_ret (v:=.agg #[.int .i64 1,.int .i64 0,.string ⟨#[]⟩,.slice none 0 0,.slice none 0 0]) (by simp [results,Tryz.results23,go_sem]) rfl ⟨_,rfl,?_,Rd.one_bool _ false⟩
  repeat refine Chg.st ?_ (Nat.le_refl _) _
  exact (Chg.refl [] w).al _
theorem specEmpty (w:World):Calls Tryz.prog 26 #[] w fun e w'=>∃ v,e=.returned v/\Chg [] w w'/\Rd o w' (.map []) v:=by
 go_enter Tryz.func26,Tryz.ntmps26
 go_wp2
 refine bodyPost_ret (v:=.agg #[.int .i64 5,.int .i64 0,.string ⟨#[]⟩,.slice none 0 0,.slice none 0 0]) (by simp [results,Tryz.results26,go_sem]) rfl ⟨_,rfl,?_,Rd.one_map _⟩
 repeat refine Chg.st ?_ (Nat.le_refl _) _
 exact (Chg.refl [] w).al _
end Go.Proofs.YtpofkokbmifhgaaGreatDoor
namespace Go.Proofs.YtpofkokbmifhgaaGreatDoor
open Go.RowKit
variable {o:Nat->Prop}
def Off (base B:Nat) (R:Value) (b:Nat):Prop:=base<=b/\b≠B/\R.ownBlock≠some b
theorem app_one {P:Program} {w:World} {base B:Nat} {t ty e:TypeId} {z:Value} {bytes:Nat} (ht:P.underlying t=some (.slice e)) (hinfo:(P.info? e).map (fun i=>(i.zero,i.size,i.bytes))=some (some z,5,bytes)) (hzs:z.cells.size=5)
  {base':Nat} {R:Value} {n:Nat} {xs:List Value} {l:List T} (hown:w.ownsRow base' e 5 R n xs) (hx:FlatV (Off base B R) w l xs) {g1 c1:Nat} {v:Value} {x:T}
  (hnew:∀ i u,v.cells[i]?=some u->w.cell? ⟨g1,i,none⟩=some u) (hv:Rd (Off base B R) w x v) (hbase':base'<=w.heap.size) (hbytes:(n+1) * bytes<=140737488355328) (hm:n+1<=140737488355328) :
  ∃ R' w',(Builtin.append_ #[t,t] ty #[R,.slice (some ⟨g1,0,none⟩) 1 c1]).run P w=.ok R' w'/\w'.ownsRow base' e 5 R' (n+1) (xs++v.cells.toList)/\FlatV (Off base B R') w' (l++[x]) (xs++v.cells.toList)/\Chg R.ownBlock.toList w w'/\(∃ g c',R'=.slice (some ⟨g,0,none⟩) (n+1) c'/\base'<=g/\g < w'.heap.size/\(R.ownBlock=some g∨w.heap.size<=g)):=by
 obtain ⟨R',w',hr,ho,hc,hor⟩:=run_app (P:=P) base' t ty e z 5 bytes ht hinfo hzs (by omega) R n xs hown (some ⟨g1,0,none⟩) 1 c1 v.cells.toList (by rw [hv.size]) (fun _=>⟨_,rfl,fun j u hu=>by
  have:=hnew j u (by simpa using hu)
  rwa [show (⟨g1,0,none⟩ : Addr).add j=⟨g1,j,none⟩ by unfold Addr.add; split <;> simp_all]⟩) hv.one hbytes hm hbase'
 rcases hor with ⟨_,h,_⟩ | ⟨g,c',rfl,hg1,hg2,hor⟩
 ·omega
 have hto:∀ b,b < w.heap.size->Off base B R b->Off base B (.slice (some ⟨g,0,none⟩) (n+1) c') b/\w'.heap[b]?=w.heap[b]?:=by
  intro b hb ⟨h1,h2,h3⟩
  refine ⟨⟨h1,h2,fun e=>?_⟩,hc.block b hb ?_⟩
  ·have e':g=b:=by simpa [Value.ownBlock] using e
   subst e';rcases hor with h | h
   ·exact h3 h
   ·omega
  ·intro hm
   exact h3 (by simpa using hm)
 exact ⟨_,w',hr,ho,(hx.to hto).snoc (hv.to hto),hc,g,c',rfl,hg1,hg2,hor⟩
theorem ownsRow_keep {w w':World} {base e size n:Nat} {R:Value} {xs:List Value} (h:w.ownsRow base e size R n xs) (hf:∀ g,R.ownBlock=some g->w'.heap[g]?=w.heap[g]?):w'.ownsRow base e size R n xs:=by
 rcases h.2 with ⟨rfl,h0⟩ | ⟨g,cap,cur,rfl,_⟩
 ·exact ⟨h.1,.inl ⟨rfl,h0⟩⟩
 ·exact ownsRow_frame h (hf g rfl)
theorem ownsRow_slice {w:World} {base e size n:Nat} {R:Value} {xs:List Value} (h:w.ownsRow base e size R n xs):∃ A c,R=.slice A n c:=by
 rcases h.2 with ⟨rfl,h0⟩ | ⟨g,cap,cur,rfl,_⟩
 ·exact ⟨none,0,by rw [h0]⟩
 ·exact ⟨_,_,rfl⟩
theorem ownsRow_own {w:World} {base e size n g:Nat} {R:Value} {xs:List Value} (h:w.ownsRow base e size R n xs) (hg:R.ownBlock=some g):base<=g/\g < w.heap.size:=by
 rcases h.2 with ⟨rfl,h0⟩ | ⟨g',cap,cur,rfl,_⟩
 ·cases hg
 ·cases hg
  exact h.lt g' rfl
theorem FlatV.weak {o o':Nat->Prop} {w:World} {l:List T} {xs:List Value} (h:FlatV o w l xs) (hw:∀ b,o b->o' b):FlatV o' w l xs:=h.to (fun _ _ ho=>⟨hw _ ho,rfl⟩)
theorem take_snoc {α:Type} {l:List α} {n:Nat} {x:α} (h:l[n]?=some x):l.take (n+1)=l.take n++[x]:=by rw [List.take_add_one,h]; rfl
theorem wpList_app {P:Program} {w:World} {ops:Array Oper} {rest:List Oper} {o:Oper} {a:Act} {Q:Exit->Act->World->Prop} (hgd:o.guard=none) (s x:Operand) (t:TypeId)
  (ho:o.op=.call { callee:=.builtin .append,args:=#[s,x],argTypes:=#[t,t] }) {v:Value} {A:Option Addr} {m c:Nat} (hs:a.eval s=v) (hx:a.eval x=.slice A m c) {Φ:Value->World->Prop}
  (hr:∃ v' w',(Builtin.append_ #[t,t] o.type #[v,.slice A m c]).run P w=.ok v' w'/\Φ v' w') (h:∀ v' w',Φ v' w'->wpList P ops Q rest (a.put o.dst v') w'):wpList P ops Q (o :: rest) a w:=by
 refine wpList_plain hgd fun K hK=>?_
 obtain ⟨v',w',hrun,hΦ⟩:=hr;unfold Oper.wp execOp;simp only [ho,resolve,invoke,builtin,Sem.run_bind,Sem.run_pure,Result.andThen_ok,List.map_toArray,List.map_cons,List.map_nil,hs,hx,hrun];exact hK _ _ (h v' w' hΦ)
theorem alloc2 (w:World) (o1 o2:Obj):((w.alloc o1).alloc o2).drew.heap[w.heap.size]?=some o1/\((w.alloc o1).alloc o2).drew.heap[w.heap.size+1]?=some o2:=by
 have h1:(w.alloc o1).heap.size=w.heap.size+1:=by simp
 refine ⟨(heap_alloc_old _ _ _ (by omega)).trans (heap_alloc_new _ _),?_⟩;show ((w.alloc o1).alloc o2).heap[w.heap.size+1]?=some o2;rw [<- h1];exact heap_alloc_new _ _
theorem setCells5 (w:World) (B:Nat) {a0 a1 a2 a3 a4:Value} (b0 b1 b2 b3 b4:Value) {e:TypeId} (h:w.heap[B]?=some (.cells #[a0,a1,a2,a3,a4] e)) :
  (((((w.setCell ⟨B,0,none⟩ b0).setCell ⟨B,1,none⟩ b1).setCell ⟨B,2,none⟩ b2).setCell ⟨B,3,none⟩ b3).setCell ⟨B,4,none⟩ b4).heap[B]?=some (.cells #[b0,b1,b2,b3,b4] e):=by
 simpa using heap_setCell_same _ B 4 _ _ b4 (heap_setCell_same _ B 3 _ _ b3 (heap_setCell_same _ B 2 _ _ b2 (heap_setCell_same _ B 1 _ _ b1 (heap_setCell_same _ B 0 _ _ b0 h))))
theorem setCells5_ne (w:World) (B:Nat) (b0 b1 b2 b3 b4:Value):∀ g,g≠B ->
  (((((w.setCell ⟨B,0,none⟩ b0).setCell ⟨B,1,none⟩ b1).setCell ⟨B,2,none⟩ b2).setCell ⟨B,3,none⟩ b3).setCell ⟨B,4,none⟩ b4).heap[g]?=w.heap[g]?:=fun g hg=>by
 rw [heap_setCell_other _ _ _ _ hg,heap_setCell_other _ _ _ _ hg,heap_setCell_other _ _ _ _ hg,heap_setCell_other _ _ _ _ hg,heap_setCell_other _ _ _ _ hg]
theorem setCells5_chg {F:List Nat} {w0 w:World} (hc:Chg F w0 w) {B:Nat} (hB:w0.heap.size<=B) (b0 b1 b2 b3 b4:Value) :
  Chg F w0 (((((w.setCell ⟨B,0,none⟩ b0).setCell ⟨B,1,none⟩ b1).setCell ⟨B,2,none⟩ b2).setCell ⟨B,3,none⟩ b3).setCell ⟨B,4,none⟩ b4):=
 ((((hc.st hB _).st hB _).st hB _).st hB _).st hB _
end Go.Proofs.YtpofkokbmifhgaaGreatDoor
namespace Go.Proofs.YtpofkokbmifhgaaGreatDoor
open Go.RowKit
variable {o:Nat->Prop}
theorem to_any (nn:Nat):∀ (t:T) (v:Value) (w:World),T.size t<=nn->T.size t<=67108864->Rd o w t v ->
  Calls Tryz.prog 12 #[v] w fun e w'=>∃ v',e=.returned v'/\Chg [] w w'/\Rd (fun b=>w.heap.size<=b) w' t v':=by
 induction nn with
 | zero=>exact fun t _ _ hn=>absurd hn (by have:=T.size_pos t; omega)
 | succ nn ih=>
 intro t v w hn hb h
 have hvl:=T.vals_len t;have hkl:=T.keys_vals t;obtain ⟨Ak,qk,Av,qv,rfl,hk,hv⟩:=h.five;have HKS:=Lib.hid hk.src
 go_enter Tryz.func12,Tryz.ntmps12
 go_wp2
 rename_i K hK;have HK:=Lib.hid hK;clear hK
 refine wp_region_mono (by rfl) (by kernel_rfl) [1] (by kernel_rfl)
  (fun j u V=>match j with
   | 0=>u=.pointer (some ⟨w.heap.size,0,none⟩)
   | 1=>u=.int .i64 t.kind
   | 2=>u=.pointer (some ⟨w.heap.size,1,none⟩)
   | 3=>u=.int .i64 t.num
   | 4=>u=.pointer (some ⟨w.heap.size,2,none⟩)
   | 5=>u=.string t.txt
   | 6=>∃ g,u=.slice (some ⟨g,0,none⟩) 0 0/\V.ownsRow (w.heap.size+2) 9 1 u 0 []
   | 7=>u=.pointer (some ⟨w.heap.size,3,none⟩)
   | 8=>u=.slice Ak t.keys.length qk
   | 9=>∃ g c,u=.slice (some ⟨g,0,none⟩) t.keys.length c/\V.ownsRow (w.heap.size+2) 9 1 u t.keys.length (strC t.keys)
   | 10=>∃ g c,u=.agg #[.int .i64 t.kind,.int .i64 t.num,.string t.txt,.slice (some ⟨g,0,none⟩) t.keys.length c,.slice none 0 0]/\V.ownsRow (w.heap.size+2) 9 1 (.slice (some ⟨g,0,none⟩) t.keys.length c) t.keys.length (strC t.keys)
   | 11=>∃ g,u=.pointer (some ⟨g,0,none⟩)/\w.heap.size+2<=g/\V.heap[g]?=some (.cells #[.int .i64 0,.int .i64 0,.string ⟨#[]⟩,.slice none 0 0,.slice none 0 0] 32)
   | _=>True) ?_
  (fun i=>if i=6∨i=9 then some 0 else none) (fun _ u=>Value.blk u) ?_ ?_
 ·intro i u w1 w2 hc hφ
  have hrow:∀ {b e size n c xs g},w1.ownsRow b e size (.slice (some ⟨g,0,none⟩) n c) n xs->w2.ownsRow b e size (.slice (some ⟨g,0,none⟩) n c) n xs:=fun h=>ownsRow_frame h (hc.block _ (ownsRow_lt h) (by simp))
  rcases i with _ | _ | _ | _ | _ | _ | _ | _ | _ | _ | _ | _ | i
  all_goals first | exact hφ | skip
  ·obtain ⟨g,rfl,h⟩:=hφ
   exact ⟨g,rfl,hrow h⟩
  ·obtain ⟨g,c,rfl,h⟩:=hφ
   exact ⟨g,c,rfl,hrow h⟩
  ·obtain ⟨g,c,rfl,h⟩:=hφ
   exact ⟨g,c,rfl,hrow h⟩
  ·obtain ⟨g,rfl,hg,hh⟩:=hφ
   exact ⟨g,rfl,hg,(hc.block _ (Array.getElem?_eq_some_iff.1 hh).1 (by simp)).trans hh⟩
 ·intro i o hi ho a' w' hst hch hdep
  have hcw:Chg [] w w':=(((Chg.refl [] w).al _).al _).dr.trans hch New.nil
  have hsz:w.heap.size+2<=w'.heap.size:=by have:=hch.size; simpa using this
  have z1:=(hch.block w.heap.size (by simp; omega) (by simp)).trans (alloc2 w _ _).1;obtain ⟨a0,a1,a2,a3,a4,_⟩:=cells5 z1;have hi':i < 12:=hi;rcases i with _ | _ | _ | _ | _ | _ | _ | _ | _ | _ | _ | _ | i
  ·obtain rfl:_=o:=Option.some.inj ho
   have h1:=g_eq (t:=1) (v:=.pointer (some ⟨w.heap.size,0,none⟩)) (hst 1 (by simp));exact ⟨.pointer (some ⟨w.heap.size,0,none⟩),w',by go_simp,Chg.refl _ _,rfl,fun c hc=>by simp at hc⟩
  ·obtain rfl:_=o:=Option.some.inj ho
   have h5:=g_eq (t:=5) (v:=.pointer (some ⟨w.heap.size,0,none⟩)) (hdep 0 (by kernel_rfl));exact ⟨.int .i64 t.kind,w',by go_simp,Chg.refl _ _,rfl,fun c hc=>by simp at hc⟩
  ·obtain rfl:_=o:=Option.some.inj ho
   have h1:=g_eq (t:=1) (v:=.pointer (some ⟨w.heap.size,0,none⟩)) (hst 1 (by simp));exact ⟨.pointer (some ⟨w.heap.size,1,none⟩),w',by go_simp,Chg.refl _ _,rfl,fun c hc=>by simp at hc⟩
  ·obtain rfl:_=o:=Option.some.inj ho
   have h7:=g_eq (t:=7) (v:=.pointer (some ⟨w.heap.size,1,none⟩)) (hdep 2 (by kernel_rfl));exact ⟨.int .i64 t.num,w',by go_simp,Chg.refl _ _,rfl,fun c hc=>by simp at hc⟩
  ·obtain rfl:_=o:=Option.some.inj ho
   have h1:=g_eq (t:=1) (v:=.pointer (some ⟨w.heap.size,0,none⟩)) (hst 1 (by simp));exact ⟨.pointer (some ⟨w.heap.size,2,none⟩),w',by go_simp,Chg.refl _ _,rfl,fun c hc=>by simp at hc⟩
  ·obtain rfl:_=o:=Option.some.inj ho
   have h9:=g_eq (t:=9) (v:=.pointer (some ⟨w.heap.size,2,none⟩)) (hdep 4 (by kernel_rfl));exact ⟨.string t.txt,w',by go_simp,Chg.refl _ _,rfl,fun c hc=>by simp at hc⟩
  ·obtain rfl:_=o:=Option.some.inj ho
   refine ⟨.slice (some ⟨w'.heap.size,0,none⟩) 0 0,w'.alloc (.cells #[] 9),by go_simp,(Chg.refl [] w').al _,⟨_,rfl,?_⟩,?_⟩
   ·exact World.ownsRow_lit w' #[] 0 (by omega) (by decide) rfl
   ·intro c _ b hb
    cases hb
    exact ⟨by simp,.inl (Nat.le_refl _)⟩
  ·obtain rfl:_=o:=Option.some.inj ho
   have h1:=g_eq (t:=1) (v:=.pointer (some ⟨w.heap.size,0,none⟩)) (hst 1 (by simp));exact ⟨.pointer (some ⟨w.heap.size,3,none⟩),w',by go_simp,Chg.refl _ _,rfl,fun c hc=>by simp at hc⟩
  ·obtain rfl:_=o:=Option.some.inj ho
   have h12:=g_eq (t:=12) (v:=.pointer (some ⟨w.heap.size,3,none⟩)) (hdep 7 (by kernel_rfl));exact ⟨.slice Ak t.keys.length qk,w',by go_simp,Chg.refl _ _,rfl,fun c hc=>by simp at hc⟩
  ·obtain rfl:_=o:=Option.some.inj ho
   have h13:=g_eq (t:=13) (v:=.slice Ak t.keys.length qk) (hdep 8 (by kernel_rfl));obtain ⟨g,h11,hown⟩:=hdep 6 (by kernel_rfl);rw [h11] at hown;have h11':=h11;have h11:=g_eq (t:=11) h11
   obtain ⟨v',w2,hr,hown2,hc2,g',c',rfl,hlt,hor⟩:=run_append_copy (P:=Tryz.prog) (w:=w') (w.heap.size+2) 22 22 9 (.string ⟨#[]⟩) 1 16 uKs iS rfl g hown Ak t.keys.length qk (strC t.keys) (by simp [strC])
    (fun hpos=>by
     obtain ⟨b,hA,hb⟩:=HKS.out hpos
     exact ⟨b,hA,fun j u hu=>by have:=hb j u hu; exact (hcw.cells.1 _ _ (World.block_lt_of_cell? w _ this)).trans this⟩) (by omega) (by omega)
   refine ⟨_,w2,by simp [execOp,resolve,invoke,builtin,Act.eval,h11,h13,hr,Result.andThen],hc2,⟨g',c',rfl,hown2⟩,?_⟩
   intro c hc b hb
   cases hb
   refine ⟨hlt,?_⟩;rcases hor with rfl | h
   ·exact .inr ⟨6,by kernel_rfl,by simpa using hc,by rw [h11']; rfl⟩
   ·exact .inl h
  ·obtain rfl:_=o:=Option.some.inj ho
   have h6:=g_eq (t:=6) (v:=.int .i64 t.kind) (hdep 1 (by kernel_rfl));have h8:=g_eq (t:=8) (v:=.int .i64 t.num) (hdep 3 (by kernel_rfl));have h10:=g_eq (t:=10) (v:=.string t.txt) (hdep 5 (by kernel_rfl));obtain ⟨g,c,h14,hown⟩:=hdep 9 (by kernel_rfl);rw [h14] at hown;have h14':=h14;have h14:=g_eq (t:=14) h14;refine ⟨.agg #[.int .i64 t.kind,.int .i64 t.num,.string t.txt,.slice (some ⟨g,0,none⟩) t.keys.length c,.slice none 0 0],w',by go_simp,Chg.refl _ _,⟨g,c,rfl,hown⟩,fun c hc=>by simp at hc⟩
  ·obtain rfl:_=o:=Option.some.inj ho
   refine ⟨.pointer (some ⟨w'.heap.size,0,none⟩),w'.alloc (.cells #[.int .i64 0,.int .i64 0,.string ⟨#[]⟩,.slice none 0 0,.slice none 0 0] 32),by go_simp,(Chg.refl [] w').al _,⟨_,rfl,by omega,heap_alloc_new _ _⟩,fun c hc=>by simp at hc⟩
  ·omega
 ·intro o' ho u w1 hch hφ hap A2 hA2
  obtain rfl:_=o':=Option.some.inj ho;have hcw:Chg [] w w1:=(((Chg.refl [] w).al _).al _).dr.trans hch New.nil
  have hsz:w.heap.size+2<=w1.heap.size:=by have:=hch.size; simpa using this
  have l11:11 < 12:=by omega
  obtain ⟨B,hB,hwB,hBc⟩:=hφ 11 l11;obtain ⟨gk,ck,h15,hrk⟩:=hφ 10 (Nat.lt_trans (by decide:10 < 11) l11)
  have hBk:gk≠B:=fun e=>by
   subst e
   rcases hrk.2 with ⟨h,_⟩ | ⟨g',cap',cur,h,_,hg,_⟩
   ·cases h
   ·cases h
    rw [hBc] at hg
    cases hg
  have lk:=hrk.lt gk rfl;simp [putAll,dOf,Act.put,hB,h15] at hA2;subst hA2;clear hap hφ l11 ho;obtain ⟨b0,b1,b2,b3,b4,bf⟩:=cells5 hBc;unfold Oper.wp;go_simp;refine HK.out _ _ ?_;clear HK;have q1:=setCells5 w1 B (.int .i64 t.kind) (.int .i64 t.num) (.string t.txt) (.slice (some ⟨gk,0,none⟩) t.keys.length ck) (.slice none 0 0) hBc;have hne:=setCells5_ne w1 B (.int .i64 t.kind) (.int .i64 t.num) (.string t.txt) (.slice (some ⟨gk,0,none⟩) t.keys.length ck) (.slice none 0 0);have hcW:=setCells5_chg hcw (by omega:w.heap.size<=B) (.int .i64 t.kind) (.int .i64 t.num) (.string t.txt) (.slice (some ⟨gk,0,none⟩) t.keys.length ck) (.slice none 0 0)
  have hold:∀ b,b < w.heap.size+2->w1.heap[b]?=((w.alloc (.cells #[.int .i64 t.kind,.int .i64 t.num,.string t.txt,.slice Ak t.keys.length qk,.slice Av t.vals.length qv] 25)).alloc (.cells #[.int .i64 0,.int .i64 0,.string ⟨#[]⟩,.slice none 0 0,.slice none 0 0] 32)).drew.heap[b]?:=fun b hb=>hch.block b (by simp; omega) (by simp)
  have z1:=(hne _ (by omega)).trans ((hold w.heap.size (by omega)).trans (alloc2 w _ _).1);have z2:=(hne _ (by omega)).trans ((hold (w.heap.size+1) (by omega)).trans (alloc2 w _ _).2);have rk:=ownsRow_frame hrk (hne gk hBk);clear hrk b0 b1 b2 b3 b4 bf hold hne hBc hB h15 hch hcw
  revert z1 z2 q1 hcW rk
  generalize (((((w1.setCell ⟨B,0,none⟩ (.int .i64 t.kind)).setCell ⟨B,1,none⟩ (.int .i64 t.num)).setCell ⟨B,2,none⟩ (.string t.txt)).setCell ⟨B,3,none⟩ (.slice (some ⟨gk,0,none⟩) t.keys.length ck)).setCell ⟨B,4,none⟩ (.slice none 0 0))=W
  intro q1 hcW z1 z2 rk
  go_wp2
  go_loopg [4] t.vals.length (fun g i wr=>∃ (n:Nat) (R:Value) (xs:List Value),n<=t.vals.length/\g=t.vals.length - n/\i=.int .i64 n/\Chg [] w wr /\
   wr.heap[B]?=some (.cells #[.int .i64 t.kind,.int .i64 t.num,.string t.txt,.slice (some ⟨gk,0,none⟩) t.keys.length ck,R] 32) /\
   wr.heap[w.heap.size]?=some (.cells #[.int .i64 t.kind,.int .i64 t.num,.string t.txt,.slice Ak t.keys.length qk,.slice Av t.vals.length qv] 25) /\
   wr.heap[w.heap.size+1]?=some (.cells #[.int .i64 0,.int .i64 0,.string ⟨#[]⟩,.slice none 0 0,.slice none 0 0] 32) /\
   wr.ownsRow (w.heap.size+2) 9 1 (.slice (some ⟨gk,0,none⟩) t.keys.length ck) t.keys.length (strC t.keys) /\
   wr.ownsRow (w.heap.size+2) 32 5 R n xs/\FlatV (Off (w.heap.size+2) B R) wr (t.vals.take n) xs /\
   ∀ g,R.ownBlock=some g->w.heap.size+2<=g/\g < wr.heap.size/\g≠B/\g≠gk)
  case atStart=>
   refine ⟨0,.slice none 0 0,[],Nat.zero_le _,by omega,rfl,hcW,q1,z1,z2,rk,?_,by simp [FlatV],fun g h=>by simp [Value.ownBlock] at h⟩;exact World.ownsRow_nil _ _ _ _
  case round=>
   obtain ⟨n,R,xs,hn',rfl,rfl,hcr,q1',z1',z2',rk',rR,hx,hR⟩:=hrel;clear q1 hcW z1 z2 rk;obtain ⟨b0,b1,b2,b3,b4,bf⟩:=cells5 q1';obtain ⟨a0,a1,a2,a3,a4,af⟩:=cells5 z1'
   by_cases hlt:n < t.vals.length
   ·obtain ⟨x,hx1⟩ : ∃ x,t.vals[n]?=some x:=⟨_,List.getElem?_eq_getElem hlt⟩
    obtain ⟨ge,c1,kx,vx,e1,hc1,hkx,hvx,x0,x1,x2,x3,x4⟩:=hv.at_ hx1
    cases e1
    have hxs:=T.sizeL_at hx1;have hts:=T.size_vals t;have hge:ge < w.heap.size:=World.block_lt_of_cell? w _ x0;have rx0:=Rd.mk (t:=x) hkx hvx
    have hszr:w.heap.size+2<=wr.heap.size:=by have:=(Array.getElem?_eq_some_iff.1 z2').1; omega
    have hBr:B < wr.heap.size:=(Array.getElem?_eq_some_iff.1 q1').1;have HXX:=Lib.hid hx1;have HR:=Lib.hid hR;have HX:=Lib.hid hx;have HRR:=Lib.hid rR;have HXC:=Lib.hid (And.intro x0 (And.intro x1 (And.intro x2 (And.intro x3 x4))));clear hx rR hR hx1 x0 x1 x2 x3 x4
    go_wp2
    rename_i K hK;have HK:=Lib.hid hK;clear hK b0 b1 b2 b3 b4 bf a0 a1 a2 a3 a4 af
    refine wp_region_call (by rfl) (by kernel_rfl) [1,3,4] (by kernel_rfl) 9 (by decide) R.ownBlock.toList
     (fun j u V=>match j with
      | 0=>u=.pointer (some ⟨B,4,none⟩)
      | 1=>u=R
      | 2=>u=.pointer (some ⟨w.heap.size,4,none⟩)
      | 3=>u=.slice (some ⟨ge,0,none⟩) t.vals.length qv
      | 4=>u=.int .i64 n
      | 5=>u=.pointer (some ⟨ge,n * 5,none⟩)
      | 6=>u=.agg #[.int .i64 x.kind,.int .i64 x.num,.string x.txt,kx,vx]
      | 7=>Rd (fun b=>wr.heap.size<=b) V x u
      | 8=>∃ g v,u=.slice (some ⟨g,0,none⟩) 1 1/\wr.heap.size<=g/\Rd (fun b=>wr.heap.size<=b) V x v/\∀ i c,v.cells[i]?=some c->V.cell? ⟨g,i,none⟩=some c
      | 9=>∃ xs',V.ownsRow (w.heap.size+2) 32 5 u (n+1) xs'/\FlatV (Off (w.heap.size+2) B u) V (t.vals.take n++[x]) xs'/\∃ g c,u=.slice (some ⟨g,0,none⟩) (n+1) c/\w.heap.size+2<=g/\g < V.heap.size/\(R.ownBlock=some g∨wr.heap.size<=g)
      | 10=>u=.pointer (some ⟨B,4,none⟩)
      | _=>True) ?_ ?_ ?_ ?_ ?_
    ·intro j u V V' hc hφ
     rcases j with _ | _ | _ | _ | _ | _ | _ | _ | _ | _ | _ | j
     all_goals first | exact hφ | skip
     ·exact Rd.chg hφ hc
     ·obtain ⟨g,v,rfl,hg,hr,hcl⟩:=hφ
      exact ⟨g,v,rfl,hg,hr.chg hc,fun i c h=>(hc.cells.1 _ _ (World.block_lt_of_cell? V _ (hcl i c h))).trans (hcl i c h)⟩
     ·obtain ⟨xs',ho,hf,g,c,rfl,h1,h2,h3⟩:=hφ
      exact ⟨xs',ownsRow_frame ho (hc.block g h2 (by simp)),hf.mono fun b hb _=>hc.block b hb (by simp),g,c,rfl,h1,Nat.lt_of_lt_of_le h2 hc.size,h3⟩
    ·intro j u V V' hj9 hc hφ
     have hfar:∀ b,b < V.heap.size->wr.heap.size<=b->V'.heap[b]?=V.heap[b]?:=fun b hb hle=>hc.block b hb (by
      intro hm
      have:=(HR.out b (by simpa using hm)).2.1
      omega)
     rcases j with _ | _ | _ | _ | _ | _ | _ | _ | _ | _ | _ | j
     all_goals first | exact hφ | skip
     ·exact hφ.mono fun b hb ho=>hfar b hb ho
     ·obtain ⟨g,v,rfl,hg,hr,hcl⟩:=hφ
      exact ⟨g,v,rfl,hg,hr.mono fun b hb ho=>hfar b hb ho,fun i c h=>(World.cell?_of_block (hfar g (World.block_lt_of_cell? V _ (hcl i c h)) hg)).trans (hcl i c h)⟩
     ·exact absurd rfl hj9
    ·intro j oo hj hj9 ho a' w' hst hch hwt hdep K2 hK2
     have hF:∀ b,b < w.heap.size+2->w'.heap[b]?=wr.heap[b]?:=fun b hb=>hch.block b (by show b < wr.heap.size; omega) (fun hm=>by
      have:=(HR.out b (by simpa using hm)).1
      omega)
     have hsz:wr.heap.size<=w'.heap.size:=hch.size;obtain ⟨b0,b1,b2,b3,b4,bf⟩:=cells5 ((hch.block B (by show B < wr.heap.size; omega) (fun hm=>(HR.out B (by simpa using hm)).2.2.1 rfl)).trans q1');obtain ⟨a0,a1,a2,a3,a4,af⟩:=cells5 ((hF w.heap.size (by omega)).trans z1');obtain ⟨x0,x1,x2,x3,x4⟩:=HXC.out
     have hgo:∀ b,b < w.heap.size->w'.heap[b]?=w.heap[b]?:=fun b hb=>(hF b (by omega)).trans (hcr.block b hb (by simp))
     have y0:=(World.cell?_of_block (a:=⟨ge,n * 5,none⟩) (hgo ge hge)).trans x0;have y1:=(World.cell?_of_block (a:=⟨ge,n * 5+1,none⟩) (hgo ge hge)).trans x1;have y2:=(World.cell?_of_block (a:=⟨ge,n * 5+2,none⟩) (hgo ge hge)).trans x2;have y3:=(World.cell?_of_block (a:=⟨ge,n * 5+3,none⟩) (hgo ge hge)).trans x3;have y4:=(World.cell?_of_block (a:=⟨ge,n * 5+4,none⟩) (hgo ge hge)).trans x4;clear x0 x1 x2 x3 x4
     have rx:Rd o w' x (.agg #[.int .i64 x.kind,.int .i64 x.num,.string x.txt,kx,vx]):=rx0.mono fun b hb _=>hgo b hb
     have hj':j < 11:=hj;rcases j with _ | _ | _ | _ | _ | _ | _ | _ | _ | _ | _ | j
     ·obtain rfl:_=oo:=Option.some.inj ho
      have h3:=g_eq (t:=3) (v:=.pointer (some ⟨B,0,none⟩)) (hst 3 (by simp));unfold Oper.wp;go_simp;exact ⟨_,rfl,hK2 _ _ (Chg.refl _ _) rfl⟩
     ·obtain rfl:_=oo:=Option.some.inj ho
      have h23:=g_eq (t:=23) (v:=.pointer (some ⟨B,4,none⟩)) (hdep 0 (by kernel_rfl));unfold Oper.wp;go_simp;exact ⟨_,rfl,hK2 _ _ (Chg.refl _ _) rfl⟩
     ·obtain rfl:_=oo:=Option.some.inj ho
      have h1:=g_eq (t:=1) (v:=.pointer (some ⟨w.heap.size,0,none⟩)) (hst 1 (by simp));unfold Oper.wp;go_simp;exact ⟨_,rfl,hK2 _ _ (Chg.refl _ _) rfl⟩
     ·obtain rfl:_=oo:=Option.some.inj ho
      have h25:=g_eq (t:=25) (v:=.pointer (some ⟨w.heap.size,4,none⟩)) (hdep 2 (by kernel_rfl));unfold Oper.wp;go_simp;exact ⟨_,rfl,hK2 _ _ (Chg.refl _ _) rfl⟩
     ·obtain rfl:_=oo:=Option.some.inj ho
      have h4:=g_eq (t:=4) (v:=.int .i64 n) (hst 4 (by simp));unfold Oper.wp;go_simp;exact ⟨_,rfl,hK2 _ _ (Chg.refl _ _) rfl⟩
     ·obtain rfl:_=oo:=Option.some.inj ho
      have h26:=g_eq (t:=26) (v:=.slice (some ⟨ge,0,none⟩) t.vals.length qv) (hdep 3 (by kernel_rfl));have h27:=g_eq (t:=27) (v:=.int .i64 n) (hdep 4 (by kernel_rfl));unfold Oper.wp;go_simp;exact ⟨_,rfl,hK2 _ _ (Chg.refl _ _) rfl⟩
     ·obtain rfl:_=oo:=Option.some.inj ho
      have h28:=g_eq (t:=28) (v:=.pointer (some ⟨ge,n * 5,none⟩)) (hdep 5 (by kernel_rfl));unfold Oper.wp;go_simp;exact ⟨_,rfl,hK2 _ _ (Chg.refl _ _) rfl⟩
     ·obtain rfl:_=oo:=Option.some.inj ho
      have h29:=g_eq (t:=29) (v:=.agg #[.int .i64 x.kind,.int .i64 x.num,.string x.txt,kx,vx]) (hdep 6 (by kernel_rfl));unfold Oper.wp;go_simp;refine (ih x _ w' (by omega) (by omega) rx).mono ?_;rintro e w3 ⟨v',rfl,hc3,hr3⟩;exact ⟨_,rfl,hK2 _ _ hc3 (hr3.weak fun b hb=>Nat.le_trans hch.size hb)⟩
     ·obtain rfl:_=oo:=Option.some.inj ho
      have hr30:Rd (fun b=>wr.heap.size<=b) w' x (Act.g a' 30):=hdep 7 (by kernel_rfl);generalize h30:Act.g a' 30=vv at hr30;obtain ⟨A3,q3,A4,q4,rfl,_⟩:=hr30.five;have h30:=g_eq (t:=30) h30;unfold Oper.wp;go_simp;refine ⟨_,rfl,hK2 _ _ ((Chg.refl [] w').al _) ⟨w'.heap.size,_,rfl,hch.size,hr30.chg ((Chg.refl [] w').al _),?_⟩⟩;obtain ⟨n0,n1,n2,n3,n4,_⟩:=cells5 (heap_alloc_new w' (.cells #[.int .i64 x.kind,.int .i64 x.num,.string x.txt,.slice A3 x.keys.length q3,.slice A4 x.vals.length q4] 32))
      intro i c hc
      rcases i with _ | _ | _ | _ | _ | i
      all_goals first | (cases hc; assumption) | (simp [Value.cells] at hc)
     ·exact absurd rfl hj9
     ·obtain rfl:_=oo:=Option.some.inj ho
      have h3:=g_eq (t:=3) (v:=.pointer (some ⟨B,0,none⟩)) (hst 3 (by simp));unfold Oper.wp;go_simp;exact ⟨_,rfl,hK2 _ _ (Chg.refl _ _) rfl⟩
     ·omega
    ·intro oo ho a' w' hst hch hdep
     obtain rfl:_=oo:=Option.some.inj ho;have hsz:wr.heap.size<=w'.heap.size:=hch.size;have h24:=g_eq (t:=24) (v:=R) (hdep 1 (by kernel_rfl));obtain ⟨g1,v,h31,hg1,hr,hcl⟩ : ∃ g v,Act.g a' 31=.slice (some ⟨g,0,none⟩) 1 1/\wr.heap.size<=g/\Rd (fun b=>wr.heap.size<=b) w' x v/\∀ i c,v.cells[i]?=some c->w'.cell? ⟨g,i,none⟩=some c:=hdep 8 (by kernel_rfl);have h31:=g_eq (t:=31) h31;have hx:FlatV (Off (w.heap.size+2) B R) w' (t.vals.take n) xs:=FlatV.mono (w:=wr) (fun b hb _=>hch.block b hb (by simp)) HX.out
     have rR:=ownsRow_keep (w':=w') HRR.out fun g hg=>hch.block g (HR.out g hg).2.1 (by simp)
     obtain ⟨R',w2,hrun,ho,hf,hc,g,c,rfl,h1,h2,h3⟩:=app_one (P:=Tryz.prog) (ty:=30) (c1:=1) uWs iW rfl rR hx hcl (hr.weak fun b hb=>⟨by omega,by omega,fun e=>by have:=(HR.out b e).2.1; omega⟩) (by omega) (by omega) (by omega);exact ⟨_,w2,by simp [execOp,resolve,invoke,builtin,Act.eval,h24,h31,hrun,Result.andThen],hc,_,ho,hf,g,c,rfl,h1,h2,h3.imp id fun h=>by omega⟩
    ·intro oo ho u w' hch hφ A2 hA2
     obtain rfl:_=oo:=Option.some.inj ho
     have l10:10 < 11:=by omega
     have hu10:u 10=.pointer (some ⟨B,4,none⟩):=hφ 10 l10;obtain ⟨xs',hro,hfl,g,c,hu9,hg1,hg2,hg3⟩ : ∃ xs',w'.ownsRow (w.heap.size+2) 32 5 (u 9) (n+1) xs'/\FlatV (Off (w.heap.size+2) B (u 9)) w' (t.vals.take n++[x]) xs'/\∃ g c,u 9=.slice (some ⟨g,0,none⟩) (n+1) c/\w.heap.size+2<=g/\g < w'.heap.size/\(R.ownBlock=some g∨wr.heap.size<=g):=hφ 9 (Nat.lt_trans (by decide:9 < 10) l10);rw [hu9] at hro hfl
     have hF:∀ b,b < w.heap.size+2->w'.heap[b]?=wr.heap[b]?:=fun b hb=>hch.block b (by show b < wr.heap.size; omega) (fun hm=>by
      have:=(HR.out b (by simpa using hm)).1
      omega)
     have hsz:wr.heap.size<=w'.heap.size:=hch.size
     have hgB:g≠B/\g≠gk:=by
      have hgk:gk < wr.heap.size:=rk'.lt gk rfl |>.2;rcases hg3 with h | h
      ·exact (HR.out g h).2.2
      ·constructor <;> omega
     have hB2:=(hch.block B (by show B < wr.heap.size; omega) (fun hm=>(HR.out B (by simpa using hm)).2.2.1 rfl)).trans q1'
     have hk2:=(hch.block gk (rk'.lt gk rfl).2 (fun hm=>(HR.out gk (by simpa using hm)).2.2.2 rfl))
     simp [putAll,dOf,Act.put,hu9,hu10] at hA2;subst hA2;clear hφ l10 ho hu9 hu10;obtain ⟨b0,b1,b2,b3,b4,bf⟩:=cells5 hB2;unfold Oper.wp;go_simp;refine HK.out _ _ ?_;clear HK b0 b1 b2 b3 b4 bf
     have hneB:∀ b,b≠B->(w'.setCell ⟨B,4,none⟩ (.slice (some ⟨g,0,none⟩) (n+1) c)).heap[b]?=w'.heap[b]?:=fun b hb=>heap_setCell_other _ _ _ _ hb
     have Q1:=heap_setCell_same _ B 4 _ _ (.slice (some ⟨g,0,none⟩) (n+1) c) hB2;have Z1:=(hneB w.heap.size (by omega)).trans ((hF _ (by omega)).trans z1');have Z2:=(hneB (w.heap.size+1) (by omega)).trans ((hF _ (by omega)).trans z2');have RK:=ownsRow_frame rk' ((hneB gk hBk).trans hk2);have RR:=ownsRow_frame hro (hneB g hgB.1)
     have HFL:FlatV (Off (w.heap.size+2) B (.slice (some ⟨g,0,none⟩) (n+1) c)) _ (t.vals.take n++[x]) xs':=hfl.mono (w':=w'.setCell ⟨B,4,none⟩ (.slice (some ⟨g,0,none⟩) (n+1) c)) fun b _ ho=>hneB b ho.2.1
     have HC:Chg [] w (w'.setCell ⟨B,4,none⟩ (.slice (some ⟨g,0,none⟩) (n+1) c)):=(hcr.trans ((Chg.refl R.ownBlock.toList wr).dr.trans hch (New.refl _ _)) (fun y hy=>.inr (by
      have:=(HR.out y (by simpa using hy)).1
      omega))).st (by show w.heap.size<=B; omega) _
     have hgs:g < (w'.setCell ⟨B,4,none⟩ (.slice (some ⟨g,0,none⟩) (n+1) c)).heap.size:=by simpa using hg2
     revert Q1 Z1 Z2 RK RR HFL HC hgs
     generalize w'.setCell ⟨B,4,none⟩ (.slice (some ⟨g,0,none⟩) (n+1) c)=W2
     intro Q1 Z1 Z2 RK RR HFL HC hgs
     go_wp2
     go_roundg (t.vals.length - (n+1))
     case measure=>omega
     case rel=>
      refine ⟨n+1,_,xs',by omega,rfl,by go_num,HC,by simpa using Q1,Z1,Z2,RK,RR,by rw [take_snoc HXX.out]; exact HFL,fun g' hg'=>?_⟩
      have:g=g':=by simpa [Value.ownBlock] using hg'
      subst this;exact ⟨hg1,hgs,hgB⟩
   ·have HE:=Lib.hid (show n=t.vals.length by omega)
    have HX:=Lib.hid hx;have HRR:=Lib.hid rR;have HRK:=Lib.hid rk';obtain ⟨d0,d1,d2,d3,d4,df⟩:=cells5 z2';obtain ⟨RA,RC,rfl⟩:=ownsRow_slice rR;clear hx rR rk' hR
    go_wp2
    obtain rfl:n=t.vals.length:=HE.out;have Z:=setCells5 wr (w.heap.size+1) (.int .i64 t.kind) (.int .i64 t.num) (.string t.txt) (.slice (some ⟨gk,0,none⟩) t.keys.length ck) (.slice RA t.vals.length RC) z2';have hne:=setCells5_ne wr (w.heap.size+1) (.int .i64 t.kind) (.int .i64 t.num) (.string t.txt) (.slice (some ⟨gk,0,none⟩) t.keys.length ck) (.slice RA t.vals.length RC);have hcE:=setCells5_chg hcr (by omega:w.heap.size<=w.heap.size+1) (.int .i64 t.kind) (.int .i64 t.num) (.string t.txt) (.slice (some ⟨gk,0,none⟩) t.keys.length ck) (.slice RA t.vals.length RC)
    have RK:=RdK.of_own (o:=fun b=>w.heap.size<=b) (ks:=t.keys) (fun b hb=>by omega) (ownsRow_keep HRK.out fun g hg=>hne g (by
     have:=(ownsRow_own HRK.out hg).1
     omega))
    have hxs:FlatV (fun b=>w.heap.size<=b) _ (t.vals.take t.vals.length) xs:=HX.out.to (w':=(((((wr.setCell ⟨w.heap.size+1,0,none⟩ (.int .i64 t.kind)).setCell ⟨w.heap.size+1,1,none⟩ (.int .i64 t.num)).setCell ⟨w.heap.size+1,2,none⟩ (.string t.txt)).setCell ⟨w.heap.size+1,3,none⟩ (.slice (some ⟨gk,0,none⟩) t.keys.length ck)).setCell ⟨w.heap.size+1,4,none⟩ (.slice RA t.vals.length RC))) fun b hb ho=>⟨by have:=ho.1; omega,hne b (by have:=ho.1; omega)⟩
    rw [List.take_length] at hxs
    have RV:=RdV.of_own (o:=fun b=>w.heap.size<=b) (fun b hb=>by omega) (ownsRow_keep HRR.out fun g hg=>hne g (by
     have:=(ownsRow_own HRR.out hg).1
     omega)) hxs
    obtain ⟨e0,e1,e2,e3,e4,_⟩:=cells5 Z;refine bodyPost_ret (v:=.agg #[.int .i64 t.kind,.int .i64 t.num,.string t.txt,.slice (some ⟨gk,0,none⟩) t.keys.length ck,.slice RA t.vals.length RC]) (by simp [results,Tryz.results12,go_sem,e0,e1,e2,e3,e4]) rfl ⟨_,rfl,hcE,Rd.mk RK RV⟩
end Go.Proofs.YtpofkokbmifhgaaGreatDoor
