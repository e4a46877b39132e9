/- Parts of the walk, made small by wip/tools/pack.py: SameD, Use. No condition but those in each statement. -/
import Derived.Test.YtpofkokbmifhgaaGreatDoorK06
import Derived.Test.YtpofkokbmifhgaaGreatDoorK14
set_option maxRecDepth 100000
set_option maxHeartbeats 20000000
set_option linter.unusedVariables false
set_option linter.unusedSimpArgs false
namespace Go.Proofs.YtpofkokbmifhgaaGreatDoor
open Go.RowKit
variable {o:Nat->Prop}
theorem T.ext5:∀ {a b:T},a.kind=b.kind->a.num=b.num->a.txt=b.txt->a.keys=b.keys->a.vals=b.vals->a=b:=by
 intro a b h0 h1 h2 h3 h4
 cases a with
 | null=>cases b with
  | null=>rfl
  | _=>simp [T.kind] at h0
 | bool p=>cases b with
  | bool q=>cases p <;> cases q <;> simp [T.num] at h1 ⊢
  | _=>simp [T.kind] at h0
 | int p=>cases b with
  | int q=>simp only [T.num] at h1; rw [h1]
  | _=>simp [T.kind] at h0
 | text p=>cases b with
  | text q=>simp only [T.txt] at h2; rw [h2]
  | _=>simp [T.kind] at h0
 | list p=>cases b with
  | list q=>simp only [T.vals] at h4; rw [h4]
  | _=>simp [T.kind] at h0
 | map m=>cases b with
  | map n=>
   simp only [T.keys,T.vals] at h3 h4
   have e1:=List.zip_unzip m
   have e2:=List.zip_unzip n
   rw [List.unzip_eq_map] at e1 e2
   simp only [h3,h4] at e1
   exact congrArg T.map (e1.symm.trans e2)
  | _=>simp [T.kind] at h0
noncomputable def sameT (a b:T):Bool:=@decide (a=b) (Classical.propDecidable _)
theorem sameT_t {a b:T} (h:a=b):sameT a b=true:=by unfold sameT; exact @decide_eq_true (a=b) (Classical.propDecidable _) h
theorem sameT_f {a b:T} (h:a≠b):sameT a b=false:=by unfold sameT; exact @decide_eq_false (a=b) (Classical.propDecidable _) h
theorem list_ext_of {α:Type} {l l':List α} {n:Nat} (hl:l'.length=l.length) (hn:n=l.length) (h:∀ j,j < n->l[j]?=l'[j]?):l=l':=List.ext_getElem? fun j=>by
 by_cases hj:j < n
 ·exact h j hj
 ·rw [List.getElem?_eq_none (by omega),List.getElem?_eq_none (by omega)]
theorem same_dec (n:Nat):∀ (t t2:T) (va vb:Value) (w:World),T.size t<=n->T.size t<=67108864->Rd o w t va->Rd o w t2 vb ->
  Calls Tryz.prog 14 #[va,vb] w fun e w'=>e=.returned (.bool (sameT t t2))/\Chg [] w w':=by
 induction n with
 | zero=>exact fun t _ _ _ _ hn=>absurd hn (by have:=T.size_pos t; omega)
 | succ nn ih=>
  intro t t2 va vb w hn hb h h'
  have hvl:=T.vals_len t
  have hkl:=T.keys_vals t
  obtain ⟨Ak,qk,Av,qv,rfl,hk,hv⟩:=h.five
  obtain ⟨Bk,pk,Bv,pv,rfl,hk',hv'⟩:=h'.five
  by_cases hne:t.kind=t2.kind/\t.num=t2.num/\t.txt=t2.txt/\t2.keys.length=t.keys.length/\t2.vals.length=t.vals.length
  case neg=>
   have hn2:Hid (t≠t2):=Lib.hid fun e=>hne (by rw [e]; exact ⟨rfl,rfl,rfl,rfl,rfl⟩)
   go_enter Tryz.func14,Tryz.ntmps14
   have leave:∀ W,Chg [] w W->(Ending.returned (.bool false):Ending)=.returned (.bool (sameT t t2))/\Chg [] w W:=fun W hW=>⟨by rw [sameT_f hn2.out],hW⟩
   have LV:=Lib.hid leave
   clear leave
   by_cases e0:t.kind=t2.kind
   case neg=>
    have f0:(t.kind != t2.kind)=true:=by simpa using e0
    clear hne e0
    go_wp2
    go_ret
    exact LV.out _ (((Chg.refl [] w).al _).al _)
   have f0:(t.kind != t2.kind)=false:=by simpa using e0
   by_cases e1:t.num=t2.num
   case neg=>
    have f1:(t.num != t2.num)=true:=by simpa using e1
    clear hne e0 e1
    go_wp2
    go_ret
    exact LV.out _ (((Chg.refl [] w).al _).al _)
   have f1:(t.num != t2.num)=false:=by simpa using e1
   by_cases e2:t.txt=t2.txt
   case neg=>
    have f2:(t.txt.toList == t2.txt.toList)=false:=by rw [eqS]; simpa using e2
    clear hne e0 e1 e2
    go_wp2
    go_ret
    exact LV.out _ (((Chg.refl [] w).al _).al _)
   have f2:(t.txt.toList == t2.txt.toList)=true:=by rw [eqS]; simpa using e2
   by_cases e3:t2.keys.length=t.keys.length
   case neg=>
    have f3:((t.keys.length:Int) != (t2.keys.length:Int))=true:=by simp; omega
    clear hne e0 e1 e2 e3
    go_wp2
    go_ret
    exact LV.out _ (((Chg.refl [] w).al _).al _)
   have f3:((t.keys.length:Int) != (t2.keys.length:Int))=false:=by simp; omega
   have f4:((t.vals.length:Int) != (t2.vals.length:Int))=true:=by
    simp only [bne_iff_ne,ne_eq]
    intro e
    exact hne ⟨e0,e1,e2,e3,by omega⟩
   clear hne e0 e1 e2 e3
   go_wp2
   go_ret
   exact LV.out _ (((Chg.refl [] w).al _).al _)
  obtain ⟨e0,e1,e2,e3,e4⟩:=hne
  have HEQ:=Lib.hid (And.intro e0 (And.intro e1 e2))
  have HL:=Lib.hid (And.intro e3 e4)
  rw [<- e0,<- e1,<- e2,e3,e4]
  clear e0 e1 e2 e3 e4
  go_enter Tryz.func14,Tryz.ntmps14
  go_wp2
  go_loopg [5] t.keys.length (fun g i wr=>∃ n d:Nat,n<=t.keys.length/\g=t.keys.length - n/\i=.int .i64 n/\Hid (∀ j,j < n->t.keys[j]?=t2.keys[j]?)/\((w.alloc (.cells #[.int .i64 t.kind,.int .i64 t.num,.string t.txt,.slice Ak t.keys.length qk,.slice Av t.vals.length qv] 25)).alloc (.cells #[.int .i64 t.kind,.int .i64 t.num,.string t.txt,.slice Bk t.keys.length pk,.slice Bv t.vals.length pv] 25)).drewN d=wr)
  case atStart=>exact ⟨0,0,Nat.zero_le _,by omega,rfl,Lib.hid fun j hj=>absurd hj (Nat.not_lt_zero _),rfl⟩
  case round=>
   obtain ⟨n,d,hn',rfl,rfl,HKS,rfl⟩:=hrel
   by_cases hlt:n < t.keys.length
   ·obtain ⟨s,hs⟩ : ∃ s,t.keys[n]?=some s:=⟨_,List.getElem?_eq_getElem hlt⟩
    obtain ⟨s2,hs2⟩ : ∃ s2,t2.keys[n]?=some s2:=⟨_,List.getElem?_eq_getElem (by rw [HL.out.1]; exact hlt)⟩
    obtain ⟨g1,c1,e1,hc1,hx1⟩:=hk.at_ hs
    obtain ⟨g2,c2,e2,hc2,hx2⟩:=hk'.at_ hs2
    rw [HL.out.1] at e2
    cases e1
    cases e2
    have hg1:g1 < w.heap.size:=World.block_lt_of_cell? w _ hx1
    have hg2:g2 < w.heap.size:=World.block_lt_of_cell? w _ hx2
    by_cases he:s=s2
    ·subst he
     have HS:=Lib.hid (And.intro hs hs2)
     clear hs hs2
     go_wp2
     go_quiet (fail)
     go_wp2
     go_roundg (t.keys.length - (n+1))
     case measure=>omega
     case rel=>exact ⟨n+1,_,by omega,rfl,by go_num,Lib.hid fun j hj=>by
       rcases Nat.lt_succ_iff_lt_or_eq.1 hj with h | rfl
       ·exact HKS.out j h
       ·rw [HS.out.1,HS.out.2],rfl⟩
    ·have hf:(s.toList == s2.toList)=false:=by rw [eqS]; simpa using he
     have HN:Hid (t≠t2):=Lib.hid fun e=>by
      rw [e,hs2] at hs
      exact he (Option.some.inj hs).symm
     clear hs hs2 he
     go_wp2
     go_quiet (fail)
     go_wp2
     go_ret
     exact ⟨by rw [sameT_f HN.out]; rfl,((((Chg.refl [] w).al _).al _).drN _).drN _⟩
   ·have HE:=Lib.hid (list_ext_of HL.out.1 (show n=t.keys.length by omega) HKS.out)
    clear HKS
    go_wp2
    go_loopg [6] t.vals.length (fun g i wr=>∃ n:Nat,n<=t.vals.length/\g=t.vals.length - n/\i=.int .i64 n/\Chg [] w wr/\Hid (∀ j,j < n->t.vals[j]?=t2.vals[j]?) /\
     wr.heap[w.heap.size]?=some (.cells #[.int .i64 t.kind,.int .i64 t.num,.string t.txt,.slice Ak t.keys.length qk,.slice Av t.vals.length qv] 25) /\
     wr.heap[w.heap.size+1]?=some (.cells #[.int .i64 t.kind,.int .i64 t.num,.string t.txt,.slice Bk t.keys.length pk,.slice Bv t.vals.length pv] 25))
    case atStart=>
     refine ⟨0,Nat.zero_le _,by omega,rfl,(((Chg.refl [] w).al _).al _).drN _,Lib.hid fun j hj=>absurd hj (Nat.not_lt_zero _),?_,?_⟩
     ·exact (heap_alloc_old _ _ _ (by simp)).trans (heap_alloc_new _ _)
     ·have h1:∀ o,(w.alloc o).heap.size=w.heap.size+1:=fun o=>by simp
      have:=heap_alloc_new (w.alloc (.cells #[.int .i64 t.kind,.int .i64 t.num,.string t.txt,.slice Ak t.keys.length qk,.slice Av t.vals.length qv] 25)) (.cells #[.int .i64 t.kind,.int .i64 t.num,.string t.txt,.slice Bk t.keys.length pk,.slice Bv t.vals.length pv] 25)
      rw [h1] at this
      exact this
    case round=>
     obtain ⟨n2,hn2,rfl,rfl,hcr,HVS,z2,z3⟩:=hrel
     obtain ⟨a0,a1,a2,a3,a4,_⟩:=cells5 z2
     obtain ⟨b0,b1,b2,b3,b4,_⟩:=cells5 z3
     by_cases hlt2:n2 < t.vals.length
     ·obtain ⟨x,hx⟩ : ∃ x,t.vals[n2]?=some x:=⟨_,List.getElem?_eq_getElem hlt2⟩
      obtain ⟨g1,c1,ka,va,e1,hc1,hka,hva,x0,x1,x2,x3,x4⟩:=hv.at_ hx
      obtain ⟨y,hy⟩ : ∃ y,t2.vals[n2]?=some y:=⟨_,List.getElem?_eq_getElem (by rw [HL.out.2]; exact hlt2)⟩
      obtain ⟨g2,c2,kb,vb,e2,hc2,hkb,hvb,y0,y1,y2,y3,y4⟩:=hv'.at_ hy
      rw [HL.out.2] at e2
      cases e1
      cases e2
      have hxs:=T.sizeL_at hx
      have hts:=T.size_vals t
      have rx:=Rd.mk (t:=x) hka hva
      have ry:=Rd.mk (t:=y) hkb hvb
      have HXY:=Lib.hid (And.intro hx hy)
      clear hx hy
      have hgw1:g1 < w.heap.size:=World.block_lt_of_cell? w _ x0
      have hgw2:g2 < w.heap.size:=World.block_lt_of_cell? w _ y0
      go_wp2
      rename_i K hK
      have HK:=Lib.hid hK
      clear hK
      refine wp_region_all (by rfl) (by kernel_rfl) [2,3,6] (by kernel_rfl)
       (fun j u V=>match j with
        | 0=>u=.pointer (some ⟨w.heap.size,4,none⟩)
        | 1=>u=.slice (some ⟨g1,0,none⟩) t.vals.length qv
        | 2=>u=.int .i64 n2
        | 3=>u=.pointer (some ⟨g1,n2 * 5,none⟩)
        | 4=>u=.agg #[.int .i64 x.kind,.int .i64 x.num,.string x.txt,ka,va]
        | 5=>u=.pointer (some ⟨w.heap.size+1,4,none⟩)
        | 6=>u=.slice (some ⟨g2,0,none⟩) t.vals.length pv
        | 7=>u=.int .i64 n2
        | 8=>u=.pointer (some ⟨g2,n2 * 5,none⟩)
        | 9=>u=.agg #[.int .i64 y.kind,.int .i64 y.num,.string y.txt,kb,vb]
        | 10=>u=.bool (sameT x y)
        | 11=>u=.bool (!sameT x y)
        | _=>True) ?_ ?_ ?_
      ·intro j u V V' hc hφ
       rcases j with _ | _ | _ | _ | _ | _ | _ | _ | _ | _ | _ | _ | j <;> exact hφ
      ·intro j o hj ho a' w' hst hch hdep K2 hK2
       have h2:=g_eq (t:=2) (v:=.pointer (some ⟨w.heap.size,0,none⟩)) (hst 2 (by simp))
       have h3:=g_eq (t:=3) (v:=.pointer (some ⟨w.heap.size+1,0,none⟩)) (hst 3 (by simp))
       have h6:=g_eq (t:=6) (v:=.int .i64 n2) (hst 6 (by simp))
       have hcw:Chg [] w w':=hcr.trans ((Chg.refl [] _).dr.trans hch New.nil) New.nil
       have hsz1:w.heap.size+1 < wr.heap.size:=(Array.getElem?_eq_some_iff.1 z3).1
       have a4':w'.cell? ⟨w.heap.size,4,none⟩=_:=(World.cell?_of_block (hch.block w.heap.size (by show w.heap.size < wr.heap.size; omega) (by simp))).trans a4
       have b4':w'.cell? ⟨w.heap.size+1,4,none⟩=_:=(World.cell?_of_block (hch.block (w.heap.size+1) (by show w.heap.size+1 < wr.heap.size; omega) (by simp))).trans b4
       have hj':j < 12:=hj
       rcases j with _ | _ | _ | _ | _ | _ | _ | _ | _ | _ | _ | _ | j
       ·obtain rfl:_=o:=Option.some.inj ho
        unfold Oper.wp
        go_simp
        exact ⟨_,rfl,hK2 _ _ (Chg.refl _ _) rfl⟩
       ·obtain rfl:_=o:=Option.some.inj ho
        have h69:=g_eq (t:=69) (v:=.pointer (some ⟨w.heap.size,4,none⟩)) (hdep 0 (by kernel_rfl))
        unfold Oper.wp
        go_simp
        exact ⟨_,rfl,hK2 _ _ (Chg.refl _ _) rfl⟩
       ·obtain rfl:_=o:=Option.some.inj ho
        unfold Oper.wp
        go_simp
        exact ⟨_,rfl,hK2 _ _ (Chg.refl _ _) rfl⟩
       ·obtain rfl:_=o:=Option.some.inj ho
        have h70:=g_eq (t:=70) (v:=.slice (some ⟨g1,0,none⟩) t.vals.length qv) (hdep 1 (by kernel_rfl))
        have h71:=g_eq (t:=71) (v:=.int .i64 n2) (hdep 2 (by kernel_rfl))
        unfold Oper.wp
        go_simp
        exact ⟨_,rfl,hK2 _ _ (Chg.refl _ _) rfl⟩
       ·obtain rfl:_=o:=Option.some.inj ho
        have h72:=g_eq (t:=72) (v:=.pointer (some ⟨g1,n2 * 5,none⟩)) (hdep 3 (by kernel_rfl))
        have x0':=(hcw.cells.1 _ _ hgw1).trans x0
        have x1':=(hcw.cells.1 _ _ hgw1).trans x1
        have x2':=(hcw.cells.1 _ _ hgw1).trans x2
        have x3':=(hcw.cells.1 _ _ hgw1).trans x3
        have x4':=(hcw.cells.1 _ _ hgw1).trans x4
        unfold Oper.wp
        go_simp
        exact ⟨_,rfl,hK2 _ _ (Chg.refl _ _) rfl⟩
       ·obtain rfl:_=o:=Option.some.inj ho
        unfold Oper.wp
        go_simp
        exact ⟨_,rfl,hK2 _ _ (Chg.refl _ _) rfl⟩
       ·obtain rfl:_=o:=Option.some.inj ho
        have h74:=g_eq (t:=74) (v:=.pointer (some ⟨w.heap.size+1,4,none⟩)) (hdep 5 (by kernel_rfl))
        unfold Oper.wp
        go_simp
        exact ⟨_,rfl,hK2 _ _ (Chg.refl _ _) rfl⟩
       ·obtain rfl:_=o:=Option.some.inj ho
        unfold Oper.wp
        go_simp
        exact ⟨_,rfl,hK2 _ _ (Chg.refl _ _) rfl⟩
       ·obtain rfl:_=o:=Option.some.inj ho
        have h75:=g_eq (t:=75) (v:=.slice (some ⟨g2,0,none⟩) t.vals.length pv) (hdep 6 (by kernel_rfl))
        have h76:=g_eq (t:=76) (v:=.int .i64 n2) (hdep 7 (by kernel_rfl))
        unfold Oper.wp
        go_simp
        exact ⟨_,rfl,hK2 _ _ (Chg.refl _ _) rfl⟩
       ·obtain rfl:_=o:=Option.some.inj ho
        have h77:=g_eq (t:=77) (v:=.pointer (some ⟨g2,n2 * 5,none⟩)) (hdep 8 (by kernel_rfl))
        have y0':=(hcw.cells.1 _ _ hgw2).trans y0
        have y1':=(hcw.cells.1 _ _ hgw2).trans y1
        have y2':=(hcw.cells.1 _ _ hgw2).trans y2
        have y3':=(hcw.cells.1 _ _ hgw2).trans y3
        have y4':=(hcw.cells.1 _ _ hgw2).trans y4
        unfold Oper.wp
        go_simp
        exact ⟨_,rfl,hK2 _ _ (Chg.refl _ _) rfl⟩
       ·obtain rfl:_=o:=Option.some.inj ho
        have h73:=g_eq (t:=73) (v:=.agg #[.int .i64 x.kind,.int .i64 x.num,.string x.txt,ka,va]) (hdep 4 (by kernel_rfl))
        have h78:=g_eq (t:=78) (v:=.agg #[.int .i64 y.kind,.int .i64 y.num,.string y.txt,kb,vb]) (hdep 9 (by kernel_rfl))
        unfold Oper.wp
        go_simp
        refine (ih x y _ _ w' (by omega) (by omega) (rx.chg hcw) (ry.chg hcw)).mono ?_
        rintro e w3 ⟨rfl,hc3⟩
        exact ⟨_,rfl,hK2 _ _ hc3 rfl⟩
       ·obtain rfl:_=o:=Option.some.inj ho
        have h79:=g_eq (t:=79) (v:=.bool (sameT x y)) (hdep 10 (by kernel_rfl))
        unfold Oper.wp
        go_simp
        exact ⟨_,rfl,hK2 _ _ (Chg.refl _ _) rfl⟩
       ·omega
      ·intro u w' hch hφ A2 hA2
       have l11:11 < 12:=by omega
       have hu11:u 11=.bool (!sameT x y):=hφ 11 l11
       simp [putAll,dOf,Act.put,hu11] at hA2
       subst hA2
       clear hφ l11 hu11
       have hsz1:w.heap.size+1 < wr.heap.size:=(Array.getElem?_eq_some_iff.1 z3).1
       have z2':=(hch.block w.heap.size (by show w.heap.size < wr.heap.size; omega) (by simp)).trans z2
       have z3':=(hch.block (w.heap.size+1) (by show w.heap.size+1 < wr.heap.size; omega) (by simp)).trans z3
       have hcw:Chg [] w w':=hcr.trans ((Chg.refl [] _).dr.trans hch New.nil) New.nil
       refine HK.out _ _ ?_
       clear HK
       by_cases exy:x=y
       ·have f5:(!sameT x y)=false:=by rw [sameT_t exy]; rfl
        have HN:Hid (∀ j,j < n2+1->t.vals[j]?=t2.vals[j]?):=Lib.hid fun j hj=>by
         rcases Nat.lt_succ_iff_lt_or_eq.1 hj with h | rfl
         ·exact HVS.out j h
         ·rw [HXY.out.1,HXY.out.2,exy]
        rw [f5]
        clear f5 exy
        go_wp2
        go_roundg (t.vals.length - (n2+1))
        case measure=>omega
        case rel=>exact ⟨n2+1,by omega,rfl,by go_num,hcw,HN,z2',z3'⟩
       ·have f5:(!sameT x y)=true:=by rw [sameT_f exy]; rfl
        have HN:Hid (t≠t2):=Lib.hid fun e=>exy (by
         have h1:=HXY.out.1
         rw [e,HXY.out.2] at h1
         exact (Option.some.inj h1).symm)
        rw [f5]
        clear f5 exy
        go_wp2
        go_ret
        exact ⟨by rw [sameT_f HN.out]; rfl,hcw⟩
     ·have HV:=Lib.hid (T.ext5 HEQ.out.1 HEQ.out.2.1 HEQ.out.2.2 HE.out (list_ext_of HL.out.2 (show n2=t.vals.length by omega) HVS.out))
      go_wp2
      go_ret
      exact ⟨by rw [sameT_t HV.out]; rfl,hcr⟩
end Go.Proofs.YtpofkokbmifhgaaGreatDoor
namespace Go.Proofs.YtpofkokbmifhgaaGreatDoor
open Go.RowKit
variable {o:Nat->Prop}
theorem tg_eq (k:ByteArray) (t:T):tg k t=tget k t:=by cases t <;> rfl
theorem RdV.litF {w:World} {g:Nat} {xs:Array Value} {e:TypeId} {l:List T} (ho:o g) (h:w.heap[g]?=some (.cells xs e)) (hx:FlatV o w l xs.toList):RdV o w l (.slice (some ⟨g,0,none⟩) l.length l.length):=by
 refine ⟨_,_,rfl,Nat.le_refl _,fun _=>⟨g,rfl,ho,hx.row 0 fun i u hu=>?_⟩⟩
 rw [Nat.zero_mul,Nat.zero_add]
 have hu':xs[i]?=some u:=by simpa using hu
 simp only [World.cell?,h]
 simpa using hu'
theorem specL (l:List T) (v:Value) (w:World) (h:RdV o w l v) (hl:l.length<=67108864) (hno:∀ b,w.heap.size<=b->o b):Calls Tryz.prog 66 #[v] w fun e w'=>∃ v',e=.returned v'/\Chg [] w w'/\Rd o w' (.list l) v':=by
 obtain ⟨A,c,rfl,hlc,hrd⟩:=id h
 obtain ⟨xs,hxs,hsrc⟩:=h.src
 have HAPP:Hid (∃ v' w',(Builtin.append_ #[23,23] 23 #[.slice (some ⟨w.heap.size+1,0,none⟩) 0 0,.slice A l.length c]).run Tryz.prog ((w.alloc (.cells #[.int .i64 0,.int .i64 0,.string ⟨#[]⟩,.slice none 0 0,.slice none 0 0] 25)).alloc (.cells #[] 25))=.ok v' w'/\(Chg [] w w'/\w'.heap[w.heap.size]?=some (.cells #[.int .i64 0,.int .i64 0,.string ⟨#[]⟩,.slice none 0 0,.slice none 0 0] 25)/\∃ g' c',v'=.slice (some ⟨g',0,none⟩) l.length c'/\RdV (Ex o [w.heap.size]) w' l v')):=Lib.hid (by
  have hown:((w.alloc (.cells #[.int .i64 0,.int .i64 0,.string ⟨#[]⟩,.slice none 0 0,.slice none 0 0] 25)).alloc (.cells #[] 25)).ownsRow (w.heap.size+1) 25 5 (.slice (some ⟨w.heap.size+1,0,none⟩) 0 0) 0 []:=⟨rfl,.inr ⟨_,0,#[],rfl,Nat.le_refl _,heap_alloc_at _ _ _ (by simp),Nat.le_refl _,by simp [maxLen],rfl,rfl⟩⟩
  have hc0:Chg [] w ((w.alloc (.cells #[.int .i64 0,.int .i64 0,.string ⟨#[]⟩,.slice none 0 0,.slice none 0 0] 25)).alloc (.cells #[] 25)):=((Chg.refl [] w).al _).al _
  obtain ⟨v',w',hr,ho,hc,g',c',rfl,hg1,hg2⟩:=run_append_copy (P:=Tryz.prog) (w.heap.size+1) 23 23 25 _ 5 80 uVs iV rfl (w.heap.size+1) hown A l.length c xs (by rw [hxs.length]) (fun h0=>by
   obtain ⟨b,e,hb⟩:=hsrc h0
   refine ⟨b,e,fun j u hu=>?_⟩
   have hbl:=World.block_lt_of_cell? w _ (hb j u hu)
   exact (hc0.cells.1 _ _ hbl).trans (hb j u hu)) (by omega) (by omega)
  have hcw:=hc0.trans hc New.nil
  refine ⟨_,w',hr,hcw,?_,g',c',rfl,?_⟩
  ·rw [hc.block w.heap.size (by simp; omega) (by simp)]
   exact heap_al1 w _ _
  ·refine RdV.of_own' rfl (fun b hb=>⟨hno b (by omega),by simp; omega⟩) ho ?_
   exact (hxs.to (o':=Ex o [w.heap.size]) fun b hb ho=>⟨⟨ho,by simp; omega⟩,hcw.block b hb (by simp)⟩))
 clear h hrd hxs hsrc
 go_enter Tryz.func66,Tryz.ntmps66
 go_wp2_with (first | (at_builtin; refine wpList_app rfl _ _ _ rfl rfl rfl HAPP.out ?_) | fail)
 rintro R' w1 hc1 hz1 g' c' rfl hr1
 have hrl:Rd (Ex o [w.heap.size]) w1 (.list l) (.agg #[.int .i64 (T.list l).kind,.int .i64 (T.list l).num,.string (T.list l).txt,.slice none (T.list l).keys.length 0,.slice (some ⟨g',0,none⟩) (T.list l).vals.length c']):=Rd.mk (t:=.list l) (RdK.nil _) hr1
 obtain ⟨z0,z1,z2,z3,z4,zf⟩:=cells5 hz1
 obtain ⟨W,hW,QW,hcW,hrW⟩:=ret5 hz1 hc1 (Nat.le_refl _) hrl (by simp)
 have HR:=Lib.hid hrW
 clear hrl hr1 hrW HAPP
 go_wp2_with fail
 rw [show (((((w1.setCell ⟨w.heap.size,0,none⟩ (.int .i64 4)).setCell ⟨w.heap.size,1,none⟩ (.int .i64 0)).setCell ⟨w.heap.size,2,none⟩ (.string ⟨#[]⟩)).setCell ⟨w.heap.size,3,none⟩ (.slice none 0 0)).setCell ⟨w.heap.size,4,none⟩ (.slice (some ⟨g',0,none⟩) l.length c'))=W from hW.symm]
 clear hW
 obtain ⟨f0,f1,f2,f3,f4,_⟩:=cells5 QW
 go_wp2
 refine bodyPost_ret (v:=.agg #[.int .i64 (T.list l).kind,.int .i64 (T.list l).num,.string (T.list l).txt,.slice none (T.list l).keys.length 0,.slice (some ⟨g',0,none⟩) (T.list l).vals.length c']) (by simp [results,Tryz.results66,go_sem,f0,f1,f2,f3,f4]) rfl ⟨_,rfl,hcW,HR.out⟩
theorem useT_other {k:ByteArray} {t:T} (hk:k≠cPorts) (h3:t.kind≠3):useT k t=(tget cTarget t).getD .null:=by
 rw [<- tg_eq]
 cases t <;> first | (exact absurd rfl h3) | (simp only [useT,if_neg hk])
theorem useT_port {t:T} (h3:t.kind≠3):useT cPorts t=.list [(tget cTarget t).getD .null,(tget cPublished t).getD .null,(tget cProtocol t).getD .null,(tget cHostIp t).getD .null]:=by
 rw [<- tg_eq,<- tg_eq,<- tg_eq,<- tg_eq]
 cases t <;> first | (exact absurd rfl h3) | (simp only [useT,if_true])
theorem mergeUse_any (k:ByteArray) (t:T) (v:Value) (w:World) (h:Rd o w t v) (hf:Fine t) (hno:∀ b,w.heap.size<=b->o b):Calls Tryz.prog 63 #[.string k,v] w fun e w'=>∃ v',e=.returned v'/\Chg [] w w'/\Rd o w' (useT k t) v':=by
 obtain ⟨A3,q3,A4,q4,rfl,hk,hv⟩:=h.five
 have hkl:=hf.len
 have hsrt:=Lib.hid hf.wf.srt
 have HR:Hid (∀ W,Chg [] w W->Rd (Ex o [w.heap.size+1]) W t (.agg #[.int .i64 t.kind,.int .i64 t.num,.string t.txt,.slice A3 t.keys.length q3,.slice A4 t.vals.length q4])):=Lib.hid fun W hc=>(h.ex (by simp)).chg hc
 clear h hk hv
 go_enter Tryz.func63,Tryz.ntmps63
 go_upto_region 1 with fail
 obtain ⟨w1,hw⟩ : ∃ W:World,W=(w.alloc (.cells #[.int .i64 t.kind,.int .i64 t.num,.string t.txt,.slice A3 t.keys.length q3,.slice A4 t.vals.length q4] 25)).alloc (.cells #[.int .i64 0,.int .i64 0,.string ⟨#[]⟩,.slice none 0 0,.slice none 0 0] 25):=⟨_,rfl⟩
 rw [<- hw]
 have c1:Chg [] w w1:=hw ▸ ((Chg.refl [] w).al _).al _
 have zt1:w1.heap[w.heap.size]?=some (.cells #[.int .i64 t.kind,.int .i64 t.num,.string t.txt,.slice A3 t.keys.length q3,.slice A4 t.vals.length q4] 25):=hw ▸ heap_al1 w _ _
 have zz1:w1.heap[w.heap.size+1]?=some (.cells #[.int .i64 0,.int .i64 0,.string ⟨#[]⟩,.slice none 0 0,.slice none 0 0] 25):=hw ▸ heap_al2 w _ _
 clear hw
 obtain ⟨a0,a1,a2,a3,a4,af⟩:=cells5 zt1
 obtain ⟨z0,z1,z2,z3,z4,zf⟩:=cells5 zz1
 by_cases hk3:t.kind=3
 ·have n3:((t.kind:Int) == 3)=true:=by simp; omega
  have hu:Hid (useT k t=t):=Lib.hid (by obtain ⟨s,rfl⟩:=text_of hk3; rfl)
  have hrx:Rd (Ex o [w.heap.size+1]) w1 t (.agg #[.int .i64 t.kind,.int .i64 t.num,.string t.txt,.slice A3 t.keys.length q3,.slice A4 t.vals.length q4]):=HR.out _ c1
  clear hk3
  obtain ⟨W,hW,QW,hcW,hrW⟩:=ret5 zz1 c1 (by omega) hrx (by simp)
  have HRW:=Lib.hid hrW
  clear hrx hrW
  go_wp2_with fail
  rw [<- hW]
  clear hW
  obtain ⟨f0,f1,f2,f3,f4,_⟩:=cells5 QW
  go_wp2
  refine bodyPost_ret (v:=(.agg #[.int .i64 t.kind,.int .i64 t.num,.string t.txt,.slice A3 t.keys.length q3,.slice A4 t.vals.length q4])) (by simp [results,Tryz.results63,go_sem,f0,f1,f2,f3,f4]) rfl ⟨_,rfl,hcW,by rw [hu.out]; exact HRW.out⟩
 have n3:((t.kind:Int) == 3)=false:=by simp; omega
 have HK3:=Lib.hid hk3
 clear hk3
 by_cases hp:k=cPorts
 case neg=>
  have f1:(k.toList == [112,111,114,116,115])=false:=ne_toList hp (by kernel_rfl)
  have HP:=Lib.hid hp
  clear hp
  go_wp2_with fail
  refine (get_any t _ ⟨#[116,97,114,103,101,116]⟩ _ (HR.out _ c1) hsrt.out hkl.2.2).mono ?_
  rintro e u1 ⟨v',rfl,hcu,hr⟩
  obtain ⟨y1,hy⟩ : ∃ y,y=(tget ⟨#[116,97,114,103,101,116]⟩ t).getD .null:=⟨_,rfl⟩
  rw [<- hy] at hr
  generalize (tget ⟨#[116,97,114,103,101,116]⟩ t).isSome=bb1
  have HY1:=Lib.hid hy
  clear hy
  obtain ⟨B1,p1,C1,s1,rfl,_⟩:=hr.five
  obtain ⟨w2,hw⟩ : ∃ W:World,W=u1.alloc (.cells #[.int .i64 y1.kind,.int .i64 y1.num,.string y1.txt,.slice B1 y1.keys.length p1,.slice C1 y1.vals.length s1] 25):=⟨_,rfl⟩
  have hc12:Chg [] w1 w2:=hw ▸ hcu.al _
  have c2:=c1.trans hc12 New.nil
  have hrE1:Hid (Rd (Ex o [w.heap.size+1]) w2 y1 (.agg #[.int .i64 y1.kind,.int .i64 y1.num,.string y1.txt,.slice B1 y1.keys.length p1,.slice C1 y1.vals.length s1])):=Lib.hid (hw ▸ hr.chg ((Chg.refl [] u1).al _))
  have zy1:w2.heap[u1.heap.size]?=some (.cells #[.int .i64 y1.kind,.int .i64 y1.num,.string y1.txt,.slice B1 y1.keys.length p1,.slice C1 y1.vals.length s1] 25):=hw ▸ heap_alloc_new _ _
  have zt2:=box5 zt1 _ hc12
  have zz2:=box5 zz1 _ hc12
  clear hr hcu a0 a1 a2 a3 a4 af z0 z1 z2 z3 z4 zf
  obtain ⟨z0,z1,z2,z3,z4,zf⟩:=cells5 zz2
  have hu:Hid (useT k t=y1):=Lib.hid (by rw [HY1.out]; exact useT_other HP.out HK3.out)
  have hrx:Rd (Ex o [w.heap.size+1]) w2 y1 (.agg #[.int .i64 y1.kind,.int .i64 y1.num,.string y1.txt,.slice B1 y1.keys.length p1,.slice C1 y1.vals.length s1]):=hrE1.out
  go_upto_region 10 with fail
  rw [<- hw]
  clear hw
  obtain ⟨d0,d1,d2,d3,d4,df⟩:=cells5 zy1
  obtain ⟨W,hW,QW,hcW,hrW⟩:=ret5 zz2 c2 (by omega) hrx (by simp)
  have HRW:=Lib.hid hrW
  clear hrx hrW
  go_wp2_with fail
  rw [<- hW]
  clear hW
  obtain ⟨f0,f1,f2,f3,f4,_⟩:=cells5 QW
  go_wp2
  refine bodyPost_ret (v:=(.agg #[.int .i64 y1.kind,.int .i64 y1.num,.string y1.txt,.slice B1 y1.keys.length p1,.slice C1 y1.vals.length s1])) (by simp [results,Tryz.results63,go_sem,f0,f1,f2,f3,f4]) rfl ⟨_,rfl,hcW,by rw [hu.out]; exact HRW.out⟩
 subst hp
 go_wp2_with fail
 refine (get_any t _ ⟨#[104,111,115,116,95,105,112]⟩ _ (HR.out _ c1) hsrt.out hkl.2.2).mono ?_
 rintro e u1 ⟨v',rfl,hcu,hr⟩
 obtain ⟨y1,hy⟩ : ∃ y,y=(tget ⟨#[104,111,115,116,95,105,112]⟩ t).getD .null:=⟨_,rfl⟩
 rw [<- hy] at hr
 generalize (tget ⟨#[104,111,115,116,95,105,112]⟩ t).isSome=bb1
 have HY1:=Lib.hid hy
 clear hy
 obtain ⟨B1,p1,C1,s1,rfl,_⟩:=hr.five
 obtain ⟨w2,hw⟩ : ∃ W:World,W=u1.alloc (.cells #[.int .i64 y1.kind,.int .i64 y1.num,.string y1.txt,.slice B1 y1.keys.length p1,.slice C1 y1.vals.length s1] 25):=⟨_,rfl⟩
 have hc12:Chg [] w1 w2:=hw ▸ hcu.al _
 have c2:=c1.trans hc12 New.nil
 have hrE1:Hid (Rd (Ex o [w.heap.size+1]) w2 y1 (.agg #[.int .i64 y1.kind,.int .i64 y1.num,.string y1.txt,.slice B1 y1.keys.length p1,.slice C1 y1.vals.length s1])):=Lib.hid (hw ▸ hr.chg ((Chg.refl [] u1).al _))
 have zy1:w2.heap[u1.heap.size]?=some (.cells #[.int .i64 y1.kind,.int .i64 y1.num,.string y1.txt,.slice B1 y1.keys.length p1,.slice C1 y1.vals.length s1] 25):=hw ▸ heap_alloc_new _ _
 have zt2:=box5 zt1 _ hc12
 have zz2:=box5 zz1 _ hc12
 clear hr hcu a0 a1 a2 a3 a4 af
 go_upto_region 5 with fail
 rw [<- hw]
 clear hw
 obtain ⟨a0,a1,a2,a3,a4,af⟩:=cells5 zt2
 go_wp2_with fail
 refine (get_any t _ ⟨#[116,97,114,103,101,116]⟩ _ (HR.out _ c2) hsrt.out hkl.2.2).mono ?_
 rintro e u2 ⟨v',rfl,hcu,hr⟩
 obtain ⟨y2,hy⟩ : ∃ y,y=(tget ⟨#[116,97,114,103,101,116]⟩ t).getD .null:=⟨_,rfl⟩
 rw [<- hy] at hr
 generalize (tget ⟨#[116,97,114,103,101,116]⟩ t).isSome=bb2
 have HY2:=Lib.hid hy
 clear hy
 obtain ⟨B2,p2,C2,s2,rfl,_⟩:=hr.five
 obtain ⟨w3,hw⟩ : ∃ W:World,W=u2.alloc (.cells #[.int .i64 y2.kind,.int .i64 y2.num,.string y2.txt,.slice B2 y2.keys.length p2,.slice C2 y2.vals.length s2] 25):=⟨_,rfl⟩
 have hc23:Chg [] w2 w3:=hw ▸ hcu.al _
 have c3:=c2.trans hc23 New.nil
 have hrE2:Hid (Rd (Ex o [w.heap.size+1]) w3 y2 (.agg #[.int .i64 y2.kind,.int .i64 y2.num,.string y2.txt,.slice B2 y2.keys.length p2,.slice C2 y2.vals.length s2])):=Lib.hid (hw ▸ hr.chg ((Chg.refl [] u2).al _))
 have zy2:w3.heap[u2.heap.size]?=some (.cells #[.int .i64 y2.kind,.int .i64 y2.num,.string y2.txt,.slice B2 y2.keys.length p2,.slice C2 y2.vals.length s2] 25):=hw ▸ heap_alloc_new _ _
 have zt3:=box5 zt2 _ hc23
 have zz3:=box5 zz2 _ hc23
 clear hr hcu a0 a1 a2 a3 a4 af
 go_upto_region 6 with fail
 rw [<- hw]
 clear hw
 obtain ⟨a0,a1,a2,a3,a4,af⟩:=cells5 zt3
 go_wp2_with fail
 refine (get_any t _ ⟨#[112,117,98,108,105,115,104,101,100]⟩ _ (HR.out _ c3) hsrt.out hkl.2.2).mono ?_
 rintro e u3 ⟨v',rfl,hcu,hr⟩
 obtain ⟨y3,hy⟩ : ∃ y,y=(tget ⟨#[112,117,98,108,105,115,104,101,100]⟩ t).getD .null:=⟨_,rfl⟩
 rw [<- hy] at hr
 generalize (tget ⟨#[112,117,98,108,105,115,104,101,100]⟩ t).isSome=bb3
 have HY3:=Lib.hid hy
 clear hy
 obtain ⟨B3,p3,C3,s3,rfl,_⟩:=hr.five
 obtain ⟨w4,hw⟩ : ∃ W:World,W=u3.alloc (.cells #[.int .i64 y3.kind,.int .i64 y3.num,.string y3.txt,.slice B3 y3.keys.length p3,.slice C3 y3.vals.length s3] 25):=⟨_,rfl⟩
 have hc34:Chg [] w3 w4:=hw ▸ hcu.al _
 have c4:=c3.trans hc34 New.nil
 have hrE3:Hid (Rd (Ex o [w.heap.size+1]) w4 y3 (.agg #[.int .i64 y3.kind,.int .i64 y3.num,.string y3.txt,.slice B3 y3.keys.length p3,.slice C3 y3.vals.length s3])):=Lib.hid (hw ▸ hr.chg ((Chg.refl [] u3).al _))
 have zy3:w4.heap[u3.heap.size]?=some (.cells #[.int .i64 y3.kind,.int .i64 y3.num,.string y3.txt,.slice B3 y3.keys.length p3,.slice C3 y3.vals.length s3] 25):=hw ▸ heap_alloc_new _ _
 have zt4:=box5 zt3 _ hc34
 have zz4:=box5 zz3 _ hc34
 clear hr hcu a0 a1 a2 a3 a4 af
 go_upto_region 7 with fail
 rw [<- hw]
 clear hw
 obtain ⟨a0,a1,a2,a3,a4,af⟩:=cells5 zt4
 go_wp2_with fail
 refine (get_any t _ ⟨#[112,114,111,116,111,99,111,108]⟩ _ (HR.out _ c4) hsrt.out hkl.2.2).mono ?_
 rintro e u4 ⟨v',rfl,hcu,hr⟩
 obtain ⟨y4,hy⟩ : ∃ y,y=(tget ⟨#[112,114,111,116,111,99,111,108]⟩ t).getD .null:=⟨_,rfl⟩
 rw [<- hy] at hr
 generalize (tget ⟨#[112,114,111,116,111,99,111,108]⟩ t).isSome=bb4
 have HY4:=Lib.hid hy
 clear hy
 obtain ⟨B4,p4,C4,s4,rfl,_⟩:=hr.five
 obtain ⟨w5,hw⟩ : ∃ W:World,W=u4.alloc (.cells #[.int .i64 y4.kind,.int .i64 y4.num,.string y4.txt,.slice B4 y4.keys.length p4,.slice C4 y4.vals.length s4] 25):=⟨_,rfl⟩
 have hc45:Chg [] w4 w5:=hw ▸ hcu.al _
 have c5:=c4.trans hc45 New.nil
 have hrE4:Hid (Rd (Ex o [w.heap.size+1]) w5 y4 (.agg #[.int .i64 y4.kind,.int .i64 y4.num,.string y4.txt,.slice B4 y4.keys.length p4,.slice C4 y4.vals.length s4])):=Lib.hid (hw ▸ hr.chg ((Chg.refl [] u4).al _))
 have zy4:w5.heap[u4.heap.size]?=some (.cells #[.int .i64 y4.kind,.int .i64 y4.num,.string y4.txt,.slice B4 y4.keys.length p4,.slice C4 y4.vals.length s4] 25):=hw ▸ heap_alloc_new _ _
 have zt5:=box5 zt4 _ hc45
 have zz5:=box5 zz4 _ hc45
 clear hr hcu a0 a1 a2 a3 a4 af
 go_upto_region 8 with fail
 rw [<- hw]
 clear hw
 obtain ⟨a0,a1,a2,a3,a4,af⟩:=cells5 zt5
 obtain ⟨d10,d11,d12,d13,d14,d1f⟩:=cells5 (box5 zy1 _ ((hc23.trans hc34 New.nil).trans hc45 New.nil))
 obtain ⟨d20,d21,d22,d23,d24,d2f⟩:=cells5 (box5 zy2 _ (hc34.trans hc45 New.nil))
 obtain ⟨d30,d31,d32,d33,d34,d3f⟩:=cells5 (box5 zy3 _ hc45)
 obtain ⟨d40,d41,d42,d43,d44,d4f⟩:=cells5 zy4
 obtain ⟨w6,hw6⟩ : ∃ W:World,W=w5.alloc (.cells #[.int .i64 y2.kind,.int .i64 y2.num,.string y2.txt,.slice B2 y2.keys.length p2,.slice C2 y2.vals.length s2,.int .i64 y3.kind,.int .i64 y3.num,.string y3.txt,.slice B3 y3.keys.length p3,.slice C3 y3.vals.length s3,.int .i64 y4.kind,.int .i64 y4.num,.string y4.txt,.slice B4 y4.keys.length p4,.slice C4 y4.vals.length s4,.int .i64 y1.kind,.int .i64 y1.num,.string y1.txt,.slice B1 y1.keys.length p1,.slice C1 y1.vals.length s1] 25):=⟨_,rfl⟩
 have hrow:w6.heap[w5.heap.size]?=some (.cells #[.int .i64 y2.kind,.int .i64 y2.num,.string y2.txt,.slice B2 y2.keys.length p2,.slice C2 y2.vals.length s2,.int .i64 y3.kind,.int .i64 y3.num,.string y3.txt,.slice B3 y3.keys.length p3,.slice C3 y3.vals.length s3,.int .i64 y4.kind,.int .i64 y4.num,.string y4.txt,.slice B4 y4.keys.length p4,.slice C4 y4.vals.length s4,.int .i64 y1.kind,.int .i64 y1.num,.string y1.txt,.slice B1 y1.keys.length p1,.slice C1 y1.vals.length s1] 25):=by rw [hw6]; exact heap_alloc_new _ _
 have c6:Chg [] w w6:=by rw [hw6]; exact c5.al _
 have hc56:Chg [] w5 w6:=by rw [hw6]; exact (Chg.refl [] w5).al _
 have zz6:=box5 zz5 _ hc56
 have hru:Rd (Ex o [w.heap.size+1]) w6 y1 (.agg #[.int .i64 y1.kind,.int .i64 y1.num,.string y1.txt,.slice B1 y1.keys.length p1,.slice C1 y1.vals.length s1]):=hrE1.out.chg ((hc23.trans hc34 New.nil).trans (hc45.trans hc56 New.nil) New.nil)
 have hru2:Rd (Ex o [w.heap.size+1]) w6 y2 (.agg #[.int .i64 y2.kind,.int .i64 y2.num,.string y2.txt,.slice B2 y2.keys.length p2,.slice C2 y2.vals.length s2]):=hrE2.out.chg (hc34.trans (hc45.trans hc56 New.nil) New.nil)
 have hru3:Rd (Ex o [w.heap.size+1]) w6 y3 (.agg #[.int .i64 y3.kind,.int .i64 y3.num,.string y3.txt,.slice B3 y3.keys.length p3,.slice C3 y3.vals.length s3]):=hrE3.out.chg (hc45.trans hc56 New.nil)
 have hru4:Rd (Ex o [w.heap.size+1]) w6 y4 (.agg #[.int .i64 y4.kind,.int .i64 y4.num,.string y4.txt,.slice B4 y4.keys.length p4,.slice C4 y4.vals.length s4]):=hrE4.out.chg hc56
 have hszz:w.heap.size+1 < w5.heap.size:=(Array.getElem?_eq_some_iff.1 zz5).1
 have hc5s:=hc56.size
 have HROW:Hid (RdV (Ex o [w.heap.size+1]) w6 [y2,y3,y4,y1] (.slice (some ⟨w5.heap.size,0,none⟩) 4 4)):=Lib.hid (RdV.litF (l:=[y2,y3,y4,y1]) ⟨hno _ (by omega),by simp; omega⟩ hrow ⟨_,_,hru2,rfl,_,_,hru3,rfl,_,_,hru4,rfl,_,_,hru,rfl,rfl⟩)
 clear hrow hru hru2 hru3 hru4
 go_wp2_with fail
 rw [<- hw6]
 clear hw6
 refine (specL (o:=Ex o [w.heap.size+1]) [y2,y3,y4,y1] _ _ HROW.out (by simp) (Ex.no hno (by omega) (by simp; omega))).mono ?_
 rintro e w7 ⟨v7,rfl,hc67,hr7⟩
 have c7:=c6.trans hc67 New.nil
 have zz7:=box5 zz6 _ hc67
 obtain ⟨E5,r5,E6,r6,rfl,_⟩:=hr7.five
 obtain ⟨g0,g1,g2,g3,g4,gf⟩:=cells5 zz7
 have hu:Hid (useT cPorts t=.list [y2,y3,y4,y1]):=Lib.hid (by rw [HY1.out,HY2.out,HY3.out,HY4.out]; exact useT_port HK3.out)
 obtain ⟨W,hW,QW,hcW,hrW⟩:=ret5 zz7 c7 (by omega) hr7 (by simp)
 have HRW:=Lib.hid hrW
 clear hr7 hrW
 go_wp2_with fail
 rw [<- hW]
 clear hW
 obtain ⟨f0,f1,f2,f3,f4,_⟩:=cells5 QW
 go_wp2
 refine bodyPost_ret (v:=(.agg #[.int .i64 (T.list [y2,y3,y4,y1]).kind,.int .i64 (T.list [y2,y3,y4,y1]).num,.string (T.list [y2,y3,y4,y1]).txt,.slice E5 (T.list [y2,y3,y4,y1]).keys.length r5,.slice E6 (T.list [y2,y3,y4,y1]).vals.length r6])) (by simp [results,Tryz.results63,go_sem,f0,f1,f2,f3,f4]) rfl ⟨_,rfl,hcW,by rw [hu.out]; exact HRW.out⟩
end Go.Proofs.YtpofkokbmifhgaaGreatDoor
