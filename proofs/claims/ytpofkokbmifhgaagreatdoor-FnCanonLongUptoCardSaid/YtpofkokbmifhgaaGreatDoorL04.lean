/- Parts of the walk, made small by wip/tools/pack.py: With. No condition but those in each statement. -/
import Derived.Test.YtpofkokbmifhgaaGreatDoorL02
import Derived.Test.YtpofkokbmifhgaaGreatDoorL03
set_option maxRecDepth 100000
set_option maxHeartbeats 20000000
set_option linter.unusedVariables false
set_option linter.unusedSimpArgs false
namespace Go.Proofs.YtpofkokbmifhgaaGreatDoor
open Go.RowKit
variable {o:Nat->Prop}
theorem g_eq {a:Act} {t:Nat} {v:Value} (h:Act.g a t=v):a.tmps[t]?.getD undef=v:=by simpa [Act.g] using h
theorem RdK.src {w:World} {ks:List ByteArray} {A:Option Addr} {n c:Nat} (h:RdK o w ks (.slice A n c)):0 < n->∃ b,A=some ⟨b,0,none⟩/\∀ j u,(strC ks)[j]?=some u->w.cell? ⟨b,j,none⟩=some u:=by
 obtain ⟨A',c',e,hc,hcell⟩:=h
 cases e
 intro h0
 obtain ⟨g,rfl,_,hg⟩:=hcell h0;refine ⟨g,rfl,fun j u hu=>?_⟩;simp only [strC,List.getElem?_map,Option.map_eq_some_iff] at hu;obtain ⟨s,hs,rfl⟩:=hu;exact hg j s hs
theorem RdV.src {w:World} {l:List T} {A:Option Addr} {n c:Nat} (h:RdV o w l (.slice A n c)):∃ xs,FlatV o w l xs/\(0 < n->∃ b,A=some ⟨b,0,none⟩/\∀ j u,xs[j]?=some u->w.cell? ⟨b,j,none⟩=some u):=by
 obtain ⟨A',c',e,hc,hcell⟩:=h
 cases e
 by_cases h0:0 < l.length
 ·obtain ⟨g,rfl,_,hg⟩:=hcell h0
  obtain ⟨xs,hx,hxc⟩:=hg.flat
  exact ⟨xs,hx,fun _=>⟨g,rfl,fun j u hu=>by simpa using hxc j u hu⟩⟩
 ·have:l=[]:=List.eq_nil_of_length_eq_zero (by omega)
  subst this;exact ⟨[],by simp [FlatV],fun h=>absurd h h0⟩
theorem alloc3 (w:World) (o1 o2 o3:Obj):(((w.alloc o1).alloc o2).alloc o3).drew.heap[w.heap.size]?=some o1/\(((w.alloc o1).alloc o2).alloc o3).drew.heap[w.heap.size+1]?=some o2/\(((w.alloc o1).alloc o2).alloc o3).drew.heap[w.heap.size+1+1]?=some o3:=by
 have h1:(w.alloc o1).heap.size=w.heap.size+1:=by simp
 have h2:((w.alloc o1).alloc o2).heap.size=w.heap.size+1+1:=by simp
 refine ⟨?_,?_,?_⟩
 ·exact (heap_alloc_old _ _ _ (by omega)).trans ((heap_alloc_old _ _ _ (by omega)).trans (heap_alloc_new _ _))
 ·refine (heap_alloc_old _ _ _ (by omega)).trans ?_
  rw [<- h1];exact heap_alloc_new _ _
 ·show ((((w.alloc o1).alloc o2).alloc o3).heap)[w.heap.size+1+1]?=some o3
  rw [<- h2];exact heap_alloc_new _ _
theorem rows_ne {w:World} {b b' e e' s s' g g' n n' c c':Nat} {xs xs':List Value} (h:w.ownsRow b e s (.slice (some ⟨g,0,none⟩) n c) n xs) (h':w.ownsRow b' e' s' (.slice (some ⟨g',0,none⟩) n' c') n' xs') (he:e≠e'):g≠g':=by
 rintro rfl
 rcases h.2 with ⟨h1,_⟩ | ⟨g1,cap1,cur1,h1,_,hg1,_⟩
 ·cases h1
 ·cases h1
  rcases h'.2 with ⟨h1,_⟩ | ⟨g2,cap2,cur2,h1,_,hg2,_⟩
  ·cases h1
  ·cases h1
   rw [hg1] at hg2
   cases hg2
   exact he rfl
def withK (k:ByteArray) (ks:List ByteArray):List ByteArray:=if ks[posK k ks]?=some k then ks else ks.take (posK k ks)++k :: ks.drop (posK k ks)
def withV (k:ByteArray) (ks:List ByteArray) (vs:List T) (x:T):List T:=if ks[posK k ks]?=some k then vs.set (posK k ks) x else vs.take (posK k ks)++x :: vs.drop (posK k ks)
theorem FlatV.append {w:World}:∀ {l l':List T} {xs ys:List Value},FlatV o w l xs->FlatV o w l' ys->FlatV o w (l++l') (xs++ys)
 | [],l',xs,ys,h,h'=>by simp only [FlatV] at h; subst h; exact h'
 | t :: l,l',xs,ys,h,h'=>by
  simp only [FlatV,List.cons_append] at h ⊢;obtain ⟨v,zs,hv,rfl,hz⟩:=h;exact ⟨v,zs++ys,hv,by rw [List.append_assoc],hz.append h'⟩
theorem FlatV.take {w:World}:∀ {l:List T} {xs:List Value} (i:Nat),FlatV o w l xs->FlatV o w (l.take i) (xs.take (i * 5))
 | l,xs,0,_=>by simp [FlatV]
 | [],xs,i+1,h=>by simp only [FlatV] at h; subst h; simp [FlatV]
 | t :: l,xs,i+1,h=>by
  simp only [FlatV,List.take_succ_cons] at h ⊢;obtain ⟨v,zs,hv,rfl,hz⟩:=h;refine ⟨v,zs.take (i * 5),hv,?_,hz.take i⟩;rw [List.take_append,hv.size,List.take_of_length_le (l:=v.cells.toList) (i:=(i+1) * 5) (by rw [hv.size]; omega)]
  congr 2
  omega
theorem FlatV.drop {w:World}:∀ {l:List T} {xs:List Value} (i:Nat),FlatV o w l xs->FlatV o w (l.drop i) (xs.drop (i * 5))
 | l,xs,0,h=>by simpa using h
 | [],xs,i+1,h=>by simp only [FlatV] at h; subst h; simp [FlatV]
 | t :: l,xs,i+1,h=>by
  simp only [FlatV,List.drop_succ_cons] at h ⊢;obtain ⟨v,zs,hv,rfl,hz⟩:=h;rw [List.drop_append,hv.size,List.drop_of_length_le (l:=v.cells.toList) (i:=(i+1) * 5) (by rw [hv.size]; omega),List.nil_append,show (i+1) * 5 - 5=i * 5 by omega];exact hz.drop i
theorem FlatV.set {w:World} {t':T} {c0 c1 c2 c3 c4:Value} (h':Rd o w t' (.agg #[c0,c1,c2,c3,c4])):∀ {l:List T} {xs:List Value} (i:Nat),FlatV o w l xs->FlatV o w (l.set i t') (((((xs.set (i * 5) c0).set (i * 5+1) c1).set (i * 5+2) c2).set (i * 5+3) c3).set (i * 5+4) c4)
 | [],xs,i,h=>by simp only [FlatV] at h; subst h; simp [FlatV]
 | t :: l,xs,0,h=>by
  simp only [FlatV,List.set_cons_zero] at h ⊢;obtain ⟨v,zs,hv,rfl,hz⟩:=h;refine ⟨_,zs,h',?_,hz⟩;obtain ⟨A3,q3,A4,q4,rfl,_⟩:=hv.five
  rfl
 | t :: l,xs,i+1,h=>by
  simp only [FlatV,List.set_cons_succ] at h ⊢;obtain ⟨v,zs,hv,rfl,hz⟩:=h;refine ⟨v,_,hv,?_,FlatV.set h' i hz⟩;have h5:v.cells.toList.length=5:=hv.size
  have e:∀ (ys:List Value) (j:Nat) (c:Value),(v.cells.toList++ys).set ((i+1) * 5+j) c=v.cells.toList++ys.set (i * 5+j) c:=fun ys j c=>by
   rw [List.set_append_right _ _ (by omega),h5]
   congr 2
   omega
  have e0:=e zs 0 c0;simp only [Nat.add_zero] at e0;rw [e0,e,e,e,e]
theorem FlatV.single {w:World} {t:T} {v:Value} (h:Rd o w t v):FlatV o w [t] v.cells.toList:=by
 simp only [FlatV];exact ⟨v,[],h,by simp,rfl⟩
theorem RdV.of_own' {o:Nat->Prop} {w:World} {base n:Nat} {e:TypeId} {v:Value} {l:List T} {xs:List Value} (hn:l.length=n) (ho:∀ b,base<=b->o b) (h:w.ownsRow base e 5 v n xs) (hx:FlatV o w l xs):RdV o w l v:=by
 subst hn;exact RdV.of_own ho h hx
theorem RdK.of_own' {o:Nat->Prop} {w:World} {base n:Nat} {e:TypeId} {v:Value} {ks:List ByteArray} (hn:ks.length=n) (ho:∀ b,base<=b->o b) (h:w.ownsRow base e 1 v n (strC ks)):RdK o w ks v:=by
 subst hn;exact RdK.of_own ho h
theorem cells5 {w:World} {B:Nat} {e:TypeId} {c0 c1 c2 c3 c4:Value} (h:w.heap[B]?=some (.cells #[c0,c1,c2,c3,c4] e)) :
  w.cell? ⟨B,0,none⟩=some c0/\w.cell? ⟨B,1,none⟩=some c1/\w.cell? ⟨B,2,none⟩=some c2/\w.cell? ⟨B,3,none⟩=some c3/\w.cell? ⟨B,4,none⟩=some c4/\∀ j,w.frozen? ⟨B,j,none⟩=false:=by
 have hc:=fun j=>cell_of_row w B j _ e (0,0) h
 exact ⟨hc 0,hc 1,hc 2,hc 3,hc 4,fun j=>frozen_of_row w B j _ e h⟩
theorem with_any (t x:T) (v vx:Value) (k:ByteArray) (w:World) (h:Rd o w t v) (hx:Rd o w x vx) (hl:t.vals.length<=67108864) (hkv:t.keys.length<=t.vals.length) (hno:∀ b,w.heap.size<=b->o b) :
  Calls Tryz.prog 27 #[v,.string k,vx] w fun e w'=>∃ ka' va',e=.returned (.agg #[.int .i64 5,.int .i64 0,.string ⟨#[]⟩,ka',va'])/\Chg [] w w'/\RdK o w' (withK k t.keys) ka'/\RdV o w' (withV k t.keys t.vals x) va':=by
 obtain ⟨Ak,qk,Av,qv,rfl,hk,hv⟩:=h.five;obtain ⟨A3,q3,A4,q4,rfl,_⟩:=hx.five;have hks:=hk.src;obtain ⟨xs,hxs,hvs⟩:=hv.src;have HKS:=Lib.hid hks;have HVS:=Lib.hid hvs;clear hks hvs
 go_enter Tryz.func27,Tryz.ntmps27
 go_wp2
 rename_i K hK;have HK:=Lib.hid hK;clear hK
 refine wp_region_mono (by rfl) (by kernel_rfl) [3] (by kernel_rfl)
  (fun i u W=>match i with
   | 0=>∃ g,u=.slice (some ⟨g,0,none⟩) 0 0/\W.ownsRow (w.heap.size+3) 9 1 u 0 []
   | 1=>u=.pointer (some ⟨w.heap.size,3,none⟩)
   | 2=>u=.slice Ak t.keys.length qk
   | 3=>∃ g c,u=.slice (some ⟨g,0,none⟩) t.keys.length c/\W.ownsRow (w.heap.size+3) 9 1 u t.keys.length (strC t.keys)
   | 4=>∃ g,u=.slice (some ⟨g,0,none⟩) 0 0/\W.ownsRow (w.heap.size+3) 25 5 u 0 []
   | 5=>u=.pointer (some ⟨w.heap.size,4,none⟩)
   | 6=>u=.slice Av t.vals.length qv
   | 7=>∃ g c,u=.slice (some ⟨g,0,none⟩) t.vals.length c/\W.ownsRow (w.heap.size+3) 25 5 u t.vals.length xs
   | 8=>∃ g1 c1 g2 c2,u=.agg #[.int .i64 5,.int .i64 0,.string ⟨#[]⟩,.slice (some ⟨g1,0,none⟩) t.keys.length c1,.slice (some ⟨g2,0,none⟩) t.vals.length c2] /\
     W.ownsRow (w.heap.size+3) 9 1 (.slice (some ⟨g1,0,none⟩) t.keys.length c1) t.keys.length (strC t.keys)/\W.ownsRow (w.heap.size+3) 25 5 (.slice (some ⟨g2,0,none⟩) t.vals.length c2) t.vals.length xs
   | 9=>∃ g,u=.pointer (some ⟨g,0,none⟩)/\w.heap.size+3<=g/\W.heap[g]?=some (.cells #[.int .i64 0,.int .i64 0,.string ⟨#[]⟩,.slice none 0 0,.slice none 0 0] 25)
   | _=>True) ?_ (fun i=>if i=0∨i=3 then some 0 else if i=4∨i=7∨i=8 then some 1 else if i=9 then some 2 else none)
  (fun i u=>match i,u with | 8,.agg #[_,_,_,_,.slice (some a) _ _]=>some a.block | _,u=>Value.blk u) ?_ ?_
 ·intro i u w1 w2 hc hφ
  have hrow:∀ {e size n c xs g},w1.ownsRow (w.heap.size+3) e size (.slice (some ⟨g,0,none⟩) n c) n xs->w2.ownsRow (w.heap.size+3) e size (.slice (some ⟨g,0,none⟩) n c) n xs:=fun h=>ownsRow_frame h (hc.block _ (ownsRow_lt h) (by simp))
  rcases i with _ | _ | _ | _ | _ | _ | _ | _ | _ | _ | i
  ·obtain ⟨g,rfl,h⟩:=hφ
   exact ⟨g,rfl,hrow h⟩
  ·exact hφ
  ·exact hφ
  ·obtain ⟨g,c,rfl,h⟩:=hφ
   exact ⟨g,c,rfl,hrow h⟩
  ·obtain ⟨g,rfl,h⟩:=hφ
   exact ⟨g,rfl,hrow h⟩
  ·exact hφ
  ·exact hφ
  ·obtain ⟨g,c,rfl,h⟩:=hφ
   exact ⟨g,c,rfl,hrow h⟩
  ·obtain ⟨g1,c1,g2,c2,rfl,h1,h2⟩:=hφ
   exact ⟨g1,c1,g2,c2,rfl,hrow h1,hrow h2⟩
  ·obtain ⟨g,rfl,hg,hh⟩:=hφ
   exact ⟨g,rfl,hg,(hc.block _ (by
    rcases Nat.lt_or_ge g w1.heap.size with h | h
    ·exact h
    ·rw [Array.getElem?_eq_none h] at hh
     cases hh) (by simp)).trans hh⟩
  ·trivial
 ·intro i o hi ho a' w' hst hch hdep
  have h3:=g_eq (t:=3) (v:=.pointer (some ⟨w.heap.size,0,none⟩)) (hst 3 (by simp));have hcw:Chg [] w w':=((((Chg.refl [] w).al _).al _).al _).dr.trans hch New.nil
  have hsz:w.heap.size+3<=w'.heap.size:=by have:=hch.size; simpa using this
  have c3:w'.cell? ⟨w.heap.size,3,none⟩=some (.slice Ak t.keys.length qk):=(hch.cells.1 _ _ (by simp; omega)).trans (by simp [go_sem]);have c4:w'.cell? ⟨w.heap.size,4,none⟩=some (.slice Av t.vals.length qv):=(hch.cells.1 _ _ (by simp; omega)).trans (by simp [go_sem]);have hi':i < 10:=hi;rcases i with _ | _ | _ | _ | _ | _ | _ | _ | _ | _ | i
  ·obtain rfl:_=o:=Option.some.inj ho
   refine ⟨.slice (some ⟨w'.heap.size,0,none⟩) 0 0,w'.alloc (.cells #[] 9),by go_simp,(Chg.refl [] w').al _,⟨_,rfl,?_⟩,?_⟩
   ·exact World.ownsRow_lit w' #[] 0 (by omega) (by decide) rfl
   ·intro c _ b hb
    cases hb
    exact ⟨by simp,.inl (Nat.le_refl _)⟩
  ·obtain rfl:_=o:=Option.some.inj ho
   refine ⟨.pointer (some ⟨w.heap.size,3,none⟩),w',by go_simp,Chg.refl _ _,rfl,fun c hc=>by simp at hc⟩
  ·obtain rfl:_=o:=Option.some.inj ho
   have h11:=g_eq (t:=11) (v:=.pointer (some ⟨w.heap.size,3,none⟩)) (hdep 1 (by kernel_rfl));refine ⟨.slice Ak t.keys.length qk,w',by go_simp,Chg.refl _ _,rfl,fun c hc=>by simp at hc⟩
  ·obtain rfl:_=o:=Option.some.inj ho
   obtain ⟨g,h10,hown⟩:=hdep 0 (by kernel_rfl);have h10:=g_eq (t:=10) (v:=.slice (some ⟨g,0,none⟩) 0 0) (h10);have h12:=g_eq (t:=12) (v:=.slice Ak t.keys.length qk) (hdep 2 (by kernel_rfl));rw [‹Act.g a' _=_›] at hown
   obtain ⟨v',w2,hr,hown2,hc2,g',c',rfl,hlt,hor⟩:=run_append_copy (P:=Tryz.prog) (w:=w') (w.heap.size+3) 22 22 9 (.string ⟨#[]⟩) 1 16 uKs iS rfl g hown Ak t.keys.length qk (strC t.keys) (by simp [strC])
    (fun hpos=>by
     obtain ⟨b,hA,hb⟩:=HKS.out hpos
     exact ⟨b,hA,fun j u hu=>by have:=hb j u hu; exact (hcw.cells.1 _ _ (World.block_lt_of_cell? w _ this)).trans this⟩) (by omega) (by omega)
   refine ⟨_,w2,by simp [execOp,resolve,invoke,builtin,Act.eval,h10,h12,hr,Result.andThen],hc2,⟨g',c',rfl,hown2⟩,?_⟩
   intro c hc b hb
   cases hb
   refine ⟨hlt,?_⟩;rcases hor with rfl | h
   ·exact .inr ⟨0,by kernel_rfl,by simpa using hc,by rw [‹Act.g a' _=_›]; rfl⟩
   ·exact .inl h
  ·obtain rfl:_=o:=Option.some.inj ho
   refine ⟨.slice (some ⟨w'.heap.size,0,none⟩) 0 0,w'.alloc (.cells #[] 25),by go_simp,(Chg.refl [] w').al _,⟨_,rfl,?_⟩,?_⟩
   ·exact World.ownsRow_lit w' #[] 0 (by omega) (by decide) rfl
   ·intro c _ b hb
    cases hb
    exact ⟨by simp,.inl (Nat.le_refl _)⟩
  ·obtain rfl:_=o:=Option.some.inj ho
   refine ⟨.pointer (some ⟨w.heap.size,4,none⟩),w',by go_simp,Chg.refl _ _,rfl,fun c hc=>by simp at hc⟩
  ·obtain rfl:_=o:=Option.some.inj ho
   have h15:=g_eq (t:=15) (v:=.pointer (some ⟨w.heap.size,4,none⟩)) (hdep 5 (by kernel_rfl));refine ⟨.slice Av t.vals.length qv,w',by go_simp,Chg.refl _ _,rfl,fun c hc=>by simp at hc⟩
  ·obtain rfl:_=o:=Option.some.inj ho
   obtain ⟨g,h14,hown⟩:=hdep 4 (by kernel_rfl);have h14:=g_eq (t:=14) (v:=.slice (some ⟨g,0,none⟩) 0 0) (h14);have h16:=g_eq (t:=16) (v:=.slice Av t.vals.length qv) (hdep 6 (by kernel_rfl));rw [‹Act.g a' _=_›] at hown
   obtain ⟨v',w2,hr,hown2,hc2,g',c',rfl,hlt,hor⟩:=run_append_copy (P:=Tryz.prog) (w:=w') (w.heap.size+3) 23 23 25 _ 5 80 uVs iV rfl g hown Av t.vals.length qv xs (hxs.length)
    (fun hpos=>by
     obtain ⟨b,hA,hb⟩:=HVS.out hpos
     exact ⟨b,hA,fun j u hu=>by have:=hb j u hu; exact (hcw.cells.1 _ _ (World.block_lt_of_cell? w _ this)).trans this⟩) (by omega) (by omega)
   refine ⟨_,w2,by simp [execOp,resolve,invoke,builtin,Act.eval,h14,h16,hr,Result.andThen],hc2,⟨g',c',rfl,hown2⟩,?_⟩
   intro c hc b hb
   cases hb
   refine ⟨hlt,?_⟩;rcases hor with rfl | h
   ·exact .inr ⟨4,by kernel_rfl,by simpa using hc,by rw [‹Act.g a' _=_›]; rfl⟩
   ·exact .inl h
  ·obtain rfl:_=o:=Option.some.inj ho
   obtain ⟨g1,c1,h13,hown1⟩:=hdep 3 (by kernel_rfl);obtain ⟨g2,c2,h17,hown2⟩:=hdep 7 (by kernel_rfl);rw [h13] at hown1;rw [h17] at hown2;have h17':=h17;have h13:=g_eq (t:=13) (v:=.slice (some ⟨g1,0,none⟩) t.keys.length c1) (h13);have h17:=g_eq (t:=17) (v:=.slice (some ⟨g2,0,none⟩) t.vals.length c2) (h17);refine ⟨.agg #[.int .i64 5,.int .i64 0,.string ⟨#[]⟩,.slice (some ⟨g1,0,none⟩) t.keys.length c1,.slice (some ⟨g2,0,none⟩) t.vals.length c2],w',by go_simp,Chg.refl _ _,⟨g1,c1,g2,c2,rfl,hown1,hown2⟩,?_⟩
   intro c hc b hb
   cases hb
   exact ⟨ownsRow_lt hown2,.inr ⟨7,by kernel_rfl,by simpa using hc,by rw [h17']; rfl⟩⟩
  ·obtain rfl:_=o:=Option.some.inj ho
   refine ⟨.pointer (some ⟨w'.heap.size,0,none⟩),w'.alloc (.cells #[.int .i64 0,.int .i64 0,.string ⟨#[]⟩,.slice none 0 0,.slice none 0 0] 25),by go_simp,(Chg.refl [] w').al _,⟨_,rfl,by omega,heap_alloc_new _ _⟩,?_⟩
   intro c _ b hb
   cases hb
   exact ⟨by simp,.inl (Nat.le_refl _)⟩
  ·omega
 ·intro o ho u w' hch hφ hap A2 hA2
  obtain rfl:_=o:=Option.some.inj ho;have hcw:Chg [] w w':=((((Chg.refl [] w).al _).al _).al _).dr.trans hch New.nil
  have hsz:w.heap.size+3<=w'.heap.size:=by have:=hch.size; simpa using this
  have l9:9 < 10:=by omega
  obtain ⟨B,hB,hwB,hBc⟩:=hφ 9 l9;obtain ⟨g1,c1,g2,c2,h18,hr1,hr2⟩:=hφ 8 (Nat.lt_trans (by decide:8 < 9) l9)
  have hB2:g2≠B:=fun e=>hap 8 9 1 2 (Nat.lt_trans (by decide:8 < 9) l9) l9 rfl rfl (by decide) g2 (by rw [h18]; rfl) (by rw [hB,e]; rfl)
  have hB1:g1≠B:=fun e=>by
   subst e
   obtain ⟨cap,cur,hcur⟩ : ∃ cap:Nat,∃ cur,w'.heap[g1]?=some (.cells cur 9):=by
    rcases hr1.2 with ⟨h,_⟩ | ⟨g',cap',cur,h,_,hg,_⟩
    ·cases h
    ·cases h
     exact ⟨0,_,hg⟩
   rw [hcur] at hBc
   cases hBc
  have l1:=hr1.lt g1 rfl;have l2:=hr2.lt g2 rfl;simp [putAll,dOf,Act.put,hB,h18] at hA2;subst hA2;clear hap hφ l9 ho;obtain ⟨b0,b1,b2,b3,b4,bf⟩:=cells5 hBc;unfold Oper.wp;go_simp;refine HK.out _ _ ?_;clear HK
  have hneB:∀ g,g≠B->g < w'.heap.size->(((((w'.setCell ⟨B,0,none⟩ (.int .i64 5)).setCell ⟨B,1,none⟩ (.int .i64 0)).setCell ⟨B,2,none⟩ (.string ⟨#[]⟩)).setCell ⟨B,3,none⟩ (.slice (some ⟨g1,0,none⟩) t.keys.length c1)).setCell ⟨B,4,none⟩ (.slice (some ⟨g2,0,none⟩) t.vals.length c2)).heap[g]?=w'.heap[g]?:=fun g hg _=>by
   rw [heap_setCell_other _ _ _ _ hg,heap_setCell_other _ _ _ _ hg,heap_setCell_other _ _ _ _ hg,heap_setCell_other _ _ _ _ hg,heap_setCell_other _ _ _ _ hg]
  obtain ⟨W,hW⟩ : ∃ W,W=((((w'.setCell ⟨B,0,none⟩ (.int .i64 5)).setCell ⟨B,1,none⟩ (.int .i64 0)).setCell ⟨B,2,none⟩ (.string ⟨#[]⟩)).setCell ⟨B,3,none⟩ (.slice (some ⟨g1,0,none⟩) t.keys.length c1)).setCell ⟨B,4,none⟩ (.slice (some ⟨g2,0,none⟩) t.vals.length c2):=⟨_,rfl⟩
  rw [<- hW] at hneB ⊢
  have hchW:Chg [] w W:=by
   rw [hW]
   have hb:w.heap.size<=B:=by omega
   exact ((((hcw.st hb _).st hb _).st hb _).st hb _).st hb _
  have hWs:W.heap.size=w'.heap.size:=by rw [hW]; simp
  have q7:W.heap[B]?=some (.cells #[.int .i64 5,.int .i64 0,.string ⟨#[]⟩,.slice (some ⟨g1,0,none⟩) t.keys.length c1,.slice (some ⟨g2,0,none⟩) t.vals.length c2] 25):=by
   rw [hW]
   simpa using heap_setCell_same _ B 4 _ _ (.slice (some ⟨g2,0,none⟩) t.vals.length c2) (heap_setCell_same _ B 3 _ _ (.slice (some ⟨g1,0,none⟩) t.keys.length c1) (heap_setCell_same _ B 2 _ _ (.string ⟨#[]⟩) (heap_setCell_same _ B 1 _ _ (.int .i64 0) (heap_setCell_same _ B 0 _ _ (.int .i64 5) hBc))))
  have hold:∀ b,b < w.heap.size+3->W.heap[b]?=_:=fun b hb=>(hneB b (by omega) (by omega)).trans (hch.block b (by simp; omega) (by simp))
  have z3:=(hold w.heap.size (by omega)).trans (alloc3 w _ _ _).1;have z5:=(hold (w.heap.size+1) (by omega)).trans (alloc3 w _ _ _).2.1;have z6:=(hold (w.heap.size+1+1) (by omega)).trans (alloc3 w _ _ _).2.2;have r1:=ownsRow_frame hr1 (hneB g1 hB1 l1.2);have r2:=ownsRow_frame hr2 (hneB g2 hB2 l2.2)
  have l1':w.heap.size+3<=g1/\g1 < W.heap.size:=by rw [hWs]; exact l1
  have l2':w.heap.size+3<=g2/\g2 < W.heap.size:=by rw [hWs]; exact l2
  have hBW:B < W.heap.size:=by
   rcases Nat.lt_or_ge B W.heap.size with h | h
   ·exact h
   ·rw [Array.getElem?_eq_none h] at q7
    cases q7
  have hszW:w.heap.size+3<=W.heap.size:=by omega
  clear hold hneB hW hch hcw hBc hr1 hr2 l1 l2 hWs b0 b1 b2 b3 b4 bf hB h18 hsz;obtain ⟨d0,d1,d2,d3,d4,_⟩:=cells5 z3
  go_wp2_with fail
  refine (place_any t _ k W (h.chg hchW) (by omega)).mono ?_;rintro e w1 ⟨rfl,hc1⟩;have hcw1:Chg [] w w1:=hchW.trans hc1 New.nil;have z3':=(hc1.block _ (by omega) (by simp)).trans z3;have z5':=(hc1.block _ (by omega) (by simp)).trans z5;have z6':=(hc1.block _ (by omega) (by simp)).trans z6;have q7':=(hc1.block _ hBW (by simp)).trans q7;have r1':=ownsRow_frame r1 (hc1.block _ l1'.2 (by simp));have r2':=ownsRow_frame r2 (hc1.block _ l2'.2 (by simp));have hws:=hc1.size;clear z3 z5 z6 q7 r1 r2 d0 d1 d2 d3 d4 hc1;obtain ⟨e0,e1,e2,e3,e4,ef⟩:=cells5 z5';obtain ⟨f0,f1,f2,f3,f4,ff⟩:=cells5 z6';obtain ⟨b0,b1,b2,b3,b4,bf⟩:=cells5 q7'
  by_cases hfound:t.keys[posK k t.keys]?=some k
  ·have hd:decide (t.keys[posK k t.keys]?=some k)=true:=decide_eq_true hfound
   rw [hd];have hi:posK k t.keys < t.keys.length:=(List.getElem?_eq_some_iff.1 hfound).1;have hKeq:withK k t.keys=t.keys:=if_pos hfound;have hVeq:withV k t.keys t.vals x=_:=if_pos hfound;have hfl:FlatV o w (t.vals.set (posK k t.keys) x) _:=FlatV.set hx (posK k t.keys) hxs;have HFL:=Lib.hid hfl;clear hfl;generalize posK k t.keys=i at *;generalize hn:t.keys.length=n at *;generalize hm:t.vals.length=m at *
   have hlenx:xs.length=m * 5:=by rw [hxs.length,hm]
   have hg2:∀ j,j < 5->∃ u,w1.cell? ⟨g2,i * 5+j,none⟩=some u:=fun j hj=>by
    have:i * 5+j < m * 5:=by omega
    exact ⟨_,(r2'.cellAt _ this).trans (List.getElem?_eq_getElem (by omega))⟩
   obtain ⟨u0,hu0⟩:=hg2 0 (by omega);rw [Nat.add_zero] at hu0;obtain ⟨u1,hu1⟩:=hg2 1 (by omega);obtain ⟨u2,hu2⟩:=hg2 2 (by omega);obtain ⟨u3,hu3⟩:=hg2 3 (by omega);obtain ⟨u4,hu4⟩:=hg2 4 (by omega);have hgf:=r2'.frozenAt
   have him:i < m:=by omega
   have hB6:B≠w.heap.size+1+1:=by omega
   have hg26:g2≠w.heap.size+1+1:=by omega
   have hg16:g1≠w.heap.size+1+1:=by omega
   have hg12:g1≠g2:=Ne.symm (rows_ne r2' r1' (by decide))
   have hb2:w.heap.size<=g2:=by omega
   have hb6:w.heap.size<=w.heap.size+1+1:=by omega
   clear hg2
   go_wp2
   have hcf:=(((((((((hcw1.st (p:=⟨g2,i * 5,none⟩) hb2 (.int .i64 x.kind)).st (p:=⟨g2,i * 5+1,none⟩) hb2 (.int .i64 x.num)).st (p:=⟨g2,i * 5+2,none⟩) hb2 (.string x.txt)).st (p:=⟨g2,i * 5+3,none⟩) hb2 (.slice A3 x.keys.length q3)).st (p:=⟨g2,i * 5+4,none⟩) hb2 (.slice A4 x.vals.length q4)).st (p:=⟨w.heap.size+1+1,0,none⟩) hb6 (.int .i64 5)).st (p:=⟨w.heap.size+1+1,1,none⟩) hb6 (.int .i64 0)).st (p:=⟨w.heap.size+1+1,2,none⟩) hb6 (.string ⟨#[]⟩)).st (p:=⟨w.heap.size+1+1,3,none⟩) hb6 (.slice (some ⟨g1,0,none⟩) n c1)).st (p:=⟨w.heap.size+1+1,4,none⟩) hb6 (.slice (some ⟨g2,0,none⟩) m c2);have hrow:=(((((r2'.stored (i * 5) (.int .i64 x.kind)).1.stored (i * 5+1) (.int .i64 x.num)).1.stored (i * 5+2) (.string x.txt)).1.stored (i * 5+3) (.slice A3 x.keys.length q3)).1.stored (i * 5+4) (.slice A4 x.vals.length q4)).1;refine bodyPost_ret (v:=.agg #[.int .i64 5,.int .i64 0,.string ⟨#[]⟩,.slice (some ⟨g1,0,none⟩) n c1,.slice (some ⟨g2,0,none⟩) m c2]) (by simp [results,Tryz.results27,go_sem,f0,f1,f2,f3,f4]) rfl ⟨_,_,rfl,hcf,?_,?_⟩
   ·rw [hKeq]
    refine RdK.of_own' hn (fun b hb=>hno b (by omega)) (ownsRow_frame r1' ?_);rw [heap_setCell_other _ _ _ _ hg16,heap_setCell_other _ _ _ _ hg16,heap_setCell_other _ _ _ _ hg16,heap_setCell_other _ _ _ _ hg16,heap_setCell_other _ _ _ _ hg16,heap_setCell_other _ _ _ _ hg12,heap_setCell_other _ _ _ _ hg12,heap_setCell_other _ _ _ _ hg12,heap_setCell_other _ _ _ _ hg12,heap_setCell_other _ _ _ _ hg12]
   ·rw [hVeq]
    refine RdV.of_own' (by rw [List.length_set,hm]) (fun b hb=>hno b (by omega)) (ownsRow_frame hrow ?_) (HFL.out.mono (fun b hb _=>hcf.block b hb (by simp)));rw [heap_setCell_other _ _ _ _ hg26,heap_setCell_other _ _ _ _ hg26,heap_setCell_other _ _ _ _ hg26,heap_setCell_other _ _ _ _ hg26,heap_setCell_other _ _ _ _ hg26]
  ·have hd:decide (t.keys[posK k t.keys]?=some k)=false:=decide_eq_false hfound
   rw [hd];have hin:=posK_le k t.keys;have hfl:FlatV o w (List.take (posK k t.keys) t.vals++x :: List.drop (posK k t.keys) t.vals) (List.take (posK k t.keys * 5) xs++([.int .i64 x.kind,.int .i64 x.num,.string x.txt,.slice A3 x.keys.length q3,.slice A4 x.vals.length q4]++List.drop (posK k t.keys * 5) xs)):=(hxs.take _).append (FlatV.append (l:=[x]) (FlatV.single hx) (hxs.drop _));have HFL:=Lib.hid hfl;clear hfl;have hKeq:withK k t.keys=_:=if_neg hfound;have hVeq:withV k t.keys t.vals x=_:=if_neg hfound;generalize posK k t.keys=i at *;generalize hn:t.keys.length=n at *
   have hlen:(strC t.keys).length=n:=by simp [strC,hn]
   go_wp2
   rename_i K hK;have HK:=Lib.hid hK;clear hK
   refine wp_region_pair (by rfl) (by kernel_rfl) [1,7,8] (by kernel_rfl) 11 (by decide) [g1]
    (fun j u V=>match j with
     | 0=>u=.pointer (some ⟨B,3,none⟩)
     | 1=>u=.slice (some ⟨g1,0,none⟩) n c1
     | 2=>u=.int .i64 i
     | 3=>u=.slice (some ⟨g1,0,none⟩) i c1
     | 4=>u=.string k
     | 5=>∃ h,u=.slice (some ⟨h,0,none⟩) 1 1/\V.ownsRow w1.heap.size 9 1 u 1 [.string k]
     | 6=>u=.pointer (some ⟨B,3,none⟩)
     | 7=>u=.slice (some ⟨g1,0,none⟩) n c1
     | 8=>u=.int .i64 i
     | 9=>u=.slice (if c1=i then some ⟨g1,0,none⟩ else some ⟨g1,i * 1,none⟩) (n - i) (c1 - i)
     | 10=>∃ h c,u=.slice (some ⟨h,0,none⟩) (1+(n - i)) c/\V.ownsRow w1.heap.size 9 1 u (1+(n - i)) ([.string k]++(strC t.keys).drop (i * 1))
     | 11=>∃ h c,u=.slice (some ⟨h,0,none⟩) (n+1) c/\V.ownsRow (w.heap.size+3) 9 1 u (n+1) ((strC t.keys).take (i * 1)++([.string k]++(strC t.keys).drop (i * 1)))/\(h=g1∨w1.heap.size<=h)
     | 12=>u=.pointer (some ⟨B,3,none⟩)
     | _=>True) ?_ ?_ ?_ ?_ ?_
   ·intro j u V V' hc hφ
    have hrow:∀ {b e size n c xs g},V.ownsRow b e size (.slice (some ⟨g,0,none⟩) n c) n xs->V'.ownsRow b e size (.slice (some ⟨g,0,none⟩) n c) n xs:=fun h=>ownsRow_frame h (hc.block _ (ownsRow_lt h) (by simp))
    rcases j with _ | _ | _ | _ | _ | _ | _ | _ | _ | _ | _ | _ | _ | j
    all_goals first | exact hφ | skip
    ·obtain ⟨h,rfl,hr⟩:=hφ
     exact ⟨h,rfl,hrow hr⟩
    ·obtain ⟨h,c,rfl,hr⟩:=hφ
     exact ⟨h,c,rfl,hrow hr⟩
    ·obtain ⟨h,c,rfl,hr,hor⟩:=hφ
     exact ⟨h,c,rfl,hrow hr,hor⟩
   ·intro j u V V' hj hc hφ
    have hrow:∀ {e size n c xs g},V.ownsRow w1.heap.size e size (.slice (some ⟨g,0,none⟩) n c) n xs->V'.ownsRow w1.heap.size e size (.slice (some ⟨g,0,none⟩) n c) n xs:=fun {e size n c xs g} h=>ownsRow_frame h (hc.block _ (ownsRow_lt h) (by
     have h2:w1.heap.size<=g:=(h.lt g rfl).1;simp
     omega))
    rcases j with _ | _ | _ | _ | _ | _ | _ | _ | _ | _ | _ | _ | _ | j
    all_goals first | exact hφ | skip
    ·obtain ⟨h,rfl,hr⟩:=hφ
     exact ⟨h,rfl,hrow hr⟩
    ·obtain ⟨h,c,rfl,hr⟩:=hφ
     exact ⟨h,c,rfl,hrow hr⟩
    ·exact absurd rfl hj
   ·intro j o hj hj11 ho a' w' hst hch hpre hdep
    have h7:=g_eq (t:=7) (v:=.pointer (some ⟨B,0,none⟩)) (hst 7 (by simp));have h8:=g_eq (t:=8) (v:=.int .i64 i) (hst 8 (by simp));have h1:=g_eq (t:=1) (v:=.string k) (hst 1 (by simp))
    have hBw1:B < w1.heap.size:=by omega
    have k3:w'.cell? ⟨B,3,none⟩=some (.slice (some ⟨g1,0,none⟩) n c1):=(World.cell?_of_block (hch.block B hBw1 (by simp; omega))).trans b3;have hsz:w1.heap.size<=w'.heap.size:=hch.size;have hi':j < 13:=hj;rcases j with _ | _ | _ | _ | _ | _ | _ | _ | _ | _ | _ | _ | _ | j
    ·obtain rfl:_=o:=Option.some.inj ho
     exact ⟨.pointer (some ⟨B,3,none⟩),w',by go_simp,Chg.refl _ _,rfl⟩
    ·obtain rfl:_=o:=Option.some.inj ho
     have h32:=g_eq (t:=32) (v:=.pointer (some ⟨B,3,none⟩)) (hdep 0 (by kernel_rfl));exact ⟨.slice (some ⟨g1,0,none⟩) n c1,w',by go_simp,Chg.refl _ _,rfl⟩
    ·obtain rfl:_=o:=Option.some.inj ho
     exact ⟨.int .i64 i,w',by go_simp,Chg.refl _ _,rfl⟩
    ·obtain rfl:_=o:=Option.some.inj ho
     have h33:=g_eq (t:=33) (v:=.slice (some ⟨g1,0,none⟩) n c1) (hdep 1 (by kernel_rfl));have h34:=g_eq (t:=34) (v:=.int .i64 i) (hdep 2 (by kernel_rfl))
     have hic:i<=c1:=by have:=ownsRow_cap r1'; omega
     exact ⟨.slice (some ⟨g1,0,none⟩) i c1,w',by go_simp,Chg.refl _ _,rfl⟩
    ·obtain rfl:_=o:=Option.some.inj ho
     exact ⟨.string k,w',by go_simp,Chg.refl _ _,rfl⟩
    ·obtain rfl:_=o:=Option.some.inj ho
     have h36:=g_eq (t:=36) (v:=.string k) (hdep 4 (by kernel_rfl));refine ⟨.slice (some ⟨w'.heap.size,0,none⟩) 1 1,w'.alloc (.cells #[.string k] 9),by go_simp,(Chg.refl [] w').al _,_,rfl,?_⟩;exact World.ownsRow_lit w' #[.string k] 1 hsz (by decide) rfl
    ·obtain rfl:_=o:=Option.some.inj ho
     exact ⟨.pointer (some ⟨B,3,none⟩),w',by go_simp,Chg.refl _ _,rfl⟩
    ·obtain rfl:_=o:=Option.some.inj ho
     have h38:=g_eq (t:=38) (v:=.pointer (some ⟨B,3,none⟩)) (hdep 6 (by kernel_rfl));exact ⟨.slice (some ⟨g1,0,none⟩) n c1,w',by go_simp,Chg.refl _ _,rfl⟩
    ·obtain rfl:_=o:=Option.some.inj ho
     exact ⟨.int .i64 i,w',by go_simp,Chg.refl _ _,rfl⟩
    ·obtain rfl:_=o:=Option.some.inj ho
     have h39:=g_eq (t:=39) (v:=.slice (some ⟨g1,0,none⟩) n c1) (hdep 7 (by kernel_rfl));have h40:=g_eq (t:=40) (v:=.int .i64 i) (hdep 8 (by kernel_rfl));exact ⟨.slice (if c1=i then some ⟨g1,0,none⟩ else some ⟨g1,i * 1,none⟩) (n - i) (c1 - i),w',by go_simp,Chg.refl _ _,rfl⟩
    ·obtain rfl:_=o:=Option.some.inj ho
     obtain ⟨h,h37,hown⟩:=hdep 5 (by kernel_rfl);rw [h37] at hown;have h37:=g_eq (t:=37) h37;have h41:=g_eq (t:=41) (v:=.slice (if c1=i then some ⟨g1,0,none⟩ else some ⟨g1,i * 1,none⟩) (n - i) (c1 - i)) (hdep 9 (by kernel_rfl));have hr1:=ownsRow_frame r1' ((hpre (by kernel_rfl)).block g1 (by show g1 < w1.heap.size; omega) (by simp))
     obtain ⟨v',w2,hr,hown2,hc2,g',c',rfl,hlt,hor⟩:=run_append_full (P:=Tryz.prog) (w:=w') w1.heap.size 22 22 9 (.string ⟨#[]⟩) 1 16 uKs iS rfl h 1 [.string k] hown _ (n - i) (c1 - i) ((strC t.keys).drop (i * 1)) (by rw [List.length_drop,hlen]; omega)
      (ownsRow_suffix hr1 hin) (by omega) (by omega)
     simp only [Nat.mul_one] at hr h41;exact ⟨_,w2,by simp [execOp,resolve,invoke,builtin,Act.eval,h37,h41,hr,Result.andThen],hc2,g',c',rfl,hown2⟩
    ·exact absurd rfl hj11
    ·obtain rfl:_=o:=Option.some.inj ho
     exact ⟨.pointer (some ⟨B,3,none⟩),w',by go_simp,Chg.refl _ _,rfl⟩
    ·omega
   ·intro o ho a' w' hst hch hdep
    obtain rfl:_=o:=Option.some.inj ho;have h35:=g_eq (t:=35) (v:=.slice (some ⟨g1,0,none⟩) i c1) (hdep 3 (by kernel_rfl));obtain ⟨h,c,h42,hown⟩:=hdep 10 (by kernel_rfl);rw [h42] at hown;have h42:=g_eq (t:=42) h42;have hr1:=ownsRow_frame r1' (hch.block g1 (by show g1 < w1.heap.size; omega) (by simp));have hsz:w1.heap.size<=w'.heap.size:=hch.size
    obtain ⟨v',w2,hr,hown2,hc2,hor⟩:=run_app (P:=Tryz.prog) (w:=w') (w.heap.size+3) 22 22 9 (.string ⟨#[]⟩) 1 16 uKs iS rfl (by decide) _ i _ (ownsRow_prefix hr1 hin) _ (1+(n - i)) c _ hown.1
     (fun _=>⟨_,rfl,hown.cells rfl⟩) (by
      intro u hu
      rcases List.mem_append.1 hu with hu | hu
      ·cases List.mem_singleton.1 hu
       rfl
      ·exact strC_one _ u (List.mem_of_mem_drop hu)) (by omega) (by omega) (by omega)
    rcases hor with ⟨h0,_⟩ | ⟨g,c',rfl,hg1,hg2,hor⟩
    ·cases h0
    ·have e:i+(1+(n - i))=n+1:=by omega
     rw [e] at hown2 hr;refine ⟨.slice (some ⟨g,0,none⟩) (n+1) c',w2,by simp [execOp,resolve,invoke,builtin,Act.eval,h35,h42,hr,Result.andThen],hc2,g,c',rfl,hown2,?_⟩;rcases hor with h | h
     ·exact .inl (Option.some.inj h).symm
     ·right; omega
   ·intro o ho u w' hch hφ A2 hA2
    obtain rfl:_=o:=Option.some.inj ho
    have l12:12 < 13:=by omega
    have hu12:u 12=.pointer (some ⟨B,3,none⟩):=hφ 12 l12;obtain ⟨g3,c3,hu11,hr3,hor⟩:=hφ 11 (Nat.lt_trans (by decide:11 < 12) l12);rw [hu11] at hr3
    have hBw1:B < w1.heap.size:=by omega
    have hsz:w1.heap.size<=w'.heap.size:=hch.size
    have hg3:g3≠B:=by omega
    have hB':=(hch.block B hBw1 (by simp; omega)).trans q7'
    have hfar:∀ b,b < w.heap.size+3->w'.heap[b]?=w1.heap[b]?:=fun b hb=>hch.block b (by show b < w1.heap.size; omega) (by simp; omega)
    simp [putAll,dOf,Act.put,hu11,hu12] at hA2;subst hA2;clear hφ l12 ho hu11 hu12;obtain ⟨b0',b1',b2',b3',b4',bf'⟩:=cells5 hB';unfold Oper.wp;go_simp;refine HK.out _ _ ?_;clear HK b0 b1 b2 b3 b4 bf e0 e1 e2 e3 e4 ef f0 f1 f2 f3 f4 ff;have hne12:g2≠g1:=rows_ne r2' r1' (by decide)
    obtain ⟨W2,hW2⟩ : ∃ V,V=w'.setCell ⟨B,3,none⟩ (.slice (some ⟨g3,0,none⟩) (n+1) c3):=⟨_,rfl⟩
    rw [<- hW2]
    have hneB:∀ g,g≠B->W2.heap[g]?=w'.heap[g]?:=fun g hg=>by rw [hW2,heap_setCell_other _ _ _ _ hg]
    have hcW2:Chg [] w W2:=by
     rw [hW2]
     exact (hcw1.trans ((Chg.refl [g1] w1).dr.trans hch (New.refl _ _)) (fun y hy=>.inr (by
      cases List.mem_singleton.1 hy
      omega))).st (by show w.heap.size<=B; omega) _
    have Q7:W2.heap[B]?=some (.cells #[.int .i64 5,.int .i64 0,.string ⟨#[]⟩,.slice (some ⟨g3,0,none⟩) (n+1) c3,.slice (some ⟨g2,0,none⟩) t.vals.length c2] 25):=by
     rw [hW2]
     simpa using heap_setCell_same _ B 3 _ _ (.slice (some ⟨g3,0,none⟩) (n+1) c3) hB'
    have Z5:=(hneB (w.heap.size+1) (by omega)).trans ((hfar _ (by omega)).trans z5');have Z6:=(hneB (w.heap.size+1+1) (by omega)).trans ((hfar _ (by omega)).trans z6');have R3:=ownsRow_frame hr3 (hneB g3 hg3);have R2:=ownsRow_frame r2' ((hneB g2 hB2).trans (hch.block g2 (by show g2 < w1.heap.size; omega) (by simpa using hne12)))
    have hW2s:W2.heap.size=w'.heap.size:=by rw [hW2]; simp
    have hg3l:=ownsRow_lt R3;have hg23:g2≠g3:=rows_ne R2 R3 (by decide)
    have hBW2:B < W2.heap.size:=by omega
    have hg2W2:g2 < W2.heap.size:=by omega
    have hW2sz:w.heap.size+3<=W2.heap.size:=by omega
    clear hneB hW2 hfar hr3 hB' b0' b1' b2' b3' b4' bf' hch r1' r2' z3' z5' z6' q7';obtain ⟨B0,B1,B2,B3,B4,BF⟩:=cells5 Q7;obtain ⟨E0,E1,E2,E3,E4,EF⟩:=cells5 Z5;generalize hm:t.vals.length=m at *
    have hlenx:xs.length=m * 5:=by rw [hxs.length,hm]
    go_wp2
    rename_i K hK;have HK:=Lib.hid hK;clear hK;have him:i<=m:=Nat.le_trans hin hkv
    refine wp_region_pair (by rfl) (by kernel_rfl) [5,7,8] (by kernel_rfl) 11 (by decide) [g2]
     (fun j u V=>match j with
      | 0=>u=.pointer (some ⟨B,4,none⟩)
      | 1=>u=.slice (some ⟨g2,0,none⟩) m c2
      | 2=>u=.int .i64 i
      | 3=>u=.slice (some ⟨g2,0,none⟩) i c2
      | 4=>u=.agg #[.int .i64 x.kind,.int .i64 x.num,.string x.txt,.slice A3 x.keys.length q3,.slice A4 x.vals.length q4]
      | 5=>∃ h,u=.slice (some ⟨h,0,none⟩) 1 1/\V.ownsRow W2.heap.size 25 5 u 1 [.int .i64 x.kind,.int .i64 x.num,.string x.txt,.slice A3 x.keys.length q3,.slice A4 x.vals.length q4]
      | 6=>u=.pointer (some ⟨B,4,none⟩)
      | 7=>u=.slice (some ⟨g2,0,none⟩) m c2
      | 8=>u=.int .i64 i
      | 9=>u=.slice (if c2=i then some ⟨g2,0,none⟩ else some ⟨g2,i * 5,none⟩) (m - i) (c2 - i)
      | 10=>∃ h c,u=.slice (some ⟨h,0,none⟩) (1+(m - i)) c/\V.ownsRow W2.heap.size 25 5 u (1+(m - i)) ([.int .i64 x.kind,.int .i64 x.num,.string x.txt,.slice A3 x.keys.length q3,.slice A4 x.vals.length q4]++xs.drop (i * 5))
      | 11=>∃ h c,u=.slice (some ⟨h,0,none⟩) (m+1) c/\V.ownsRow (w.heap.size+3) 25 5 u (m+1) (xs.take (i * 5)++([.int .i64 x.kind,.int .i64 x.num,.string x.txt,.slice A3 x.keys.length q3,.slice A4 x.vals.length q4]++xs.drop (i * 5)))/\(h=g2∨W2.heap.size<=h)
      | 12=>u=.pointer (some ⟨B,4,none⟩)
      | _=>True) ?_ ?_ ?_ ?_ ?_
    ·intro j u V V' hc hφ
     have hrow:∀ {b e size n c xs g},V.ownsRow b e size (.slice (some ⟨g,0,none⟩) n c) n xs->V'.ownsRow b e size (.slice (some ⟨g,0,none⟩) n c) n xs:=fun h=>ownsRow_frame h (hc.block _ (ownsRow_lt h) (by simp))
     rcases j with _ | _ | _ | _ | _ | _ | _ | _ | _ | _ | _ | _ | _ | j
     all_goals first | exact hφ | skip
     ·obtain ⟨h,rfl,hr⟩:=hφ
      exact ⟨h,rfl,hrow hr⟩
     ·obtain ⟨h,c,rfl,hr⟩:=hφ
      exact ⟨h,c,rfl,hrow hr⟩
     ·obtain ⟨h,c,rfl,hr,hor⟩:=hφ
      exact ⟨h,c,rfl,hrow hr,hor⟩
    ·intro j u V V' hj hc hφ
     have hrow:∀ {e size n c xs g},V.ownsRow W2.heap.size e size (.slice (some ⟨g,0,none⟩) n c) n xs->V'.ownsRow W2.heap.size e size (.slice (some ⟨g,0,none⟩) n c) n xs:=fun {e size n c xs g} h=>ownsRow_frame h (hc.block _ (ownsRow_lt h) (by
      have h2:W2.heap.size<=g:=(h.lt g rfl).1;simp
      omega))
     rcases j with _ | _ | _ | _ | _ | _ | _ | _ | _ | _ | _ | _ | _ | j
     all_goals first | exact hφ | skip
     ·obtain ⟨h,rfl,hr⟩:=hφ
      exact ⟨h,rfl,hrow hr⟩
     ·obtain ⟨h,c,rfl,hr⟩:=hφ
      exact ⟨h,c,rfl,hrow hr⟩
     ·exact absurd rfl hj
    ·intro j o hj hj11 ho a' w' hst hch hpre hdep
     have h7:=g_eq (t:=7) (v:=.pointer (some ⟨B,0,none⟩)) (hst 7 (by simp));have h8:=g_eq (t:=8) (v:=.int .i64 i) (hst 8 (by simp));have h5:=g_eq (t:=5) (v:=.pointer (some ⟨w.heap.size+1,0,none⟩)) (hst 5 (by simp))
     have hcl:∀ o,w'.cell? ⟨w.heap.size+1,o,none⟩=W2.cell? ⟨w.heap.size+1,o,none⟩:=fun o=>World.cell?_of_block (hch.block _ (by show w.heap.size+1 < W2.heap.size; omega) (by simp; omega))
     have x0:=(hcl 0).trans E0;have x1:=(hcl 1).trans E1;have x2:=(hcl 2).trans E2;have x3:=(hcl 3).trans E3;have x4:=(hcl 4).trans E4
     have hBW2:B < W2.heap.size:=by omega
     have k4:w'.cell? ⟨B,4,none⟩=some (.slice (some ⟨g2,0,none⟩) m c2):=(World.cell?_of_block (hch.block B hBW2 (by simp; omega))).trans B4;have hsz:W2.heap.size<=w'.heap.size:=hch.size;have hi':j < 13:=hj;rcases j with _ | _ | _ | _ | _ | _ | _ | _ | _ | _ | _ | _ | _ | j
     ·obtain rfl:_=o:=Option.some.inj ho
      exact ⟨.pointer (some ⟨B,4,none⟩),w',by go_simp,Chg.refl _ _,rfl⟩
     ·obtain rfl:_=o:=Option.some.inj ho
      have h45:=g_eq (t:=45) (v:=.pointer (some ⟨B,4,none⟩)) (hdep 0 (by kernel_rfl));exact ⟨.slice (some ⟨g2,0,none⟩) m c2,w',by go_simp,Chg.refl _ _,rfl⟩
     ·obtain rfl:_=o:=Option.some.inj ho
      exact ⟨.int .i64 i,w',by go_simp,Chg.refl _ _,rfl⟩
     ·obtain rfl:_=o:=Option.some.inj ho
      have h46:=g_eq (t:=46) (v:=.slice (some ⟨g2,0,none⟩) m c2) (hdep 1 (by kernel_rfl));have h47:=g_eq (t:=47) (v:=.int .i64 i) (hdep 2 (by kernel_rfl))
      have hic:i<=c2:=by have:=ownsRow_cap R2; omega
      exact ⟨.slice (some ⟨g2,0,none⟩) i c2,w',by go_simp,Chg.refl _ _,rfl⟩
     ·obtain rfl:_=o:=Option.some.inj ho
      exact ⟨.agg #[.int .i64 x.kind,.int .i64 x.num,.string x.txt,.slice A3 x.keys.length q3,.slice A4 x.vals.length q4],w',by go_simp,Chg.refl _ _,rfl⟩
     ·obtain rfl:_=o:=Option.some.inj ho
      have h49:=g_eq (t:=49) (v:=.agg #[.int .i64 x.kind,.int .i64 x.num,.string x.txt,.slice A3 x.keys.length q3,.slice A4 x.vals.length q4]) (hdep 4 (by kernel_rfl));refine ⟨.slice (some ⟨w'.heap.size,0,none⟩) 1 1,w'.alloc (.cells #[.int .i64 x.kind,.int .i64 x.num,.string x.txt,.slice A3 x.keys.length q3,.slice A4 x.vals.length q4] 25),by go_simp,(Chg.refl [] w').al _,_,rfl,?_⟩;exact World.ownsRow_lit w' #[.int .i64 x.kind,.int .i64 x.num,.string x.txt,.slice A3 x.keys.length q3,.slice A4 x.vals.length q4] 1 hsz (by decide) rfl
     ·obtain rfl:_=o:=Option.some.inj ho
      exact ⟨.pointer (some ⟨B,4,none⟩),w',by go_simp,Chg.refl _ _,rfl⟩
     ·obtain rfl:_=o:=Option.some.inj ho
      have h51:=g_eq (t:=51) (v:=.pointer (some ⟨B,4,none⟩)) (hdep 6 (by kernel_rfl));exact ⟨.slice (some ⟨g2,0,none⟩) m c2,w',by go_simp,Chg.refl _ _,rfl⟩
     ·obtain rfl:_=o:=Option.some.inj ho
      exact ⟨.int .i64 i,w',by go_simp,Chg.refl _ _,rfl⟩
     ·obtain rfl:_=o:=Option.some.inj ho
      have h52:=g_eq (t:=52) (v:=.slice (some ⟨g2,0,none⟩) m c2) (hdep 7 (by kernel_rfl));have h53:=g_eq (t:=53) (v:=.int .i64 i) (hdep 8 (by kernel_rfl));exact ⟨.slice (if c2=i then some ⟨g2,0,none⟩ else some ⟨g2,i * 5,none⟩) (m - i) (c2 - i),w',by go_simp,Chg.refl _ _,rfl⟩
     ·obtain rfl:_=o:=Option.some.inj ho
      obtain ⟨h,h50,hown⟩:=hdep 5 (by kernel_rfl);rw [h50] at hown;have h50:=g_eq (t:=50) h50;have h54:=g_eq (t:=54) (v:=.slice (if c2=i then some ⟨g2,0,none⟩ else some ⟨g2,i * 5,none⟩) (m - i) (c2 - i)) (hdep 9 (by kernel_rfl));have hr1:=ownsRow_frame R2 ((hpre (by kernel_rfl)).block g2 (by show g2 < W2.heap.size; omega) (by simp))
      obtain ⟨v',w2,hr,hown2,hc2,g',c',rfl,hlt,hor⟩:=run_append_full (P:=Tryz.prog) (w:=w') W2.heap.size 23 23 25 _ 5 80 uVs iV rfl h 1 [.int .i64 x.kind,.int .i64 x.num,.string x.txt,.slice A3 x.keys.length q3,.slice A4 x.vals.length q4] hown _ (m - i) (c2 - i) (xs.drop (i * 5)) (by rw [List.length_drop,hlenx]; omega)
       (ownsRow_suffix hr1 him) (by omega) (by omega)
      skip
      exact ⟨_,w2,by simp [execOp,resolve,invoke,builtin,Act.eval,h50,h54,hr,Result.andThen],hc2,g',c',rfl,hown2⟩
     ·exact absurd rfl hj11
     ·obtain rfl:_=o:=Option.some.inj ho
      exact ⟨.pointer (some ⟨B,4,none⟩),w',by go_simp,Chg.refl _ _,rfl⟩
     ·omega
    ·intro o ho a' w' hst hch hdep
     obtain rfl:_=o:=Option.some.inj ho;have h48:=g_eq (t:=48) (v:=.slice (some ⟨g2,0,none⟩) i c2) (hdep 3 (by kernel_rfl));obtain ⟨h,c,h55,hown⟩:=hdep 10 (by kernel_rfl);rw [h55] at hown;have h55:=g_eq (t:=55) h55;have hr1:=ownsRow_frame R2 (hch.block g2 (by show g2 < W2.heap.size; omega) (by simp));have hsz:W2.heap.size<=w'.heap.size:=hch.size
     obtain ⟨v',w2,hr,hown2,hc2,hor⟩:=run_app (P:=Tryz.prog) (w:=w') (w.heap.size+3) 23 23 25 _ 5 80 uVs iV rfl (by decide) _ i _ (ownsRow_prefix hr1 him) _ (1+(m - i)) c _ hown.1
      (fun _=>⟨_,rfl,hown.cells rfl⟩) (by
       intro u hu
       rcases List.mem_append.1 hu with hu | hu
       ·exact hx.one u hu
       ·exact hxs.one u (List.mem_of_mem_drop hu)) (by omega) (by omega) (by omega)
     rcases hor with ⟨h0,_⟩ | ⟨g,c',rfl,hg1,hg2,hor⟩
     ·cases h0
     ·have e:i+(1+(m - i))=m+1:=by omega
      rw [e] at hown2 hr;refine ⟨.slice (some ⟨g,0,none⟩) (m+1) c',w2,by simp [execOp,resolve,invoke,builtin,Act.eval,h48,h55,hr,Result.andThen],hc2,g,c',rfl,hown2,?_⟩;rcases hor with h | h
      ·exact .inl (Option.some.inj h).symm
      ·right; omega
    ·intro o ho u w' hch hφ A2 hA2
     obtain rfl:_=o:=Option.some.inj ho
     have l12:12 < 13:=by omega
     have hu12:u 12=.pointer (some ⟨B,4,none⟩):=hφ 12 l12;obtain ⟨g4,c4,hu11,hr4,hor4⟩:=hφ 11 (Nat.lt_trans (by decide:11 < 12) l12);rw [hu11] at hr4;have hsz4:W2.heap.size<=w'.heap.size:=hch.size
     have hg4:g4≠B:=by omega
     have hg4n:w.heap.size+3<=g4:=by omega
     have hg3n:w.heap.size+3<=g3:=by omega
     have hB':=(hch.block B hBW2 (by simp; omega)).trans Q7;have Y6:=(hch.block (w.heap.size+1+1) (by show w.heap.size+1+1 < W2.heap.size; omega) (by simp; omega)).trans Z6;have r3:=ownsRow_frame R3 (hch.block g3 hg3l (by simpa using Ne.symm hg23))
     have hcw':Chg [] w w':=hcW2.trans ((Chg.refl [g2] W2).dr.trans hch (New.refl _ _)) (fun y hy=>.inr (by
      cases List.mem_singleton.1 hy
      omega))
     simp [putAll,dOf,Act.put,hu11,hu12] at hA2;subst hA2;clear hφ l12 ho hu11 hu12 B0 B1 B2 B3 B4 BF E0 E1 E2 E3 E4 EF Z5 Z6 Q7;obtain ⟨b0,b1,b2,b3,b4,bf⟩:=cells5 hB';obtain ⟨y0,y1,y2,y3,y4,yf⟩:=cells5 Y6;unfold Oper.wp;go_simp;refine HK.out _ _ ?_;clear HK
     go_wp2
     have hbB:w.heap.size<=B:=by omega
     have hb6:w.heap.size<=w.heap.size+1+1:=by omega
     have hB6:B≠w.heap.size+1+1:=by omega
     have hcf:=(((((hcw'.st (p:=⟨B,4,none⟩) hbB (.slice (some ⟨g4,0,none⟩) (m+1) c4)).st (p:=⟨w.heap.size+1+1,0,none⟩) hb6 (.int .i64 5)).st (p:=⟨w.heap.size+1+1,1,none⟩) hb6 (.int .i64 0)).st (p:=⟨w.heap.size+1+1,2,none⟩) hb6 (.string ⟨#[]⟩)).st (p:=⟨w.heap.size+1+1,3,none⟩) hb6 (.slice (some ⟨g3,0,none⟩) (n+1) c3)).st (p:=⟨w.heap.size+1+1,4,none⟩) hb6 (.slice (some ⟨g4,0,none⟩) (m+1) c4);refine bodyPost_ret (v:=.agg #[.int .i64 5,.int .i64 0,.string ⟨#[]⟩,.slice (some ⟨g3,0,none⟩) (n+1) c3,.slice (some ⟨g4,0,none⟩) (m+1) c4]) (by simp [results,Tryz.results27,go_sem,y0,y1,y2,y3,y4]) rfl ⟨_,_,rfl,hcf,?_,?_⟩
     ·rw [hKeq]
      have h:=ownsRow_frame (w':=(((((w'.setCell ⟨B,4,none⟩ (.slice (some ⟨g4,0,none⟩) (m+1) c4)).setCell ⟨w.heap.size+1+1,0,none⟩ (.int .i64 5)).setCell ⟨w.heap.size+1+1,1,none⟩ (.int .i64 0)).setCell ⟨w.heap.size+1+1,2,none⟩ (.string ⟨#[]⟩)).setCell ⟨w.heap.size+1+1,3,none⟩ (.slice (some ⟨g3,0,none⟩) (n+1) c3)).setCell ⟨w.heap.size+1+1,4,none⟩ (.slice (some ⟨g4,0,none⟩) (m+1) c4)) r3 (by
       have h3:g3≠w.heap.size+1+1:=by omega
       rw [heap_setCell_other _ _ _ _ h3,heap_setCell_other _ _ _ _ h3,heap_setCell_other _ _ _ _ h3,heap_setCell_other _ _ _ _ h3,heap_setCell_other _ _ _ _ h3,heap_setCell_other _ _ _ _ hg3])
      have hl1:(List.take i t.keys++k :: List.drop i t.keys).length=n+1:=by simp [hn]; omega
      have hs:strC (List.take i t.keys++k :: List.drop i t.keys)=List.take (i * 1) (strC t.keys)++([.string k]++List.drop (i * 1) (strC t.keys)):=by simp [strC,List.map_take,List.map_drop]
      rw [<- hs] at h;exact RdK.of_own' hl1 (fun b hb=>hno b (by omega)) h
     ·rw [hVeq]
      have h:=ownsRow_frame (w':=(((((w'.setCell ⟨B,4,none⟩ (.slice (some ⟨g4,0,none⟩) (m+1) c4)).setCell ⟨w.heap.size+1+1,0,none⟩ (.int .i64 5)).setCell ⟨w.heap.size+1+1,1,none⟩ (.int .i64 0)).setCell ⟨w.heap.size+1+1,2,none⟩ (.string ⟨#[]⟩)).setCell ⟨w.heap.size+1+1,3,none⟩ (.slice (some ⟨g3,0,none⟩) (n+1) c3)).setCell ⟨w.heap.size+1+1,4,none⟩ (.slice (some ⟨g4,0,none⟩) (m+1) c4)) hr4 (by
       have h3:g4≠w.heap.size+1+1:=by omega
       rw [heap_setCell_other _ _ _ _ h3,heap_setCell_other _ _ _ _ h3,heap_setCell_other _ _ _ _ h3,heap_setCell_other _ _ _ _ h3,heap_setCell_other _ _ _ _ h3,heap_setCell_other _ _ _ _ hg4])
      have hl1:(List.take i t.vals++x :: List.drop i t.vals).length=m+1:=by simp [hm]; omega
      exact RdV.of_own' hl1 (fun b hb=>hno b (by omega)) h (HFL.out.mono (fun b hb _=>hcf.block b hb (by simp)))
end Go.Proofs.YtpofkokbmifhgaaGreatDoor
