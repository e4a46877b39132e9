/- Parts of the walk, made small by wip/tools/pack.py: From, Base, SayA, SayB, SayC. No condition but those in each statement. -/
import Derived.Test.YtpofkokbmifhgaaGreatDoorL05
import Derived.Test.YtpofkokbmifhgaaGreatDoorL01
import Derived.Laws.IdiomStrings
set_option maxRecDepth 100000
set_option maxHeartbeats 20000000
set_option linter.unusedVariables false
set_option linter.unusedSimpArgs false
namespace Go.Proofs.YtpofkokbmifhgaaGreatDoor
open Go.RowKit
variable {o:Nat->Prop}
theorem from_any (nn:Nat):∀ (t:T) (v:Value) (w:World),T.size t<=nn->T.size t<=67108864->Rd o w t v ->
  Calls Tryz.prog 16 #[v] w fun e w'=>∃ v',e=.returned v'/\Chg [] w w'/\Rd (fun b=>w.heap.size<=b) w' t v':=by
 induction nn with
 | zero=>exact fun t _ _ hn=>absurd hn (by have:=T.size_pos t; omega)
 | succ nn ih=>
 intro t v w hn hb h
 have hvl:=T.vals_len t;have hkl:=T.keys_vals t;obtain ⟨Ak,qk,Av,qv,rfl,hk,hv⟩:=h.five;have HKS:=Lib.hid hk.src
 go_enter Tryz.func16,Tryz.ntmps16
 go_wp2
 rename_i K hK;have HK:=Lib.hid hK;clear hK
 refine wp_region_mono (by rfl) (by kernel_rfl) [1] (by kernel_rfl)
  (fun j u V=>match j with
   | 0=>u=.pointer (some ⟨w.heap.size,0,none⟩)
   | 1=>u=.int .i64 t.kind
   | 2=>u=.pointer (some ⟨w.heap.size,1,none⟩)
   | 3=>u=.int .i64 t.num
   | 4=>u=.pointer (some ⟨w.heap.size,2,none⟩)
   | 5=>u=.string t.txt
   | 6=>∃ g,u=.slice (some ⟨g,0,none⟩) 0 0/\V.ownsRow (w.heap.size+2) 9 1 u 0 []
   | 7=>u=.pointer (some ⟨w.heap.size,3,none⟩)
   | 8=>u=.slice Ak t.keys.length qk
   | 9=>∃ g c,u=.slice (some ⟨g,0,none⟩) t.keys.length c/\V.ownsRow (w.heap.size+2) 9 1 u t.keys.length (strC t.keys)
   | 10=>∃ g c,u=.agg #[.int .i64 t.kind,.int .i64 t.num,.string t.txt,.slice (some ⟨g,0,none⟩) t.keys.length c,.slice none 0 0]/\V.ownsRow (w.heap.size+2) 9 1 (.slice (some ⟨g,0,none⟩) t.keys.length c) t.keys.length (strC t.keys)
   | 11=>∃ g,u=.pointer (some ⟨g,0,none⟩)/\w.heap.size+2<=g/\V.heap[g]?=some (.cells #[.int .i64 0,.int .i64 0,.string ⟨#[]⟩,.slice none 0 0,.slice none 0 0] 25)
   | _=>True) ?_
  (fun i=>if i=6∨i=9 then some 0 else none) (fun _ u=>Value.blk u) ?_ ?_
 ·intro i u w1 w2 hc hφ
  have hrow:∀ {b e size n c xs g},w1.ownsRow b e size (.slice (some ⟨g,0,none⟩) n c) n xs->w2.ownsRow b e size (.slice (some ⟨g,0,none⟩) n c) n xs:=fun h=>ownsRow_frame h (hc.block _ (ownsRow_lt h) (by simp))
  rcases i with _ | _ | _ | _ | _ | _ | _ | _ | _ | _ | _ | _ | i
  all_goals first | exact hφ | skip
  ·obtain ⟨g,rfl,h⟩:=hφ
   exact ⟨g,rfl,hrow h⟩
  ·obtain ⟨g,c,rfl,h⟩:=hφ
   exact ⟨g,c,rfl,hrow h⟩
  ·obtain ⟨g,c,rfl,h⟩:=hφ
   exact ⟨g,c,rfl,hrow h⟩
  ·obtain ⟨g,rfl,hg,hh⟩:=hφ
   exact ⟨g,rfl,hg,(hc.block _ (Array.getElem?_eq_some_iff.1 hh).1 (by simp)).trans hh⟩
 ·intro i o hi ho a' w' hst hch hdep
  have hcw:Chg [] w w':=(((Chg.refl [] w).al _).al _).dr.trans hch New.nil
  have hsz:w.heap.size+2<=w'.heap.size:=by have:=hch.size; simpa using this
  have z1:=(hch.block w.heap.size (by simp; omega) (by simp)).trans (alloc2 w _ _).1;obtain ⟨a0,a1,a2,a3,a4,_⟩:=cells5 z1;have hi':i < 12:=hi;rcases i with _ | _ | _ | _ | _ | _ | _ | _ | _ | _ | _ | _ | i
  ·obtain rfl:_=o:=Option.some.inj ho
   have h1:=g_eq (t:=1) (v:=.pointer (some ⟨w.heap.size,0,none⟩)) (hst 1 (by simp));exact ⟨.pointer (some ⟨w.heap.size,0,none⟩),w',by go_simp,Chg.refl _ _,rfl,fun c hc=>by simp at hc⟩
  ·obtain rfl:_=o:=Option.some.inj ho
   have h5:=g_eq (t:=5) (v:=.pointer (some ⟨w.heap.size,0,none⟩)) (hdep 0 (by kernel_rfl));exact ⟨.int .i64 t.kind,w',by go_simp,Chg.refl _ _,rfl,fun c hc=>by simp at hc⟩
  ·obtain rfl:_=o:=Option.some.inj ho
   have h1:=g_eq (t:=1) (v:=.pointer (some ⟨w.heap.size,0,none⟩)) (hst 1 (by simp));exact ⟨.pointer (some ⟨w.heap.size,1,none⟩),w',by go_simp,Chg.refl _ _,rfl,fun c hc=>by simp at hc⟩
  ·obtain rfl:_=o:=Option.some.inj ho
   have h7:=g_eq (t:=7) (v:=.pointer (some ⟨w.heap.size,1,none⟩)) (hdep 2 (by kernel_rfl));exact ⟨.int .i64 t.num,w',by go_simp,Chg.refl _ _,rfl,fun c hc=>by simp at hc⟩
  ·obtain rfl:_=o:=Option.some.inj ho
   have h1:=g_eq (t:=1) (v:=.pointer (some ⟨w.heap.size,0,none⟩)) (hst 1 (by simp));exact ⟨.pointer (some ⟨w.heap.size,2,none⟩),w',by go_simp,Chg.refl _ _,rfl,fun c hc=>by simp at hc⟩
  ·obtain rfl:_=o:=Option.some.inj ho
   have h9:=g_eq (t:=9) (v:=.pointer (some ⟨w.heap.size,2,none⟩)) (hdep 4 (by kernel_rfl));exact ⟨.string t.txt,w',by go_simp,Chg.refl _ _,rfl,fun c hc=>by simp at hc⟩
  ·obtain rfl:_=o:=Option.some.inj ho
   refine ⟨.slice (some ⟨w'.heap.size,0,none⟩) 0 0,w'.alloc (.cells #[] 9),by go_simp,(Chg.refl [] w').al _,⟨_,rfl,?_⟩,?_⟩
   ·exact World.ownsRow_lit w' #[] 0 (by omega) (by decide) rfl
   ·intro c _ b hb
    cases hb
    exact ⟨by simp,.inl (Nat.le_refl _)⟩
  ·obtain rfl:_=o:=Option.some.inj ho
   have h1:=g_eq (t:=1) (v:=.pointer (some ⟨w.heap.size,0,none⟩)) (hst 1 (by simp));exact ⟨.pointer (some ⟨w.heap.size,3,none⟩),w',by go_simp,Chg.refl _ _,rfl,fun c hc=>by simp at hc⟩
  ·obtain rfl:_=o:=Option.some.inj ho
   have h12:=g_eq (t:=12) (v:=.pointer (some ⟨w.heap.size,3,none⟩)) (hdep 7 (by kernel_rfl));exact ⟨.slice Ak t.keys.length qk,w',by go_simp,Chg.refl _ _,rfl,fun c hc=>by simp at hc⟩
  ·obtain rfl:_=o:=Option.some.inj ho
   have h13:=g_eq (t:=13) (v:=.slice Ak t.keys.length qk) (hdep 8 (by kernel_rfl));obtain ⟨g,h11,hown⟩:=hdep 6 (by kernel_rfl);rw [h11] at hown;have h11':=h11;have h11:=g_eq (t:=11) h11
   obtain ⟨v',w2,hr,hown2,hc2,g',c',rfl,hlt,hor⟩:=run_append_copy (P:=Tryz.prog) (w:=w') (w.heap.size+2) 22 22 9 (.string ⟨#[]⟩) 1 16 uKs iS rfl g hown Ak t.keys.length qk (strC t.keys) (by simp [strC])
    (fun hpos=>by
     obtain ⟨b,hA,hb⟩:=HKS.out hpos
     exact ⟨b,hA,fun j u hu=>by have:=hb j u hu; exact (hcw.cells.1 _ _ (World.block_lt_of_cell? w _ this)).trans this⟩) (by omega) (by omega)
   refine ⟨_,w2,by simp [execOp,resolve,invoke,builtin,Act.eval,h11,h13,hr,Result.andThen],hc2,⟨g',c',rfl,hown2⟩,?_⟩
   intro c hc b hb
   cases hb
   refine ⟨hlt,?_⟩;rcases hor with rfl | h
   ·exact .inr ⟨6,by kernel_rfl,by simpa using hc,by rw [h11']; rfl⟩
   ·exact .inl h
  ·obtain rfl:_=o:=Option.some.inj ho
   have h6:=g_eq (t:=6) (v:=.int .i64 t.kind) (hdep 1 (by kernel_rfl));have h8:=g_eq (t:=8) (v:=.int .i64 t.num) (hdep 3 (by kernel_rfl));have h10:=g_eq (t:=10) (v:=.string t.txt) (hdep 5 (by kernel_rfl));obtain ⟨g,c,h14,hown⟩:=hdep 9 (by kernel_rfl);rw [h14] at hown;have h14':=h14;have h14:=g_eq (t:=14) h14;refine ⟨.agg #[.int .i64 t.kind,.int .i64 t.num,.string t.txt,.slice (some ⟨g,0,none⟩) t.keys.length c,.slice none 0 0],w',by go_simp,Chg.refl _ _,⟨g,c,rfl,hown⟩,fun c hc=>by simp at hc⟩
  ·obtain rfl:_=o:=Option.some.inj ho
   refine ⟨.pointer (some ⟨w'.heap.size,0,none⟩),w'.alloc (.cells #[.int .i64 0,.int .i64 0,.string ⟨#[]⟩,.slice none 0 0,.slice none 0 0] 25),by go_simp,(Chg.refl [] w').al _,⟨_,rfl,by omega,heap_alloc_new _ _⟩,fun c hc=>by simp at hc⟩
  ·omega
 ·intro o' ho u w1 hch hφ hap A2 hA2
  obtain rfl:_=o':=Option.some.inj ho;have hcw:Chg [] w w1:=(((Chg.refl [] w).al _).al _).dr.trans hch New.nil
  have hsz:w.heap.size+2<=w1.heap.size:=by have:=hch.size; simpa using this
  have l11:11 < 12:=by omega
  obtain ⟨B,hB,hwB,hBc⟩:=hφ 11 l11;obtain ⟨gk,ck,h15,hrk⟩:=hφ 10 (Nat.lt_trans (by decide:10 < 11) l11)
  have hBk:gk≠B:=fun e=>by
   subst e
   rcases hrk.2 with ⟨h,_⟩ | ⟨g',cap',cur,h,_,hg,_⟩
   ·cases h
   ·cases h
    rw [hBc] at hg
    cases hg
  have lk:=hrk.lt gk rfl;simp [putAll,dOf,Act.put,hB,h15] at hA2;subst hA2;clear hap hφ l11 ho;obtain ⟨b0,b1,b2,b3,b4,bf⟩:=cells5 hBc;unfold Oper.wp;go_simp;refine HK.out _ _ ?_;clear HK;have q1:=setCells5 w1 B (.int .i64 t.kind) (.int .i64 t.num) (.string t.txt) (.slice (some ⟨gk,0,none⟩) t.keys.length ck) (.slice none 0 0) hBc;have hne:=setCells5_ne w1 B (.int .i64 t.kind) (.int .i64 t.num) (.string t.txt) (.slice (some ⟨gk,0,none⟩) t.keys.length ck) (.slice none 0 0);have hcW:=setCells5_chg hcw (by omega:w.heap.size<=B) (.int .i64 t.kind) (.int .i64 t.num) (.string t.txt) (.slice (some ⟨gk,0,none⟩) t.keys.length ck) (.slice none 0 0)
  have hold:∀ b,b < w.heap.size+2->w1.heap[b]?=((w.alloc (.cells #[.int .i64 t.kind,.int .i64 t.num,.string t.txt,.slice Ak t.keys.length qk,.slice Av t.vals.length qv] 32)).alloc (.cells #[.int .i64 0,.int .i64 0,.string ⟨#[]⟩,.slice none 0 0,.slice none 0 0] 25)).drew.heap[b]?:=fun b hb=>hch.block b (by simp; omega) (by simp)
  have z1:=(hne _ (by omega)).trans ((hold w.heap.size (by omega)).trans (alloc2 w _ _).1);have z2:=(hne _ (by omega)).trans ((hold (w.heap.size+1) (by omega)).trans (alloc2 w _ _).2);have rk:=ownsRow_frame hrk (hne gk hBk);clear hrk b0 b1 b2 b3 b4 bf hold hne hBc hB h15 hch hcw
  revert z1 z2 q1 hcW rk
  generalize (((((w1.setCell ⟨B,0,none⟩ (.int .i64 t.kind)).setCell ⟨B,1,none⟩ (.int .i64 t.num)).setCell ⟨B,2,none⟩ (.string t.txt)).setCell ⟨B,3,none⟩ (.slice (some ⟨gk,0,none⟩) t.keys.length ck)).setCell ⟨B,4,none⟩ (.slice none 0 0))=W
  intro q1 hcW z1 z2 rk
  go_wp2
  go_loopg [4] t.vals.length (fun g i wr=>∃ (n:Nat) (R:Value) (xs:List Value),n<=t.vals.length/\g=t.vals.length - n/\i=.int .i64 n/\Chg [] w wr /\
   wr.heap[B]?=some (.cells #[.int .i64 t.kind,.int .i64 t.num,.string t.txt,.slice (some ⟨gk,0,none⟩) t.keys.length ck,R] 25) /\
   wr.heap[w.heap.size]?=some (.cells #[.int .i64 t.kind,.int .i64 t.num,.string t.txt,.slice Ak t.keys.length qk,.slice Av t.vals.length qv] 32) /\
   wr.heap[w.heap.size+1]?=some (.cells #[.int .i64 0,.int .i64 0,.string ⟨#[]⟩,.slice none 0 0,.slice none 0 0] 25) /\
   wr.ownsRow (w.heap.size+2) 9 1 (.slice (some ⟨gk,0,none⟩) t.keys.length ck) t.keys.length (strC t.keys) /\
   wr.ownsRow (w.heap.size+2) 25 5 R n xs/\FlatV (Off (w.heap.size+2) B R) wr (t.vals.take n) xs /\
   ∀ g,R.ownBlock=some g->w.heap.size+2<=g/\g < wr.heap.size/\g≠B/\g≠gk)
  case atStart=>
   refine ⟨0,.slice none 0 0,[],Nat.zero_le _,by omega,rfl,hcW,q1,z1,z2,rk,?_,by simp [FlatV],fun g h=>by simp [Value.ownBlock] at h⟩;exact World.ownsRow_nil _ _ _ _
  case round=>
   obtain ⟨n,R,xs,hn',rfl,rfl,hcr,q1',z1',z2',rk',rR,hx,hR⟩:=hrel;clear q1 hcW z1 z2 rk;obtain ⟨b0,b1,b2,b3,b4,bf⟩:=cells5 q1';obtain ⟨a0,a1,a2,a3,a4,af⟩:=cells5 z1'
   by_cases hlt:n < t.vals.length
   ·obtain ⟨x,hx1⟩ : ∃ x,t.vals[n]?=some x:=⟨_,List.getElem?_eq_getElem hlt⟩
    obtain ⟨ge,c1,kx,vx,e1,hc1,hkx,hvx,x0,x1,x2,x3,x4⟩:=hv.at_ hx1
    cases e1
    have hxs:=T.sizeL_at hx1;have hts:=T.size_vals t;have hge:ge < w.heap.size:=World.block_lt_of_cell? w _ x0;have rx0:=Rd.mk (t:=x) hkx hvx
    have hszr:w.heap.size+2<=wr.heap.size:=by have:=(Array.getElem?_eq_some_iff.1 z2').1; omega
    have hBr:B < wr.heap.size:=(Array.getElem?_eq_some_iff.1 q1').1;have HXX:=Lib.hid hx1;have HR:=Lib.hid hR;have HX:=Lib.hid hx;have HRR:=Lib.hid rR;have HXC:=Lib.hid (And.intro x0 (And.intro x1 (And.intro x2 (And.intro x3 x4))));clear hx rR hR hx1 x0 x1 x2 x3 x4
    go_wp2
    rename_i K hK;have HK:=Lib.hid hK;clear hK b0 b1 b2 b3 b4 bf a0 a1 a2 a3 a4 af
    refine wp_region_call (by rfl) (by kernel_rfl) [1,3,4] (by kernel_rfl) 9 (by decide) R.ownBlock.toList
     (fun j u V=>match j with
      | 0=>u=.pointer (some ⟨B,4,none⟩)
      | 1=>u=R
      | 2=>u=.pointer (some ⟨w.heap.size,4,none⟩)
      | 3=>u=.slice (some ⟨ge,0,none⟩) t.vals.length qv
      | 4=>u=.int .i64 n
      | 5=>u=.pointer (some ⟨ge,n * 5,none⟩)
      | 6=>u=.agg #[.int .i64 x.kind,.int .i64 x.num,.string x.txt,kx,vx]
      | 7=>Rd (fun b=>wr.heap.size<=b) V x u
      | 8=>∃ g v,u=.slice (some ⟨g,0,none⟩) 1 1/\wr.heap.size<=g/\Rd (fun b=>wr.heap.size<=b) V x v/\∀ i c,v.cells[i]?=some c->V.cell? ⟨g,i,none⟩=some c
      | 9=>∃ xs',V.ownsRow (w.heap.size+2) 25 5 u (n+1) xs'/\FlatV (Off (w.heap.size+2) B u) V (t.vals.take n++[x]) xs'/\∃ g c,u=.slice (some ⟨g,0,none⟩) (n+1) c/\w.heap.size+2<=g/\g < V.heap.size/\(R.ownBlock=some g∨wr.heap.size<=g)
      | 10=>u=.pointer (some ⟨B,4,none⟩)
      | _=>True) ?_ ?_ ?_ ?_ ?_
    ·intro j u V V' hc hφ
     rcases j with _ | _ | _ | _ | _ | _ | _ | _ | _ | _ | _ | j
     all_goals first | exact hφ | skip
     ·exact Rd.chg hφ hc
     ·obtain ⟨g,v,rfl,hg,hr,hcl⟩:=hφ
      exact ⟨g,v,rfl,hg,hr.chg hc,fun i c h=>(hc.cells.1 _ _ (World.block_lt_of_cell? V _ (hcl i c h))).trans (hcl i c h)⟩
     ·obtain ⟨xs',ho,hf,g,c,rfl,h1,h2,h3⟩:=hφ
      exact ⟨xs',ownsRow_frame ho (hc.block g h2 (by simp)),hf.mono fun b hb _=>hc.block b hb (by simp),g,c,rfl,h1,Nat.lt_of_lt_of_le h2 hc.size,h3⟩
    ·intro j u V V' hj9 hc hφ
     have hfar:∀ b,b < V.heap.size->wr.heap.size<=b->V'.heap[b]?=V.heap[b]?:=fun b hb hle=>hc.block b hb (by
      intro hm
      have:=(HR.out b (by simpa using hm)).2.1
      omega)
     rcases j with _ | _ | _ | _ | _ | _ | _ | _ | _ | _ | _ | j
     all_goals first | exact hφ | skip
     ·exact hφ.mono fun b hb ho=>hfar b hb ho
     ·obtain ⟨g,v,rfl,hg,hr,hcl⟩:=hφ
      exact ⟨g,v,rfl,hg,hr.mono fun b hb ho=>hfar b hb ho,fun i c h=>(World.cell?_of_block (hfar g (World.block_lt_of_cell? V _ (hcl i c h)) hg)).trans (hcl i c h)⟩
     ·exact absurd rfl hj9
    ·intro j oo hj hj9 ho a' w' hst hch hwt hdep K2 hK2
     have hF:∀ b,b < w.heap.size+2->w'.heap[b]?=wr.heap[b]?:=fun b hb=>hch.block b (by show b < wr.heap.size; omega) (fun hm=>by
      have:=(HR.out b (by simpa using hm)).1
      omega)
     have hsz:wr.heap.size<=w'.heap.size:=hch.size;obtain ⟨b0,b1,b2,b3,b4,bf⟩:=cells5 ((hch.block B (by show B < wr.heap.size; omega) (fun hm=>(HR.out B (by simpa using hm)).2.2.1 rfl)).trans q1');obtain ⟨a0,a1,a2,a3,a4,af⟩:=cells5 ((hF w.heap.size (by omega)).trans z1');obtain ⟨x0,x1,x2,x3,x4⟩:=HXC.out
     have hgo:∀ b,b < w.heap.size->w'.heap[b]?=w.heap[b]?:=fun b hb=>(hF b (by omega)).trans (hcr.block b hb (by simp))
     have y0:=(World.cell?_of_block (a:=⟨ge,n * 5,none⟩) (hgo ge hge)).trans x0;have y1:=(World.cell?_of_block (a:=⟨ge,n * 5+1,none⟩) (hgo ge hge)).trans x1;have y2:=(World.cell?_of_block (a:=⟨ge,n * 5+2,none⟩) (hgo ge hge)).trans x2;have y3:=(World.cell?_of_block (a:=⟨ge,n * 5+3,none⟩) (hgo ge hge)).trans x3;have y4:=(World.cell?_of_block (a:=⟨ge,n * 5+4,none⟩) (hgo ge hge)).trans x4;clear x0 x1 x2 x3 x4
     have rx:Rd o w' x (.agg #[.int .i64 x.kind,.int .i64 x.num,.string x.txt,kx,vx]):=rx0.mono fun b hb _=>hgo b hb
     have hj':j < 11:=hj;rcases j with _ | _ | _ | _ | _ | _ | _ | _ | _ | _ | _ | j
     ·obtain rfl:_=oo:=Option.some.inj ho
      have h3:=g_eq (t:=3) (v:=.pointer (some ⟨B,0,none⟩)) (hst 3 (by simp));unfold Oper.wp;go_simp;exact ⟨_,rfl,hK2 _ _ (Chg.refl _ _) rfl⟩
     ·obtain rfl:_=oo:=Option.some.inj ho
      have h23:=g_eq (t:=23) (v:=.pointer (some ⟨B,4,none⟩)) (hdep 0 (by kernel_rfl));unfold Oper.wp;go_simp;exact ⟨_,rfl,hK2 _ _ (Chg.refl _ _) rfl⟩
     ·obtain rfl:_=oo:=Option.some.inj ho
      have h1:=g_eq (t:=1) (v:=.pointer (some ⟨w.heap.size,0,none⟩)) (hst 1 (by simp));unfold Oper.wp;go_simp;exact ⟨_,rfl,hK2 _ _ (Chg.refl _ _) rfl⟩
     ·obtain rfl:_=oo:=Option.some.inj ho
      have h25:=g_eq (t:=25) (v:=.pointer (some ⟨w.heap.size,4,none⟩)) (hdep 2 (by kernel_rfl));unfold Oper.wp;go_simp;exact ⟨_,rfl,hK2 _ _ (Chg.refl _ _) rfl⟩
     ·obtain rfl:_=oo:=Option.some.inj ho
      have h4:=g_eq (t:=4) (v:=.int .i64 n) (hst 4 (by simp));unfold Oper.wp;go_simp;exact ⟨_,rfl,hK2 _ _ (Chg.refl _ _) rfl⟩
     ·obtain rfl:_=oo:=Option.some.inj ho
      have h26:=g_eq (t:=26) (v:=.slice (some ⟨ge,0,none⟩) t.vals.length qv) (hdep 3 (by kernel_rfl));have h27:=g_eq (t:=27) (v:=.int .i64 n) (hdep 4 (by kernel_rfl));unfold Oper.wp;go_simp;exact ⟨_,rfl,hK2 _ _ (Chg.refl _ _) rfl⟩
     ·obtain rfl:_=oo:=Option.some.inj ho
      have h28:=g_eq (t:=28) (v:=.pointer (some ⟨ge,n * 5,none⟩)) (hdep 5 (by kernel_rfl));unfold Oper.wp;go_simp;exact ⟨_,rfl,hK2 _ _ (Chg.refl _ _) rfl⟩
     ·obtain rfl:_=oo:=Option.some.inj ho
      have h29:=g_eq (t:=29) (v:=.agg #[.int .i64 x.kind,.int .i64 x.num,.string x.txt,kx,vx]) (hdep 6 (by kernel_rfl));unfold Oper.wp;go_simp;refine (ih x _ w' (by omega) (by omega) rx).mono ?_;rintro e w3 ⟨v',rfl,hc3,hr3⟩;exact ⟨_,rfl,hK2 _ _ hc3 (hr3.weak fun b hb=>Nat.le_trans hch.size hb)⟩
     ·obtain rfl:_=oo:=Option.some.inj ho
      have hr30:Rd (fun b=>wr.heap.size<=b) w' x (Act.g a' 30):=hdep 7 (by kernel_rfl);generalize h30:Act.g a' 30=vv at hr30;obtain ⟨A3,q3,A4,q4,rfl,_⟩:=hr30.five;have h30:=g_eq (t:=30) h30;unfold Oper.wp;go_simp;refine ⟨_,rfl,hK2 _ _ ((Chg.refl [] w').al _) ⟨w'.heap.size,_,rfl,hch.size,hr30.chg ((Chg.refl [] w').al _),?_⟩⟩;obtain ⟨n0,n1,n2,n3,n4,_⟩:=cells5 (heap_alloc_new w' (.cells #[.int .i64 x.kind,.int .i64 x.num,.string x.txt,.slice A3 x.keys.length q3,.slice A4 x.vals.length q4] 25))
      intro i c hc
      rcases i with _ | _ | _ | _ | _ | i
      all_goals first | (cases hc; assumption) | (simp [Value.cells] at hc)
     ·exact absurd rfl hj9
     ·obtain rfl:_=oo:=Option.some.inj ho
      have h3:=g_eq (t:=3) (v:=.pointer (some ⟨B,0,none⟩)) (hst 3 (by simp));unfold Oper.wp;go_simp;exact ⟨_,rfl,hK2 _ _ (Chg.refl _ _) rfl⟩
     ·omega
    ·intro oo ho a' w' hst hch hdep
     obtain rfl:_=oo:=Option.some.inj ho;have hsz:wr.heap.size<=w'.heap.size:=hch.size;have h24:=g_eq (t:=24) (v:=R) (hdep 1 (by kernel_rfl));obtain ⟨g1,v,h31,hg1,hr,hcl⟩ : ∃ g v,Act.g a' 31=.slice (some ⟨g,0,none⟩) 1 1/\wr.heap.size<=g/\Rd (fun b=>wr.heap.size<=b) w' x v/\∀ i c,v.cells[i]?=some c->w'.cell? ⟨g,i,none⟩=some c:=hdep 8 (by kernel_rfl);have h31:=g_eq (t:=31) h31;have hx:FlatV (Off (w.heap.size+2) B R) w' (t.vals.take n) xs:=FlatV.mono (w:=wr) (fun b hb _=>hch.block b hb (by simp)) HX.out
     have rR:=ownsRow_keep (w':=w') HRR.out fun g hg=>hch.block g (HR.out g hg).2.1 (by simp)
     obtain ⟨R',w2,hrun,ho,hf,hc,g,c,rfl,h1,h2,h3⟩:=app_one (P:=Tryz.prog) (ty:=23) (c1:=1) uVs iV rfl rR hx hcl (hr.weak fun b hb=>⟨by omega,by omega,fun e=>by have:=(HR.out b e).2.1; omega⟩) (by omega) (by omega) (by omega);exact ⟨_,w2,by simp [execOp,resolve,invoke,builtin,Act.eval,h24,h31,hrun,Result.andThen],hc,_,ho,hf,g,c,rfl,h1,h2,h3.imp id fun h=>by omega⟩
    ·intro oo ho u w' hch hφ A2 hA2
     obtain rfl:_=oo:=Option.some.inj ho
     have l10:10 < 11:=by omega
     have hu10:u 10=.pointer (some ⟨B,4,none⟩):=hφ 10 l10;obtain ⟨xs',hro,hfl,g,c,hu9,hg1,hg2,hg3⟩ : ∃ xs',w'.ownsRow (w.heap.size+2) 25 5 (u 9) (n+1) xs'/\FlatV (Off (w.heap.size+2) B (u 9)) w' (t.vals.take n++[x]) xs'/\∃ g c,u 9=.slice (some ⟨g,0,none⟩) (n+1) c/\w.heap.size+2<=g/\g < w'.heap.size/\(R.ownBlock=some g∨wr.heap.size<=g):=hφ 9 (Nat.lt_trans (by decide:9 < 10) l10);rw [hu9] at hro hfl
     have hF:∀ b,b < w.heap.size+2->w'.heap[b]?=wr.heap[b]?:=fun b hb=>hch.block b (by show b < wr.heap.size; omega) (fun hm=>by
      have:=(HR.out b (by simpa using hm)).1
      omega)
     have hsz:wr.heap.size<=w'.heap.size:=hch.size
     have hgB:g≠B/\g≠gk:=by
      have hgk:gk < wr.heap.size:=rk'.lt gk rfl |>.2;rcases hg3 with h | h
      ·exact (HR.out g h).2.2
      ·constructor <;> omega
     have hB2:=(hch.block B (by show B < wr.heap.size; omega) (fun hm=>(HR.out B (by simpa using hm)).2.2.1 rfl)).trans q1'
     have hk2:=(hch.block gk (rk'.lt gk rfl).2 (fun hm=>(HR.out gk (by simpa using hm)).2.2.2 rfl))
     simp [putAll,dOf,Act.put,hu9,hu10] at hA2;subst hA2;clear hφ l10 ho hu9 hu10;obtain ⟨b0,b1,b2,b3,b4,bf⟩:=cells5 hB2;unfold Oper.wp;go_simp;refine HK.out _ _ ?_;clear HK b0 b1 b2 b3 b4 bf
     have hneB:∀ b,b≠B->(w'.setCell ⟨B,4,none⟩ (.slice (some ⟨g,0,none⟩) (n+1) c)).heap[b]?=w'.heap[b]?:=fun b hb=>heap_setCell_other _ _ _ _ hb
     have Q1:=heap_setCell_same _ B 4 _ _ (.slice (some ⟨g,0,none⟩) (n+1) c) hB2;have Z1:=(hneB w.heap.size (by omega)).trans ((hF _ (by omega)).trans z1');have Z2:=(hneB (w.heap.size+1) (by omega)).trans ((hF _ (by omega)).trans z2');have RK:=ownsRow_frame rk' ((hneB gk hBk).trans hk2);have RR:=ownsRow_frame hro (hneB g hgB.1)
     have HFL:FlatV (Off (w.heap.size+2) B (.slice (some ⟨g,0,none⟩) (n+1) c)) _ (t.vals.take n++[x]) xs':=hfl.mono (w':=w'.setCell ⟨B,4,none⟩ (.slice (some ⟨g,0,none⟩) (n+1) c)) fun b _ ho=>hneB b ho.2.1
     have HC:Chg [] w (w'.setCell ⟨B,4,none⟩ (.slice (some ⟨g,0,none⟩) (n+1) c)):=(hcr.trans ((Chg.refl R.ownBlock.toList wr).dr.trans hch (New.refl _ _)) (fun y hy=>.inr (by
      have:=(HR.out y (by simpa using hy)).1
      omega))).st (by show w.heap.size<=B; omega) _
     have hgs:g < (w'.setCell ⟨B,4,none⟩ (.slice (some ⟨g,0,none⟩) (n+1) c)).heap.size:=by simpa using hg2
     revert Q1 Z1 Z2 RK RR HFL HC hgs
     generalize w'.setCell ⟨B,4,none⟩ (.slice (some ⟨g,0,none⟩) (n+1) c)=W2
     intro Q1 Z1 Z2 RK RR HFL HC hgs
     go_wp2
     go_roundg (t.vals.length - (n+1))
     case measure=>omega
     case rel=>
      refine ⟨n+1,_,xs',by omega,rfl,by go_num,HC,by simpa using Q1,Z1,Z2,RK,RR,by rw [take_snoc HXX.out]; exact HFL,fun g' hg'=>?_⟩
      have:g=g':=by simpa [Value.ownBlock] using hg'
      subst this;exact ⟨hg1,hgs,hgB⟩
   ·have HE:=Lib.hid (show n=t.vals.length by omega)
    have HX:=Lib.hid hx;have HRR:=Lib.hid rR;have HRK:=Lib.hid rk';obtain ⟨d0,d1,d2,d3,d4,df⟩:=cells5 z2';obtain ⟨RA,RC,rfl⟩:=ownsRow_slice rR;clear hx rR rk' hR
    go_wp2
    obtain rfl:n=t.vals.length:=HE.out;have Z:=setCells5 wr (w.heap.size+1) (.int .i64 t.kind) (.int .i64 t.num) (.string t.txt) (.slice (some ⟨gk,0,none⟩) t.keys.length ck) (.slice RA t.vals.length RC) z2';have hne:=setCells5_ne wr (w.heap.size+1) (.int .i64 t.kind) (.int .i64 t.num) (.string t.txt) (.slice (some ⟨gk,0,none⟩) t.keys.length ck) (.slice RA t.vals.length RC);have hcE:=setCells5_chg hcr (by omega:w.heap.size<=w.heap.size+1) (.int .i64 t.kind) (.int .i64 t.num) (.string t.txt) (.slice (some ⟨gk,0,none⟩) t.keys.length ck) (.slice RA t.vals.length RC)
    have RK:=RdK.of_own (o:=fun b=>w.heap.size<=b) (ks:=t.keys) (fun b hb=>by omega) (ownsRow_keep HRK.out fun g hg=>hne g (by
     have:=(ownsRow_own HRK.out hg).1
     omega))
    have hxs:FlatV (fun b=>w.heap.size<=b) _ (t.vals.take t.vals.length) xs:=HX.out.to (w':=(((((wr.setCell ⟨w.heap.size+1,0,none⟩ (.int .i64 t.kind)).setCell ⟨w.heap.size+1,1,none⟩ (.int .i64 t.num)).setCell ⟨w.heap.size+1,2,none⟩ (.string t.txt)).setCell ⟨w.heap.size+1,3,none⟩ (.slice (some ⟨gk,0,none⟩) t.keys.length ck)).setCell ⟨w.heap.size+1,4,none⟩ (.slice RA t.vals.length RC))) fun b hb ho=>⟨by have:=ho.1; omega,hne b (by have:=ho.1; omega)⟩
    rw [List.take_length] at hxs
    have RV:=RdV.of_own (o:=fun b=>w.heap.size<=b) (fun b hb=>by omega) (ownsRow_keep HRR.out fun g hg=>hne g (by
     have:=(ownsRow_own HRR.out hg).1
     omega)) hxs
    obtain ⟨e0,e1,e2,e3,e4,_⟩:=cells5 Z;refine bodyPost_ret (v:=.agg #[.int .i64 t.kind,.int .i64 t.num,.string t.txt,.slice (some ⟨gk,0,none⟩) t.keys.length ck,.slice RA t.vals.length RC]) (by simp [results,Tryz.results16,go_sem,e0,e1,e2,e3,e4]) rfl ⟨_,rfl,hcE,Rd.mk RK RV⟩
end Go.Proofs.YtpofkokbmifhgaaGreatDoor
namespace Go.Proofs.YtpofkokbmifhgaaGreatDoor
section
variable {α:Type}
def hasK (k:ByteArray) (m:List (ByteArray × α)):Bool:=(mget k m).isSome
theorem hasK_ins {k:ByteArray} {x:α} {m:List (ByteArray × α)}:hasK k (mins k x m)=true:=by simp [hasK,get_ins]
theorem hasK_ins_ne {k y:ByteArray} {x:α} {m:List (ByteArray × α)} (h:y≠k):hasK y (mins k x m)=hasK y m:=by simp [hasK,get_ins_ne h]
theorem hasK_false {k:ByteArray} {m:List (ByteArray × α)} (h:hasK k m=false):mget k m=none:=by simpa [hasK] using h
theorem get_map {β:Type} {f:ByteArray->α->β} {y:ByteArray}:∀ {m:List (ByteArray × α)},mget y (m.map fun p=>(p.1,f p.1 p.2))=(mget y m).map (f y)
 | []=>rfl
 | p :: m=>by
  simp only [List.map_cons,mget]
  split
  ·rename_i e; subst e; rfl
  ·exact get_map
theorem srt_map {β:Type} {f:ByteArray->α->β} {m:List (ByteArray × α)} (h:Srt m):Srt (m.map fun p=>(p.1,f p.1 p.2)):=List.Pairwise.map _ (fun _ _ h=>h) h
end
def T.m:T->List (ByteArray × T)
 | .map m=>m
 | _=>[]
mutual
def WF (B:Nat):T->Prop
 | .text s=>s.size<=B
 | .int n=>-9223372036854775808<=n/\n<=9223372036854775807
 | .list l=>WFL B l
 | .map m=>Srt m/\WFM B m
 | _=>True
def WFL (B:Nat):List T->Prop
 | []=>True
 | t :: l=>WF B t/\WFL B l
def WFM (B:Nat):List (ByteArray × T)->Prop
 | []=>True
 | p :: m=>p.1.size<=B/\WF B p.2/\WFM B m
end
theorem WFL_iff {B:Nat}:∀ {l:List T},WFL B l ↔ ∀ x∈l,WF B x
 | []=>by simp [WFL]
 | t :: l=>by simp [WFL,WFL_iff (l:=l)]
theorem WFM_iff {B:Nat}:∀ {m:List (ByteArray × T)},WFM B m ↔ ∀ p∈m,p.1.size<=B/\WF B p.2
 | []=>by simp [WFM]
 | p :: m=>by
  simp only [WFM,WFM_iff (m:=m),List.forall_mem_cons];exact ⟨fun ⟨a,b,c⟩=>⟨⟨a,b⟩,c⟩,fun ⟨⟨a,b⟩,c⟩=>⟨a,b,c⟩⟩
theorem WF.vals {B:Nat} {t:T} (h:WF B t):∀ x∈t.vals,WF B x:=by
 cases t with
 | list l=>exact WFL_iff.1 h
 | map m=>
  intro x hx
  obtain ⟨p,hp,rfl⟩:=List.mem_map.1 hx;exact (WFM_iff.1 h.2 p hp).2
 | _=>intro x hx; cases hx
theorem WF.keys {B:Nat} {t:T} (h:WF B t):∀ k∈t.keys,k.size<=B:=by
 cases t with
 | map m=>
  intro x hx
  obtain ⟨p,hp,rfl⟩:=List.mem_map.1 hx;exact (WFM_iff.1 h.2 p hp).1
 | _=>intro x hx; cases hx
theorem WF.txt {B:Nat} {t:T} (h:WF B t):t.txt.size<=B:=by
 cases t with
 | text s=>exact h
 | _=>exact Nat.zero_le _
theorem WF.srt {B:Nat} {t:T} (h:WF B t):∀ m,t=.map m->Srt m:=fun m e=>by
 subst e;exact h.1
theorem WF.of_get {B:Nat} {m:List (ByteArray × T)} {k:ByteArray} {x:T} (h:WF B (.map m)) (hg:mget k m=some x):WF B x:=(WFM_iff.1 h.2 _ (get_some hg)).2
theorem WF.ins {B:Nat} {m:List (ByteArray × T)} {k:ByteArray} {x:T} (h:WF B (.map m)) (hk:k.size<=B) (hx:WF B x):WF B (.map (mins k x m)):=
 ⟨h.1.srt_ins,WFM_iff.2 fun p hp=>by
  rcases mem_ins hp with rfl | hp
  ·exact ⟨hk,hx⟩
  ·exact WFM_iff.1 h.2 p hp⟩
theorem one_le_size (t:T):1<=T.size t:=by cases t <;> simp [T.size]
theorem size_m (t:T):T.sizeM t.m+1<=T.size t:=by
 cases t <;> simp [T.size,T.m,T.sizeM] <;> omega
theorem sizeM_ins {k:ByteArray} {x:T}:∀ {m:List (ByteArray × T)},T.sizeM (mins k x m)<=T.sizeM m+T.size x
 | []=>by simp [mins,T.sizeM]
 | p :: m=>by
  unfold mins
  split
  ·simp only [T.sizeM]
   omega
  ·split
   ·have:=sizeM_ins (k:=k) (x:=x) (m:=m)
    simp only [T.sizeM]
    omega
   ·simp only [T.sizeM]
    omega
theorem sizeM_get {k:ByteArray} {x:T}:∀ {m:List (ByteArray × T)},mget k m=some x->T.size x<=T.sizeM m
 | [],h=>by simp [mget] at h
 | p :: m,h=>by
  unfold mget at h;simp only [T.sizeM]
  split at h
  ·cases h
   omega
  ·have:=sizeM_get h
   omega
theorem sizeM_put {k:ByteArray} {x y:T}:∀ {m:List (ByteArray × T)},Srt m->mget k m=some y->T.sizeM (mins k x m)+T.size y=T.sizeM m+T.size x
 | [],_,h=>by simp [mget] at h
 | p :: m,hs,h=>by
  unfold mget at h;unfold mins
  by_cases e:p.1=k
  ·rw [if_pos e] at h ⊢
   cases h
   simp only [T.sizeM]
   omega
  ·rw [if_neg e] at h ⊢
   have hb:=hs.head _ (get_some h);rw [if_pos hb];have:=sizeM_put (x:=x) hs.tail h;simp only [T.sizeM]
   omega
theorem sizeL_len':∀ (l:List T),l.length<=T.sizeL l
 | []=>Nat.le_refl _
 | t :: l=>by
  have:=one_le_size t;have:=sizeL_len' l;simp only [T.sizeL,List.length_cons]
  omega
mutual
theorem WF.mono {B C:Nat} (h:B<=C):∀ {t:T},WF B t->WF C t
 | .null,_=>trivial
 | .bool _,_=>trivial
 | .int _,hw=>hw
 | .text _,hw=>Nat.le_trans hw h
 | .list _,hw=>WFL.mono h hw
 | .map _,hw=>⟨hw.1,WFM.mono h hw.2⟩
theorem WFL.mono {B C:Nat} (h:B<=C):∀ {l:List T},WFL B l->WFL C l
 | [],_=>trivial
 | _ :: _,hw=>⟨WF.mono h hw.1,WFL.mono h hw.2⟩
theorem WFM.mono {B C:Nat} (h:B<=C):∀ {m:List (ByteArray × T)},WFM B m->WFM C m
 | [],_=>trivial
 | _ :: _,hw=>⟨Nat.le_trans hw.1 h,WF.mono h hw.2.1,WFM.mono h hw.2.2⟩
end
theorem extract_size_le (s:ByteArray) (a b:Nat):(s.extract a b).size<=s.size:=by
 rw [ByteArray.size_extract]
 omega
theorem WF.empty {B:Nat}:WF B (.map []):=⟨List.Pairwise.nil,trivial⟩
end Go.Proofs.YtpofkokbmifhgaaGreatDoor
namespace Go.Proofs.YtpofkokbmifhgaaGreatDoor
open Go.RowKit
variable {o:Nat->Prop}
def SomeB (w:World) (e:Ending) (w':World):Prop:=∃ b:Bool,e=.returned (.bool b)/\Chg [] w w'
theorem sayName_any (s:ByteArray) (w:World) (hs:s.size<=67108864):Calls Tryz.prog 39 #[.string s] w (SomeB w):=by
 go_enter Tryz.func39,Tryz.ntmps39
 go_wp2
 go_loopg [3] s.size (fun g i wr=>∃ n:Nat,n<=s.size/\g=s.size - n/\i=.int .i64 n/\w=wr)
 case atStart=>exact ⟨0,Nat.zero_le _,by omega,rfl,rfl⟩
 case round=>
  obtain ⟨n,hn,rfl,rfl,rfl⟩:=hrel
  by_cases hlt:n < s.size
  ·go_wp2
   all_goals first
    | (go_ret; exact ⟨_,rfl,Chg.refl _ _⟩)
    | (
      go_roundg (s.size - (n+1))
      case measure=>omega
      case rel=>exact ⟨n+1,by omega,rfl,by go_num,rfl⟩)
  ·go_wp2
   go_ret
   exact ⟨_,rfl,Chg.refl _ _⟩
theorem RdK.lit {w:World} {g:Nat} {xs:Array Value} {e:TypeId} (ks:List ByteArray) (h:w.heap[g]?=some (.cells xs e)) (hx:xs=(ks.map Value.string).toArray):RdK (fun _=>True) w ks (.slice (some ⟨g,0,none⟩) ks.length ks.length):=
 ⟨_,_,rfl,Nat.le_refl _,fun _=>⟨g,rfl,trivial,fun j s hs=>by
  rw [cell_of_row _ g j _ _ (0,0) h,hx]
  simp [hs]⟩⟩
theorem heap_al2 (w:World) (o1 o2:Obj):((w.alloc o1).alloc o2).heap[w.heap.size+1]?=some o2:=by
 have h1:(w.alloc o1).heap.size=w.heap.size+1:=by simp
 rw [<- h1];exact heap_alloc_new _ _
theorem conv1 (w:World) (b:UInt8):(convert 109 9 (.slice (some ⟨w.heap.size,0,none⟩) 1 1)).run Tryz.prog (w.alloc (.cells #[.int .u8 (b.toNat:Int)] 5))=.ok (.string ⟨#[b]⟩) (w.alloc (.cells #[.int .u8 (b.toNat:Int)] 5)):=
 run_convert_bytes_back (P:=Tryz.prog) _ _ _ 5 ⟨w.heap.size,0,none⟩ 1 [b] (by kernel_rfl) (by kernel_rfl) (by kernel_rfl) (fun j hj=>by
  obtain rfl:j=0:=by simpa using hj
  exact cell_of_row _ w.heap.size 0 _ _ (0,0) (heap_alloc_new _ _))
theorem sayWord_any (s:ByteArray) (w:World) (hs:s.size<=67108864):Calls Tryz.prog 136 #[.string s] w (SomeB w):=by
 go_enter Tryz.func136,Tryz.ntmps136
 go_wp2
 go_loopg [3] s.size (fun g i wr=>∃ n:Nat,n<=s.size/\g=s.size - n/\i=.int .i64 n/\Chg [] w wr)
 case atStart=>exact ⟨0,Nat.zero_le _,by omega,rfl,Chg.refl _ _⟩
 case round=>
  obtain ⟨n,hn,rfl,rfl,hcr⟩:=hrel
  by_cases hlt:n < s.size
  ·have hcv:=conv1 wr s[n]
   have hk:RdK (fun _=>True) ((wr.alloc (.cells #[.int .u8 (s[n].toNat:Int)] 5)).alloc (.cells #[.string ⟨#[61]⟩,.string ⟨#[36]⟩,.string ⟨#[58]⟩,.string ⟨#[34]⟩,.string ⟨#[39]⟩,.string ⟨#[92]⟩,.string ⟨#[126]⟩] 9)) [⟨#[61]⟩,⟨#[36]⟩,⟨#[58]⟩,⟨#[34]⟩,⟨#[39]⟩,⟨#[92]⟩,⟨#[126]⟩] (.slice (some ⟨wr.heap.size+1,0,none⟩) 7 7):=RdK.lit _ (heap_al2 _ _ _) rfl;have HK7:=Lib.hid hk;clear hk
   go_wp2_with fail
   all_goals first
    | (go_ret; exact ⟨_,rfl,hcr⟩)
    | (
      refine (sayIn_any (o:=fun _=>True) _ _ _ _ HK7.out (by decide)).mono ?_;rintro e w' ⟨rfl,rfl⟩
      go_wp2
      all_goals first
       | (go_ret; exact ⟨_,rfl,(hcr.al _).al _⟩)
       | (
        go_roundg (s.size - (n+1))
        case measure=>omega
        case rel=>exact ⟨n+1,by omega,rfl,by go_num,(hcr.al _).al _⟩))
  ·go_wp2
   go_ret
   exact ⟨_,rfl,hcr⟩
end Go.Proofs.YtpofkokbmifhgaaGreatDoor
namespace Go.Proofs.YtpofkokbmifhgaaGreatDoor
open Go.RowKit
variable {o:Nat->Prop}
def SomeQ (q:Prop) (w:World) (e:Ending) (w':World):Prop:=∃ b:Bool,e=.returned (.bool b)/\Chg [] w w'/\(b=true->q)
theorem sayText_any (t:T) (v:Value) (w:World) (h:Rd o w t v) (hs:t.txt.size<=67108864):Calls Tryz.prog 79 #[v] w (SomeQ (t.kind=3) w):=by
 obtain ⟨A3,q3,A4,q4,rfl,hk,hv⟩:=h.five
 go_enter Tryz.func79,Tryz.ntmps79
 go_wp2_with fail
 ·refine (sayWord_any _ _ hs).mono ?_
  rintro e w' ⟨b,rfl,hc⟩
  go_wp2
  go_ret
  exact ⟨_,rfl,((Chg.refl [] w).al _).trans hc New.nil,fun _=>by assumption⟩
 ·go_ret
  exact ⟨_,rfl,(Chg.refl [] w).al _,fun h=>by cases h⟩
theorem sayTexts_any (t:T) (v:Value) (w:World) (h:Rd o w t v) (hs:∀ x∈t.vals,x.txt.size<=67108864) (hl:t.vals.length<=67108864):Calls Tryz.prog 80 #[v] w (SomeB w):=by
 obtain ⟨A3,q3,A4,q4,rfl,hk,hv⟩:=h.five
 go_enter Tryz.func80,Tryz.ntmps80
 go_wp2
 go_loopg [3] t.vals.length (fun g i wr=>∃ n:Nat,n<=t.vals.length/\g=t.vals.length - n/\i=.int .i64 n/\Chg [] w wr/\wr.heap[w.heap.size]?=some (.cells #[.int .i64 t.kind,.int .i64 t.num,.string t.txt,.slice A3 t.keys.length q3,.slice A4 t.vals.length q4] 25))
 case atStart=>exact ⟨0,Nat.zero_le _,by omega,rfl,(Chg.refl [] w).al _,heap_alloc_new _ _⟩
 case round=>
  obtain ⟨n,hn,rfl,rfl,hcr,z1⟩:=hrel;obtain ⟨a0,a1,a2,a3,a4,af⟩:=cells5 z1
  by_cases hlt:n < t.vals.length
  ·obtain ⟨x,hx⟩ : ∃ x,t.vals[n]?=some x:=⟨_,List.getElem?_eq_getElem hlt⟩
   obtain ⟨ge,c1,kx,vx,e1,hc1,hkx,hvx,x0,x1,x2,x3,x4⟩:=hv.at_ hx
   cases e1
   have hge:ge < w.heap.size:=World.block_lt_of_cell? w _ x0;have y0:=(hcr.cells.1 _ _ hge).trans x0;have y2:=(hcr.cells.1 _ _ hge).trans x2;have hxs:=hs x (List.mem_of_getElem? hx);clear x0 x1 x2 x3 x4
   go_wp2_with fail
   ·refine (sayWord_any _ _ hxs).mono ?_
    rintro e w' ⟨b,rfl,hc⟩;have hcw:=hcr.trans hc New.nil;have z2:=(hc.block w.heap.size (Array.getElem?_eq_some_iff.1 z1).1 (by simp)).trans z1
    cases b
    ·go_wp2
     go_ret
     exact ⟨_,rfl,hcw⟩
    ·go_wp2
     go_roundg (t.vals.length - (n+1))
     case measure=>omega
     case rel=>exact ⟨n+1,by omega,rfl,by go_num,hcw,z2⟩
   ·go_ret
    exact ⟨_,rfl,hcr⟩
  ·go_wp2
   all_goals (go_ret; exact ⟨_,rfl,hcr⟩)
theorem sayShell_any (t:T) (v:Value) (w:World) (h:Rd o w t v) (hs:t.txt.size<=67108864) (hs2:∀ x∈t.vals,x.txt.size<=67108864) (hl:t.vals.length<=67108864):Calls Tryz.prog 83 #[v] w (SomeB w):=by
 obtain ⟨A3,q3,A4,q4,rfl,hk,hv⟩:=h.five
 go_enter Tryz.func83,Tryz.ntmps83
 go_wp2_with fail
 refine (sayText_any t _ _ (h.chg ((Chg.refl [] w).al _)) hs).mono ?_;rintro e w1 ⟨b,rfl,hc,_⟩;have hcw:=((Chg.refl [] w).al _).trans hc New.nil
 cases b
 ·obtain ⟨a0,a1,a2,a3,a4,af⟩:=cells5 ((hc.block w.heap.size (by simp) (by simp)).trans (heap_alloc_new _ _))
  go_wp2_with fail
  refine (sayTexts_any t _ _ (h.chg hcw) hs2 hl).mono ?_;rintro e w2 ⟨b,rfl,hc2⟩
  go_wp2
  go_ret
  exact ⟨_,rfl,hcw.trans hc2 New.nil⟩
 ·go_wp2
  go_ret
  exact ⟨_,rfl,hcw⟩
def Known (words truths:List ByteArray) (t:T) (n:Nat):Prop:=∀ j,j < n->∀ k x,t.keys[j]?=some k->t.vals[j]?=some x->(k∈words/\x.kind=3)∨(k∈truths/\x.kind=1)
theorem Known.step {words truths:List ByteArray} {t:T} {n:Nat} (h:Known words truths t n) {k:ByteArray} {x:T} (hk:t.keys[n]?=some k) (hx:t.vals[n]?=some x) (hq:(k∈words/\x.kind=3)∨(k∈truths/\x.kind=1)):Known words truths t (n+1):=fun j hj k' x' hk' hx'=>by
 rcases Nat.lt_or_ge j n with h' | h'
 ·exact h j h' k' x' hk' hx'
 ·obtain rfl:j=n:=by omega
  rw [hk] at hk';rw [hx] at hx'
  cases hk'
  cases hx'
  exact hq
theorem sayKnown_any (t:T) (v:Value) (words truths:List ByteArray) (vw vt:Value) (w:World) (h:Rd o w t v) (hw:RdK o w words vw) (ht:RdK o w truths vt) (hs:∀ x∈t.vals,x.txt.size<=67108864) (hl:t.vals.length<=67108864) (hlw:words.length<=67108864) (hlt:truths.length<=67108864) :
  Calls Tryz.prog 60 #[v,vw,vt] w (SomeQ (t.kind=5/\0 < t.keys.length/\Known words truths t t.keys.length) w):=by
 obtain ⟨A3,q3,A4,q4,rfl,hk,hv⟩:=h.five;have hkl:=T.keys_vals t
 have HW:Hid (∀ s W,Chg [] w W->Calls Tryz.prog 56 #[.string s,vw] W fun e w'=>e=.returned (.bool (decide (s∈words)))/\W=w'):=Lib.hid fun s W hc=>sayIn_any s words vw W (hw.chg hc) hlw
 have HT:Hid (∀ s W,Chg [] w W->Calls Tryz.prog 56 #[.string s,vt] W fun e w'=>e=.returned (.bool (decide (s∈truths)))/\W=w'):=Lib.hid fun s W hc=>sayIn_any s truths vt W (ht.chg hc) hlt
 go_enter Tryz.func60,Tryz.ntmps60
 go_wp2
 go_loopg [7] t.keys.length (fun g i wr=>∃ n:Nat,n<=t.keys.length/\g=t.keys.length - n/\i=.int .i64 n/\Chg [] w wr/\wr.heap[w.heap.size]?=some (.cells #[.int .i64 t.kind,.int .i64 t.num,.string t.txt,.slice A3 t.keys.length q3,.slice A4 t.vals.length q4] 25)/\Known words truths t n)
 case atStart=>exact ⟨0,Nat.zero_le _,by omega,rfl,(Chg.refl [] w).al _,heap_alloc_new _ _,fun j hj=>absurd hj (Nat.not_lt_zero j)⟩
 case round=>
  obtain ⟨n,hn,rfl,rfl,hcr,z1,hkn⟩:=hrel;obtain ⟨a0,a1,a2,a3,a4,af⟩:=cells5 z1;have HN:=Lib.hid hkn;clear hkn
  by_cases hlt:n < t.keys.length
  ·obtain ⟨s,hs1⟩ : ∃ s,t.keys[n]?=some s:=⟨_,List.getElem?_eq_getElem hlt⟩
   obtain ⟨x,hx⟩ : ∃ x,t.vals[n]?=some x:=⟨_,List.getElem?_eq_getElem (by omega)⟩
   obtain ⟨gk,ck,ek,hck,k0⟩:=hk.at_ hs1;obtain ⟨ge,c1,kx,vx,e1,hc1,hkx,hvx,x0,x1,x2,x3,x4⟩:=hv.at_ hx
   cases e1
   cases ek
   have hnv:n < t.vals.length:=by omega
   have hge:ge < w.heap.size:=World.block_lt_of_cell? w _ x0;have hgk:gk < w.heap.size:=World.block_lt_of_cell? w _ k0;have yk:=(hcr.cells.1 _ _ hgk).trans k0;have y0:=(hcr.cells.1 _ _ hge).trans x0;have y1:=(hcr.cells.1 _ _ hge).trans x1;have y2:=(hcr.cells.1 _ _ hge).trans x2;have y3:=(hcr.cells.1 _ _ hge).trans x3;have y4:=(hcr.cells.1 _ _ hge).trans x4;have rx:=Rd.mk (t:=x) hkx hvx;have hxs:=hs x (List.mem_of_getElem? hx);have HSX:=Lib.hid (And.intro hs1 hx);clear hs1 hx;have HX:=Lib.hid (And.intro x0 (And.intro x1 (And.intro x2 (And.intro x3 (And.intro x4 k0)))));clear x0 x1 x2 x3 x4 k0;obtain ⟨A5,q5,rfl,hkx'⟩:=id hkx;obtain ⟨A6,q6,rfl,hvx'⟩:=id hvx
   go_wp2_with fail
   refine (HW.out s _ hcr).mono ?_;rintro e w' ⟨rfl,rfl⟩
   by_cases hin:s∈words
   ·rw [decide_eq_true hin]
    go_wp2_with fail
    refine (sayText_any x _ _ (rx.chg hcr) hxs).mono ?_;rintro e w1 ⟨b,rfl,hc,hq⟩;have hcw:=hcr.trans hc New.nil;have z2:=(hc.block w.heap.size (Array.getElem?_eq_some_iff.1 z1).1 (by simp)).trans z1
    cases b
    ·clear a0 a1 a2 a3 a4 af yk y0 y1 y2 y3 y4
     obtain ⟨a0,a1,a2,a3,a4,af⟩:=cells5 z2;obtain ⟨x0,x1,x2,x3,x4,k0⟩:=HX.out;have yk:=(hcw.cells.1 _ _ hgk).trans k0;have y0:=(hcw.cells.1 _ _ hge).trans x0;clear x0 x1 x2 x3 x4 k0
     go_wp2_with fail
     refine (HT.out s _ hcw).mono ?_;rintro e w' ⟨rfl,rfl⟩
     by_cases hin2:s∈truths
     ·rw [decide_eq_true hin2]
      by_cases hk1:x.kind=1
      ·go_wp2
       go_roundg (t.keys.length - (n+1))
       case measure=>omega
       case rel=>exact ⟨n+1,by omega,rfl,by go_num,hcw,z2,HN.out.step HSX.out.1 HSX.out.2 (.inr ⟨hin2,hk1⟩)⟩
      ·have hk1':(x.kind == 1)=false:=by simpa using hk1
       go_wp2
       go_ret
       exact ⟨_,rfl,hcw,fun h=>by cases h⟩
     ·rw [decide_eq_false hin2]
      go_wp2
      go_ret
      exact ⟨_,rfl,hcw,fun h=>by cases h⟩
    ·go_wp2
     go_roundg (t.keys.length - (n+1))
     case measure=>omega
     case rel=>exact ⟨n+1,by omega,rfl,by go_num,hcw,z2,HN.out.step HSX.out.1 HSX.out.2 (.inl ⟨hin,hq (by trivial)⟩)⟩
   ·rw [decide_eq_false hin]
    go_wp2_with fail
    refine (HT.out s _ hcr).mono ?_;rintro e w' ⟨rfl,rfl⟩
    by_cases hin2:s∈truths
    ·rw [decide_eq_true hin2]
     by_cases hk1:x.kind=1
     ·go_wp2
      go_roundg (t.keys.length - (n+1))
      case measure=>omega
      case rel=>exact ⟨n+1,by omega,rfl,by go_num,hcr,z1,HN.out.step HSX.out.1 HSX.out.2 (.inr ⟨hin2,hk1⟩)⟩
     ·have hk1':(x.kind == 1)=false:=by simpa using hk1
      go_wp2
      go_ret
      exact ⟨_,rfl,hcr,fun h=>by cases h⟩
    ·rw [decide_eq_false hin2]
     go_wp2
     go_ret
     exact ⟨_,rfl,hcr,fun h=>by cases h⟩
  ·have HE:=Lib.hid (show n=t.keys.length by omega)
   go_wp2
   ·go_ret
    have he:=HE.out;subst he;exact ⟨_,rfl,hcr,fun h=>⟨by assumption,of_decide_eq_true h,HN.out⟩⟩
   ·go_ret
    exact ⟨_,rfl,hcr,fun h=>by cases h⟩
end Go.Proofs.YtpofkokbmifhgaaGreatDoor
namespace Go.Proofs.YtpofkokbmifhgaaGreatDoor
open Go.RowKit
variable {o:Nat->Prop}
theorem RdV.elem {w:World} {l:List T} {v:Value} {n:Nat} {x:T} (hv:RdV o w l v) (hx:l[n]?=some x):∃ g c A5 q5 A6 q6,v=.slice (some ⟨g,0,none⟩) l.length c/\g < w.heap.size /\
  Rd o w x (.agg #[.int .i64 x.kind,.int .i64 x.num,.string x.txt,.slice A5 x.keys.length q5,.slice A6 x.vals.length q6]) /\
  ∀ W,Chg [] w W->W.cell? ⟨g,n * 5,none⟩=some (.int .i64 x.kind)/\W.cell? ⟨g,n * 5+1,none⟩=some (.int .i64 x.num)/\W.cell? ⟨g,n * 5+2,none⟩=some (.string x.txt) /\
   W.cell? ⟨g,n * 5+3,none⟩=some (.slice A5 x.keys.length q5)/\W.cell? ⟨g,n * 5+4,none⟩=some (.slice A6 x.vals.length q6):=by
 obtain ⟨g,c,kx,vx,e1,hc1,hkx,hvx,x0,x1,x2,x3,x4⟩:=hv.at_ hx;have hr:=Rd.mk (t:=x) hkx hvx;obtain ⟨A5,q5,rfl,_⟩:=id hkx;obtain ⟨A6,q6,rfl,_⟩:=id hvx;have hg:g < w.heap.size:=World.block_lt_of_cell? w _ x0;exact ⟨g,c,A5,q5,A6,q6,e1,hg,hr,fun W hc=>⟨(hc.cells.1 _ _ hg).trans x0,(hc.cells.1 _ _ hg).trans x1,(hc.cells.1 _ _ hg).trans x2,(hc.cells.1 _ _ hg).trans x3,(hc.cells.1 _ _ hg).trans x4⟩⟩
theorem RdK.elem {w:World} {l:List ByteArray} {v:Value} {n:Nat} {s:ByteArray} (hv:RdK o w l v) (hx:l[n]?=some s):∃ g c,v=.slice (some ⟨g,0,none⟩) l.length c/\g < w.heap.size/\∀ W,Chg [] w W->W.cell? ⟨g,n,none⟩=some (.string s):=by
 obtain ⟨g,c,e,hc,k0⟩:=hv.at_ hx;have hg:g < w.heap.size:=World.block_lt_of_cell? w _ k0;exact ⟨g,c,e,hg,fun W hc=>(hc.cells.1 _ _ hg).trans k0⟩
theorem box5 {w:World} {B:Nat} {e:TypeId} {c0 c1 c2 c3 c4:Value} (h:w.heap[B]?=some (.cells #[c0,c1,c2,c3,c4] e)):∀ W,Chg [] w W->W.heap[B]?=some (.cells #[c0,c1,c2,c3,c4] e):=
 fun _ hc=>(hc.block B (Array.getElem?_eq_some_iff.1 h).1 (by simp)).trans h
def Extra (s:ByteArray):Prop:=s.size=3/\s.extract 0 2=⟨#[120,45]⟩
end Go.Proofs.YtpofkokbmifhgaaGreatDoor
