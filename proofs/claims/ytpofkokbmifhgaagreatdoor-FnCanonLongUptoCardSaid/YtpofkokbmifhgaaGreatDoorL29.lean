/- Parts of the walk, made small by wip/tools/pack.py: Forms, MapTo. No condition but those in each statement. -/
import Derived.Test.YtpofkokbmifhgaaGreatDoorL28
import Derived.Test.YtpofkokbmifhgaaGreatDoorL10
set_option maxRecDepth 100000
set_option maxHeartbeats 20000000
set_option linter.unusedVariables false
set_option linter.unusedSimpArgs false
namespace Go.Proofs.YtpofkokbmifhgaaGreatDoor
open Go.RowKit
variable {o:Nat->Prop}
def IfR (o:Nat->Prop) (w:World) (t:T) (u:Value):Prop:=∃ v,u=.iface 25 v/\Rd o w t v
theorem IfR.chg {w w':World} {t:T} {u:Value} (h:IfR o w t u) (hc:Chg [] w w'):IfR o w' t u:=by
 obtain ⟨v,e,h⟩:=h;exact ⟨v,e,h.chg hc⟩
def AnyRow (o:Nat->Prop) (w:World) (l:List (ByteArray × T)) (u:Value):Prop:=∃ g C,u=.slice (some ⟨g,0,none⟩) (2 * l.length) C/\g < w.heap.size /\
 ∀ j k x,l[j]?=some (k,x)->w.cell? ⟨g,2 * j,none⟩=some (.iface 9 (.string k))/\∃ v,w.cell? ⟨g,2 * j+1,none⟩=some (.iface 25 v)/\Rd o w x v
theorem AnyRow.chg {w w':World} {l:List (ByteArray × T)} {u:Value} (h:AnyRow o w l u) (hc:Chg [] w w'):AnyRow o w' l u:=by
 obtain ⟨g,C,e,hg,h⟩:=h;refine ⟨g,C,e,Nat.lt_of_lt_of_le hg hc.size,fun j k x hj=>?_⟩;obtain ⟨h1,v,h2,h3⟩:=h j k x hj;exact ⟨(hc.cells.1 _ _ hg).trans h1,v,(hc.cells.1 _ _ hg).trans h2,h3.chg hc⟩
theorem AnyRow.two (w:World) {k1 k2:ByteArray} {t1 t2:T} {v1 v2:Value} (h1:Rd o w t1 v1) (h2:Rd o w t2 v2) :
  AnyRow o (w.alloc (.cells #[.iface 9 (.string k1),.iface 25 v1,.iface 9 (.string k2),.iface 25 v2] 20)) [(k1,t1),(k2,t2)] (.slice (some ⟨w.heap.size,0,none⟩) 4 4):=by
 have hc:=(Chg.refl [] w).al (.cells #[.iface 9 (.string k1),.iface 25 v1,.iface 9 (.string k2),.iface 25 v2] 20)
 have hcell:=fun j=>cell_of_row _ w.heap.size j _ _ (0,0) (heap_alloc_new w (.cells #[.iface 9 (.string k1),.iface 25 v1,.iface 9 (.string k2),.iface 25 v2] 20))
 refine ⟨w.heap.size,4,rfl,by simp,fun j k x hj=>?_⟩
 match j,hj with
 | 0,hj=>simp at hj; obtain ⟨rfl,rfl⟩:=hj; exact ⟨hcell 0,v1,hcell 1,h1.chg hc⟩
 | 1,hj=>simp at hj; obtain ⟨rfl,rfl⟩:=hj; exact ⟨hcell 2,v2,hcell 3,h2.chg hc⟩
theorem AnyRow.one (w:World) {k1:ByteArray} {t1:T} {v1:Value} (h1:Rd o w t1 v1) :
  AnyRow o (w.alloc (.cells #[.iface 9 (.string k1),.iface 25 v1] 20)) [(k1,t1)] (.slice (some ⟨w.heap.size,0,none⟩) 2 2):=by
 have hc:=(Chg.refl [] w).al (.cells #[.iface 9 (.string k1),.iface 25 v1] 20)
 have hcell:=fun j=>cell_of_row _ w.heap.size j _ _ (0,0) (heap_alloc_new w (.cells #[.iface 9 (.string k1),.iface 25 v1] 20))
 refine ⟨w.heap.size,2,rfl,by simp,fun j k x hj=>?_⟩
 match j,hj with
 | 0,hj=>simp at hj; obtain ⟨rfl,rfl⟩:=hj; exact ⟨hcell 0,v1,hcell 1,h1.chg hc⟩
theorem foldK_take {x:T} {l:List T} {n:Nat} {y:T} (h:l[n]?=some y):foldK x (l.take (n+1))=mins y.txt x (foldK x (l.take n)):=by
 rw [take_snoc h];simp [foldK,List.foldl_append]
theorem foldK_len {x:T} {l:List T}:(foldK x l).length<=l.length:=by
 have gen:∀ (l:List T) (m:List (ByteArray × T)),(l.foldl (fun m t=>mins t.txt x m) m).length<=m.length+l.length:=by
  intro l
  induction l with
  | nil=>intro m; simp
  | cons y l ih=>
   intro m
   have h1:=ih (mins y.txt x m);have h2:=@ins_len_le T y.txt x m;simp only [List.foldl_cons,List.length_cons]
   omega
 have:=gen l []
 simpa [foldK] using this
theorem insAll_imp:T.map (insAll [(cCondition,.text cServiceStarted),(cRequired,.bool true)])=impC:=by
 have h:blt cCondition cRequired=true:=by kernel_rfl
 simp [insAll,mins,impC,h]
theorem mergeNets_any (t:T) (v:Value) (w:World) (h:Rd o w t v) (hf:Fine t) (hno:∀ b,w.heap.size<=b->o b):Calls Tryz.prog 95 #[v] w fun e w'=>∃ v',e=.returned v'/\Chg [] w w'/\Rd o w' (netsC t) v':=by
 obtain ⟨A3,q3,A4,q4,rfl,hk,hv⟩:=h.five;have hkl:=hf.len
 go_enter Tryz.func95,Tryz.ntmps95
 go_upto_region 1 with fail
 obtain ⟨w1,hw⟩ : ∃ W:World,W=(w.alloc (.cells #[.int .i64 t.kind,.int .i64 t.num,.string t.txt,.slice A3 t.keys.length q3,.slice A4 t.vals.length q4] 25)).alloc (.cells #[.int .i64 0,.int .i64 0,.string ⟨#[]⟩,.slice none 0 0,.slice none 0 0] 25):=⟨_,rfl⟩
 rw [<- hw];have c1:Chg [] w w1:=hw ▸ ((Chg.refl [] w).al _).al _;have zt1:w1.heap[w.heap.size]?=some (.cells #[.int .i64 t.kind,.int .i64 t.num,.string t.txt,.slice A3 t.keys.length q3,.slice A4 t.vals.length q4] 25):=hw ▸ heap_al1 w _ _;have zz1:w1.heap[w.heap.size+1]?=some (.cells #[.int .i64 0,.int .i64 0,.string ⟨#[]⟩,.slice none 0 0,.slice none 0 0] 25):=hw ▸ heap_al2 w _ _;clear hw;obtain ⟨a0,a1,a2,a3,a4,af⟩:=cells5 zt1;obtain ⟨z0,z1,z2,z3,z4,zf⟩:=cells5 zz1
 by_cases hm:t.kind=5
 ·have n5:((t.kind:Int) == 5)=true:=by simp; omega
  have hu:Hid (netsC t=t):=Lib.hid (by obtain ⟨m,rfl⟩:=map_of hm; rfl);have hrx:Rd (Ex o [w.heap.size+1]) w1 t (.agg #[.int .i64 t.kind,.int .i64 t.num,.string t.txt,.slice A3 t.keys.length q3,.slice A4 t.vals.length q4]):=(h.ex (by simp)).chg c1;clear hm hk hv;obtain ⟨W,hW,QW,hcW,hrW⟩:=ret5 zz1 c1 (by omega) hrx (by simp);have HRW:=Lib.hid hrW;clear hrx hrW
  go_wp2_with fail
  rw [<- hW];clear hW;obtain ⟨f0,f1,f2,f3,f4,_⟩:=cells5 QW
  go_wp2
  refine bodyPost_ret (v:=(.agg #[.int .i64 t.kind,.int .i64 t.num,.string t.txt,.slice A3 t.keys.length q3,.slice A4 t.vals.length q4])) (by simp [results,Tryz.results95,go_sem,f0,f1,f2,f3,f4]) rfl ⟨_,rfl,hcW,by rw [hu.out]; exact HRW.out⟩
 have n5:((t.kind:Int) == 5)=false:=by simp; omega
 have hu:Hid (netsC t=.map (foldK .null t.vals)):=Lib.hid (by cases t <;> first | rfl | exact absurd rfl hm);clear hm
 go_wp2_with fail
 refine (specEmpty (o:=fun _=>False) _).mono ?_;rintro e w2 ⟨v2,rfl,hc12,hr2⟩;obtain ⟨E5,r5,E6,r6,rfl,_⟩:=hr2.five
 have hsz2:w.heap.size+1 < w2.heap.size:=by have:=(Array.getElem?_eq_some_iff.1 zz1).1; have:=hc12.size; omega
 obtain ⟨w3,hw⟩ : ∃ W:World,W=w2.alloc (.cells #[.int .i64 (T.map []).kind,.int .i64 (T.map []).num,.string (T.map []).txt,.slice E5 (T.map []).keys.length r5,.slice E6 (T.map []).vals.length r6] 25):=⟨_,rfl⟩
 have hc13:Chg [] w1 w3:=hw ▸ hc12.al _;have c3:=c1.trans hc13 New.nil;have zt3:=box5 zt1 _ hc13;have zz3:=box5 zz1 _ hc13
 have hB3:Bx o [w.heap.size+1,w2.heap.size] w2.heap.size (.map []) w3:=⟨E5,r5,E6,r6,hw ▸ heap_alloc_new _ _,(hw ▸ hr2.chg ((Chg.refl [] w2).al _):Rd (fun _=>False) w3 _ _).weak fun _ h=>h.elim⟩
 clear hr2 hc12 a0 a1 a2 a3 a4 af z0 z1 z2 z3 z4 zf
 go_upto_region 4 with fail
 rw [<- hw];clear hw
 go_wp2_with fail
 go_loopg [4] t.vals.length (fun g i wr=>∃ n:Nat,n<=t.vals.length/\g=t.vals.length - n/\i=.int .i64 n/\Chg [] w wr/\wr.heap[w.heap.size]?=some (.cells #[.int .i64 t.kind,.int .i64 t.num,.string t.txt,.slice A3 t.keys.length q3,.slice A4 t.vals.length q4] 25)/\wr.heap[w.heap.size+1]?=some (.cells #[.int .i64 0,.int .i64 0,.string ⟨#[]⟩,.slice none 0 0,.slice none 0 0] 25)/\Bx o [w.heap.size+1,w2.heap.size] w2.heap.size (.map (foldK .null (t.vals.take n))) wr)
 case atStart=>exact ⟨0,Nat.zero_le _,by omega,rfl,c3,zt3,zz3,hB3⟩
 case round=>
  clear zt3 zz3 hB3;obtain ⟨n,hn,rfl,rfl,hcr,zt,zz,hB⟩:=hrel;obtain ⟨a0,a1,a2,a3,a4,af⟩:=cells5 zt;obtain ⟨E5,r5,E6,r6,hbx,hrx⟩:=hB.box;have hszr:w2.heap.size < wr.heap.size:=hB.lt
  by_cases hlt:n < t.vals.length
  ·have hltb:decide ((n:Int) < (t.vals.length:Int))=true:=by simp; omega
   obtain ⟨x,hx⟩ : ∃ x,t.vals[n]?=some x:=⟨_,List.getElem?_eq_getElem hlt⟩
   obtain ⟨ge,c1',A5,q5,A6,q6,e1,hge,rx,ye⟩:=hv.elem hx
   cases e1
   have HX:=Lib.hid hx;have YE:=Lib.hid ye;have HBX:=Lib.hid (And.intro hbx hrx);clear hx rx ye hbx hrx
   go_wp2_with fail
   clear a0 a1 a2 a3 a4 af;rename_i K hK;have HK:=Lib.hid hK;clear hK
   refine wp_region_tail (by rfl) (by kernel_rfl) [1,3,4] (by kernel_rfl)
    (fun jo u V=>match jo with
     | 0=>u=.agg #[.int .i64 (T.map (foldK .null (t.vals.take n))).kind,.int .i64 (T.map (foldK .null (t.vals.take n))).num,.string (T.map (foldK .null (t.vals.take n))).txt,.slice E5 (T.map (foldK .null (t.vals.take n))).keys.length r5,.slice E6 (T.map (foldK .null (t.vals.take n))).vals.length r6]
     | 1=>u=.pointer (some ⟨w.heap.size,4,none⟩)
     | 2=>u=.slice (some ⟨ge,0,none⟩) t.vals.length q4
     | 3=>u=.int .i64 n
     | 4=>u=.pointer (some ⟨ge,n * 5,none⟩)
     | 5=>u=.pointer (some ⟨ge,n * 5+2,none⟩)
     | 6=>u=.string x.txt
     | 7=>u=.agg #[.int .i64 0,.int .i64 0,.string ⟨#[]⟩,.slice none 0 0,.slice none 0 0]
     | 8=>Rd (Ex o [w.heap.size+1,w2.heap.size]) V (.map (foldK .null (t.vals.take (n+1)))) u
     | _=>True) ?_ ?_ ?_
   ·intro j u V V' hc hφ
    rcases j with _ | _ | _ | _ | _ | _ | _ | _ | _ | j
    ·exact hφ
    ·exact hφ
    ·exact hφ
    ·exact hφ
    ·exact hφ
    ·exact hφ
    ·exact hφ
    ·exact hφ
    ·exact Rd.chg hφ hc
    ·exact hφ
   ·intro j oo hj ho a' w' hst hch hdep K2 hK2
    have hcB:Chg [] wr w':=(Chg.refl [] wr).dr.trans hch New.nil;have hcw':Chg [] w w':=hcr.trans hcB New.nil;obtain ⟨d0,d1,d2,d3,d4,df⟩:=cells5 (box5 HBX.out.1 _ hcB);have hrc:=HBX.out.2.chg hcB;obtain ⟨a0,a1,a2,a3,a4,af⟩:=cells5 (box5 zt _ hcB);obtain ⟨y0,y1,y2,y3,y4⟩:=YE.out _ hcw';have hszw:=hcB.size;have hj':j < 9:=hj;rcases j with _ | _ | _ | _ | _ | _ | _ | _ | _ | j
    ·obtain rfl:_=oo:=Option.some.inj ho
     have h3:=g_eq (t:=3) (v:=.pointer (some ⟨w2.heap.size,0,none⟩)) (hst 3 (by simp));unfold Oper.wp;go_simp;exact ⟨_,rfl,hK2 _ _ (Chg.refl _ _) rfl⟩
    ·obtain rfl:_=oo:=Option.some.inj ho
     have h1:=g_eq (t:=1) (v:=.pointer (some ⟨w.heap.size,0,none⟩)) (hst 1 (by simp));unfold Oper.wp;go_simp;exact ⟨_,rfl,hK2 _ _ (Chg.refl _ _) rfl⟩
    ·obtain rfl:_=oo:=Option.some.inj ho
     have h18:=g_eq (t:=18) (v:=.pointer (some ⟨w.heap.size,4,none⟩)) (hdep 1 (by kernel_rfl));unfold Oper.wp;go_simp;exact ⟨_,rfl,hK2 _ _ (Chg.refl _ _) rfl⟩
    ·obtain rfl:_=oo:=Option.some.inj ho
     have h4:=g_eq (t:=4) (v:=.int .i64 n) (hst 4 (by simp));unfold Oper.wp;go_simp;exact ⟨_,rfl,hK2 _ _ (Chg.refl _ _) rfl⟩
    ·obtain rfl:_=oo:=Option.some.inj ho
     have h19:=g_eq (t:=19) (v:=.slice (some ⟨ge,0,none⟩) t.vals.length q4) (hdep 2 (by kernel_rfl));have h20:=g_eq (t:=20) (v:=.int .i64 n) (hdep 3 (by kernel_rfl));unfold Oper.wp;go_simp;exact ⟨_,rfl,hK2 _ _ (Chg.refl _ _) rfl⟩
    ·obtain rfl:_=oo:=Option.some.inj ho
     have h21:=g_eq (t:=21) (v:=.pointer (some ⟨ge,n * 5,none⟩)) (hdep 4 (by kernel_rfl));unfold Oper.wp;go_simp;exact ⟨_,rfl,hK2 _ _ (Chg.refl _ _) rfl⟩
    ·obtain rfl:_=oo:=Option.some.inj ho
     have h22:=g_eq (t:=22) (v:=.pointer (some ⟨ge,n * 5+2,none⟩)) (hdep 5 (by kernel_rfl));unfold Oper.wp;go_simp;exact ⟨_,rfl,hK2 _ _ (Chg.refl _ _) rfl⟩
    ·obtain rfl:_=oo:=Option.some.inj ho
     unfold Oper.wp;go_simp;exact ⟨_,rfl,hK2 _ _ (Chg.refl _ _) rfl⟩
    ·obtain rfl:_=oo:=Option.some.inj ho
     have h17:=g_eq (t:=17) (v:=.agg #[.int .i64 (T.map (foldK .null (t.vals.take n))).kind,.int .i64 (T.map (foldK .null (t.vals.take n))).num,.string (T.map (foldK .null (t.vals.take n))).txt,.slice E5 (T.map (foldK .null (t.vals.take n))).keys.length r5,.slice E6 (T.map (foldK .null (t.vals.take n))).vals.length r6]) (hdep 0 (by kernel_rfl));have h23:=g_eq (t:=23) (v:=.string x.txt) (hdep 6 (by kernel_rfl));have h24:=g_eq (t:=24) (v:=.agg #[.int .i64 0,.int .i64 0,.string ⟨#[]⟩,.slice none 0 0,.slice none 0 0]) (hdep 7 (by kernel_rfl));unfold Oper.wp;go_simp;refine (with_map (o:=Ex o [w.heap.size+1,w2.heap.size]) (foldK .null (t.vals.take n)) .null _ _ x.txt w' hrc (foldK_srt _ _) (Rd.zero _) (by have h1:=@foldK_len .null (t.vals.take n); simp at h1; omega) (Ex.no hno (by have:=hcw'.size; omega) (by simp; omega))).mono ?_;rintro e w3 ⟨v',rfl,hc3,hr3⟩;rw [<- foldK_take HX.out] at hr3;exact ⟨_,rfl,hK2 _ _ hc3 hr3⟩
    ·omega
   ·intro oo ho u w' hch hφ A2 hA2
    obtain rfl:_=oo:=Option.some.inj ho;have huS:Rd (Ex o [w.heap.size+1,w2.heap.size]) w' (.map (foldK .null (t.vals.take (n+1)))) (u 8):=hφ 8 (by decide);obtain ⟨e5,n5,e6,n6,hu,_⟩:=huS.five;rw [hu] at huS;have hcB:Chg [] wr w':=(Chg.refl [] wr).dr.trans hch New.nil;have hcw':Chg [] w w':=hcr.trans hcB New.nil;obtain ⟨W,hW,hBW,hcW,hne,hszW,hoth⟩:=(hB.go hcB).put (by simp) hcw' (by omega) huS;simp [putAll,dOf,Act.put,hu] at hA2;subst hA2;have hbz:=box5 HBX.out.1 _ hcB;obtain ⟨b0,b1,b2,b3,b4,bf⟩:=cells5 hbz;have HW:=Lib.hid (And.intro hBW (And.intro hcW (And.intro hne (And.intro hszW hoth))));clear hφ ho hu huS hbz hBW hcW hne hszW hoth;unfold Oper.wp;go_simp;rw [<- hW];refine HK.out _ _ ?_;clear HK hW b0 b1 b2 b3 b4 bf hch;have zt':=(HW.out.2.2.1 w.heap.size (by omega)).trans (box5 zt _ hcB);have zz':=(HW.out.2.2.1 (w.heap.size+1) (by omega)).trans (box5 zz _ hcB)
    go_wp2_with fail
    go_roundg (t.vals.length - (n+1))
    case measure=>omega
    case rel=>exact ⟨n+1,by omega,rfl,by go_num,HW.out.2.1,zt',zz',HW.out.1⟩
  ·have hltb:decide ((n:Int) < (t.vals.length:Int))=false:=by simp; omega
   have he:t.vals.take n=t.vals:=List.take_of_length_le (by omega);rw [he] at hB hbx hrx;obtain ⟨d0,d1,d2,d3,d4,df⟩:=cells5 hbx;obtain ⟨z0,z1,z2,z3,z4,zf⟩:=cells5 zz;obtain ⟨W,hW,QW,hcW,hrW⟩:=ret5 zz hcr (by omega) hrx (by simp);have HRW:=Lib.hid hrW;clear hrx hrW hbx
   go_wp2_with fail
   rw [<- hW];clear hW;obtain ⟨f0,f1,f2,f3,f4,_⟩:=cells5 QW
   go_wp2
   refine bodyPost_ret (v:=(.agg #[.int .i64 (T.map (foldK .null t.vals)).kind,.int .i64 (T.map (foldK .null t.vals)).num,.string (T.map (foldK .null t.vals)).txt,.slice E5 (T.map (foldK .null t.vals)).keys.length r5,.slice E6 (T.map (foldK .null t.vals)).vals.length r6])) (by simp [results,Tryz.results95,go_sem,f0,f1,f2,f3,f4]) rfl ⟨_,rfl,hcW,by rw [hu.out]; exact HRW.out⟩
def needsM:T->T
 | .map m=>.map m
 | t=>.map (foldK impC t.vals)
theorem mergeNeeds_any (t:T) (v:Value) (w:World) (h:Rd o w t v) (hf:Fine t) (hno:∀ b,w.heap.size<=b->o b):Calls Tryz.prog 94 #[v] w fun e w'=>∃ v',e=.returned v'/\Chg [] w w'/\Rd o w' (needsM t) v':=by
 obtain ⟨A3,q3,A4,q4,rfl,hk,hv⟩:=h.five;have hkl:=hf.len
 go_enter Tryz.func94,Tryz.ntmps94
 go_upto_region 1 with fail
 obtain ⟨w1,hw⟩ : ∃ W:World,W=(w.alloc (.cells #[.int .i64 t.kind,.int .i64 t.num,.string t.txt,.slice A3 t.keys.length q3,.slice A4 t.vals.length q4] 25)).alloc (.cells #[.int .i64 0,.int .i64 0,.string ⟨#[]⟩,.slice none 0 0,.slice none 0 0] 25):=⟨_,rfl⟩
 rw [<- hw];have c1:Chg [] w w1:=hw ▸ ((Chg.refl [] w).al _).al _;have zt1:w1.heap[w.heap.size]?=some (.cells #[.int .i64 t.kind,.int .i64 t.num,.string t.txt,.slice A3 t.keys.length q3,.slice A4 t.vals.length q4] 25):=hw ▸ heap_al1 w _ _;have zz1:w1.heap[w.heap.size+1]?=some (.cells #[.int .i64 0,.int .i64 0,.string ⟨#[]⟩,.slice none 0 0,.slice none 0 0] 25):=hw ▸ heap_al2 w _ _;clear hw;obtain ⟨a0,a1,a2,a3,a4,af⟩:=cells5 zt1;obtain ⟨z0,z1,z2,z3,z4,zf⟩:=cells5 zz1
 by_cases hm:t.kind=5
 ·have n5:((t.kind:Int) == 5)=true:=by simp; omega
  have hu:Hid (needsM t=t):=Lib.hid (by obtain ⟨m,rfl⟩:=map_of hm; rfl);have hrx:Rd (Ex o [w.heap.size+1]) w1 t (.agg #[.int .i64 t.kind,.int .i64 t.num,.string t.txt,.slice A3 t.keys.length q3,.slice A4 t.vals.length q4]):=(h.ex (by simp)).chg c1;clear hm hk hv;obtain ⟨W,hW,QW,hcW,hrW⟩:=ret5 zz1 c1 (by omega) hrx (by simp);have HRW:=Lib.hid hrW;clear hrx hrW
  go_wp2_with fail
  rw [<- hW];clear hW;obtain ⟨f0,f1,f2,f3,f4,_⟩:=cells5 QW
  go_wp2
  refine bodyPost_ret (v:=(.agg #[.int .i64 t.kind,.int .i64 t.num,.string t.txt,.slice A3 t.keys.length q3,.slice A4 t.vals.length q4])) (by simp [results,Tryz.results94,go_sem,f0,f1,f2,f3,f4]) rfl ⟨_,rfl,hcW,by rw [hu.out]; exact HRW.out⟩
 have n5:((t.kind:Int) == 5)=false:=by simp; omega
 have hu:Hid (needsM t=.map (foldK impC t.vals)):=Lib.hid (by cases t <;> first | rfl | exact absurd rfl hm);clear hm
 go_wp2_with fail
 refine (specEmpty (o:=fun _=>False) _).mono ?_;rintro e w2 ⟨v2,rfl,hc12,hr2⟩;obtain ⟨E5,r5,E6,r6,rfl,_⟩:=hr2.five
 have hsz2:w.heap.size+1 < w2.heap.size:=by have:=(Array.getElem?_eq_some_iff.1 zz1).1; have:=hc12.size; omega
 obtain ⟨w3,hw⟩ : ∃ W:World,W=w2.alloc (.cells #[.int .i64 (T.map []).kind,.int .i64 (T.map []).num,.string (T.map []).txt,.slice E5 (T.map []).keys.length r5,.slice E6 (T.map []).vals.length r6] 25):=⟨_,rfl⟩
 have hc13:Chg [] w1 w3:=hw ▸ hc12.al _;have c3:=c1.trans hc13 New.nil;have zt3:=box5 zt1 _ hc13;have zz3:=box5 zz1 _ hc13
 have hB3:Bx o [w.heap.size+1,w2.heap.size] w2.heap.size (.map []) w3:=⟨E5,r5,E6,r6,hw ▸ heap_alloc_new _ _,(hw ▸ hr2.chg ((Chg.refl [] w2).al _):Rd (fun _=>False) w3 _ _).weak fun _ h=>h.elim⟩
 clear hr2 hc12 a0 a1 a2 a3 a4 af z0 z1 z2 z3 z4 zf
 go_upto_region 4 with fail
 rw [<- hw];clear hw
 go_wp2_with fail
 go_loopg [4] t.vals.length (fun g i wr=>∃ n:Nat,n<=t.vals.length/\g=t.vals.length - n/\i=.int .i64 n/\Chg [] w wr/\wr.heap[w.heap.size]?=some (.cells #[.int .i64 t.kind,.int .i64 t.num,.string t.txt,.slice A3 t.keys.length q3,.slice A4 t.vals.length q4] 25)/\wr.heap[w.heap.size+1]?=some (.cells #[.int .i64 0,.int .i64 0,.string ⟨#[]⟩,.slice none 0 0,.slice none 0 0] 25)/\Bx o [w.heap.size+1,w2.heap.size] w2.heap.size (.map (foldK impC (t.vals.take n))) wr)
 case atStart=>exact ⟨0,Nat.zero_le _,by omega,rfl,c3,zt3,zz3,hB3⟩
 case round=>
  clear zt3 zz3 hB3;obtain ⟨n,hn,rfl,rfl,hcr,zt,zz,hB⟩:=hrel;obtain ⟨a0,a1,a2,a3,a4,af⟩:=cells5 zt;obtain ⟨E5,r5,E6,r6,hbx,hrx⟩:=hB.box;have hszr:w2.heap.size < wr.heap.size:=hB.lt
  by_cases hlt:n < t.vals.length
  ·have hltb:decide ((n:Int) < (t.vals.length:Int))=true:=by simp; omega
   obtain ⟨x,hx⟩ : ∃ x,t.vals[n]?=some x:=⟨_,List.getElem?_eq_getElem hlt⟩
   obtain ⟨ge,c1',A5,q5,A6,q6,e1,hge,rx,ye⟩:=hv.elem hx
   cases e1
   have HX:=Lib.hid hx;have YE:=Lib.hid ye;have HBX:=Lib.hid (And.intro hbx hrx);clear hx rx ye hbx hrx
   go_wp2_with fail
   clear a0 a1 a2 a3 a4 af;rename_i K hK;have HK:=Lib.hid hK;clear hK
   refine wp_region_tail (by rfl) (by kernel_rfl) [1,3,4] (by kernel_rfl)
    (fun jo u V=>match jo with
     | 0=>u=.agg #[.int .i64 (T.map (foldK impC (t.vals.take n))).kind,.int .i64 (T.map (foldK impC (t.vals.take n))).num,.string (T.map (foldK impC (t.vals.take n))).txt,.slice E5 (T.map (foldK impC (t.vals.take n))).keys.length r5,.slice E6 (T.map (foldK impC (t.vals.take n))).vals.length r6]
     | 1=>u=.pointer (some ⟨w.heap.size,4,none⟩)
     | 2=>u=.slice (some ⟨ge,0,none⟩) t.vals.length q4
     | 3=>u=.int .i64 n
     | 4=>u=.pointer (some ⟨ge,n * 5,none⟩)
     | 5=>u=.pointer (some ⟨ge,n * 5+2,none⟩)
     | 6=>u=.string x.txt
     | 7=>u=.iface 9 (.string ⟨#[99,111,110,100,105,116,105,111,110]⟩)
     | 8=>Rd (Ex o [w.heap.size+1,w2.heap.size]) V (.text cServiceStarted) u
     | 9=>IfR (Ex o [w.heap.size+1,w2.heap.size]) V (.text cServiceStarted) u
     | 10=>u=.iface 9 (.string ⟨#[114,101,113,117,105,114,101,100]⟩)
     | 11=>Rd (Ex o [w.heap.size+1,w2.heap.size]) V (.bool true) u
     | 12=>IfR (Ex o [w.heap.size+1,w2.heap.size]) V (.bool true) u
     | 13=>AnyRow (Ex o [w.heap.size+1,w2.heap.size]) V [(⟨#[99,111,110,100,105,116,105,111,110]⟩,.text cServiceStarted),(⟨#[114,101,113,117,105,114,101,100]⟩,.bool true)] u
     | 14=>Rd (Ex o [w.heap.size+1,w2.heap.size]) V (impC) u
     | 15=>Rd (Ex o [w.heap.size+1,w2.heap.size]) V (.map (foldK impC (t.vals.take (n+1)))) u
     | _=>True) ?_ ?_ ?_
   ·intro j u V V' hc hφ
    rcases j with _ | _ | _ | _ | _ | _ | _ | _ | _ | _ | _ | _ | _ | _ | _ | _ | j
    ·exact hφ
    ·exact hφ
    ·exact hφ
    ·exact hφ
    ·exact hφ
    ·exact hφ
    ·exact hφ
    ·exact hφ
    ·exact Rd.chg hφ hc
    ·exact IfR.chg hφ hc
    ·exact hφ
    ·exact Rd.chg hφ hc
    ·exact IfR.chg hφ hc
    ·exact AnyRow.chg hφ hc
    ·exact Rd.chg hφ hc
    ·exact Rd.chg hφ hc
    ·exact hφ
   ·intro j oo hj ho a' w' hst hch hdep K2 hK2
    have hcB:Chg [] wr w':=(Chg.refl [] wr).dr.trans hch New.nil;have hcw':Chg [] w w':=hcr.trans hcB New.nil;obtain ⟨d0,d1,d2,d3,d4,df⟩:=cells5 (box5 HBX.out.1 _ hcB);have hrc:=HBX.out.2.chg hcB;obtain ⟨a0,a1,a2,a3,a4,af⟩:=cells5 (box5 zt _ hcB);obtain ⟨y0,y1,y2,y3,y4⟩:=YE.out _ hcw';have hszw:=hcB.size;have hj':j < 16:=hj;rcases j with _ | _ | _ | _ | _ | _ | _ | _ | _ | _ | _ | _ | _ | _ | _ | _ | j
    ·obtain rfl:_=oo:=Option.some.inj ho
     have h3:=g_eq (t:=3) (v:=.pointer (some ⟨w2.heap.size,0,none⟩)) (hst 3 (by simp));unfold Oper.wp;go_simp;exact ⟨_,rfl,hK2 _ _ (Chg.refl _ _) rfl⟩
    ·obtain rfl:_=oo:=Option.some.inj ho
     have h1:=g_eq (t:=1) (v:=.pointer (some ⟨w.heap.size,0,none⟩)) (hst 1 (by simp));unfold Oper.wp;go_simp;exact ⟨_,rfl,hK2 _ _ (Chg.refl _ _) rfl⟩
    ·obtain rfl:_=oo:=Option.some.inj ho
     have h18:=g_eq (t:=18) (v:=.pointer (some ⟨w.heap.size,4,none⟩)) (hdep 1 (by kernel_rfl));unfold Oper.wp;go_simp;exact ⟨_,rfl,hK2 _ _ (Chg.refl _ _) rfl⟩
    ·obtain rfl:_=oo:=Option.some.inj ho
     have h4:=g_eq (t:=4) (v:=.int .i64 n) (hst 4 (by simp));unfold Oper.wp;go_simp;exact ⟨_,rfl,hK2 _ _ (Chg.refl _ _) rfl⟩
    ·obtain rfl:_=oo:=Option.some.inj ho
     have h19:=g_eq (t:=19) (v:=.slice (some ⟨ge,0,none⟩) t.vals.length q4) (hdep 2 (by kernel_rfl));have h20:=g_eq (t:=20) (v:=.int .i64 n) (hdep 3 (by kernel_rfl));unfold Oper.wp;go_simp;exact ⟨_,rfl,hK2 _ _ (Chg.refl _ _) rfl⟩
    ·obtain rfl:_=oo:=Option.some.inj ho
     have h21:=g_eq (t:=21) (v:=.pointer (some ⟨ge,n * 5,none⟩)) (hdep 4 (by kernel_rfl));unfold Oper.wp;go_simp;exact ⟨_,rfl,hK2 _ _ (Chg.refl _ _) rfl⟩
    ·obtain rfl:_=oo:=Option.some.inj ho
     have h22:=g_eq (t:=22) (v:=.pointer (some ⟨ge,n * 5+2,none⟩)) (hdep 5 (by kernel_rfl));unfold Oper.wp;go_simp;exact ⟨_,rfl,hK2 _ _ (Chg.refl _ _) rfl⟩
    ·obtain rfl:_=oo:=Option.some.inj ho
     unfold Oper.wp;go_simp;exact ⟨_,rfl,hK2 _ _ (Chg.refl _ _) rfl⟩
    ·obtain rfl:_=oo:=Option.some.inj ho
     unfold Oper.wp;go_simp;refine (specT (o:=(Ex o [w.heap.size+1,w2.heap.size])) cServiceStarted w').mono ?_;rintro e w3 ⟨v',rfl,hc3,hr3⟩;exact ⟨_,rfl,hK2 _ _ hc3 hr3⟩
    ·obtain rfl:_=oo:=Option.some.inj ho
     have hr25:Rd (Ex o [w.heap.size+1,w2.heap.size]) w' (.text cServiceStarted) (Act.g a' 25):=hdep 8 (by kernel_rfl);generalize hg25:Act.g a' 25=v25 at hr25;have h25:=g_eq (t:=25) hg25;obtain ⟨A7,q7,A8,q8,rfl,_⟩:=hr25.five;unfold Oper.wp;go_simp;exact ⟨_,rfl,hK2 _ _ (Chg.refl _ _) ⟨_,rfl,hr25⟩⟩
    ·obtain rfl:_=oo:=Option.some.inj ho
     unfold Oper.wp;go_simp;exact ⟨_,rfl,hK2 _ _ (Chg.refl _ _) rfl⟩
    ·obtain rfl:_=oo:=Option.some.inj ho
     unfold Oper.wp;go_simp;refine (specB (o:=(Ex o [w.heap.size+1,w2.heap.size])) true w').mono ?_;rintro e w3 ⟨v',rfl,hc3,hr3⟩;exact ⟨_,rfl,hK2 _ _ hc3 hr3⟩
    ·obtain rfl:_=oo:=Option.some.inj ho
     have hr28:Rd (Ex o [w.heap.size+1,w2.heap.size]) w' (.bool true) (Act.g a' 28):=hdep 11 (by kernel_rfl);generalize hg28:Act.g a' 28=v28 at hr28;have h28:=g_eq (t:=28) hg28;obtain ⟨A7,q7,A8,q8,rfl,_⟩:=hr28.five;unfold Oper.wp;go_simp;exact ⟨_,rfl,hK2 _ _ (Chg.refl _ _) ⟨_,rfl,hr28⟩⟩
    ·obtain rfl:_=oo:=Option.some.inj ho
     have h24:=g_eq (t:=24) (v:=.iface 9 (.string ⟨#[99,111,110,100,105,116,105,111,110]⟩)) (hdep 7 (by kernel_rfl));have h27:=g_eq (t:=27) (v:=.iface 9 (.string ⟨#[114,101,113,117,105,114,101,100]⟩)) (hdep 10 (by kernel_rfl));have h24:=g_eq (t:=24) (v:=.iface 9 (.string ⟨#[99,111,110,100,105,116,105,111,110]⟩)) (hdep 7 (by kernel_rfl));have h27:=g_eq (t:=27) (v:=.iface 9 (.string ⟨#[114,101,113,117,105,114,101,100]⟩)) (hdep 10 (by kernel_rfl));obtain ⟨v1,h26,hr1⟩ : IfR (Ex o [w.heap.size+1,w2.heap.size]) w' (.text cServiceStarted) (Act.g a' 26):=hdep 9 (by kernel_rfl);obtain ⟨v2,h29,hr2⟩ : IfR (Ex o [w.heap.size+1,w2.heap.size]) w' (.bool true) (Act.g a' 29):=hdep 12 (by kernel_rfl);have h26:=g_eq (t:=26) h26;have h29:=g_eq (t:=29) h29;unfold Oper.wp;go_simp;exact ⟨_,rfl,hK2 _ _ ((Chg.refl [] w').al _) (AnyRow.two w' hr1 hr2)⟩
    ·obtain rfl:_=oo:=Option.some.inj ho
     unfold Oper.wp;go_simp;obtain ⟨g,C,h30,hg,hrow⟩ : AnyRow (Ex o [w.heap.size+1,w2.heap.size]) w' [(⟨#[99,111,110,100,105,116,105,111,110]⟩,.text cServiceStarted),(⟨#[114,101,113,117,105,114,101,100]⟩,.bool true)] (Act.g a' 30):=hdep 13 (by kernel_rfl);have h30:=g_eq (t:=30) h30;go_simp;refine (specM [(⟨#[99,111,110,100,105,116,105,111,110]⟩,.text cServiceStarted),(⟨#[114,101,113,117,105,114,101,100]⟩,.bool true)] g C w' hg hrow (by decide) (Ex.no hno (by have:=hcw'.size; omega) (by simp; omega))).mono ?_;rintro e w3 ⟨v',rfl,hc3,hr3⟩;rw [insAll_imp] at hr3;exact ⟨_,rfl,hK2 _ _ hc3 hr3⟩
    ·obtain rfl:_=oo:=Option.some.inj ho
     have h17:=g_eq (t:=17) (v:=.agg #[.int .i64 (T.map (foldK impC (t.vals.take n))).kind,.int .i64 (T.map (foldK impC (t.vals.take n))).num,.string (T.map (foldK impC (t.vals.take n))).txt,.slice E5 (T.map (foldK impC (t.vals.take n))).keys.length r5,.slice E6 (T.map (foldK impC (t.vals.take n))).vals.length r6]) (hdep 0 (by kernel_rfl));have h23:=g_eq (t:=23) (v:=.string x.txt) (hdep 6 (by kernel_rfl));have hr31:Rd (Ex o [w.heap.size+1,w2.heap.size]) w' (impC) (Act.g a' 31):=hdep 14 (by kernel_rfl);generalize hg31:Act.g a' 31=v31 at hr31;have h31:=g_eq (t:=31) hg31;unfold Oper.wp;go_simp;refine (with_map (o:=Ex o [w.heap.size+1,w2.heap.size]) (foldK impC (t.vals.take n)) impC _ _ x.txt w' hrc (foldK_srt _ _) hr31 (by have h1:=@foldK_len impC (t.vals.take n); simp at h1; omega) (Ex.no hno (by have:=hcw'.size; omega) (by simp; omega))).mono ?_;rintro e w3 ⟨v',rfl,hc3,hr3⟩;rw [<- foldK_take HX.out] at hr3;exact ⟨_,rfl,hK2 _ _ hc3 hr3⟩
    ·omega
   ·intro oo ho u w' hch hφ A2 hA2
    obtain rfl:_=oo:=Option.some.inj ho;have huS:Rd (Ex o [w.heap.size+1,w2.heap.size]) w' (.map (foldK impC (t.vals.take (n+1)))) (u 15):=hφ 15 (by decide);obtain ⟨e5,n5,e6,n6,hu,_⟩:=huS.five;rw [hu] at huS;have hcB:Chg [] wr w':=(Chg.refl [] wr).dr.trans hch New.nil;have hcw':Chg [] w w':=hcr.trans hcB New.nil;obtain ⟨W,hW,hBW,hcW,hne,hszW,hoth⟩:=(hB.go hcB).put (by simp) hcw' (by omega) huS;simp [putAll,dOf,Act.put,hu] at hA2;subst hA2;have hbz:=box5 HBX.out.1 _ hcB;obtain ⟨b0,b1,b2,b3,b4,bf⟩:=cells5 hbz;have HW:=Lib.hid (And.intro hBW (And.intro hcW (And.intro hne (And.intro hszW hoth))));clear hφ ho hu huS hbz hBW hcW hne hszW hoth;unfold Oper.wp;go_simp;rw [<- hW];refine HK.out _ _ ?_;clear HK hW b0 b1 b2 b3 b4 bf hch;have zt':=(HW.out.2.2.1 w.heap.size (by omega)).trans (box5 zt _ hcB);have zz':=(HW.out.2.2.1 (w.heap.size+1) (by omega)).trans (box5 zz _ hcB)
    go_wp2_with fail
    go_roundg (t.vals.length - (n+1))
    case measure=>omega
    case rel=>exact ⟨n+1,by omega,rfl,by go_num,HW.out.2.1,zt',zz',HW.out.1⟩
  ·have hltb:decide ((n:Int) < (t.vals.length:Int))=false:=by simp; omega
   have he:t.vals.take n=t.vals:=List.take_of_length_le (by omega);rw [he] at hB hbx hrx;obtain ⟨d0,d1,d2,d3,d4,df⟩:=cells5 hbx;obtain ⟨z0,z1,z2,z3,z4,zf⟩:=cells5 zz;obtain ⟨W,hW,QW,hcW,hrW⟩:=ret5 zz hcr (by omega) hrx (by simp);have HRW:=Lib.hid hrW;clear hrx hrW hbx
   go_wp2_with fail
   rw [<- hW];clear hW;obtain ⟨f0,f1,f2,f3,f4,_⟩:=cells5 QW
   go_wp2
   refine bodyPost_ret (v:=(.agg #[.int .i64 (T.map (foldK impC t.vals)).kind,.int .i64 (T.map (foldK impC t.vals)).num,.string (T.map (foldK impC t.vals)).txt,.slice E5 (T.map (foldK impC t.vals)).keys.length r5,.slice E6 (T.map (foldK impC t.vals)).vals.length r6])) (by simp [results,Tryz.results94,go_sem,f0,f1,f2,f3,f4]) rfl ⟨_,rfl,hcW,by rw [hu.out]; exact HRW.out⟩
theorem insAll_one {k:ByteArray} {x:T}:insAll [(k,x)]=[(k,x)]:=rfl
theorem mergeBuild_any (t:T) (v:Value) (w:World) (h:Rd o w t v) (hf:Fine t) (hno:∀ b,w.heap.size<=b->o b):Calls Tryz.prog 96 #[v] w fun e w'=>∃ v',e=.returned v'/\Chg [] w w'/\Rd o w' (buildC t) v':=by
 obtain ⟨A3,q3,A4,q4,rfl,hk,hv⟩:=h.five;have hkl:=hf.len
 go_enter Tryz.func96,Tryz.ntmps96
 go_upto_region 1 with fail
 obtain ⟨w1,hw⟩ : ∃ W:World,W=(w.alloc (.cells #[.int .i64 t.kind,.int .i64 t.num,.string t.txt,.slice A3 t.keys.length q3,.slice A4 t.vals.length q4] 25)).alloc (.cells #[.int .i64 0,.int .i64 0,.string ⟨#[]⟩,.slice none 0 0,.slice none 0 0] 25):=⟨_,rfl⟩
 rw [<- hw];have c1:Chg [] w w1:=hw ▸ ((Chg.refl [] w).al _).al _;have zt1:w1.heap[w.heap.size]?=some (.cells #[.int .i64 t.kind,.int .i64 t.num,.string t.txt,.slice A3 t.keys.length q3,.slice A4 t.vals.length q4] 25):=hw ▸ heap_al1 w _ _;have zz1:w1.heap[w.heap.size+1]?=some (.cells #[.int .i64 0,.int .i64 0,.string ⟨#[]⟩,.slice none 0 0,.slice none 0 0] 25):=hw ▸ heap_al2 w _ _;clear hw;obtain ⟨a0,a1,a2,a3,a4,af⟩:=cells5 zt1;obtain ⟨z0,z1,z2,z3,z4,zf⟩:=cells5 zz1;have hrx:Rd (Ex o [w.heap.size+1]) w1 t (.agg #[.int .i64 t.kind,.int .i64 t.num,.string t.txt,.slice A3 t.keys.length q3,.slice A4 t.vals.length q4]):=(h.ex (by simp)).chg c1
 by_cases hm:t.kind=3
 case neg=>
  have n3:((t.kind:Int) == 3)=false:=by simp; omega
  have hu:Hid (buildC t=t):=Lib.hid (by cases t <;> first | rfl | exact absurd rfl hm);clear hm hk hv;obtain ⟨W,hW,QW,hcW,hrW⟩:=ret5 zz1 c1 (by omega) hrx (by simp);have HRW:=Lib.hid hrW;clear hrx hrW
  go_wp2_with fail
  rw [<- hW];clear hW;obtain ⟨f0,f1,f2,f3,f4,_⟩:=cells5 QW
  go_wp2
  refine bodyPost_ret (v:=(.agg #[.int .i64 t.kind,.int .i64 t.num,.string t.txt,.slice A3 t.keys.length q3,.slice A4 t.vals.length q4])) (by simp [results,Tryz.results96,go_sem,f0,f1,f2,f3,f4]) rfl ⟨_,rfl,hcW,by rw [hu.out]; exact HRW.out⟩
 have n3:((t.kind:Int) == 3)=true:=by simp; omega
 have hu:Hid (buildC t=.map [(cContext,t)]):=Lib.hid (by obtain ⟨s,rfl⟩:=text_of hm; rfl);have hrow:=AnyRow.one (k1:=cContext) w1 hrx
 obtain ⟨w2,hw⟩ : ∃ W:World,W=w1.alloc (.cells #[.iface 9 (.string cContext),.iface 25 (.agg #[.int .i64 t.kind,.int .i64 t.num,.string t.txt,.slice A3 t.keys.length q3,.slice A4 t.vals.length q4])] 20):=⟨_,rfl⟩
 rw [<- hw] at hrow;have hc12:Chg [] w1 w2:=hw ▸ (Chg.refl [] w1).al _;have c2:=c1.trans hc12 New.nil;have zz2:=box5 zz1 _ hc12;obtain ⟨gR,C,eg,hg,hrow⟩:=hrow
 cases eg
 have hszz:w.heap.size+1 < w1.heap.size:=(Array.getElem?_eq_some_iff.1 zz1).1;have HROW:=Lib.hid hrow;clear hm hk hv hrow hrx
 go_wp2_with fail
 rw [<- hw];clear hw;refine (specM (o:=Ex o [w.heap.size+1]) [(cContext,t)] _ 2 w2 hg HROW.out (by simp) (Ex.no hno (by have:=c2.size; omega) (by have:=hc12.size; simp; omega))).mono ?_;rintro e w3 ⟨v3,rfl,hc23,hr3⟩;rw [insAll_one] at hr3;have c3:=c2.trans hc23 New.nil;have zz3:=box5 zz2 _ hc23;obtain ⟨E5,r5,E6,r6,rfl,_⟩:=hr3.five;clear z0 z1 z2 z3 z4 zf a0 a1 a2 a3 a4 af;obtain ⟨z0,z1,z2,z3,z4,zf⟩:=cells5 zz3;obtain ⟨W,hW,QW,hcW,hrW⟩:=ret5 zz3 c3 (by omega) hr3 (by simp);have HRW:=Lib.hid hrW;clear hr3 hrW
 go_wp2_with fail
 rw [<- hW];clear hW;obtain ⟨f0,f1,f2,f3,f4,_⟩:=cells5 QW
 go_wp2
 refine bodyPost_ret (v:=(.agg #[.int .i64 (T.map [(cContext,t)]).kind,.int .i64 (T.map [(cContext,t)]).num,.string (T.map [(cContext,t)]).txt,.slice E5 (T.map [(cContext,t)]).keys.length r5,.slice E6 (T.map [(cContext,t)]).vals.length r6])) (by simp [results,Tryz.results96,go_sem,f0,f1,f2,f3,f4]) rfl ⟨_,rfl,hcW,by rw [hu.out]; exact HRW.out⟩
end Go.Proofs.YtpofkokbmifhgaaGreatDoor
namespace Go.Proofs.YtpofkokbmifhgaaGreatDoor
open Go.RowKit
variable {o:Nat->Prop}
def mapTo (f:ByteArray->T->T) (m:List (ByteArray × T)) (n:Nat):List (ByteArray × T):=(m.take n).map (fun q=>(q.1,f q.1 q.2))++m.drop n
theorem mapTo_zero {f:ByteArray->T->T} {m:List (ByteArray × T)}:mapTo f m 0=m:=by simp [mapTo]
theorem mapTo_all {f:ByteArray->T->T} {m:List (ByteArray × T)}:mapTo f m m.length=m.map (fun q=>(q.1,f q.1 q.2)):=by simp [mapTo]
theorem mapTo_keys {f:ByteArray->T->T} {m:List (ByteArray × T)} {n:Nat}:(mapTo f m n).map (·.1)=m.map (·.1):=by
 have h:(fun (q:ByteArray × T)=>(q.1,f q.1 q.2).1)=fun q=>q.1:=rfl
 unfold mapTo;rw [List.map_append,List.map_map];show (m.take n).map (fun q=>q.1)++_=_;rw [<- List.map_append,List.take_append_drop]
theorem mapTo_length {f:ByteArray->T->T} {m:List (ByteArray × T)} {n:Nat}:(mapTo f m n).length=m.length:=by
 have:=congrArg List.length (mapTo_keys (f:=f) (m:=m) (n:=n))
 simpa using this
theorem srt_of_keys {α β:Type}:∀ {m:List (ByteArray × α)} {m':List (ByteArray × β)},m.map (·.1)=m'.map (·.1)->Srt m->Srt m':=by
 intro m m' h hs
 have h1:(m.map (·.1)).Pairwise (fun a b=>blt a b=true):=List.pairwise_map.2 hs;rw [h] at h1;exact List.pairwise_map.1 h1
theorem mapTo_srt {f:ByteArray->T->T} {m:List (ByteArray × T)} {n:Nat} (h:Srt m):Srt (mapTo f m n):=srt_of_keys mapTo_keys.symm h
theorem ins_at {k:ByteArray} {x y:T}:∀ {m:List (ByteArray × T)} {n:Nat},Srt m->m[n]?=some (k,x)->mins k y m=m.set n (k,y)
 | [],n,_,h=>by simp at h
 | p :: m,0,_,h=>by
  simp at h;subst h;simp [mins]
 | p :: m,n+1,hs,h=>by
  simp at h;have hb:=hs.head _ (List.mem_of_getElem? h)
  have hne:p.1≠k:=fun e=>by rw [e,blt_irrefl] at hb; cases hb
  simp only [mins,hne,if_false,hb,if_true,List.set_cons_succ];rw [ins_at hs.tail h]
theorem mapTo_at {f:ByteArray->T->T} {m:List (ByteArray × T)} {n:Nat} {q:ByteArray × T} (h:m[n]?=some q):(mapTo f m n)[n]?=some q:=by
 have hn:=(List.getElem?_eq_some_iff.1 h).1;unfold mapTo;rw [List.getElem?_append_right (by simp; omega)];simp
 have:n - min n m.length=0:=by omega
 rw [this]
 simpa using h
theorem mapTo_step {f:ByteArray->T->T} {m:List (ByteArray × T)} {n:Nat} {k:ByteArray} {x:T} (hs:Srt m) (h:m[n]?=some (k,x)):mins k (f k x) (mapTo f m n)=mapTo f m (n+1):=by
 have hn:=(List.getElem?_eq_some_iff.1 h).1;rw [ins_at (mapTo_srt hs) (mapTo_at h)];unfold mapTo
 have h1:m.drop n=(k,x) :: m.drop (n+1):=by
  rw [List.drop_eq_getElem_cons hn]
  congr 1
  exact (List.getElem?_eq_some_iff.1 h).2
 rw [h1,take_snoc h,List.map_append,List.append_assoc];rw [List.set_append_right _ _ (by simp; omega)]
 congr 1
 have:n - ((m.take n).map fun q=>(q.1,f q.1 q.2)).length=0:=by simp; omega
 rw [this]
 rfl
theorem mapTo_same {f:ByteArray->T->T} {m:List (ByteArray × T)} {n:Nat} {k:ByteArray} {x:T} (h:m[n]?=some (k,x)) (he:f k x=x):mapTo f m (n+1)=mapTo f m n:=by
 have hn:=(List.getElem?_eq_some_iff.1 h).1;unfold mapTo
 have h1:m.drop n=(k,x) :: m.drop (n+1):=by
  rw [List.drop_eq_getElem_cons hn]
  congr 1
  exact (List.getElem?_eq_some_iff.1 h).2
 rw [h1,take_snoc h,List.map_append,List.append_assoc];simp [he]
end Go.Proofs.YtpofkokbmifhgaaGreatDoor
