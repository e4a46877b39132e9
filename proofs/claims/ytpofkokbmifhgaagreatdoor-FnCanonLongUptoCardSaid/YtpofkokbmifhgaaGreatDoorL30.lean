/- Parts of the walk, made small by wip/tools/pack.py: CNamed, CNeeds, WRow. No condition but those in each statement. -/
import Derived.Test.YtpofkokbmifhgaaGreatDoorL29
set_option maxRecDepth 100000
set_option maxHeartbeats 20000000
set_option linter.unusedVariables false
set_option linter.unusedSimpArgs false
namespace Go.Proofs.YtpofkokbmifhgaaGreatDoor
open Go.RowKit
variable {o:Nat->Prop}
theorem named_len {l:List T}:(namedL l).length<=l.length:=by
 have gen:∀ (l:List T) (m:List (ByteArray × T)),(l.foldl (fun m t=>mins (cutK t.txt) (cutV t.txt) m) m).length<=m.length+l.length:=by
  intro l
  induction l with
  | nil=>intro m; simp
  | cons y l ih=>
   intro m
   have h1:=ih (mins (cutK y.txt) (cutV y.txt) m);have h2:=@ins_len_le T (cutK y.txt) (cutV y.txt) m;simp only [List.foldl_cons,List.length_cons]
   omega
 have:=gen l []
 simpa [namedL] using this
theorem mergeNamedL_any (t:T) (v:Value) (w:World) (h:Rd o w t v) (hf:Fine t) (h4:t.kind=4) (hno:∀ b,w.heap.size<=b->o b):Calls Tryz.prog 92 #[v] w fun e w'=>∃ v',e=.returned (.tuple #[v',.bool true])/\Chg [] w w'/\Rd o w' (.map (namedL t.vals)) v':=by
 obtain ⟨A3,q3,A4,q4,rfl,hk,hv⟩:=h.five;have hkl:=hf.len
 have n4:((t.kind:Int) == 4)=true:=by simp; omega
 clear h4
 go_enter Tryz.func92,Tryz.ntmps92
 go_upto_region 1 with fail
 obtain ⟨w1,hw⟩ : ∃ W:World,W=(w.alloc (.cells #[.int .i64 t.kind,.int .i64 t.num,.string t.txt,.slice A3 t.keys.length q3,.slice A4 t.vals.length q4] 25)).alloc (.cells #[.int .i64 0,.int .i64 0,.string ⟨#[]⟩,.slice none 0 0,.slice none 0 0] 25):=⟨_,rfl⟩
 rw [<- hw];have c1:Chg [] w w1:=hw ▸ ((Chg.refl [] w).al _).al _;have zt1:w1.heap[w.heap.size]?=some (.cells #[.int .i64 t.kind,.int .i64 t.num,.string t.txt,.slice A3 t.keys.length q3,.slice A4 t.vals.length q4] 25):=hw ▸ heap_al1 w _ _;have zz1:w1.heap[w.heap.size+1]?=some (.cells #[.int .i64 0,.int .i64 0,.string ⟨#[]⟩,.slice none 0 0,.slice none 0 0] 25):=hw ▸ heap_al2 w _ _;clear hw;obtain ⟨a0,a1,a2,a3,a4,af⟩:=cells5 zt1;obtain ⟨z0,z1,z2,z3,z4,zf⟩:=cells5 zz1
 go_wp2_with fail
 refine (specEmpty (o:=fun _=>False) _).mono ?_;rintro e w2 ⟨v2,rfl,hc12,hr2⟩;obtain ⟨E5,r5,E6,r6,rfl,_⟩:=hr2.five
 have hsz2:w.heap.size+1 < w2.heap.size:=by have:=(Array.getElem?_eq_some_iff.1 zz1).1; have:=hc12.size; omega
 obtain ⟨w3,hw⟩ : ∃ W:World,W=w2.alloc (.cells #[.int .i64 (T.map []).kind,.int .i64 (T.map []).num,.string (T.map []).txt,.slice E5 (T.map []).keys.length r5,.slice E6 (T.map []).vals.length r6] 25):=⟨_,rfl⟩
 have hc13:Chg [] w1 w3:=hw ▸ hc12.al _;have c3:=c1.trans hc13 New.nil;have zt3:=box5 zt1 _ hc13;have zz3:=box5 zz1 _ hc13
 have hB3:Bx o [w.heap.size+1,w2.heap.size] w2.heap.size (.map []) w3:=⟨E5,r5,E6,r6,hw ▸ heap_alloc_new _ _,(hw ▸ hr2.chg ((Chg.refl [] w2).al _):Rd (fun _=>False) w3 _ _).weak fun _ h=>h.elim⟩
 clear hr2 hc12 a0 a1 a2 a3 a4 af z0 z1 z2 z3 z4 zf
 go_upto_region 2 with fail
 rw [<- hw];clear hw
 go_wp2_with fail
 go_loopg [5,6] t.vals.length (fun g sd i wr=>∃ n:Nat,n<=t.vals.length/\g=t.vals.length - n/\sd=.bool true/\i=.int .i64 n/\Chg [] w wr/\wr.heap[w.heap.size]?=some (.cells #[.int .i64 t.kind,.int .i64 t.num,.string t.txt,.slice A3 t.keys.length q3,.slice A4 t.vals.length q4] 25)/\wr.heap[w.heap.size+1]?=some (.cells #[.int .i64 0,.int .i64 0,.string ⟨#[]⟩,.slice none 0 0,.slice none 0 0] 25)/\Bx o [w.heap.size+1,w2.heap.size] w2.heap.size (.map (namedL (t.vals.take n))) wr)
 case atStart=>exact ⟨0,Nat.zero_le _,by omega,rfl,rfl,c3,zt3,zz3,hB3⟩
 case round=>
  clear zt3 zz3 hB3;obtain ⟨n,hn,rfl,rfl,rfl,hcr,zt,zz,hB⟩:=hrel;obtain ⟨a0,a1,a2,a3,a4,af⟩:=cells5 zt;have hszr:w2.heap.size < wr.heap.size:=hB.lt
  by_cases hlt:n < t.vals.length
  ·have hltb:decide ((n:Int) < (t.vals.length:Int))=true:=by simp; omega
   obtain ⟨x,hx⟩ : ∃ x,t.vals[n]?=some x:=⟨_,List.getElem?_eq_getElem hlt⟩
   obtain ⟨ge,c1',A5,q5,A6,q6,e1,hge,rx,ye⟩:=hv.elem hx
   cases e1
   have hfx:=hf.vals (List.mem_of_getElem? hx);have HX:=Lib.hid hx;obtain ⟨y0,y1,y2,y3,y4⟩:=ye _ hcr;clear hx rx ye
   go_wp2_with fail
   refine (mergeSplit_any x.txt _ hfx.txt).mono ?_;rintro e w4 ⟨v',rfl,hc4,hr4⟩
   obtain ⟨kk,hkk⟩ : ∃ kk,kk=cutK x.txt:=⟨_,rfl⟩
   obtain ⟨vv,hvv⟩ : ∃ vv,vv=cutV x.txt:=⟨_,rfl⟩
   rw [<- hkk];rw [<- hvv] at hr4;have HKV:=Lib.hid (And.intro hkk hvv);clear hkk hvv;obtain ⟨A7,q7,A8,q8,rfl,_⟩:=hr4.five
   obtain ⟨w5,hw⟩ : ∃ W:World,W=w4.alloc (.cells #[.int .i64 vv.kind,.int .i64 vv.num,.string vv.txt,.slice A7 vv.keys.length q7,.slice A8 vv.vals.length q8] 25):=⟨_,rfl⟩
   have hc45:Chg [] wr w5:=hw ▸ hc4.al _;have c5:=hcr.trans hc45 New.nil
   have hr5:Rd (Ex o [w.heap.size+1,w2.heap.size]) w5 vv (.agg #[.int .i64 vv.kind,.int .i64 vv.num,.string vv.txt,.slice A7 vv.keys.length q7,.slice A8 vv.vals.length q8]):=(hw ▸ hr4.chg ((Chg.refl [] w4).al _):Rd (fun b=>wr.heap.size<=b) w5 vv (.agg #[.int .i64 vv.kind,.int .i64 vv.num,.string vv.txt,.slice A7 vv.keys.length q7,.slice A8 vv.vals.length q8])).weak fun b hb=>⟨hno b (by have:=hcr.size; omega),by simp; omega⟩
   have hb5:w5.heap[w4.heap.size]?=some (.cells #[.int .i64 vv.kind,.int .i64 vv.num,.string vv.txt,.slice A7 vv.keys.length q7,.slice A8 vv.vals.length q8] 25):=hw ▸ heap_alloc_new _ _;have zt5:=box5 zt _ hc45;have zz5:=box5 zz _ hc45;have hB5:=hB.go hc45;have hs5:=hc45.size;clear hr4 hc4 a0 a1 a2 a3 a4 af y0 y1 y2 y3 y4
   go_upto_region 7 with fail
   rw [<- hw];clear hw;obtain ⟨E5,r5,E6,r6,hbx,hrx⟩:=hB5.box;obtain ⟨d0,d1,d2,d3,d4,df⟩:=cells5 hbx;obtain ⟨b0,b1,b2,b3,b4,bf⟩:=cells5 hb5;have HR:=Lib.hid (And.intro hrx hr5);clear hrx hr5
   go_wp2_with fail
   refine (with_map (o:=Ex o [w.heap.size+1,w2.heap.size]) (namedL (t.vals.take n)) vv _ _ kk w5 HR.out.1 (named_srt _) HR.out.2 (by have h1:=@named_len (t.vals.take n); simp at h1; omega) (Ex.no hno (by have:=c5.size; omega) (by simp; omega))).mono ?_;rintro e w6 ⟨v6,rfl,hc6,hr6⟩;rw [HKV.out.1,HKV.out.2,<- named_take HX.out] at hr6;obtain ⟨e5,n5,e6,n6,rfl,_⟩:=hr6.five;have c6:=c5.trans hc6 New.nil;obtain ⟨W,hW,hBW,hcW,hne,hszW,_⟩:=(hB5.go hc6).put (by simp) c6 (by omega) hr6;have ztW:=(hne w.heap.size (by omega)).trans (box5 zt5 _ hc6);have zzW:=(hne (w.heap.size+1) (by omega)).trans (box5 zz5 _ hc6);have hb6:=box5 hbx _ hc6;have HW:=Lib.hid (And.intro hBW (And.intro hcW (And.intro ztW zzW)));clear hr6 hBW hcW hne hszW ztW zzW d0 d1 d2 d3 d4 df b0 b1 b2 b3 b4 bf hbx;obtain ⟨d0,d1,d2,d3,d4,df⟩:=cells5 hb6
   go_wp2_with fail
   rw [<- hW];clear hW
   go_roundg (t.vals.length - (n+1))
   case measure=>omega
   case rel=>exact ⟨n+1,by omega,rfl,rfl,by go_num,HW.out.2.1,HW.out.2.2.1,HW.out.2.2.2,HW.out.1⟩
  ·have hltb:decide ((n:Int) < (t.vals.length:Int))=false:=by simp; omega
   have he:t.vals.take n=t.vals:=List.take_of_length_le (by omega);rw [he] at hB;obtain ⟨E5,r5,E6,r6,hbx,hrx⟩:=hB.box;obtain ⟨d0,d1,d2,d3,d4,df⟩:=cells5 hbx;obtain ⟨z0,z1,z2,z3,z4,zf⟩:=cells5 zz;obtain ⟨W,hW,QW,hcW,hrW⟩:=ret5 zz hcr (by omega) hrx (by simp);have HRW:=Lib.hid hrW;clear hrx hrW hbx
   go_wp2_with fail
   rw [<- hW];clear hW;obtain ⟨f0,f1,f2,f3,f4,_⟩:=cells5 QW
   go_wp2
   refine bodyPost_ret (v:=(.tuple #[(.agg #[.int .i64 (T.map (namedL t.vals)).kind,.int .i64 (T.map (namedL t.vals)).num,.string (T.map (namedL t.vals)).txt,.slice E5 (T.map (namedL t.vals)).keys.length r5,.slice E6 (T.map (namedL t.vals)).vals.length r6]),.bool true])) (by simp [results,Tryz.results92,go_sem,f0,f1,f2,f3,f4]) rfl ⟨_,rfl,hcW,HRW.out⟩
theorem canonNamed_any (t:T) (v:Value) (w:World) (h:Rd o w t v) (hf:Fine t) (hno:∀ b,w.heap.size<=b->o b):Calls Tryz.prog 100 #[v] w fun e w'=>∃ v',e=.returned v'/\Chg [] w w'/\Rd o w' (canonN t) v':=by
 obtain ⟨A3,q3,A4,q4,rfl,hk,hv⟩:=h.five
 go_enter Tryz.func100,Tryz.ntmps100
 go_upto_region 1 with fail
 obtain ⟨w1,hw⟩ : ∃ W:World,W=(w.alloc (.cells #[.int .i64 t.kind,.int .i64 t.num,.string t.txt,.slice A3 t.keys.length q3,.slice A4 t.vals.length q4] 25)).alloc (.cells #[.int .i64 0,.int .i64 0,.string ⟨#[]⟩,.slice none 0 0,.slice none 0 0] 25):=⟨_,rfl⟩
 rw [<- hw];have c1:Chg [] w w1:=hw ▸ ((Chg.refl [] w).al _).al _;have zt1:w1.heap[w.heap.size]?=some (.cells #[.int .i64 t.kind,.int .i64 t.num,.string t.txt,.slice A3 t.keys.length q3,.slice A4 t.vals.length q4] 25):=hw ▸ heap_al1 w _ _;have zz1:w1.heap[w.heap.size+1]?=some (.cells #[.int .i64 0,.int .i64 0,.string ⟨#[]⟩,.slice none 0 0,.slice none 0 0] 25):=hw ▸ heap_al2 w _ _;clear hw;obtain ⟨a0,a1,a2,a3,a4,af⟩:=cells5 zt1;obtain ⟨z0,z1,z2,z3,z4,zf⟩:=cells5 zz1;have hrx:Rd (Ex o [w.heap.size+1]) w1 t (.agg #[.int .i64 t.kind,.int .i64 t.num,.string t.txt,.slice A3 t.keys.length q3,.slice A4 t.vals.length q4]):=(h.ex (by simp)).chg c1;have hszz:=(Array.getElem?_eq_some_iff.1 zz1).1
 by_cases h4:t.kind=4
 case neg=>
  have n4:((t.kind:Int) != 4)=true:=by simp; omega
  have hu:Hid (canonN t=t):=Lib.hid (by cases t <;> first | rfl | exact absurd rfl h4);clear h4 hk hv h;obtain ⟨W,hW,QW,hcW,hrW⟩:=ret5 zz1 c1 (by omega) hrx (by simp);have HRW:=Lib.hid hrW;clear hrx hrW
  go_wp2_with fail
  rw [<- hW];clear hW;obtain ⟨f0,f1,f2,f3,f4,_⟩:=cells5 QW
  go_wp2
  refine bodyPost_ret (v:=(.agg #[.int .i64 t.kind,.int .i64 t.num,.string t.txt,.slice A3 t.keys.length q3,.slice A4 t.vals.length q4])) (by simp [results,Tryz.results100,go_sem,f0,f1,f2,f3,f4]) rfl ⟨_,rfl,hcW,by rw [hu.out]; exact HRW.out⟩
 have n4:((t.kind:Int) != 4)=false:=by simp; omega
 have hu:Hid (canonN t=.map (namedL t.vals)):=Lib.hid (by obtain ⟨l,rfl⟩:=list_of h4; rfl);have HRX:=Lib.hid hrx;have H4:=Lib.hid h4;clear h4 hk hv h hrx
 go_wp2_with fail
 refine (mergeNamedL_any (o:=Ex o [w.heap.size+1]) t _ _ HRX.out hf H4.out (Ex.no hno (by have:=c1.size; omega) (by simp; omega))).mono ?_;rintro e w2 ⟨v2,rfl,hc12,hr2⟩;obtain ⟨E5,r5,E6,r6,rfl,_⟩:=hr2.five
 obtain ⟨w3,hw⟩ : ∃ W:World,W=w2.alloc (.cells #[.int .i64 (T.map (namedL t.vals)).kind,.int .i64 (T.map (namedL t.vals)).num,.string (T.map (namedL t.vals)).txt,.slice E5 (T.map (namedL t.vals)).keys.length r5,.slice E6 (T.map (namedL t.vals)).vals.length r6] 25):=⟨_,rfl⟩
 have hc13:Chg [] w1 w3:=hw ▸ hc12.al _;have c3:=c1.trans hc13 New.nil;have zz3:=box5 zz1 _ hc13;have hb3:w3.heap[w2.heap.size]?=some (.cells #[.int .i64 (T.map (namedL t.vals)).kind,.int .i64 (T.map (namedL t.vals)).num,.string (T.map (namedL t.vals)).txt,.slice E5 (T.map (namedL t.vals)).keys.length r5,.slice E6 (T.map (namedL t.vals)).vals.length r6] 25):=hw ▸ heap_alloc_new _ _;have hr3:Rd (Ex o [w.heap.size+1]) w3 (.map (namedL t.vals)) (.agg #[.int .i64 (T.map (namedL t.vals)).kind,.int .i64 (T.map (namedL t.vals)).num,.string (T.map (namedL t.vals)).txt,.slice E5 (T.map (namedL t.vals)).keys.length r5,.slice E6 (T.map (namedL t.vals)).vals.length r6]):=hw ▸ hr2.chg ((Chg.refl [] w2).al _);clear hr2 hc12 a0 a1 a2 a3 a4 af z0 z1 z2 z3 z4 zf
 go_upto_region 4 with fail
 rw [<- hw];clear hw;obtain ⟨d0,d1,d2,d3,d4,df⟩:=cells5 hb3;obtain ⟨z0,z1,z2,z3,z4,zf⟩:=cells5 zz3;obtain ⟨W,hW,QW,hcW,hrW⟩:=ret5 zz3 c3 (by omega) hr3 (by simp);have HRW:=Lib.hid hrW;clear hr3 hrW
 go_wp2_with fail
 rw [<- hW];clear hW;obtain ⟨f0,f1,f2,f3,f4,_⟩:=cells5 QW
 go_wp2
 refine bodyPost_ret (v:=(.agg #[.int .i64 (T.map (namedL t.vals)).kind,.int .i64 (T.map (namedL t.vals)).num,.string (T.map (namedL t.vals)).txt,.slice E5 (T.map (namedL t.vals)).keys.length r5,.slice E6 (T.map (namedL t.vals)).vals.length r6])) (by simp [results,Tryz.results100,go_sem,f0,f1,f2,f3,f4]) rfl ⟨_,rfl,hcW,by rw [hu.out]; exact HRW.out⟩
end Go.Proofs.YtpofkokbmifhgaaGreatDoor
namespace Go.Proofs.YtpofkokbmifhgaaGreatDoor
open Go.RowKit
variable {o:Nat->Prop}
def nF (_:ByteArray) (x:T):T:=needR x
def needsD (t:T):List (ByteArray × T):=(needsM t).m
theorem needsM_map (t:T):needsM t=.map (needsD t):=by cases t <;> rfl
theorem foldK_val {x:T} {l:List T}:∀ p∈foldK x l,p.2=x:=fun p hp=>foldK_vals p hp
theorem needsC_eq (t:T):needsC t=.map ((needsD t).map fun p=>(p.1,nF p.1 p.2)):=by
 have h:∀ l:List T,(foldK impC l).map (fun p=>(p.1,nF p.1 p.2))=foldK impC l:=fun l=>map_eq_self fun p hp=>by
  have e:=foldK_val p hp
  have:nF p.1 p.2=p.2:=by rw [e]; rfl
  rw [this]
 cases t with
 | map m=>rfl
 | _=>simp only [needsC,needsD,needsM,T.m]; rw [h]
theorem impC_fine:WF 67108864 impC:=by
 refine ⟨List.pairwise_cons.2 ⟨fun q hq=>?_,List.pairwise_singleton _ _⟩,WFM_iff.2 fun p hp=>?_⟩
 ·rw [List.mem_singleton] at hq
  subst hq
  kernel_rfl
 ·rcases List.mem_cons.1 hp with rfl | hp
  ·exact ⟨by decide,by show cServiceStarted.size<=_; decide⟩
  ·rw [List.mem_singleton] at hp
   subst hp;exact ⟨by decide,trivial⟩
theorem needsD_len (t:T):(needsD t).length<=t.vals.length:=by
 cases t with
 | map m=>simp [needsD,needsM,T.m,T.vals]
 | _=>exact foldK_len
theorem needsD_srt {t:T} (h:Fine t):Srt (needsD t):=by
 cases t with
 | map m=>exact h.wf.1
 | _=>exact foldK_srt _ _
theorem needsD_vals {t:T} (h:Fine t):∀ p∈needsD t,WF 67108864 p.2:=by
 cases t with
 | map m=>exact fun p hp=>(WFM_iff.1 h.wf.2 p hp).2
 | _=>exact fun p hp=>by rw [foldK_val p hp]; exact impC_fine
theorem mapTo_val {f:ByteArray->T->T} {m:List (ByteArray × T)} {n:Nat} {k:ByteArray} {x:T} (h:m[n]?=some (k,x)):(T.map (mapTo f m n)).vals[n]?=some x/\(T.map (mapTo f m n)).keys[n]?=some k:=by
 have:=mapTo_at (f:=f) h;simp [T.vals,T.keys,this]
theorem mapTo_lens {f:ByteArray->T->T} {m:List (ByteArray × T)} {n:Nat}:(T.map (mapTo f m n)).keys.length=m.length/\(T.map (mapTo f m n)).vals.length=m.length:=by
 constructor
 ·simp only [T.keys,List.length_map,mapTo_length]
 ·simp only [T.vals,List.length_map,mapTo_length]
theorem canonNeeds_any (t:T) (v:Value) (w:World) (h:Rd o w t v) (hf:Fine t) (hmap:∀ p∈needsD t,∃ r,p.2=.map r) (hlen:∀ p∈needsD t,p.2.vals.length<=67108863) (hno:∀ b,w.heap.size<=b->o b):Calls Tryz.prog 101 #[v] w fun e w'=>∃ v',e=.returned v'/\Chg [] w w'/\Rd o w' (needsC t) v':=by
 obtain ⟨A3,q3,A4,q4,rfl,hk,hv⟩:=h.five;have hkl:=hf.len;rw [needsC_eq]
 obtain ⟨d,hd⟩ : ∃ d,d=needsD t:=⟨_,rfl⟩
 have HD:Hid (Srt d/\(∀ p∈d,∃ r,p.2=.map r)/\(∀ p∈d,WF 67108864 p.2)/\∀ p∈d,p.2.vals.length<=67108863):=Lib.hid (by rw [hd]; exact ⟨needsD_srt hf,hmap,needsD_vals hf,hlen⟩)
 have hdl:d.length<=67108864:=by have:=needsD_len t; rw [hd]; omega
 have HE:Hid (needsM t=.map d):=Lib.hid (by rw [hd]; exact needsM_map t);rw [<- hd];clear hd hmap hlen
 go_enter Tryz.func101,Tryz.ntmps101
 go_upto_region 1 with fail
 obtain ⟨w1,hw⟩ : ∃ W:World,W=(w.alloc (.cells #[.int .i64 t.kind,.int .i64 t.num,.string t.txt,.slice A3 t.keys.length q3,.slice A4 t.vals.length q4] 25)).alloc (.cells #[.int .i64 0,.int .i64 0,.string ⟨#[]⟩,.slice none 0 0,.slice none 0 0] 25):=⟨_,rfl⟩
 rw [<- hw];have c1:Chg [] w w1:=hw ▸ ((Chg.refl [] w).al _).al _;have zt1:w1.heap[w.heap.size]?=some (.cells #[.int .i64 t.kind,.int .i64 t.num,.string t.txt,.slice A3 t.keys.length q3,.slice A4 t.vals.length q4] 25):=hw ▸ heap_al1 w _ _;have zz1:w1.heap[w.heap.size+1]?=some (.cells #[.int .i64 0,.int .i64 0,.string ⟨#[]⟩,.slice none 0 0,.slice none 0 0] 25):=hw ▸ heap_al2 w _ _;clear hw;obtain ⟨a0,a1,a2,a3,a4,af⟩:=cells5 zt1;obtain ⟨z0,z1,z2,z3,z4,zf⟩:=cells5 zz1;have hrx:Rd (Ex o [w.heap.size+1]) w1 t (.agg #[.int .i64 t.kind,.int .i64 t.num,.string t.txt,.slice A3 t.keys.length q3,.slice A4 t.vals.length q4]):=(h.ex (by simp)).chg c1;have hszz:=(Array.getElem?_eq_some_iff.1 zz1).1;have HRX:=Lib.hid hrx;clear hk hv h hrx
 go_wp2_with fail
 refine (mergeNeeds_any (o:=Ex o [w.heap.size+1]) t _ _ HRX.out hf (Ex.no hno (by have:=c1.size; omega) (by simp; omega))).mono ?_;rintro e w2 ⟨v2,rfl,hc12,hr2⟩;rw [HE.out] at hr2;obtain ⟨E5,r5,E6,r6,rfl,_⟩:=hr2.five;have hs12:=hc12.size
 obtain ⟨w3,hw⟩ : ∃ W:World,W=w2.alloc (.cells #[.int .i64 (T.map d).kind,.int .i64 (T.map d).num,.string (T.map d).txt,.slice E5 (T.map d).keys.length r5,.slice E6 (T.map d).vals.length r6] 25):=⟨_,rfl⟩
 have hc13:Chg [] w1 w3:=hw ▸ hc12.al _;have c3:=c1.trans hc13 New.nil;have zz3:=box5 zz1 _ hc13
 have hB3:Bx o [w.heap.size+1,w2.heap.size] w2.heap.size (.map (mapTo nF d 0)) w3:=by
  rw [mapTo_zero];refine ⟨E5,r5,E6,r6,hw ▸ heap_alloc_new _ _,?_⟩
  have h2:=hr2.to (o':=Ex o [w.heap.size+1,w2.heap.size]) (w':=w2) fun b hb ho=>⟨⟨ho.1,by have:=ho.2; simp at this ⊢; omega⟩,rfl⟩
  exact hw ▸ h2.chg ((Chg.refl [] w2).al _)
 clear hr2 hc12 a0 a1 a2 a3 a4 af z0 z1 z2 z3 z4 zf
 go_upto_region 2 with fail
 rw [<- hw];clear hw
 go_wp2_with fail
 go_loopg [4] d.length (fun g i wr=>∃ n:Nat,n<=d.length/\g=d.length - n/\i=.int .i64 n/\Chg [] w wr/\wr.heap[w.heap.size+1]?=some (.cells #[.int .i64 0,.int .i64 0,.string ⟨#[]⟩,.slice none 0 0,.slice none 0 0] 25)/\Bx o [w.heap.size+1,w2.heap.size] w2.heap.size (.map (mapTo nF d n)) wr)
 case atStart=>exact ⟨0,Nat.zero_le _,by omega,rfl,c3,zz3,hB3⟩
 case round=>
  clear zz3 hB3;obtain ⟨n,hn,rfl,rfl,hcr,zz,hB⟩:=hrel;have hszr:w2.heap.size < wr.heap.size:=hB.lt;obtain ⟨E5,r5,E6,r6,hbx,hrx⟩:=hB.box;obtain ⟨hkl1,hkl2⟩:=@mapTo_lens nF d n
  by_cases hlt:n < d.length
  ·have hltb:decide ((n:Int) < ((T.map (mapTo nF d n)).keys.length:Int))=true:=decide_eq_true (by omega)
   have hlv:n < (T.map (mapTo nF d n)).vals.length:=by omega
   have hlk:n < (T.map (mapTo nF d n)).keys.length:=by omega
   clear hkl1 hkl2
   obtain ⟨⟨k,x⟩,hq⟩ : ∃ q,d[n]?=some q:=⟨_,List.getElem?_eq_getElem hlt⟩
   obtain ⟨hqv,hqk⟩:=mapTo_val (f:=nF) hq;obtain ⟨E7,r7,E8,r8,e,hk,hv⟩:=hrx.five
   cases e
   obtain ⟨gk,ck,ek,hgk,yk⟩:=hk.elem hqk;obtain ⟨ge,ce,A5,q5,A6,q6,ee,hge,rx,ye⟩:=hv.elem hqv
   cases ek
   cases ee
   have hqm:=List.mem_of_getElem? hq;have hwx:=HD.out.2.2.1 _ hqm;have hlx:x.vals.length<=67108863:=HD.out.2.2.2 _ hqm;have HXM:Hid (∃ r,x=.map r):=Lib.hid (HD.out.2.1 _ hqm);have HQ:=Lib.hid hq;have YK:=Lib.hid yk;have YE:=Lib.hid ye;have HRX2:=Lib.hid rx;have HBX:=Lib.hid (And.intro hbx hrx);obtain ⟨y0,y1,y2,y3,y4⟩:=ye _ (Chg.refl [] wr);obtain ⟨d0,d1,d2,d3,d4,df⟩:=cells5 hbx;have hxk:=T.keys_vals x;have hsz64:d.length<=67108864:=hdl;clear hq hqv hqk yk ye rx hbx hrx hk hv hqm
   go_wp2_with fail
   refine (has_any x _ cRequired _ HRX2.out hwx.srt (by omega)).mono ?_;rintro e w4 ⟨rfl,hc4⟩
   obtain ⟨bq,hbq⟩ : ∃ b,(tget cRequired x).isSome=b:=⟨_,rfl⟩
   rw [hbq];have HBQ:=Lib.hid hbq;have c4:=hcr.trans hc4 New.nil;have zz4:=box5 zz _ hc4;have hB4:=hB.go hc4;have hs4:=hc4.size;have HB4:=Lib.hid (And.intro (box5 HBX.out.1 _ hc4) (HBX.out.2.chg hc4));have HRX4:=Lib.hid (HRX2.out.chg hc4);clear hbq y0 y1 y2 y3 y4 d0 d1 d2 d3 d4 df HBX HRX2;obtain ⟨d0,d1,d2,d3,d4,df⟩:=cells5 HB4.out.1
   cases bq with
   | true=>
    have hsame:nF k x=x:=by
     have hb:=HBQ.out;unfold nF needR;obtain ⟨r,rfl⟩:=HXM.out;rw [if_pos (show hasK cRequired (T.map r).m=true from hb)]
    have HSM:=Lib.hid (mapTo_same HQ.out hsame);clear hsame
    go_wp2_with fail
    go_roundg (d.length - (n+1))
    case measure=>omega
    case rel=>exact ⟨n+1,by omega,rfl,by go_num,c4,zz4,by rw [HSM.out]; exact hB4⟩
   | false=>
    obtain ⟨r,hxr⟩:=HXM.out
    have HNX:Hid (nF k x=.map (mins cRequired (.bool true) r)):=Lib.hid (by
     have hb:=HBQ.out;rw [hxr] at hb ⊢;unfold nF needR;rw [if_neg (by rw [show hasK cRequired (T.map r).m=false from hb]; simp)]
     rfl)
    have HXR:=Lib.hid hxr
    have hlr:r.length<=67108863:=by rw [hxr] at hlx; simpa [T.vals] using hlx
    have HSR:Hid (Srt r):=Lib.hid (hwx.srt r hxr);have HBX:=HB4;clear hxr
    go_wp2_with fail
    clear d0 d1 d2 d3 d4 df;rename_i K hK;have HK:=Lib.hid hK;clear hK
    refine wp_region_tail (by rfl) (by kernel_rfl) [3,4] (by kernel_rfl)
     (fun jo u V=>match jo with
      | 0=>u=.agg #[.int .i64 (T.map (mapTo nF d n)).kind,.int .i64 (T.map (mapTo nF d n)).num,.string (T.map (mapTo nF d n)).txt,.slice (some ⟨gk,0,none⟩) (T.map (mapTo nF d n)).keys.length r5,.slice (some ⟨ge,0,none⟩) (T.map (mapTo nF d n)).vals.length r6]
      | 1=>u=.pointer (some ⟨w2.heap.size,3,none⟩)
      | 2=>u=.slice (some ⟨gk,0,none⟩) (T.map (mapTo nF d n)).keys.length r5
      | 3=>u=.int .i64 n
      | 4=>u=.pointer (some ⟨gk,n,none⟩)
      | 5=>u=.string k
      | 6=>u=.pointer (some ⟨w2.heap.size,4,none⟩)
      | 7=>u=.slice (some ⟨ge,0,none⟩) (T.map (mapTo nF d n)).vals.length r6
      | 8=>u=.int .i64 n
      | 9=>u=.pointer (some ⟨ge,n * 5,none⟩)
      | 10=>u=.agg #[.int .i64 x.kind,.int .i64 x.num,.string x.txt,.slice A5 x.keys.length q5,.slice A6 x.vals.length q6]
      | 11=>Rd (Ex o [w.heap.size+1,w2.heap.size]) V (.bool true) u
      | 12=>Rd (Ex o [w.heap.size+1,w2.heap.size]) V (.map (mins cRequired (.bool true) r)) u
      | 13=>Rd (Ex o [w.heap.size+1,w2.heap.size]) V (.map (mapTo nF d (n+1))) u
      | _=>True) ?_ ?_ ?_
    ·intro j u V V' hc hφ
     rcases j with _ | _ | _ | _ | _ | _ | _ | _ | _ | _ | _ | _ | _ | _ | j
     ·exact hφ
     ·exact hφ
     ·exact hφ
     ·exact hφ
     ·exact hφ
     ·exact hφ
     ·exact hφ
     ·exact hφ
     ·exact hφ
     ·exact hφ
     ·exact hφ
     ·exact Rd.chg hφ hc
     ·exact Rd.chg hφ hc
     ·exact Rd.chg hφ hc
     ·exact hφ
    ·intro j oo hj ho a' w' hst hch hdep K2 hK2
     have hcB:Chg [] w4 w':=(Chg.refl [] w4).dr.trans hch New.nil;have hcw':Chg [] w w':=c4.trans hcB New.nil;obtain ⟨d0,d1,d2,d3,d4,df⟩:=cells5 (box5 HBX.out.1 _ hcB);have hrc:=HBX.out.2.chg hcB;obtain ⟨y0,y1,y2,y3,y4⟩:=YE.out _ (hc4.trans hcB New.nil);have hyk:=YK.out _ (hc4.trans hcB New.nil);have hszw:=hcB.size
     have hrxr:Rd (Ex o [w.heap.size+1,w2.heap.size]) w' (.map r) (.agg #[.int .i64 x.kind,.int .i64 x.num,.string x.txt,.slice A5 x.keys.length q5,.slice A6 x.vals.length q6]):=by have:=HRX4.out.chg hcB; rw [HXR.out] at this ⊢; exact this
     have hnoW:∀ b,w'.heap.size<=b->(Ex o [w.heap.size+1,w2.heap.size]) b:=Ex.no hno (by have:=hcw'.size; omega) (by simp; omega);have hj':j < 14:=hj;rcases j with _ | _ | _ | _ | _ | _ | _ | _ | _ | _ | _ | _ | _ | _ | j
     ·obtain rfl:_=oo:=Option.some.inj ho
      have h3:=g_eq (t:=3) (v:=.pointer (some ⟨w2.heap.size,0,none⟩)) (hst 3 (by simp));unfold Oper.wp;go_simp;exact ⟨_,rfl,hK2 _ _ (Chg.refl _ _) rfl⟩
     ·obtain rfl:_=oo:=Option.some.inj ho
      have h3:=g_eq (t:=3) (v:=.pointer (some ⟨w2.heap.size,0,none⟩)) (hst 3 (by simp));unfold Oper.wp;go_simp;exact ⟨_,rfl,hK2 _ _ (Chg.refl _ _) rfl⟩
     ·obtain rfl:_=oo:=Option.some.inj ho
      have h22:=g_eq (t:=22) (v:=.pointer (some ⟨w2.heap.size,3,none⟩)) (hdep 1 (by kernel_rfl));unfold Oper.wp;go_simp;exact ⟨_,rfl,hK2 _ _ (Chg.refl _ _) rfl⟩
     ·obtain rfl:_=oo:=Option.some.inj ho
      have h4:=g_eq (t:=4) (v:=.int .i64 n) (hst 4 (by simp));unfold Oper.wp;go_simp;exact ⟨_,rfl,hK2 _ _ (Chg.refl _ _) rfl⟩
     ·obtain rfl:_=oo:=Option.some.inj ho
      have h23:=g_eq (t:=23) (v:=.slice (some ⟨gk,0,none⟩) (T.map (mapTo nF d n)).keys.length r5) (hdep 2 (by kernel_rfl));have h24:=g_eq (t:=24) (v:=.int .i64 n) (hdep 3 (by kernel_rfl));unfold Oper.wp;go_simp;exact ⟨_,rfl,hK2 _ _ (Chg.refl _ _) rfl⟩
     ·obtain rfl:_=oo:=Option.some.inj ho
      have h25:=g_eq (t:=25) (v:=.pointer (some ⟨gk,n,none⟩)) (hdep 4 (by kernel_rfl));unfold Oper.wp;go_simp;exact ⟨_,rfl,hK2 _ _ (Chg.refl _ _) rfl⟩
     ·obtain rfl:_=oo:=Option.some.inj ho
      have h3:=g_eq (t:=3) (v:=.pointer (some ⟨w2.heap.size,0,none⟩)) (hst 3 (by simp));unfold Oper.wp;go_simp;exact ⟨_,rfl,hK2 _ _ (Chg.refl _ _) rfl⟩
     ·obtain rfl:_=oo:=Option.some.inj ho
      have h27:=g_eq (t:=27) (v:=.pointer (some ⟨w2.heap.size,4,none⟩)) (hdep 6 (by kernel_rfl));unfold Oper.wp;go_simp;exact ⟨_,rfl,hK2 _ _ (Chg.refl _ _) rfl⟩
     ·obtain rfl:_=oo:=Option.some.inj ho
      have h4:=g_eq (t:=4) (v:=.int .i64 n) (hst 4 (by simp));unfold Oper.wp;go_simp;exact ⟨_,rfl,hK2 _ _ (Chg.refl _ _) rfl⟩
     ·obtain rfl:_=oo:=Option.some.inj ho
      have h28:=g_eq (t:=28) (v:=.slice (some ⟨ge,0,none⟩) (T.map (mapTo nF d n)).vals.length r6) (hdep 7 (by kernel_rfl));have h29:=g_eq (t:=29) (v:=.int .i64 n) (hdep 8 (by kernel_rfl));unfold Oper.wp;go_simp;exact ⟨_,rfl,hK2 _ _ (Chg.refl _ _) rfl⟩
     ·obtain rfl:_=oo:=Option.some.inj ho
      have h30:=g_eq (t:=30) (v:=.pointer (some ⟨ge,n * 5,none⟩)) (hdep 9 (by kernel_rfl));unfold Oper.wp;go_simp;exact ⟨_,rfl,hK2 _ _ (Chg.refl _ _) rfl⟩
     ·obtain rfl:_=oo:=Option.some.inj ho
      unfold Oper.wp;go_simp;refine (specB (o:=(Ex o [w.heap.size+1,w2.heap.size])) true w').mono ?_;rintro e w3 ⟨v',rfl,hc3,hr3⟩;exact ⟨_,rfl,hK2 _ _ hc3 hr3⟩
     ·obtain rfl:_=oo:=Option.some.inj ho
      have h31:=g_eq (t:=31) (v:=.agg #[.int .i64 x.kind,.int .i64 x.num,.string x.txt,.slice A5 x.keys.length q5,.slice A6 x.vals.length q6]) (hdep 10 (by kernel_rfl));have hr32:Rd (Ex o [w.heap.size+1,w2.heap.size]) w' (.bool true) (Act.g a' 32):=hdep 11 (by kernel_rfl);generalize hg32:Act.g a' 32=v32 at hr32;have h32:=g_eq (t:=32) hg32;unfold Oper.wp;go_simp;refine (with_map (o:=(Ex o [w.heap.size+1,w2.heap.size])) r (.bool true) _ _ cRequired w' hrxr HSR.out hr32 (by omega) hnoW).mono ?_;rintro e w3 ⟨v',rfl,hc3,hr3⟩;exact ⟨_,rfl,hK2 _ _ hc3 hr3⟩
     ·obtain rfl:_=oo:=Option.some.inj ho
      have h21:=g_eq (t:=21) (v:=.agg #[.int .i64 (T.map (mapTo nF d n)).kind,.int .i64 (T.map (mapTo nF d n)).num,.string (T.map (mapTo nF d n)).txt,.slice (some ⟨gk,0,none⟩) (T.map (mapTo nF d n)).keys.length r5,.slice (some ⟨ge,0,none⟩) (T.map (mapTo nF d n)).vals.length r6]) (hdep 0 (by kernel_rfl));have h26:=g_eq (t:=26) (v:=.string k) (hdep 5 (by kernel_rfl));have hr33:Rd (Ex o [w.heap.size+1,w2.heap.size]) w' (.map (mins cRequired (.bool true) r)) (Act.g a' 33):=hdep 12 (by kernel_rfl);generalize hg33:Act.g a' 33=v33 at hr33;have h33:=g_eq (t:=33) hg33;unfold Oper.wp;go_simp;refine (with_map (o:=(Ex o [w.heap.size+1,w2.heap.size])) (mapTo nF d n) (.map (mins cRequired (.bool true) r)) _ _ k w' hrc (mapTo_srt HD.out.1) hr33 (by rw [mapTo_length]; omega) hnoW).mono ?_;rintro e w3 ⟨v',rfl,hc3,hr3⟩;rw [<- HNX.out,mapTo_step HD.out.1 HQ.out] at hr3;exact ⟨_,rfl,hK2 _ _ hc3 hr3⟩
     ·omega
    ·intro oo ho u w' hch hφ A2 hA2
     obtain rfl:_=oo:=Option.some.inj ho;have huS:Rd (Ex o [w.heap.size+1,w2.heap.size]) w' (.map (mapTo nF d (n+1))) (u 13):=hφ 13 (by decide);obtain ⟨e5,n5,e6,n6,hu,_⟩:=huS.five;rw [hu] at huS;have hcB:Chg [] w4 w':=(Chg.refl [] w4).dr.trans hch New.nil;have hcw':Chg [] w w':=c4.trans hcB New.nil;obtain ⟨W,hW,hBW,hcW,hne,hszW,hoth⟩:=(hB4.go hcB).put (by simp) hcw' (by omega) huS;simp [putAll,dOf,Act.put,hu] at hA2;subst hA2;have hbz:=box5 HBX.out.1 _ hcB;obtain ⟨b0,b1,b2,b3,b4,bf⟩:=cells5 hbz;have HW:=Lib.hid (And.intro hBW (And.intro hcW (And.intro hne (And.intro hszW hoth))));clear hφ ho hu huS hbz hBW hcW hne hszW hoth;unfold Oper.wp;go_simp;rw [<- hW];refine HK.out _ _ ?_;clear HK hW b0 b1 b2 b3 b4 bf hch;have zz':=(HW.out.2.2.1 (w.heap.size+1) (by omega)).trans (box5 zz4 _ hcB)
     go_wp2_with fail
     go_roundg (d.length - (n+1))
     case measure=>omega
     case rel=>exact ⟨n+1,by omega,rfl,by go_num,HW.out.2.1,zz',HW.out.1⟩
  ·have hltb:¬ n < (T.map (mapTo nF d n)).keys.length:=by omega
   clear hkl1 hkl2
   have he:mapTo nF d n=d.map fun p=>(p.1,nF p.1 p.2):=by
    have:n=d.length:=by omega
    rw [this]; exact mapTo_all
   obtain ⟨dd,hdd⟩ : ∃ dd,dd=d.map fun p=>(p.1,nF p.1 p.2):=⟨_,rfl⟩
   rw [<- hdd] at he;rw [he] at hB hbx hrx hltb;have HDD:=Lib.hid hdd;clear hdd he;obtain ⟨d0,d1,d2,d3,d4,df⟩:=cells5 hbx;obtain ⟨z0,z1,z2,z3,z4,zf⟩:=cells5 zz;obtain ⟨W,hW,QW,hcW,hrW⟩:=ret5 zz hcr (by omega) hrx (by simp);have HRW:=Lib.hid hrW;clear hrx hrW hbx
   go_wp2_with fail
   rw [<- hW];clear hW;obtain ⟨f0,f1,f2,f3,f4,_⟩:=cells5 QW
   go_wp2
   refine bodyPost_ret (v:=(.agg #[.int .i64 (T.map dd).kind,.int .i64 (T.map dd).num,.string (T.map dd).txt,.slice E5 (T.map dd).keys.length r5,.slice E6 (T.map dd).vals.length r6])) (by simp [results,Tryz.results101,go_sem,f0,f1,f2,f3,f4]) rfl ⟨_,rfl,hcW,by rw [<- HDD.out]; exact HRW.out⟩
end Go.Proofs.YtpofkokbmifhgaaGreatDoor
namespace Go.Proofs.YtpofkokbmifhgaaGreatDoor
open Go.RowKit
variable {o:Nat->Prop}
def Wx (o:Nat->Prop) (L:List Nat) (R:Value) (b:Nat):Prop:=Ex o L b/\R.ownBlock≠some b
structure WRow (o:Nat->Prop) (L:List Nat) (w0:World) (base:Nat) (l:List T) (R:Value) (w:World):Prop where
 chg:Chg [] w0 w
 le:w0.heap.size<=base/\base<=w.heap.size
 far:∀ b∈L,b < base
 row:∃ xs,w.ownsRow base 25 5 R l.length xs/\FlatV (Wx o L R) w l xs
theorem WRow.nil {L:List Nat} {w0 w:World} {base:Nat} (hc:Chg [] w0 w) (hb:w0.heap.size<=base/\base<=w.heap.size) (hL:∀ b∈L,b < base):WRow o L w0 base [] (.slice none 0 0) w:=
 ⟨hc,hb,hL,[],⟨rfl,.inl ⟨rfl,rfl⟩⟩,by simp [FlatV]⟩
theorem WRow.slice {L:List Nat} {w0 w:World} {base:Nat} {l:List T} {R:Value} (h:WRow o L w0 base l R w):∃ A c,R=.slice A l.length c:=by
 obtain ⟨xs,hr,_⟩:=h.row;exact ownsRow_slice hr
theorem WRow.own {L:List Nat} {w0 w:World} {base:Nat} {l:List T} {R:Value} (h:WRow o L w0 base l R w) {g:Nat} (hg:R.ownBlock=some g):base<=g/\g < w.heap.size:=by
 obtain ⟨xs,hr,_⟩:=h.row;exact ownsRow_own hr hg
theorem WRow.keep {L:List Nat} {w0 w w':World} {base:Nat} {l:List T} {R:Value} (h:WRow o L w0 base l R w) (hc:Chg [] w0 w') (hs:w.heap.size<=w'.heap.size) (hsame:∀ b,b < w.heap.size->b ∉ L->w'.heap[b]?=w.heap[b]?):WRow o L w0 base l R w':=by
 obtain ⟨xs,h1,h2⟩:=h.row;have hle:=h.le;refine ⟨hc,⟨hle.1,by omega⟩,h.far,xs,ownsRow_keep h1 fun g hg=>?_,h2.mono fun b hb ho=>hsame b hb ho.1.2⟩;have:=ownsRow_own h1 hg
 exact hsame g this.2 fun hm=>by have:=h.far g hm; omega
theorem WRow.go {L:List Nat} {w0 w w':World} {base:Nat} {l:List T} {R:Value} (h:WRow o L w0 base l R w) (hc:Chg [] w w'):WRow o L w0 base l R w':=
 h.keep (h.chg.trans hc New.nil) hc.size fun b hb _=>hc.block b hb (by simp)
theorem WRow.rd {L:List Nat} {w0 w:World} {base:Nat} {l:List T} {R:Value} (h:WRow o L w0 base l R w) (hno:∀ b,w0.heap.size<=b->o b):RdV (Ex o L) w l R:=by
 obtain ⟨xs,h1,h2⟩:=h.row;have hle:=h.le;exact RdV.of_own' rfl (fun b hb=>⟨hno b (by omega),fun hm=>by have:=h.far b hm; omega⟩) h1 (h2.weak fun b hb=>hb.1)
theorem WRow.app {L:List Nat} {w0 w:World} {base:Nat} {l:List T} {R:Value} (h:WRow o L w0 base l R w) {x:T} {A5 A6:Option Addr} {q5 q6:Nat} (hx:Rd (Wx o L R) w x (.agg #[.int .i64 x.kind,.int .i64 x.num,.string x.txt,.slice A5 x.keys.length q5,.slice A6 x.vals.length q6])) (hl:l.length<=67108864) (ty:TypeId)
  {W:World} {g1:Nat} (hW:W=w.alloc (.cells #[.int .i64 x.kind,.int .i64 x.num,.string x.txt,.slice A5 x.keys.length q5,.slice A6 x.vals.length q6] 25)) (hg1:g1=w.heap.size) :
  ∃ R' w',(Builtin.append_ #[23,23] ty #[R,.slice (some ⟨g1,0,none⟩) 1 1]).run Tryz.prog W=.ok R' w'/\(WRow o L w0 base (l++[x]) R' w'/\(∀ b,b < base->w'.heap[b]?=w.heap[b]?)/\w.heap.size<=w'.heap.size):=by
 have hcW:Chg [] w W:=by rw [hW]; exact (Chg.refl [] w).al _
 have hg:=h.go hcW;obtain ⟨xs,h1,h2⟩:=hg.row;have hb:=hg.le;have hxW:=hx.chg hcW
 have hnew:W.heap[g1]?=some (.cells #[.int .i64 x.kind,.int .i64 x.num,.string x.txt,.slice A5 x.keys.length q5,.slice A6 x.vals.length q6] 25):=by rw [hW,hg1]; exact heap_alloc_new _ _
 obtain ⟨c0,c1,c2,c3,c4,_⟩:=cells5 hnew
 obtain ⟨R',w',hr,ho,hc,hor⟩:=run_app (P:=Tryz.prog) base 23 ty 25 _ 5 80 uVs iV rfl (by omega) R l.length xs h1 (some ⟨g1,0,none⟩) 1 1 [.int .i64 x.kind,.int .i64 x.num,.string x.txt,.slice A5 x.keys.length q5,.slice A6 x.vals.length q6] rfl (fun _=>⟨_,rfl,fun j u hu=>by
  rw [show (⟨g1,0,none⟩ : Addr).add j=⟨g1,j,none⟩ by unfold Addr.add; split <;> simp_all];rcases j with _ | _ | _ | _ | _ | j
  ·cases hu; exact c0
  ·cases hu; exact c1
  ·cases hu; exact c2
  ·cases hu; exact c3
  ·cases hu; exact c4
  ·simp at hu⟩) (by intro u hu; exact hxW.one u hu) (by omega) (by omega) hb.2
 have hown:∀ y,y∈R.ownBlock.toList->base<=y:=fun y hy=>(ownsRow_own h1 (by simpa using hy)).1
 rcases hor with ⟨_,h0,_⟩ | ⟨g,c',rfl,hg2,hg3,hor⟩
 ·omega
 refine ⟨_,w',hr,⟨hg.chg.trans hc fun y hy=>.inr (by have:=hown y hy; omega),⟨hb.1,by have:=hc.size; omega⟩,h.far,xs++_,by simpa using ho,?_⟩,fun b hbb=>?_,?_⟩
 ·have hto:∀ b,b < W.heap.size->Wx o L R b->Wx o L (.slice (some ⟨g,0,none⟩) (l.length+1) c') b/\w'.heap[b]?=W.heap[b]?:=fun b hb1 hb2=>by
   refine ⟨⟨hb2.1,fun e=>?_⟩,hc.block b hb1 fun hm=>hb2.2 (by simpa using hm)⟩
   have e':g=b:=by simpa [Value.ownBlock] using e
   subst e';rcases hor with h | h
   ·exact hb2.2 h
   ·omega
  exact (h2.to hto).snoc (hxW.to hto)
 ·have h3:=h.le.2
  rw [hc.block b (by have:=hcW.size; omega) fun hm=>by have:=hown b hm; omega,hcW.block b (by omega) (by simp)]
 ·have:=hcW.size
  have:=hc.size
  omega
end Go.Proofs.YtpofkokbmifhgaaGreatDoor
