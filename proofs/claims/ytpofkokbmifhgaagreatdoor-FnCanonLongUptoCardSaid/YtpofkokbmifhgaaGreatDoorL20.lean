/- Parts of the walk, made small by wip/tools/pack.py: Open, Pack, Lay, Wit, Own. No condition but those in each statement. -/
import Derived.Test.YtpofkokbmifhgaaGreatDoorL18
import Derived.Test.YtpofkokbmifhgaaGreatDoorL19
import Derived.Test.YtpofkokbmifhgaaGreatDoorRows
import Derived.Test.YtpofkokbmifhgaaGreatDoorCards
import Derived.Test.YtpofkokbmifhgaaGreatDoorTie
import Derived.Test.YtpofkokbmifhgaaGreatDoorL02
import Derived.ChangeArms
import Derived.WalkKit
import Derived.ProofKit
import Derived.OpenShut
import Derived.Deep.DeepHandedRow
import Derived.ChangeStays
import Derived.Lib.LaidU8
import Derived.Shelf.Lays
import Derived.Test.YtpofkokbmifhgaaGreatDoorProg
import Derived.Lib.LaidRTab
import Derived.Lib.LaidIn
import Derived.PinnedBridge
set_option maxRecDepth 100000
set_option maxHeartbeats 20000000
set_option linter.unusedVariables false
set_option linter.unusedSimpArgs false
namespace Go.Proofs.YtpofkokbmifhgaaGreatDoor
open Go.RowKit
def fieldsOf (P:Program) (t:TypeId):Option (List (TypeId × Nat)):=match P.underlying t with
 | some (.struct fs)=>some (fs.toList.map fun f=>(f.type,f.offset))
 | _=>none
theorem fVal:fieldsOf Tryz.prog 25=some [(3,0),(3,1),(9,2),(22,3),(23,4)]:=by kernel_rfl
theorem fields_open {P:Program} {t:TypeId} {l:List (TypeId × Nat)} (h:fieldsOf P t=some l):∃ fs:Array Field,P.underlying t=some (.struct fs)/\fs.size=l.length/\∀ (i:Nat) ty off,l[i]?=some (ty,off)->∃ f,fs[i]?=some f/\f.type=ty/\f.offset=off:=by
 unfold fieldsOf at h
 split at h
 ·rename_i fs hu
  injection h with h
  subst h;refine ⟨fs,hu,by simp,fun i ty off hi=>?_⟩;simp only [List.getElem?_map,Option.map_eq_some_iff] at hi;obtain ⟨f,hf,he⟩:=hi
  injection he with h1 h2
  exact ⟨f,by simpa using hf,h1,h2⟩
 ·cases h
theorem c3:Tryz.prog.cellsOf 3=1:=by kernel_rfl
theorem c9:Tryz.prog.cellsOf 9=1:=by kernel_rfl
theorem c22:Tryz.prog.cellsOf 22=1:=by kernel_rfl
theorem c23:Tryz.prog.cellsOf 23=1:=by kernel_rfl
theorem c25:Tryz.prog.cellsOf 25=5:=by kernel_rfl
theorem u3:Tryz.prog.underlying 3=some (.int .i64):=by kernel_rfl
theorem u9:Tryz.prog.underlying 9=some .string:=by kernel_rfl
theorem u22:Tryz.prog.underlying 22=some (.slice 9):=by kernel_rfl
theorem u23:Tryz.prog.underlying 23=some (.slice 25):=by kernel_rfl
section
variable {H:Type} {enc:TypeId × Value->H} {W:World} {base:Nat} {sp:Nat->Bool} {held:Bool}
theorem rows_of {α:Type} {p:Nat->α->Prop}:∀ (n:Nat),(∀ i,i < n->∃ r,p i r)->∃ l:List α,l.length=n/\∀ i r,l[i]?=some r->p i r
 | 0,_=>⟨[],rfl,fun i r h=>by simp at h⟩
 | n+1,h=>by
  obtain ⟨l,hl,hp⟩:=rows_of n fun i hi=>h i (by omega)
  obtain ⟨r,hr⟩:=h n (by omega);refine ⟨l++[r],by simp [hl],fun i x hx=>?_⟩;rcases Nat.lt_or_ge i n with hi | hi
  ·rw [List.getElem?_append_left (by omega)] at hx
   exact hp i x hx
  ·rw [List.getElem?_append_right (by omega)] at hx
   have hi':i - l.length=0:=by
    rcases Nat.eq_zero_or_pos (i - l.length) with e | e
    ·exact e
    ·rw [List.getElem?_eq_none (by simp; omega)] at hx
     cases hx
   rw [hi'] at hx;simp at hx;subst hx
   obtain rfl:i=n:=by omega
   exact hr
theorem cells_get {a:Addr} {n:Nat} {cs:List Value} (h:W.cells? base a n=some cs):cs.length=n/\∀ i,i < n->W.cell? (a.add i)=cs[i]?:=by
 unfold World.cells? at h
 split at h
 ·exact ⟨by simpa using mapM_some_length h,fun i hi=>mapM_some_get h i i (by simp [hi])⟩
 ·cases h
theorem spot_none {a:Addr} {v:Value} (h:W.cell? a=some v):a.spot=none:=by
 unfold World.cell? at h
 split at h
 ·split at h
  ·cases h
  ·rename_i hs
   cases hsp:a.spot with
   | none=>rfl
   | some x=>simp [hsp] at hs
 ·cases h
theorem bulk_pos (d:DataW H):1<=Rows.uptoBulk d:=by
 cases d with
 | lit l=>cases l <;> simp [Rows.uptoBulk]
 | _=>simp [Rows.uptoBulk]
theorem bulkAll_at:∀ {l:List (DataW H × List MemPlace)} {i:Nat} {y:DataW H × List MemPlace},l[i]?=some y->Rows.uptoBulk y.1<=Rows.uptoBulkAll (l.map (·.1))
 | x :: l,0,y,h=>by
  simp at h;subst h;simp only [List.map_cons,Rows.uptoBulkAll]
  omega
 | x :: l,i+1,y,h=>by
  simp at h;have:=bulkAll_at h;simp only [List.map_cons,Rows.uptoBulkAll]
  omega
theorem bulkAll_len:∀ (l:List (DataW H × List MemPlace)),l.length<=Rows.uptoBulkAll (l.map (·.1))
 | []=>Nat.zero_le _
 | x :: l=>by
  have h1:=bulkAll_len l;have h2:=bulk_pos x.1;simp only [List.length_cons,List.map_cons,Rows.uptoBulkAll]
  omega
theorem texts_of {fuel:Nat} {cs:List Value} {x:DataW H × List MemPlace} (h:DataW.trod enc Tryz.prog W base sp held fuel 22 cs=some x) :
  ∃ ks A c,cs=[.slice A ks.length c]/\RkO W ks (.slice A ks.length c)/\ks.length<=Rows.uptoBulk x.1/\∀ k∈ks,k.size<=Rows.uptoBulk x.1:=by
 rcases DataW.trod_slice u22 h with ⟨rfl,rfl⟩ | ⟨a,len,cap,elems,rest,n,rfl,rfl,rfl,hb,hlc,hcm,hel,hat,_⟩
 ·exact ⟨[],none,0,rfl,⟨none,0,rfl,Nat.le_refl _,fun h=>absurd h (Nat.lt_irrefl _)⟩,Nat.zero_le _,fun k hk=>by cases hk⟩
 ·have hone:∀ i,i < len->∃ s:ByteArray,W.cell? (a.add i)=some (.string s)/\∃ y,elems[i]?=some y/\y.1=.lit (.string s.data.toList):=fun i hi=>by
   have h1:=hat i hi;rw [List.getElem?_eq_getElem (by omega)] at h1;rw [c9,Nat.mul_one] at h1;obtain ⟨cs,hcs,hy⟩:=Option.bind_eq_some_iff.1 h1;obtain ⟨s,rfl,hx,_⟩:=DataW.trod_string u9 hy;obtain ⟨_,hg⟩:=cells_get hcs;have h2:=hg 0 (by omega);simp only [Addr.add,Nat.add_zero,List.getElem?_cons_zero] at h2;exact ⟨s,h2,_,List.getElem?_eq_getElem (by omega),by rw [hx]⟩
  obtain ⟨ks,hkl,hks⟩:=rows_of (p:=fun i (s:ByteArray)=>W.cell? (a.add i)=some (.string s)/\∃ y,elems[i]?=some y/\y.1=.lit (.string s.data.toList)) len hone;refine ⟨ks,some a,cap,by rw [hkl],⟨some a,cap,rfl,by omega,fun h0=>?_⟩,?_,?_⟩
  ·obtain ⟨k0,hk0⟩ : ∃ k0,ks[0]?=some k0:=⟨_,List.getElem?_eq_getElem h0⟩
   have hsp:=spot_none (hks 0 k0 hk0).1;obtain ⟨g,off,spot⟩:=a;simp only [Addr.add] at hsp;subst hsp
   exact ⟨g,off,rfl,fun j s hj=>by
    have:=(hks j s hj).1;rcases j with _ | j
    ·simpa [Addr.add] using this
    ·simpa [Addr.add] using this⟩
  ·have:=bulkAll_len elems
   simp only [Rows.uptoBulk]
   omega
  ·intro k hk
   obtain ⟨i,hi,rfl⟩:=List.mem_iff_getElem.1 hk;obtain ⟨_,y,hy,he⟩:=hks i _ (List.getElem?_eq_getElem hi);have h1:=bulkAll_at hy;rw [he] at h1;simp only [Rows.uptoBulk] at h1 ⊢;have h2:(ks[i].data.toList).length=ks[i].size:=Array.length_toList
   omega
theorem rdRL_of {g off:Nat}:∀ {l:List Raw} {j:Nat},(∀ (i:Nat) (r:Raw),l[i]?=some r->∃ v,RdR W r v/\∀ m u,v.cells[m]?=some u->W.cell? ⟨g,off+(j+i) * 5+m,none⟩=some u)->RdRL W g off l j
 | [],_,_=>by simp only [RdRL]
 | r :: l,j,h=>by
  simp only [RdRL];refine ⟨?_,rdRL_of (j:=j+1) fun i r hr=>?_⟩
  ·obtain ⟨v,h1,h2⟩:=h 0 r rfl
   exact ⟨v,h1,h2⟩
  ·obtain ⟨v,h1,h2⟩:=h (i+1) r hr
   exact ⟨v,h1,by rw [show j+1+i=j+(i+1) by omega]; exact h2⟩
theorem sizeL_of:∀ {l:List Raw} {xs:List (DataW H × List MemPlace)},l.length<=xs.length->(∀ (i:Nat) (r:Raw),l[i]?=some r->∃ y:DataW H × List MemPlace,xs[i]?=some y/\Raw.size r<=Rows.uptoBulk y.1)->Raw.sizeL l<=Rows.uptoBulkAll (xs.map (·.1))
 | [],_,_,_=>by simp [Raw.sizeL]
 | r :: l,[],h,_=>by simp at h
 | r :: l,x :: xs,hl,h=>by
  obtain ⟨y,hy,h1⟩:=h 0 r rfl;simp at hy;subst hy
  have ih:=sizeL_of (l:=l) (xs:=xs) (by simpa using hl) fun i r hr=>h (i+1) r hr
  simp only [Raw.sizeL,List.map_cons,Rows.uptoBulkAll]
  omega
theorem int64_wf {n:Int} (h:(Lit.int .i64 n).wf=true):-9223372036854775808<=n/\n<=9223372036854775807:=by
 simp only [Lit.wf,Bool.and_eq_true,decide_eq_true_eq] at h;exact h
theorem raw_of:∀ (fuel:Nat) (cs:List Value) (x:DataW H × List MemPlace),DataW.trod enc Tryz.prog W base sp held fuel 25 cs=some x ->
  ∃ r v,v.cells.toList=cs/\RdR W r v/\Raw.size r<=Rows.uptoBulk x.1/\WFR (Rows.uptoBulk x.1) r:=by
 intro fuel
 induction fuel using Nat.strongRecOn with
 | _ fuel0 ih=>
  intro cs x h
  obtain ⟨fs,hu,hsz,hf⟩:=fields_open fVal;obtain ⟨xs,fuel,e,rfl,hcl,hxl,hat⟩:=DataW.trod_struct hu h;rw [c25] at hcl
  obtain ⟨a,b,c,d,e,rfl⟩ : ∃ a b c d e,cs=[a,b,c,d,e]:=by
   rcases cs with _ | ⟨a,_ | ⟨b,_ | ⟨c,_ | ⟨d,_ | ⟨e,_ | ⟨f,cs⟩⟩⟩⟩⟩⟩
   all_goals first | exact ⟨_,_,_,_,_,rfl⟩ | simp at hcl
  have hxl:xs.length=5:=hxl.trans hsz
  obtain ⟨x0,x1,x2,x3,x4,rfl⟩ : ∃ a b c d e,xs=[a,b,c,d,e]:=by
   rcases xs with _ | ⟨a,_ | ⟨b,_ | ⟨c,_ | ⟨d,_ | ⟨e,_ | ⟨f,cs⟩⟩⟩⟩⟩⟩
   all_goals first | exact ⟨_,_,_,_,_,rfl⟩ | simp at hxl
  have get:∀ (i:Nat) ty off,[(3,0),(3,1),(9,2),(22,3),(23,4)][i]?=some (ty,off)->DataW.trod enc Tryz.prog W base sp held fuel ty (([a,b,c,d,e].drop off).take (Tryz.prog.cellsOf ty))=[x0,x1,x2,x3,x4][i]?:=fun i ty off hi=>by
   obtain ⟨f,hfi,rfl,rfl⟩:=hf i ty off hi;exact hat i f hfi
  have g0:=get 0 _ _ rfl;have g1:=get 1 _ _ rfl;have g2:=get 2 _ _ rfl;have g3:=get 3 _ _ rfl;have g4:=get 4 _ _ rfl;rw [c3] at g0 g1;rw [c9] at g2;rw [c22] at g3;rw [c23] at g4;simp only [List.drop,List.take,List.getElem?_cons_zero,List.getElem?_cons_succ] at g0 g1 g2 g3 g4;obtain ⟨kn,h0,e0,_⟩:=DataW.trod_int u3 g0;obtain ⟨nn,h1,e1,hwn⟩:=DataW.trod_int u3 g1;have hni:=int64_wf hwn;obtain ⟨st,h2,e2,_⟩:=DataW.trod_string u9 g2;obtain ⟨ks,A,ca,h3,hk,hkl,hks⟩:=texts_of g3
  cases h0
  cases h1
  cases h2
  cases h3
  have hb:Rows.uptoBulk (DataW.agg ([x0,x1,x2,x3,x4].map (·.1)))=Rows.uptoBulk x0.1+(Rows.uptoBulk x1.1+(Rows.uptoBulk x2.1+(Rows.uptoBulk x3.1+(Rows.uptoBulk x4.1+0))))+1:=rfl
  have hst:st.size<=Rows.uptoBulk x2.1:=by
   rw [e2];simp only [Rows.uptoBulk];have h2:(st.data.toList).length=st.size:=Array.length_toList
   omega
  simp only [hb]
  rcases DataW.trod_slice u23 g4 with ⟨h4,hx4⟩ | ⟨ad,len,cap,elems,rest,n2,hn2,h4,hx4,hbb,hlc,hcm,hel,hat4,_⟩
  ·cases h4
   refine ⟨.mk kn nn st ks [],.agg #[.int .i64 kn,.int .i64 nn,.string st,.slice A ks.length ca,.slice none 0 0],rfl,?_,?_,?_⟩
   ·simp only [RdR]
    exact ⟨_,none,0,rfl,hk,Nat.le_refl _,fun h=>absurd h (Nat.lt_irrefl _)⟩
   ·simp only [Raw.size,Raw.sizeL]
    omega
   ·simp only [WFR,WFRL]
    exact ⟨by omega,by omega,Nat.zero_le _,fun k hk'=>by have:=hks k hk'; omega,hni,trivial⟩
  ·cases h4
   have hone:∀ i,i < len->∃ r:Raw,∃ y v,elems[i]?=some y/\RdR W r v/\Raw.size r<=Rows.uptoBulk y.1/\WFR (Rows.uptoBulk y.1) r/\v.cells.toList.length=5/\∀ m,m < 5->W.cell? ((ad.add (i * 5)).add m)=v.cells.toList[m]?:=fun i hi=>by
    have h1:=hat4 i hi;rw [List.getElem?_eq_getElem (by omega)] at h1;rw [c25] at h1;obtain ⟨cs,hcs,hy⟩:=Option.bind_eq_some_iff.1 h1;obtain ⟨hcl5,hg⟩:=cells_get hcs;obtain ⟨r,v,hv,hr,hs,hw⟩:=ih n2 (by omega) cs _ hy;exact ⟨r,_,v,List.getElem?_eq_getElem (by omega),hr,hs,hw,by rw [hv]; exact hcl5,fun m hm=>by rw [hv]; exact hg m hm⟩
   obtain ⟨vs,hvl,hvs⟩:=rows_of (p:=fun i (r:Raw)=>∃ (y:DataW H × List MemPlace) (v:Value),elems[i]?=some y/\RdR W r v/\Raw.size r<=Rows.uptoBulk y.1/\WFR (Rows.uptoBulk y.1) r/\v.cells.toList.length=5/\∀ m,m < 5->W.cell? ((ad.add (i * 5)).add m)=v.cells.toList[m]?) len hone
   have hb4:Rows.uptoBulk x4.1=Rows.uptoBulkAll (elems.map (·.1))+Rows.uptoBulkAll (rest.map (·.1))+1:=by
    rw [hx4];simp only [Rows.uptoBulk]
   have hsl:=sizeL_of (l:=vs) (xs:=elems) (by omega) fun i r hr=>by
    obtain ⟨y,v,h1,_,h3,_⟩:=hvs i r hr;exact ⟨y,h1,h3⟩
   have hel2:=bulkAll_len elems;refine ⟨.mk kn nn st ks vs,.agg #[.int .i64 kn,.int .i64 nn,.string st,.slice A ks.length ca,.slice (some ad) vs.length cap],by rw [hvl]; rfl,?_,?_,?_⟩
   ·simp only [RdR]
    refine ⟨_,some ad,cap,rfl,hk,by omega,fun h0=>?_⟩
    obtain ⟨r0,hr0⟩ : ∃ r0,vs[0]?=some r0:=⟨_,List.getElem?_eq_getElem h0⟩
    obtain ⟨y,v,_,_,_,_,hl5,hc⟩:=hvs 0 r0 hr0;have hc0:=hc 0 (by omega);rw [List.getElem?_eq_getElem (by omega)] at hc0;have hsp:=spot_none hc0;obtain ⟨g,off,spot⟩:=ad
    have hsp:spot=none:=by simpa [Addr.add] using hsp
    subst hsp;refine ⟨g,off,rfl,rdRL_of fun i r hr=>?_⟩;obtain ⟨y,v,_,hrr,_,_,hl5,hc⟩:=hvs i r hr;refine ⟨v,hrr,fun m u hu=>?_⟩
    have hm:m < 5:=by
     have:=(Array.getElem?_eq_some_iff.1 hu).1;rw [Array.length_toList] at hl5
     omega
    have h1:=hc m hm;rw [Array.getElem?_toList,hu] at h1;rw [<- h1];simp only [Addr.add]
    split <;> split <;> simp_all
   ·simp only [Raw.size]
    omega
   ·simp only [WFR]
    refine ⟨by omega,by omega,by omega,fun k hk'=>by have:=hks k hk'; omega,hni,WFRL_iff.2 fun r hr=>?_⟩;obtain ⟨i,hi,rfl⟩:=List.mem_iff_getElem.1 hr;obtain ⟨y,v,h1,_,_,hw,_⟩:=hvs i _ (List.getElem?_eq_getElem hi);have:=bulkAll_at h1;exact WFR.mono (by omega) hw
end
end Go.Proofs.YtpofkokbmifhgaaGreatDoor
namespace Go.Proofs.YtpofkokbmifhgaaGreatDoor
open Go.ChangeShapes Go.WideShapes Go.ChangeAt Go.RowKit
def Ty (t:TypeId):Prop:=t=3∨t=9∨t=22∨t=23∨t=25
theorem notStruct {P:Program} {t:TypeId} {l:List (TypeId × Nat)} (h:fieldsOf P t=some l):∃ fs:Array Field,P.underlying t=some (.struct fs)/\fs.toList.map (fun f=>(f.type,f.offset))=l:=by
 unfold fieldsOf at h
 split at h
 ·rename_i fs hu
  injection h with h
  exact ⟨fs,hu,h⟩
 ·cases h
theorem kids:Kids Tryz.prog Ty:=by
 obtain ⟨fv,hv,hvl⟩:=notStruct fVal;refine ⟨?_,?_,?_,?_,?_⟩
 ·intro t e ht hu
  rcases ht with rfl | rfl | rfl | rfl | rfl
  all_goals simp_all [u3,u9,u22,u23]
 ·intro t e ht hu
  rcases ht with rfl | rfl | rfl | rfl | rfl
  all_goals first | (simp_all [u3,u9]; done) | skip
  ·rw [u22] at hu; cases hu; simp [Ty]
  ·rw [u23] at hu; cases hu; simp [Ty]
 ·intro t e n ht hu
  rcases ht with rfl | rfl | rfl | rfl | rfl
  all_goals simp_all [u3,u9,u22,u23]
 ·intro t fs ht hu
  have hst:t=25/\fs=fv:=by
   rcases ht with rfl | rfl | rfl | rfl | rfl
   ·rw [u3] at hu; cases hu
   ·rw [u9] at hu; cases hu
   ·rw [u22] at hu; cases hu
   ·rw [u23] at hu; cases hu
   ·rw [hv] at hu; cases hu; exact ⟨rfl,rfl⟩
  obtain ⟨rfl,rfl⟩:=hst
  ·obtain ⟨l⟩:=fs
   simp only at hvl ⊢
   rcases l with _ | ⟨f0,_ | ⟨f1,_ | ⟨f2,_ | ⟨f3,_ | ⟨f4,_ | ⟨f5,l⟩⟩⟩⟩⟩⟩
   all_goals simp only [List.map_cons,List.map_nil,List.cons.injEq,Prod.mk.injEq,and_true,reduceCtorEq,and_false,false_and] at hvl
   obtain ⟨⟨a0,b0⟩,⟨a1,b1⟩,⟨a2,b2⟩,⟨a3,b3⟩,a4,b4⟩:=hvl;refine ⟨?_,?_,?_⟩
   ·intro f hf
    simp only [List.mem_cons,List.not_mem_nil,or_false] at hf;rcases hf with rfl | rfl | rfl | rfl | rfl
    all_goals simp [Ty, *]
   ·simp [a0,a1,a2,a3,a4,c3,c9,c22,c23,c25]
   ·intro j f hj
    rcases j with _ | _ | _ | _ | _ | j
    all_goals simp at hj
    all_goals subst hj
    all_goals simp [a0,a1,a2,a3,a4,b0,b1,b2,b3,b4,c3,c9,c22,c23]
 ·intro t k e ht hu
  rcases ht with rfl | rfl | rfl | rfl | rfl
  all_goals simp_all [u3,u9,u22,u23]
theorem Chg.kept {W W':World} (h:Chg [] W W') (may:MemPlace->Prop):W.keptBut W' may:=by
 refine ⟨h.os,h.output,fun i hi=>?_⟩;rw [h.block i hi (by simp)];exact (World.keptBut_refl W may).2.2 i hi
theorem sized {t e:TypeId} (ht:Ty t) (hu:Tryz.prog.underlying t=some (.slice e)):0 < Tryz.prog.cellsOf e:=by
 obtain ⟨fv,hv,_⟩:=notStruct fVal;rcases ht with rfl | rfl | rfl | rfl | rfl
 ·rw [u3] at hu; cases hu
 ·rw [u9] at hu; cases hu
 ·rw [u22] at hu; cases hu; rw [c9]; decide
 ·rw [u23] at hu; cases hu; rw [c25]; decide
 ·rw [hv] at hu; cases hu
section
variable {H:Type} {enc:TypeId × Value->H} {P:Program}
theorem post_of_chg {f:Func} {s:ChangeSpec} {fresh handsOn again:Bool} {W W':World} {args:Array Value} {v:Value} {ds gs:List (DataW H)} {before pa pv:List MemPlace}
  (hW:DataW.Whole enc P f.params.toList s.vars false W args.toList ds gs before)
  (hres:∀ (b:Nat) (sp:Nat->Bool) (hd:Bool),DataW.TrodAll enc P W' b sp hd f.resultTypes.toList (v.resultList f.resultTypes.size) (s.fn H (ds++gs)).results [])
  (hargs:∀ sp:Nat->Bool,(∀ p∈before,sp p.block=true)->DataW.TrodAll enc P W' 0 sp true f.params.toList args.toList (s.fn H (ds++gs)).args pa)
  (hvars:∀ sp:Nat->Bool,(∀ p∈before,sp p.block=true)->DataW.TrodVars enc P W' sp s.vars (s.fn H (ds++gs)).vars pv)
  (hps:before=pa++pv) (hc:Chg [] W W')
  (hok:∀ (j:Nat) (t:TypeId) (r:Value),f.resultTypes[j]?=some t->(v.resultList f.resultTypes.size)[j]?=some r->Value.okWide P W' .any 0 t r) :
  s.post enc P f false fresh handsOn again W args v W':=by
 have hlt:=hW.lt
 have hold:∀ p∈before,(fun b=>decide (b < W.heap.size)) p.block=true:=fun p hp=>by simpa using hlt p hp
 refine ⟨ds,gs,before,[],pa,pv,hW,hres _ _ _,hargs _ hold,hvars _ hold,World.keptBut_mono (fun p hp=>⟨hp,?_⟩) (hc.kept (·∈before)),fun _=>?_⟩
 ·rw [hps,List.mem_append] at hp
  exact Or.inr hp
 ·obtain ⟨_,_,_,_,_,hz,_⟩:=hW
  refine ⟨hok,_,_,([]++pa)++pv,⟨[]++pa,pv,trodAll_append (hargs _ (fun _ _=>rfl)) (hres _ _ _),hvars _ (fun _ _=>rfl),rfl,?_,fun h=>by cases h⟩,?_⟩
  ·intro b off hp
   have hp:MemPlace.cell b off∈before:=by rw [hps]; simpa using hp
   have h1:=hlt _ hp
   have h2:W'.frozen? ⟨b,off,none⟩=W.frozen? ⟨b,off,none⟩:=by
    unfold World.frozen?;rw [hc.block b h1 (by simp)]
   rw [h2];exact hz b off hp
  ·intro p hp _
   rw [hps]
   simpa using hp
end
theorem tabP_of {W:World} {l:List (String × DataW Unit)} (h:laidMet Tryz.prog l W) (hm:("internal/strconv.uint64pow10",Lib.tabData .u64 Lib.pow10Tab)∈l):TabP W:=by
 obtain ⟨g',t',cs,fuel,p,hg',ht',hvar,hd⟩:=Lib.laidMet.reads h hm
 obtain rfl:=Option.some.inj ((show Tryz.prog.globalNamed "internal/strconv.uint64pow10" = some 3 by kernel_rfl).symm.trans hg')
 obtain rfl:=Option.some.inj ((show (Tryz.prog.globals[3]?).map (·.type)=some 216 by kernel_rfl).symm.trans ht');unfold TabP Lib.TabIs;rw [hvar,<- Lib.cells_of_tab (n:=20) (show Tryz.prog.underlying 216=some (.array 20 102) by kernel_rfl) (show Tryz.prog.underlying 102=some (.int .u64) by kernel_rfl) (by kernel_rfl) (by kernel_rfl) hd]
theorem contract {fid:FuncId} {f:Func} {s:ChangeSpec} (hp:f.params=#[25]) (hr:f.resultTypes=#[4]) (hv:s.vars=[])
  (walk:∀ (r:Raw) (v:Value) (w:World),RdR w r v->WFR 1048576 r->Raw.size r<=1048576->TabP w->Calls Tryz.prog fid #[v] w fun e w'=>e=.returned (.bool true)/\Chg [] w w')
  (H:Type) (hfn:∀ d1,s.fn H [d1]={ results:=[.lit (.bool true)],args:=[d1] }) (enc:TypeId × Value->H) (W:World) (base:Nat) (args:Array Value) (ds gs:List (DataW H)) (before:List MemPlace)
  (hval:∀ (j:Nat) t v,f.params[j]?=some t->args[j]?=some v->Value.okWide Tryz.prog W .any base t v)
  (hW:DataW.Whole enc Tryz.prog f.params.toList s.vars false W args.toList ds gs before) (hb:Rows.uptoBulkAll (ds++gs)<=1048576) (hT:TabP W) :
  Calls Tryz.prog fid args W fun e W'=>∃ v,e=.returned v/\s.post enc Tryz.prog f false true false false W args v W':=by
 have hW':=hW;obtain ⟨p,q,hA,hV,rfl,hfz,hnd⟩:=hW;rw [hp] at hA hval;rw [hv] at hV;obtain ⟨v0,vs0,d0,ds0,p0,q0,hargs,rfl,rfl,h0,r0⟩:=trodAll_cons hA;obtain ⟨rfl,rfl,rfl⟩:=trodAll_nil r0
 obtain rfl:args=#[v0]:=by cases args; simp_all
 obtain ⟨rfl,rfl⟩:=trodVars_none hV;obtain ⟨fuel0,t0⟩:=h0;obtain ⟨fv,hfv,_⟩:=notStruct fVal;obtain ⟨cs,rfl,_⟩:=okWide_struct hfv (hval 0 _ _ rfl rfl);obtain ⟨r,vr,e0,hr0,hsz,hwf⟩:=raw_of _ _ _ t0;obtain ⟨A3,q3,A4,q4,rfl,_⟩:=hr0.five
 have hcs:cs=#[.int .i64 r.kind,.int .i64 r.num,.string r.txt,.slice A3 r.keys.length q3,.slice A4 r.vals.length q4]:=by
  have:cs.toList=[.int .i64 r.kind,.int .i64 r.num,.string r.txt,.slice A3 r.keys.length q3,.slice A4 r.vals.length q4]:=e0.symm;exact Array.toList_inj.1 this
 subst hcs;simp only [List.append_nil,Rows.uptoBulkAll] at hb;simp only at hsz hwf
 refine (walk r _ W hr0 (WFR.mono (by omega) hwf) (by omega) hT).mono fun e W' ⟨he,hg⟩=>?_
 subst he;simp only [List.append_nil] at hW';refine ⟨_,rfl,post_of_chg (pa:=p0++[]) (pv:=[]) hW' ?_ ?_ ?_ ?_ hg ?_⟩
 ·intro b sp hd
  rw [hr,List.append_nil,hfn];exact trodAll_cons_mk (shut_bool uB _) trodAll_mk0
 ·intro sp hsp
  rw [hp,List.append_nil,hfn]
  have hst:∀ {t:TypeId} {cs:List Value} {x:DataW H × List MemPlace} {fuel:Nat},Ty t->DataW.trod enc Tryz.prog W 0 (fun _=>true) true fuel t cs=some x->(∀ p∈x.2,p∈p0++[])->DataW.trod enc Tryz.prog W' 0 sp true fuel t cs=some x:=fun ht h hmem=>by
   refine DataW.trod_stays kids sized (fun h=>by cases h) ht h (fun p hp=>?_) fun p hp=>hsp p (by simpa using hmem p hp)
   have hlt:=hW'.lt p (by simpa using hmem p hp)
   cases p with
   | cell b off=>
    show W'.cell? ⟨b,off,none⟩=W.cell? ⟨b,off,none⟩;unfold World.cell?;rw [hg.block b hlt (by simp)]
   | map b=>exact hg.block b hlt (by simp)
  exact trodAll_cons_mk ⟨fuel0,hst (by simp [Ty]) t0 fun p hp=>List.mem_append_left _ hp⟩ trodAll_mk0
 ·intro sp hsp
  rw [hv,List.append_nil,hfn]
  rfl
 ·simp
 ·exact ok_one hr (by rfl) (okWide_bool_mk uB _)
end Go.Proofs.YtpofkokbmifhgaaGreatDoor
namespace Go.Proofs.YtpofkokbmifhgaaGreatDoor
open Go.Shelf
def lays261_ren:Go.Shelf.Ren:=⟨fun | 261=>231 | 311=>242 | 312=>243 | n=>n,fun | 141=>210 | 21=>21 | 4=>4 | 0=>0 | 196=>223 | 193=>220 | 3=>3 | 51=>162 | 198=>226 | 49=>224 | 194=>221 | 201=>229 | 226=>236 | 46=>129 | 227=>237 | n=>n,fun | n=>n⟩
theorem lays261:Go.Proofs.Lays.n261 Tryz.prog lays261_ren:={
 mixed:=by kernel_rfl
 f261:=Tryz.func231.trans (congrArg some (by kernel_rfl))
 f311:=Tryz.func242.trans (congrArg some (by kernel_rfl))
 f312:=Tryz.func243.trans (congrArg some (by kernel_rfl))
 t0:=Tryz.underlying0
 a0:=Tryz.isAgg0
 z0:=Tryz.sizeOf0
 v0:=Tryz.zeroValue0
 t3:=Tryz.underlying3
 a3:=Tryz.isAgg3
 z3:=Tryz.sizeOf3
 v3:=Tryz.zeroValue3
 t4:=Tryz.underlying4
 a4:=Tryz.isAgg4
 z4:=Tryz.sizeOf4
 v4:=Tryz.zeroValue4
 t21:=Tryz.underlying21
 a21:=Tryz.isAgg21
 z21:=Tryz.sizeOf21
 v21:=Tryz.zeroValue21
 t46:=Tryz.underlying129
 a46:=Tryz.isAgg129
 z46:=Tryz.sizeOf129
 v46:=Tryz.zeroValue129
 t49:=Tryz.underlying224
 a49:=Tryz.isAgg224
 z49:=Tryz.sizeOf224
 v49:=Tryz.zeroValue224
 t51:=Tryz.underlying162
 a51:=Tryz.isAgg162
 z51:=Tryz.sizeOf162
 v51:=Tryz.zeroValue162
 t141:=Tryz.underlying210
 a141:=Tryz.isAgg210
 z141:=Tryz.sizeOf210
 v141:=Tryz.zeroValue210
 t193:=Tryz.underlying220
 a193:=Tryz.isAgg220
 z193:=Tryz.sizeOf220
 v193:=Tryz.zeroValue220
 t194:=Tryz.underlying221
 a194:=Tryz.isAgg221
 z194:=Tryz.sizeOf221
 v194:=Tryz.zeroValue221
 t196:=Tryz.underlying223
 a196:=Tryz.isAgg223
 z196:=Tryz.sizeOf223
 v196:=Tryz.zeroValue223
 t198:=Tryz.underlying226
 a198:=Tryz.isAgg226
 z198:=Tryz.sizeOf226
 v198:=Tryz.zeroValue226
 t201:=Tryz.underlying229
 a201:=Tryz.isAgg229
 z201:=Tryz.sizeOf229
 v201:=Tryz.zeroValue229
 t226:=Tryz.underlying236
 a226:=Tryz.isAgg236
 z226:=Tryz.sizeOf236
 v226:=Tryz.zeroValue236
 t227:=Tryz.underlying237
 a227:=Tryz.isAgg237
 z227:=Tryz.sizeOf237
 v227:=Tryz.zeroValue237 }
end Go.Proofs.YtpofkokbmifhgaaGreatDoor
namespace Go.Proofs.YtpofkokbmifhgaaGreatDoor
open Go.ChangeShapes Go.WideShapes Go.ChangeAt Go.RowKit Go.Lib Go.Shelf
mutual
def flatD:DataW Unit->List Value
 | .lit (.int k n)=>[.int k n]
 | .agg l=>flatDs l
 | _=>[]
def flatDs:List (DataW Unit)->List Value
 | []=>[]
 | d :: l=>flatD d++flatDs l
end
theorem xL:RExtra Tryz.prog lays261_ren:=⟨by kernel_rfl,by kernel_rfl,by kernel_rfl,by kernel_rfl,by kernel_rfl,by kernel_rfl,by kernel_rfl,by kernel_rfl⟩
noncomputable abbrev N0:Nat:=(World.settled Tryz.prog default).heap.size
noncomputable def laidWorld (os:Os):World:=
 let N:=(World.settled Tryz.prog os).heap.size
 let w0:=World.holding Tryz.prog os ⟨#[.cells (rgCells .u16 letterT.r16) (lays261_ren.t 198),.cells (rgCells .u32 letterT.r32) (lays261_ren.t 201),
  .cells #[.slice (some ⟨N,0,none⟩) letterT.r16.size letterT.r16.size,.slice (some ⟨N+1,0,none⟩) letterT.r32.size letterT.r32.size,.int .i64 letterT.off] (lays261_ren.t 196)],#[],[]⟩
 let put (h:Array Obj) (g:Nat) (cs:Array Value):Array Obj:=h.modify g fun
  | .cells _ t frozen=>.cells cs t frozen
  | o=>o
 let h1:=put w0.heap 6 (flatD Rows.laid_math_bits_deBruijn32tab).toArray
 let h2:=put h1 7 (flatD Rows.laid_math_bits_deBruijn64tab).toArray
 let h3:=put h2 3 (flatD Rows.laid_internal_strconv_uint64pow10).toArray
 let h4:=put h3 5 (flatD Rows.laid_unicode_utf8_acceptRanges).toArray
 let h5:=put h4 1 (flatD Rows.laid_unicode_properties).toArray
 let h6:=put h5 4 (flatD Rows.laid_unicode_utf8_first).toArray
 let h7:=put h6 2 #[.pointer (some ⟨N+2,0,none⟩)]
 { w0 with heap:=h7 }
noncomputable def memOf (os:Os) (args:Array Value):World:=((laidWorld os).forCall (fun _ _=>0) ⟨#[],args,[]⟩).memory
theorem laidFive (os:Os) (args:Array Value):LaidIn Tryz.prog (memOf os args)
  [("math/bits.deBruijn32tab",Rows.laid_math_bits_deBruijn32tab),("math/bits.deBruijn64tab",Rows.laid_math_bits_deBruijn64tab),("internal/strconv.uint64pow10",Rows.laid_internal_strconv_uint64pow10),("unicode/utf8.acceptRanges",Rows.laid_unicode_utf8_acceptRanges),("unicode.properties",Rows.laid_unicode_properties)]
  [6,7,3,5,1]:=
 LaidIn.of_run _ 10 (by kernel_rfl) (by kernel_rfl) (by kernel_rfl) (by kernel_rfl)
theorem laidLast (os:Os) (args:Array Value):LaidIn Tryz.prog (memOf os args)
  [("unicode/utf8.first",Rows.laid_unicode_utf8_first)] [4]:=
 LaidIn.of_run _ 10 (by kernel_rfl) (by kernel_rfl) (by kernel_rfl) (by kernel_rfl)
theorem laidLetter (os:Os) (args:Array Value):LaidIn Tryz.prog (memOf os args) [("unicode.Letter",Rows.laid_unicode_Letter)] [2,N0+2,N0,N0+1]:=by
 rw [show Rows.laid_unicode_Letter=rtabData letterT from Pinned.letter_eq]
 exact laidIn_rtab (ρ:=lays261_ren) lays261 xL (by kernel_rfl) (by kernel_rfl) letterT (N0+2) N0 (N0+1) (lays261_ren.t 198) (lays261_ren.t 201)
  (by kernel_rfl) (by kernel_rfl) (by kernel_rfl) (by kernel_rfl) (by kernel_rfl) (of_decide_eq_true (by kernel_rfl)) (of_decide_eq_true (by kernel_rfl)) (of_decide_eq_true (by kernel_rfl))
theorem laidAll (os:Os) (args:Array Value):laidMet Tryz.prog Rows.fnCanonicalUptoRow.laid (memOf os args):=
 (((laidFive os args).append (laidLetter os args) (by kernel_rfl)).append (laidLast os args) (by kernel_rfl)).met
theorem pow_data:(Rows.laid_internal_strconv_uint64pow10:DataW Unit)=tabData .u64 pow10Tab:=by kernel_rfl
end Go.Proofs.YtpofkokbmifhgaaGreatDoor
namespace Go.Proofs.YtpofkokbmifhgaaGreatDoor
open Go.RowKit
section
variable {P:Program} {ops:Array Oper} {Q:Exit->Act->World->Prop}
def eats (bl:Nat->Value->Option Nat) (cons:Nat->Option Nat) (ops:Array Oper) (a:Act) (i:Nat):List Nat:=match cons i with
 | some j=>(bl j (Act.g a (dOf ops j))).toList
 | none=>[]
def chainForm (ops:Array Oper) (lab cons:Nat->Option Nat):Bool:=
 (List.range (ops.size - 1)).all fun i=>
  (match cons i with
  | some j=>waits ops i j && decide (j < ops.size - 1) && decide (lab j=lab i) && (lab j).isSome && (List.range (ops.size - 1)).all fun k=>!(waits ops k j) || decide (k=i)
  | none=>true) &&
  (List.range (ops.size - 1)).all fun j=>!((lab i).isSome && decide (lab i=lab j) && decide (i < j)) || (List.range (ops.size - 1)).any fun k=>decide (cons k=some i) && (decide (k=j) || waits ops j k)
def sinkForm (ops:Array Oper) (cons:Nat->Option Nat) (sink:Nat->Bool):Bool:=
 (List.range (ops.size - 1)).all fun j=>!(sink j) || (List.range (ops.size - 1)).all fun i=>(cons i).isNone || waits ops j i || (List.range (ops.size - 1)).any fun m=>waits ops j m && waits ops m i
theorem wp_region_own {id:Nat} {a:Act} {w:World} (hm:P.follows .mixedOrders=true) (hord:ordered ops=true) (st:List Nat) (hform:monoForm ops a.tmps.size st=true)
  (φ:Nat->Value->World->Prop) (lab:Nat->Option Nat) (bl:Nat->Value->Option Nat) (cons:Nat->Option Nat) (sink:Nat->Bool) (hchain:chainForm ops lab cons=true) (hsink:sinkForm ops cons sink=true)
  (mono:∀ i v w1 w2 F,(∀ b∈F,w.heap.size<=b)->(sink i=true->F=[])->(∀ c b,lab i=some c->bl i v=some b->b ∉ F)->Chg F w1 w2->φ i v w1->φ i v w2)
  (step:∀ (i:Nat) (o:Oper),i < ops.size - 1->ops[i]?=some o->∀ (a':Act) (w':World),(∀ s∈st,Act.g a' s=Act.g a s)->Chg [] w.drew w'->(∀ j,waits ops i j=true->φ j (Act.g a' (dOf ops j)) w')->(∀ b∈eats bl cons ops a' i,w.heap.size<=b) ->
   ∃ v w'',(execOp a'.eval o).run P w'=.ok (.value v) w''/\Chg (eats bl cons ops a' i) w' w''/\φ i v w'' /\
    ∀ c,lab i=some c->∀ b,bl i v=some b->b < w''.heap.size/\(w'.heap.size<=b∨b∈eats bl cons ops a' i))
  (last:∀ (o:Oper),ops[ops.size - 1]?=some o->∀ (u:Nat->Value) (w':World),Chg [] w.drew w'->(∀ j,j < ops.size - 1->(∀ k,k < ops.size - 1->cons k≠some j)->φ j (u j) w') ->
   ∀ A2,A2=putAll ops u (ops.size - 1) a->o.wp P A2 w' (Q .normal) Q):(Code.region id ops true).wp P Q a w:=by
 unfold monoForm at hform;simp only [Bool.and_eq_true,decide_eq_true_eq] at hform;obtain ⟨⟨⟨h0,hgd⟩,hdst⟩,hnd⟩:=hform
 have guard:∀ (i:Nat) (o:Oper),ops[i]?=some o->o.guard=none:=by
  intro i o ho
  have hi:=(Array.getElem?_eq_some_iff.1 ho)
  obtain ⟨hlt,he⟩:=hi;have:=Array.all_eq_true.1 hgd i hlt;rw [he] at this
  simpa using this
 have head:∀ i,i < ops.size - 1->∃ o d,ops[i]?=some o/\o.dst=some d/\dOf ops i=d/\d < a.tmps.size/\d ∉ st/\waits ops (ops.size - 1) i=true:=by
  intro i hi
  have h1:=List.all_eq_true.1 hdst i (List.mem_range.2 hi);have ho:ops[i]?=some (ops[i]'(by omega)):=Array.getElem?_eq_getElem (by omega);rw [ho] at h1;simp only [Bool.and_eq_true] at h1
  cases hd:(ops[i]'(by omega)).dst with
  | none=>rw [hd] at h1; simp at h1
  | some d=>
   rw [hd] at h1;simp only [Bool.and_eq_true,decide_eq_true_eq,Bool.not_eq_true',List.contains_eq_mem,decide_eq_false_iff_not] at h1;exact ⟨_,d,ho,hd,by unfold dOf; rw [ho]; simp [hd],h1.1.1,h1.1.2,h1.2⟩
 have distinct:∀ i j,i < ops.size - 1->j < ops.size - 1->i≠j->dOf ops i≠dOf ops j:=by
  intro i j hi hj hij he
  have hp:=List.pairwise_iff_getElem.1 hnd;simp only [List.length_map,List.length_range,List.getElem_map,List.getElem_range] at hp;rcases Nat.lt_or_gt_of_ne hij with h | h
  ·exact hp i j hi hj h he
  ·exact hp j i hj hi h he.symm
 have hC:∀ i j,i < ops.size - 1->cons i=some j->waits ops i j=true/\j < ops.size - 1/\lab j=lab i/\(lab j).isSome=true/\∀ k,k < ops.size - 1->waits ops k j=true->k=i:=by
  intro i j hi hc
  have h1:=List.all_eq_true.1 hchain i (List.mem_range.2 hi);rw [hc] at h1;simp only [Bool.and_eq_true,decide_eq_true_eq] at h1;refine ⟨h1.1.1.1.1.1,h1.1.1.1.1.2,h1.1.1.1.2,h1.1.1.2,fun k hk hw=>?_⟩;have h2:=List.all_eq_true.1 h1.1.2 k (List.mem_range.2 hk);rw [hw] at h2
  simpa using h2
 have hL0:∀ i j,i < ops.size - 1->j < ops.size - 1->(lab i).isSome=true->lab i=lab j->i < j->∃ k,k < ops.size - 1/\cons k=some i/\(k=j∨waits ops j k=true):=by
  intro i j hi hj hs hl hij
  have h1:=List.all_eq_true.1 hchain i (List.mem_range.2 hi);simp only [Bool.and_eq_true] at h1;have h2:=List.all_eq_true.1 h1.2 j (List.mem_range.2 hj)
  have h3:((lab i).isSome && decide (lab i=lab j) && decide (i < j))=true:=by rw [hs,hl]; simp [hij]
  simp only [Bool.or_eq_true,Bool.not_eq_true'] at h2;rcases h2 with h2 | h2
  ·rw [h3] at h2; cases h2
  ·obtain ⟨k,hk,h4⟩:=List.any_eq_true.1 h2
   simp only [Bool.and_eq_true,Bool.or_eq_true,decide_eq_true_eq] at h4;exact ⟨k,List.mem_range.1 hk,h4.1,h4.2⟩
 refine wp_region_inv hm hord (fun L a' w'=>(L (ops.size - 1)=true/\Q .normal a' w')∨(L (ops.size - 1)=false/\(∀ s,(∀ j,j < ops.size - 1->dOf ops j≠s)->Act.g a' s=Act.g a s)/\a'.tmps.size=a.tmps.size/\a'.defers=a.defers/\Chg [] w.drew w'/\(∀ j,j < ops.size - 1->L j=true->(∀ k,k < ops.size - 1->L k=true->cons k≠some j)->φ j (Act.g a' (dOf ops j)) w') /\
   (∀ j c b,j < ops.size - 1->L j=true->lab j=some c->bl j (Act.g a' (dOf ops j))=some b->b < w'.heap.size/\w.heap.size<=b) /\
   (∀ i j c d,i < ops.size - 1->j < ops.size - 1->L i=true->L j=true->lab i=some c->lab j=some d->c≠d->∀ b,bl i (Act.g a' (dOf ops i))=some b->bl j (Act.g a' (dOf ops j))≠some b)))
  (.inr ⟨rfl,fun _ _=>rfl,rfl,rfl,Chg.refl _ _,fun j _ h=>(by cases h),fun j _ _ _ h=>(by cases h),fun i j _ _ _ _ h=>(by cases h)⟩) ?_ ?_
 ·intro L i o ho hLi hcl hdeps a' w' hG
  have hi:i < ops.size:=(Array.getElem?_eq_some_iff.1 ho).1
  have hwant:Region.wanted o (yielded ops a'.tmps)=true:=by simp [Region.wanted,guard i o ho]
  have hlast:L (ops.size - 1)=false:=by
   cases hl:L (ops.size - 1) with
   | false=>rfl
   | true=>
    exfalso
    by_cases hil:i=ops.size - 1
    ·rw [hil] at hLi
     rw [hl] at hLi
     cases hLi
    ·obtain ⟨o1,d1,_,_,_,_,_,hw⟩:=head i (by omega)
     unfold waits at hw;have hol:ops[ops.size - 1]?=some (ops[ops.size - 1]'(by omega)):=Array.getElem?_eq_getElem (by omega);rw [hol] at hw;obtain ⟨e,he,hb⟩:=Array.any_eq_true'.1 hw;simp only [Bool.and_eq_true,beq_iff_eq] at hb;have:=hcl _ _ hol hl e he hb.1;rw [hb.2,hLi] at this
     cases this
  rcases hG with ⟨h,_⟩ | ⟨_,hst,hsz,hdf,hch,hφ,hbl,hap⟩
  ·rw [hlast] at h; cases h
  unfold wpOp;simp only [ho,hwant,if_true];refine .inl ?_
  by_cases hil:i=ops.size - 1
  ·subst hil
   have hdone:∀ j,j < ops.size - 1->L j=true:=by
    intro j hj
    obtain ⟨o1,d1,_,_,_,_,_,hw⟩:=head j hj;unfold waits at hw;rw [ho] at hw;obtain ⟨e,he,hb⟩:=Array.any_eq_true'.1 hw;simp only [Bool.and_eq_true,beq_iff_eq] at hb;have:=hdeps e he hb.1;rw [hb.2] at this;exact this
   refine Oper.wp_mono (fun a2 w2 hq=>.inl ⟨by simp,hq⟩) (by
    have ha:a'=putAll ops (fun j=>Act.g a' (dOf ops j)) (ops.size - 1) a:=act_ext (by rw [putAll_size,hsz]) (by rw [putAll_defers,hdf]) fun s=>by
     by_cases hs:∃ j,j < ops.size - 1/\dOf ops j=s
     ·obtain ⟨j,hj,rfl⟩:=hs
      obtain ⟨o1,d1,_,_,hd1,hdl1,_,_⟩:=head j hj;rw [putAll_eq ops _ a j _ hj (fun k hk hkj=>distinct k j hk hj hkj) (by rw [hd1]; exact hdl1)]
     ·rw [putAll_ne ops _ a s _ (fun j hj e=>hs ⟨j,hj,e⟩)]
      exact hst s (fun j hj e=>hs ⟨j,hj,e⟩)
    have hl:=last o ho (fun j=>Act.g a' (dOf ops j)) w' hch (fun j hj hn=>hφ j hj (hdone j hj) fun k hk _=>hn k hk) a' ha
    exact hl)
  ·have hih:i < ops.size - 1:=by omega
   obtain ⟨o1,d,ho1,hd,hdi,hdl,hds,hw⟩:=head i hih;obtain rfl:o1=o:=Option.some.inj (ho1.symm.trans ho)
   have hL2:∀ j,waits ops i j=true->j < ops.size - 1/\L j=true:=fun j hj=>by
    unfold waits at hj;rw [ho] at hj;obtain ⟨e,he,hb⟩:=Array.any_eq_true'.1 hj;simp only [Bool.and_eq_true,beq_iff_eq] at hb;have h1:=hdeps e he hb.1;have h2:=ordered_spec hord ho e he hb.1;rw [hb.2] at h1 h2;exact ⟨by omega,h1⟩
   have hφw:∀ j,waits ops i j=true->φ j (Act.g a' (dOf ops j)) w':=fun j hj=>hφ j (hL2 j hj).1 (hL2 j hj).2 fun k hk hLk hck=>by
    have:=(hC k j hk hck).2.2.2.2 i hih hj;rw [this,hLk] at hLi
    cases hLi
   have heat:∀ b∈eats bl cons ops a' i,w.heap.size<=b:=fun b hb=>by
    unfold eats at hb
    cases hci:cons i with
    | none=>rw [hci] at hb; cases hb
    | some j=>
     rw [hci] at hb;obtain ⟨h1,h2,h3,h4,_⟩:=hC i j hih hci;obtain ⟨c,hc⟩:=Option.isSome_iff_exists.1 h4;exact (hbl j c b h2 (hL2 j h1).2 hc (by simpa using hb)).2
   obtain ⟨v,w2,hrun,hc2,hv,hown⟩:=step i o1 hih ho a' w' (fun s hs=>hst s (fun j hj e=>by obtain ⟨_,_,_,_,hd1,_,hds1,_⟩:=head j hj; exact hds1 (by rw [<- hd1,e]; exact hs))) hch hφw heat
   have hval:∀ j,j < ops.size - 1->j≠i->Act.g (a'.put (some d) v) (dOf ops j)=Act.g a' (dOf ops j):=fun j hj hji=>
    g_put_ne _ _ _ _ (by rw [<- hdi]; exact distinct j i hj hih hji)
   have hvali:Act.g (a'.put (some d) v) (dOf ops i)=v:=by rw [hdi,g_put_same _ _ _ (by rw [hsz]; exact hdl)]
   have hold:∀ j,j≠i->(L j || j == i)=true->L j=true:=fun j hji hL=>by
    have hb:(j == i)=false:=by simp [hji]
    simpa [hb] using hL
   have hfar:∀ j e b,j < ops.size - 1->L j=true->lab j=some e->lab i≠some e->b∈eats bl cons ops a' i->bl j (Act.g a' (dOf ops j))≠some b:=fun j e b hj hLj he hne hb hjb=>by
    unfold eats at hb
    cases hci:cons i with
    | none=>rw [hci] at hb; cases hb
    | some j2=>
     rw [hci] at hb;obtain ⟨h1,h2,h3,h4,_⟩:=hC i j2 hih hci;obtain ⟨c,hc⟩:=Option.isSome_iff_exists.1 h4;exact hap j2 j c e h2 hj (hL2 j2 h1).2 hLj hc he (fun h=>hne (by rw [<- h3,hc,h])) b (by simpa using hb) hjb
   have hnew:∀ j c e,j < ops.size - 1->L j=true->lab i=some c->lab j=some e->c≠e->∀ b,bl i v=some b->bl j (Act.g a' (dOf ops j))≠some b:=fun j c e hj hLj hc he hce b hvb hjb=>by
    rcases (hown c hc b hvb).2 with h | h
    ·exact absurd (hbl j e b hj hLj he hjb).1 (by omega)
    ·exact hfar j e b hj hLj he (fun h2=>hce (Option.some.inj (hc.symm.trans h2))) h hjb
   have hsw:w.heap.size<=w'.heap.size:=hch.size;unfold Oper.wp;rw [hrun];simp only [Oper.upon_value,hd];refine .inr ⟨?_,fun s hs=>?_,by rw [size_put]; exact hsz,hdf,hch.trans hc2 (fun y hy=>.inr (heat y hy)),fun j hj hL hno=>?_,fun j c b hj hL hc hb=>?_,fun i1 j1 c e hi1 hj1 hLi1 hLj1 hc he hce b hb=>?_⟩
   ·rw [hlast]
    have:((ops.size - 1) == i)=false:=by simp; omega
    rw [this]
    rfl
   ·rw [g_put_ne _ _ _ _ (fun e=>by subst e; exact hs i hih hdi)]
    exact hst s hs
   ·by_cases hji:j=i
    ·subst hji
     rw [hvali];exact hv
    ·rw [hval j hj hji]
     have hLj:=hold j hji hL
     have hcl2:∀ x y,x < ops.size - 1->L x=true->waits ops x y=true->L y=true:=fun x y hx hLx hw=>by
      have hox:ops[x]?=some (ops[x]'(by omega)):=Array.getElem?_eq_getElem (by omega);unfold waits at hw;rw [hox] at hw;obtain ⟨e,he,hb⟩:=Array.any_eq_true'.1 hw;simp only [Bool.and_eq_true,beq_iff_eq] at hb;have:=hcl _ _ hox hLx e he hb.1
      rwa [hb.2] at this
     have hsk:sink j=true->eats bl cons ops a' i=[]:=fun hs=>by
      unfold eats
      cases hci:cons i with
      | none=>rfl
      | some q=>
       exfalso
       have h1:=List.all_eq_true.1 hsink j (List.mem_range.2 hj);simp only [Bool.or_eq_true,Bool.not_eq_true'] at h1;rcases h1 with h1 | h1
       ·rw [hs] at h1; cases h1
       ·have h2:=List.all_eq_true.1 h1 i (List.mem_range.2 hih)
        rw [hci] at h2;simp only [Option.isNone_some,Bool.false_or,Bool.or_eq_true] at h2;rcases h2 with h2 | h2
        ·have:=hcl2 j i hj hLj h2
         rw [hLi] at this; cases this
        ·obtain ⟨m,hm,h3⟩:=List.any_eq_true.1 h2
         simp only [Bool.and_eq_true] at h3;have:=hcl2 m i (List.mem_range.1 hm) (hcl2 j m hj hLj h3.1) h3.2;rw [hLi] at this; cases this
     refine mono _ _ _ _ _ heat hsk (fun c b hcj hbj hbe=>?_) hc2 (hφ j hj hLj fun k hk hLk=>hno k hk (by simp [hLk]))
     by_cases hlab:lab i=some c
     ·
      have hij:i < j∨j < i:=by omega
      rcases hij with hij | hij
      ·obtain ⟨k,hk,hck,hkj⟩:=hL0 i j hih hj (by rw [hlab]; rfl) (by rw [hlab,hcj]) hij
       have hoj:ops[j]?=some (ops[j]'(by omega)):=Array.getElem?_eq_getElem (by omega);have hwk:waits ops k i=true:=(hC k i hk hck).1
       have hLk:L k=true:=by
        rcases hkj with rfl | hw2
        ·exact hLj
        ·unfold waits at hw2
         rw [hoj] at hw2;obtain ⟨e,he,hb⟩:=Array.any_eq_true'.1 hw2;simp only [Bool.and_eq_true,beq_iff_eq] at hb;have:=hcl _ _ hoj hLj e he hb.1
         rwa [hb.2] at this
       have hok:ops[k]?=some (ops[k]'(by omega)):=Array.getElem?_eq_getElem (by omega);unfold waits at hwk;rw [hok] at hwk;obtain ⟨e,he,hb⟩:=Array.any_eq_true'.1 hwk;simp only [Bool.and_eq_true,beq_iff_eq] at hb;have:=hcl _ _ hok hLk e he hb.1;rw [hb.2,hLi] at this
       cases this
      ·obtain ⟨k,hk,hck,hkj⟩:=hL0 j i hj hih (by rw [hcj]; rfl) (by rw [hlab,hcj]) hij
       refine hno k hk ?_ hck;rcases hkj with rfl | hw2
       ·simp
       ·simp [(hL2 k hw2).2]
     ·exact hfar j c b hj hLj hcj hlab hbe hbj
   ·by_cases hji:j=i
    ·subst hji
     rw [hvali] at hb;refine ⟨(hown c hc b hb).1,?_⟩;rcases (hown c hc b hb).2 with h | h
     ·omega
     ·exact heat b h
    ·rw [hval j hj hji] at hb
     have h:=hbl j c b hj (hold j hji hL) hc hb;exact ⟨Nat.lt_of_lt_of_le h.1 hc2.size,h.2⟩
   ·by_cases h1:i1=i
    ·subst h1
     have h2:j1≠i1:=fun e2=>by
      subst e2;rw [hc] at he;exact hce (Option.some.inj he)
     rw [hvali] at hb;rw [hval j1 hj1 h2];exact hnew j1 c e hj1 (hold j1 h2 hLj1) hc he hce b hb
    ·rw [hval i1 hi1 h1] at hb
     by_cases h2:j1=i
     ·subst h2
      rw [hvali]
      exact fun hb2=>hnew i1 e c hi1 (hold i1 h1 hLi1) he hc (Ne.symm hce) b hb2 hb
     ·rw [hval j1 hj1 h2]
      exact hap i1 j1 c e hi1 hj1 (hold i1 h1 hLi1) (hold j1 h2 hLj1) hc he hce b hb
 ·intro a' w' hG
  rcases hG with ⟨_,h⟩ | ⟨h,_⟩
  ·exact h
  ·have:decide (ops.size - 1 < ops.size)=true:=by simp; omega
   exact absurd (h.symm.trans this) (by simp)
end
end Go.Proofs.YtpofkokbmifhgaaGreatDoor
