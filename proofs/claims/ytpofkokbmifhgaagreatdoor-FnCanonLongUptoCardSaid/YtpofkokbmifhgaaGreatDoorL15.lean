/- Parts of the walk, made small by wip/tools/pack.py: FromAny. No condition but those in each statement. -/
import Derived.Test.YtpofkokbmifhgaaGreatDoorL14
import Derived.Test.YtpofkokbmifhgaaGreatDoorL10
import Derived.Sort.OwnSorted
import Derived.Sort.KeysCollected
import Derived.Sort.Walk0
import Derived.Shelf.Slices.In.SortNone2
set_option maxRecDepth 100000
set_option maxHeartbeats 20000000
set_option linter.unusedVariables false
set_option linter.unusedSimpArgs false
namespace Go.Proofs.YtpofkokbmifhgaaGreatDoor
open Go.RowKit Go.Sort
variable {o:Nat->Prop}
def bl (b:ByteArray):List UInt8:=b.data.toList
theorem get_of_srt {k:ByteArray} {x:T}:∀ {m:List (ByteArray × T)},Srt m->(k,x)∈m->mget k m=some x
 | [],_,h=>by cases h
 | p :: m,hs,h=>by
  rcases List.mem_cons.1 h with rfl | h
  ·simp [mget]
  ·have hb:=hs.head _ h
   have hne:p.1≠k:=fun e=>by rw [e] at hb; simp [blt_irrefl] at hb
   simp only [mget];rw [if_neg (by first | exact hne | exact fun e=>hne e.symm)];exact get_of_srt hs.tail h
theorem enc_bl (b:ByteArray):encStr (bl b)=.string b:=by
 cases b
 simp [encStr,bl]
theorem strC_enc (l:List ByteArray):strC l=(l.map bl).map encStr:=by
 simp only [strC,List.map_map]
 exact List.map_congr_left fun b _=>(enc_bl b).symm
theorem bl_le {a b:ByteArray} (h:blt a b=true):bl a<=bl b:=by
 unfold blt at h;rw [ByteArray.toList_eq,ByteArray.toList_eq,bytesLess_eq] at h;exact List.le_of_lt (of_decide_eq_true h)
theorem sorted_keys {m:List (ByteArray × T)} (hs:Srt m) {l:List ByteArray} (hp:l.Perm (m.map (·.1))):(l.map bl).mergeSort (fun x y=>decide (x<=y))=(m.map (·.1)).map bl:=by
 have h1:(l.map bl).mergeSort leB=((m.map (·.1)).map bl).mergeSort leB:=mergeSort_of_perm (hp.map bl);refine h1.trans (List.mergeSort_of_pairwise ?_);rw [List.map_map];exact List.Pairwise.map _ (fun p q h=>decide_eq_true (bl_le h)) hs
theorem sort_none (p:Option Addr) (cap:Nat) (w:World):Calls Tryz.prog 69 #[.slice p 0 cap] w fun e w'=>e=.returned (.tuple #[])/\w'=w:=Any.sort_Strings_none lays192 p cap w
theorem sort_row {w:World} {base g cap:Nat} {l:List ByteArray} {m:List (ByteArray × T)} (hown:w.ownsRow base 9 1 (.slice (some ⟨g,0,none⟩) l.length cap) l.length (strC l)) (hl:l.length<=67108864) (hs:Srt m) (hp:l.Perm (m.map (·.1))) :
  Calls Tryz.prog 69 #[.slice (some ⟨g,0,none⟩) l.length cap] w fun e w'=>e=.returned (.tuple #[])/\Chg [g] w w'/\w'.ownsRow base 9 1 (.slice (some ⟨g,0,none⟩) l.length cap) l.length (strC (m.map (·.1))):=by
 rcases hown.2 with ⟨h0,_⟩ | ⟨g',cap',cur,h0,hbase,hb,h1,h2,h3,h4⟩
 ·cases h0
 cases h0
 have hll:(l.map bl).length=l.length:=List.length_map _;have hH:Holds encStr w g 0 (l.map bl).toArray:=holds_of_block hb (by rw [hll,<- strC_enc]; simpa using h4);have hc:=sort_Strings g 0 cap (l.map bl) w hH (Array.getElem?_eq_some_iff.1 hb).1 (by rw [hll]; omega);rw [hll] at hc;refine hc.mono ?_;rintro e w' ⟨rfl,n,os,rfl⟩;rw [sorted_keys hs hp];have hml:(m.map (·.1)).length=l.length:=hp.length_eq.symm;have ho:=ownsRow_sorted (n:=n) (os:=os) (ss:=l.map bl) (ts:=(m.map (·.1)).map bl) (by simp [hp.length_eq]) hbase hb (by rw [hll]; exact h1) h2 (by simpa using h3);rw [hll,<- strC_enc] at ho;exact ⟨rfl,Chg.of_grown (grownBy_sorted _),ho⟩
theorem keys_perm {w:World} {m:List (ByteArray × T)} {ks:List (ByteArray × Value)} {F:List Nat} (h:OwnM w m ks F) (hm:Srt m) (hk:(ks.map (·.1)).Nodup) (hl:ks.length=m.length):(ks.map (·.1)).Perm (m.map (·.1)):=
 (List.perm_ext_iff_of_nodup hk hm.nodup).2 (h.keys hm.nodup hk hl)
theorem app_row {wr:World} {base:Nat} {RA:Option Addr} {RC:Nat} {l:List ByteArray} (hown:wr.ownsRow base 9 1 (.slice RA l.length RC) l.length (strC l)) (x:ByteArray) (hl:l.length<=67108864) (hbase:base<=wr.heap.size) :
  ∃ R' w2,(Builtin.append_ #[22,22] 22 #[.slice RA l.length RC,.slice (some ⟨wr.heap.size,0,none⟩) 1 1]).run Tryz.prog (wr.alloc (.cells #[.string x] 9))=.ok R' w2/\w2.ownsRow base 9 1 R' (l++[x]).length (strC (l++[x]))/\Chg (Value.slice RA l.length RC).ownBlock.toList wr w2/\(∃ g c,R'=.slice (some ⟨g,0,none⟩) (l++[x]).length c/\base<=g):=by
 have hown2:=ownsRow_keep (w':=wr.alloc (.cells #[.string x] 9)) hown fun g hg=>heap_alloc_old _ _ _ (ownsRow_own hown hg).2
 obtain ⟨R',w2,hr,ho,hc,hor⟩:=run_app (P:=Tryz.prog) base 22 22 9 _ 1 16 uKs iS rfl (by decide) _ _ _ hown2 (some ⟨wr.heap.size,0,none⟩) 1 1 [.string x] rfl (fun _=>⟨_,rfl,fun j u hu=>by
  obtain rfl:j=0:=by
   have:=(List.getElem?_eq_some_iff.1 hu).1
   simpa using this
  have hv:Value.string x=u:=by simpa using hu
  subst hv
  exact cell_of_row _ wr.heap.size 0 _ _ (0,0) (heap_alloc_new _ _)⟩) (fun u hu=>by
   have:u=.string x:=by simpa using hu
   subst this
   rfl) (by omega) (by omega) (by simp; omega)
 refine ⟨R',w2,hr,by simpa [strC] using ho,((Chg.refl _ wr).al _).trans hc (New.refl _ _),?_⟩
 rcases hor with ⟨_,h,_⟩ | ⟨g,c',h1,h2,_⟩
 ·omega
 ·exact ⟨g,c',by rw [h1]; simp,h2⟩
theorem sort_any {w:World} {base cap:Nat} {A:Option Addr} {l:List ByteArray} {m:List (ByteArray × T)} (hown:w.ownsRow base 9 1 (.slice A l.length cap) l.length (strC l)) (hl:l.length<=67108864) (hs:Srt m) (hp:l.Perm (m.map (·.1))) :
  Calls Tryz.prog 69 #[.slice A l.length cap] w fun e w'=>e=.returned (.tuple #[])/\Chg (Value.slice A l.length cap).ownBlock.toList w w'/\w'.ownsRow base 9 1 (.slice A l.length cap) l.length (strC (m.map (·.1))):=by
 rcases hown.2 with ⟨h0,hn⟩ | ⟨g',cap',cur,h0,_⟩
 ·cases l with
  | cons=>simp at hn
  | nil=>
   have hm:m.map (·.1)=[]:=List.nil_perm.1 hp;refine (sort_none A cap w).mono ?_;rintro e w' ⟨rfl,rfl⟩;rw [hm];exact ⟨rfl,Chg.refl _ _,hown⟩
 ·cases h0
  exact sort_row hown hl hs hp
structure FK (w:World) (bm:Nat) (ks:List (ByteArray × Value)) (left l:List ByteArray) (KA:Option Addr) (KC:Nat) (wr:World):Prop where
 chg:Chg [] w wr
 iter:IterAt wr (w.heap.size+2) bm ks left
 res:wr.heap[w.heap.size]?=some (.cells #[.int .i64 0,.int .i64 0,.string ⟨#[]⟩,.slice none 0 0,.slice none 0 0] 32)
 out:wr.heap[w.heap.size+1]?=some (.cells #[.int .i64 5,.int .i64 0,.string ⟨#[]⟩,.slice KA l.length KC,.slice none 0 0] 32)
 row:wr.ownsRow (w.heap.size+3) 9 1 (.slice KA l.length KC) l.length (strC l)
 perm:(l++left).Perm (ks.map (·.1))
structure FV (w:World) (m:List (ByteArray × T)) (KA:Option Addr) (KC n:Nat) (V:Value) (xs:List Value) (wr:World):Prop where
 chg:Chg [] w wr
 res:wr.heap[w.heap.size]?=some (.cells #[.int .i64 0,.int .i64 0,.string ⟨#[]⟩,.slice none 0 0,.slice none 0 0] 32)
 out:wr.heap[w.heap.size+1]?=some (.cells #[.int .i64 5,.int .i64 0,.string ⟨#[]⟩,.slice KA m.length KC,V] 32)
 row:wr.ownsRow (w.heap.size+3) 9 1 (.slice KA m.length KC) m.length (strC (m.map (·.1)))
 vrow:wr.ownsRow (w.heap.size+3) 32 5 V n xs
 flat:FlatV (Off (w.heap.size+3) (w.heap.size+1) V) wr ((m.map (·.2)).take n) xs
 own:∀ g,V.ownBlock=some g->(Value.slice KA m.length KC).ownBlock≠some g
def FromR (w:World) (t:T) (e:Ending) (w':World):Prop:=∃ v,e=.returned (.tuple #[v,.bool true])/\Chg [] w w'/\Rd (fun b=>w.heap.size<=b) w' t v
end Go.Proofs.YtpofkokbmifhgaaGreatDoor
namespace Go.Proofs.YtpofkokbmifhgaaGreatDoor
open Go.RowKit
variable {o:Nat->Prop}
theorem fromMap_step {B:Nat} (nn:Nat) (ih:∀ (t:T) (v:Value) (w:World) (F:List Nat),T.size t<=nn->WF B t->Own w t v F->Calls Tryz.prog 70 #[v] w (FromR w t))
  (m:List (ByteArray × T)) (b:Nat) (w:World) (F:List Nat) (hsz:T.size (.map m)<=nn+1) (h:Own w (.map m) (.iface 50 (.map (some b))) F) (hw:WF B (.map m)) (hb:T.size (.map m)<=67108864) :
  Calls Tryz.prog 51 #[.map (some b)] w (FromR w (.map m)):=by
 obtain ⟨ks,F',hma,hlen,hov,rfl⟩:=h.mapAt;have hs:=hw.1;have hperm:=keys_perm hov hs hma.nodup hlen
 obtain ⟨W1,hW1⟩ : ∃ W1,W1=(w.alloc (.cells #[.int .i64 0,.int .i64 0,.string ⟨#[]⟩,.slice none 0 0,.slice none 0 0] 32)).alloc (.cells #[.int .i64 5,.int .i64 0,.string ⟨#[]⟩,.slice none 0 0,.slice none 0 0] 32):=⟨_,rfl⟩
 have hc1:Chg [] w W1:=hW1 ▸ ((Chg.refl [] w).al _).al _;have z1:W1.heap[w.heap.size]?=some (.cells #[.int .i64 0,.int .i64 0,.string ⟨#[]⟩,.slice none 0 0,.slice none 0 0] 32):=hW1 ▸ heap_al1 w _ _;have z2:W1.heap[w.heap.size+1]?=some (.cells #[.int .i64 5,.int .i64 0,.string ⟨#[]⟩,.slice none 0 0,.slice none 0 0] 32):=hW1 ▸ heap_al2 w _ _
 have hs1:W1.heap.size=w.heap.size+2:=by rw [hW1]; simp
 obtain ⟨WI,hrun,hit,⟨oI,hWI⟩⟩:=run_range (P:=Tryz.prog) (hma.frame (hc1.block b hma.lt (by simp))) uM;rw [hs1] at hrun hit;rw [hW1] at hrun;have hwI:Chg [] w WI:=hWI ▸ hc1.al _
 have hszI:WI.heap.size=w.heap.size+3:=by rw [hWI]; simp [hs1]
 have hFK:FK w b ks (ks.map (·.1)) [] none 0 WI:=⟨hwI,hit,by rw [hWI]; exact (heap_alloc_old _ _ _ (by omega)).trans z1,by rw [hWI]; exact (heap_alloc_old _ _ _ (by omega)).trans z2,World.ownsRow_nil _ _ _ _,List.Perm.refl _⟩
 have hml:m.length<=67108864:=by have:=T.vals_len (.map m); simp [T.vals] at this; omega
 have HP:=Lib.hid (And.intro hperm (And.intro hs (And.intro hlen hml)));have HH:=Lib.hid (And.intro h (And.intro hma hov));clear hperm hov hma h hc1 z1 z2 hit hs1 hWI hW1 hwI hszI hlen hml hs
 go_enter Tryz.func51,Tryz.ntmps51
 go_wp2_with fail
 clear hrun
 go_loopg [] (ks.map (·.1)).length (fun g wr=>∃ left l KA KC,g=left.length/\FK w b ks left l KA KC wr)
 case atStart=>exact ⟨_,[],none,0,rfl,hFK⟩
 case round=>
  obtain ⟨left,l,KA,KC,rfl,hFR⟩:=hrel;have hbw:b < w.heap.size:=HH.out.2.1.lt
  have hll:l.length<=67108864:=by
   have h1:=hFR.perm.length_eq;have h2:=HP.out.2.2;simp at h1
   omega
  rcases run_next (P:=Tryz.prog) hFR.iter 0 with ⟨rfl,hnx⟩ | ⟨k,v,w2,hk,hlk,hnx,hit2,hon,hent⟩
  ·have HFR:=Lib.hid hFR
   clear hFK;obtain ⟨d0,d1,d2,d3,d4,df⟩:=cells5 hFR.out
   have hlm:l.length=m.length:=by
    have h1:=hFR.perm.length_eq;have h2:=HP.out.2.2.1;simp at h1
    omega
   have hsort:Calls Tryz.prog 69 #[.slice KA m.length KC] wr fun e w'=>e=.returned (.tuple #[])/\Chg (Value.slice KA m.length KC).ownBlock.toList wr w'/\w'.ownsRow (w.heap.size+3) 9 1 (.slice KA m.length KC) m.length (strC (m.map (·.1))):=by
    rw [<- hlm];exact sort_any (m:=m) hFR.row hll HP.out.2.1 (by simpa using hFR.perm.trans HP.out.1)
   have hown:∀ g,(Value.slice KA m.length KC).ownBlock=some g->w.heap.size+3<=g/\g < wr.heap.size:=by
    rw [<- hlm]
    exact fun g hg=>ownsRow_own hFR.row hg
   have HS:=Lib.hid (And.intro hsort (And.intro hown hlm));clear hFR hsort hown
   go_wp2_with fail
   refine HS.out.1.mono ?_;rintro e w3 ⟨rfl,hc3,hrow3⟩
   have hlow:∀ x,x < w.heap.size+3->w3.heap[x]?=wr.heap[x]?:=fun x hx=>hc3.block x (by have:=HFR.out.iter.lt; have:=(Array.getElem?_eq_some_iff.1 HFR.out.out).1; have:=HFR.out.chg.size; omega) (fun hm=>by
    have:=(HS.out.2.1 x (by simpa using hm)).1
    omega)
   have z1:=(hlow w.heap.size (by omega)).trans HFR.out.res;have z2:=(hlow (w.heap.size+1) (by omega)).trans HFR.out.out;rw [HS.out.2.2] at z2
   have hcw:Chg [] w w3:=HFR.out.chg.trans hc3 (fun x hx=>.inr (by
    have:=(HS.out.2.1 x (by simpa using hx)).1
    omega))
   have hFV:FV w m KA KC 0 (.slice none 0 0) [] w3:=⟨hcw,z1,z2,hrow3,World.ownsRow_nil _ _ _ _,by simp [FlatV],fun g hg=>by simp [Value.ownBlock] at hg⟩
   clear d0 d1 d2 d3 d4 df hc3 hrow3 hlow z1 hcw;obtain ⟨d0,d1,d2,d3,d4,df⟩:=cells5 z2;clear z2 hlm
   go_wp2_with fail
   clear d0 d1 d2 d3 d4 df
   go_loopg [29] m.length (fun g i wx=>∃ (n:Nat) (V:Value) (xs:List Value),n<=m.length/\g=m.length - n/\i=.int .i64 n/\FV w m KA KC n V xs wx)
   case atStart=>exact ⟨0,_,[],Nat.zero_le _,by omega,rfl,hFV⟩
   case round=>
    obtain ⟨n,V,xs,hn,rfl,rfl,hFX⟩:=hrel;have HFX:=Lib.hid hFX;have hszx:w.heap.size+1 < wr.heap.size:=(Array.getElem?_eq_some_iff.1 hFX.out).1;obtain ⟨d0,d1,d2,d3,d4,df⟩:=cells5 hFX.out;clear hFV
    by_cases hlt:n < m.length
    ·have hn64:n<=67108864:=by have:=HP.out.2.2.2; omega
     obtain ⟨q,hq⟩ : ∃ q,m[n]?=some q:=⟨_,List.getElem?_eq_getElem hlt⟩
     obtain ⟨k,x⟩:=q
     obtain ⟨gk,ck,hka,hcell⟩ : ∃ gk ck,KA=some ⟨gk,0,none⟩/\wr.cell? ⟨gk,n,none⟩=some (.string k)/\m.length<=ck:=by
      rcases hFX.row.2 with ⟨h0,_⟩ | ⟨g',cap',cur,h0,_,hh,h1,_,_,h4⟩
      ·injection h0 with h1 h2
       omega
      ·injection h0 with h1 h2 h3
       refine ⟨g',cap',h1,?_,by omega⟩;rw [cell_of_row wr g' n cur _ _ hh];have h5:=congrArg (fun l=>l[n]?) h4;simp only [Nat.mul_one] at h5;rw [List.getElem?_take_of_lt hlt] at h5;rw [Array.getElem?_toList] at h5;rw [h5];simp [strC,hq]
     obtain ⟨hcell,hck⟩:=hcell;subst hka;have hgx:mget k m=some x:=get_of_srt HP.out.2.1 (List.mem_of_getElem? hq);obtain ⟨v,F1,hlv,hov⟩:=HH.out.2.2.leaf hgx;have hmx:MapAt wr b ks:=HH.out.2.1.frame (hFX.chg.block b HH.out.2.1.lt (by simp));have P1:=run_lookup_plain (P:=Tryz.prog) hmx uM uS (zA wr) k;rw [hlv] at P1;simp only [Option.getD_some] at P1
     have hovx:Own wr x v F1:=hov.frame fun y hy=>hFX.chg.block y (hov.lt y hy) (by simp)
     have hxs:T.size x<=nn:=by
      have h1:(m.map (·.2))[n]?=some x:=by simp [hq]
      have h2:=T.sizeL_at h1;have h3:=T.sizeM_L m;simp only [T.size] at hsz
      omega
     have HXM:=Lib.hid (And.intro hq (And.intro hgx (And.intro hovx hxs)));have hwx:WF B x:=(WFM_iff.1 hw.2 _ (List.mem_of_getElem? hq)).2;clear hq hgx hlv hov hmx hovx hxs hFX
     go_wp2_with fail
     refine (ih x v wr F1 HXM.out.2.2.2 hwx HXM.out.2.2.1).mono ?_;rintro e w3 ⟨v',rfl,hc3,hr3⟩;obtain ⟨A5,q5,A6,q6,rfl,hyz⟩:=hr3.five;clear hyz
     obtain ⟨W4,hW4⟩ : ∃ W4,W4=w3.alloc (.cells #[.int .i64 x.kind,.int .i64 x.num,.string x.txt,.slice A5 x.keys.length q5,.slice A6 x.vals.length q6] 32):=⟨_,rfl⟩
     obtain ⟨W5,hW5⟩ : ∃ W5,W5=W4.alloc (.cells #[.int .i64 x.kind,.int .i64 x.num,.string x.txt,.slice A5 x.keys.length q5,.slice A6 x.vals.length q6] 32):=⟨_,rfl⟩
     have hc34:Chg [] w3 W4:=hW4 ▸ (Chg.refl [] w3).al _;have hc45:Chg [] W4 W5:=hW5 ▸ (Chg.refl [] W4).al _;have hc5:Chg [] wr W5:=hc3.trans (hc34.trans hc45 New.nil) New.nil;have hb4:W4.heap[w3.heap.size]?=some (.cells #[.int .i64 x.kind,.int .i64 x.num,.string x.txt,.slice A5 x.keys.length q5,.slice A6 x.vals.length q6] 32):=hW4 ▸ heap_alloc_new w3 _;have hb5:W5.heap[W4.heap.size]?=some (.cells #[.int .i64 x.kind,.int .i64 x.num,.string x.txt,.slice A5 x.keys.length q5,.slice A6 x.vals.length q6] 32):=hW5 ▸ heap_alloc_new W4 _
     have hs45:W5.heap.size=W4.heap.size+1:=by rw [hW5]; simp
     have hs34:W4.heap.size=w3.heap.size+1:=by rw [hW4]; simp
     obtain ⟨n0,n1,n2,n3,n4,_⟩:=cells5 hb5
     have hbase3:w.heap.size+3<=wr.heap.size:=by
      have:=ownsRow_own HFX.out.row (g:=gk) rfl
      omega
     have hvr:W5.ownsRow (w.heap.size+3) 32 5 V n xs:=ownsRow_keep HFX.out.vrow fun g hg=>hc5.block g (ownsRow_own HFX.out.vrow hg).2 (by simp)
     have hfl:FlatV (Off (w.heap.size+3) (w.heap.size+1) V) W5 ((m.map (·.2)).take n) xs:=HFX.out.flat.mono fun b hb _=>hc5.block b hb (by simp)
     have happ:=app_one (P:=Tryz.prog) (t:=30) (ty:=30) (g1:=W4.heap.size) (c1:=1) uWs iW rfl hvr hfl (v:=.agg #[.int .i64 x.kind,.int .i64 x.num,.string x.txt,.slice A5 x.keys.length q5,.slice A6 x.vals.length q6]) (x:=x) (fun i u hu=>by
      rcases i with _ | _ | _ | _ | _ | i
      all_goals first | (cases hu; assumption) | (simp [Value.cells] at hu)) ((hr3.to fun b hb ho=>⟨⟨by omega,by omega,fun e=>by have:=(ownsRow_own HFX.out.vrow e).2; omega⟩,(hc34.trans hc45 New.nil).block b hb (by simp)⟩)) (by have:=hc5.size; omega) (by have:=HP.out.2.2.2; omega) (by have:=HP.out.2.2.2; omega)
     rw [hW5,hs34] at happ;have HAPP:=Lib.hid happ;have HC5:=Lib.hid (And.intro hc5 (And.intro hW5 hs45));obtain ⟨e0,e1,e2,e3,e4,ef⟩:=cells5 hb4;have o4:=(hc3.trans hc34 New.nil).cells.1 _ 4 hszx;rw [d4] at o4
     have hz4:w.heap.size+1 < w3.heap.size:=by have:=hc3.size; omega
     have HR3:=Lib.hid (And.intro hc3 (And.intro hr3 (And.intro hc34 (And.intro hW4 (And.intro hbase3 hs34)))));have hz5:W4.heap.size=w3.heap.size+1:=hs34;clear d0 d1 d2 d3 d4 df hc3 hr3 hc5 hW5 hs45 hb4 hb5 hc34 hc45 happ hvr hfl n0 n1 n2 n3 n4 hs34 hbase3 P1;subst hW4;clear hz5
     go_wp2_with (first | (at_builtin; refine wpList_app rfl _ _ _ rfl rfl rfl HAPP.out ?_) | fail)
     rintro R' W6 ho6 hf6 hc6 g c' rfl hg1 hg2 hg3;obtain ⟨hc5,hW5,hs45⟩:=HC5.out;obtain ⟨hc3,hr3,hc34,hW4,hbase3,hs34⟩:=HR3.out;rw [<- hW5] at hc6;have hs5:=hc5.size
     have hVb:∀ y,y∈V.ownBlock.toList->w.heap.size+3<=y/\y < wr.heap.size:=fun y hy=>ownsRow_own HFX.out.vrow (by simpa using hy)
     have hlow:∀ y,y < wr.heap.size->V.ownBlock≠some y->W6.heap[y]?=wr.heap[y]?:=fun y hy hv=>(hc6.block y (by omega) (by simpa using hv)).trans (hc5.block y hy (by simp))
     have hno:∀ y,y < w.heap.size+3->V.ownBlock≠some y:=fun y hy e=>by
      have:=(hVb y (by simp [e])).1
      omega
     have z1:=(hlow w.heap.size (by omega) (hno _ (by omega))).trans HFX.out.res;have z2:=(hlow (w.heap.size+1) (by omega) (hno _ (by omega))).trans HFX.out.out
     have hrk:=ownsRow_keep (w':=W6) HFX.out.row fun y hy=>hlow y (ownsRow_own HFX.out.row hy).2 (fun e=>HFX.out.own y e hy)
     have hcV:Chg V.ownBlock.toList wr W6:=(hc5.mono (G:=V.ownBlock.toList) (by simp)).trans hc6 (New.refl _ _);have hcw:Chg [] w W6:=HFX.out.chg.trans hcV (fun y hy=>.inr (by have:=(hVb y hy).1; omega));have hsz6:=hcV.size;have hgX:g < W6.heap.size:=hg2
     have hgK:∀ y,(Value.slice (some ⟨gk,0,none⟩) m.length KC).ownBlock=some y->y≠g:=fun y hy e=>by
      subst e;rcases hg3 with h | h
      ·exact HFX.out.own y h hy
      ·have:=(ownsRow_own HFX.out.row hy).2
       have:=hc3.size
       omega
     obtain ⟨W7,hW7⟩ : ∃ W7,W7=W6.setCell ⟨w.heap.size+1,4,none⟩ (.slice (some ⟨g,0,none⟩) (n+1) c'):=⟨_,rfl⟩
     have hne:∀ y,y≠w.heap.size+1->W7.heap[y]?=W6.heap[y]?:=fun y hy=>hW7 ▸ heap_setCell_other _ _ _ _ hy
     have Q2:W7.heap[w.heap.size+1]?=_:=hW7 ▸ heap_setCell_same _ _ 4 _ _ (.slice (some ⟨g,0,none⟩) (n+1) c') z2
     have hFV:FV w m (some ⟨gk,0,none⟩) KC (n+1) (.slice (some ⟨g,0,none⟩) (n+1) c') (xs++(Value.agg #[.int .i64 x.kind,.int .i64 x.num,.string x.txt,.slice A5 x.keys.length q5,.slice A6 x.vals.length q6]).cells.toList) W7:=by
      refine ⟨hW7 ▸ hcw.st (by show w.heap.size<=w.heap.size+1; omega) _,(hne _ (by omega)).trans z1,by simpa using Q2,ownsRow_keep hrk fun y hy=>hne y (by have:=(ownsRow_own hrk hy).1; omega),ownsRow_keep ho6 fun y hy=>hne y (by have:=(ownsRow_own ho6 hy).1; omega),?_,fun y hy e=>hgK y e (by simpa [Value.ownBlock] using hy.symm)⟩
      have hx1:(m.map (·.2))[n]?=some x:=by simp [HXM.out.1]
      rw [take_snoc hx1]
      exact hf6.mono fun y hy ho=>hne y ho.2.1
     have HFV:=Lib.hid hFV;have HW7:=Lib.hid hW7;clear hFV hW7 hne Q2 hgK hsz6 hcw hcV hrk z1 hno hlow hVb hs5 hc6 hg3 ho6 hf6 hc5 hW5 hs45 hc3 hr3 hc34 hW4 hs34 e0 e1 e2 e3 e4 ef o4;obtain ⟨d0,d1,d2,d3,d4,df⟩:=cells5 z2;clear z2
     go_wp2_with fail
     rw [<- HW7.out]
     go_roundg (m.length - (n+1))
     case measure=>omega
     case rel=>exact ⟨n+1,_,_,by omega,rfl,by go_num,HFV.out⟩
    ·have hE:n=m.length:=by omega
     have HE:=Lib.hid hE;obtain ⟨VA,VC,rfl⟩:=ownsRow_slice hFX.vrow;clear hE;obtain ⟨W7,hW7,Q,hne,hcW,_⟩:=store5 hFX.res hFX.chg (Nat.le_refl _) (.int .i64 5) (.int .i64 0) (.string ⟨#[]⟩) (.slice KA m.length KC) (.slice VA n VC);have HW7:=Lib.hid hW7;obtain ⟨r0,r1,r2,r3,r4,rf⟩:=cells5 hFX.res;clear hW7 hFX
     go_wp2_with fail
     rw [<- HW7.out];have hm:=HFX.out
     have RK:=RdK.of_own (o:=fun b=>w.heap.size<=b) (ks:=m.map (·.1)) (base:=w.heap.size+3) (e:=9) (w:=W7) (v:=.slice KA m.length KC) (fun b hb=>by omega) (by
      have h:=ownsRow_keep (w':=W7) hm.row fun g hg=>hne g (by have:=(ownsRow_own hm.row hg).1; omega)
      simpa using h)
     have hxs:FlatV (fun b=>w.heap.size<=b) W7 ((m.map (·.2)).take n) xs:=hm.flat.to fun b hb ho=>⟨by have:=ho.1; omega,hne b (by have:=ho.1; omega)⟩
     have hn2:(m.map (·.2)).take n=m.map (·.2):=by rw [HE.out]; exact List.take_of_length_le (by simp)
     rw [hn2] at hxs
     have RV:=RdV.of_own (o:=fun b=>w.heap.size<=b) (l:=m.map (·.2)) (base:=w.heap.size+3) (e:=32) (v:=.slice VA n VC) (fun b hb=>by omega) (by
      have h:=ownsRow_keep (w':=W7) hm.vrow fun g hg=>hne g (by have:=(ownsRow_own hm.vrow hg).1; omega)
      rw [List.length_map,<- HE.out]
      exact h) hxs
     obtain ⟨e0,e1,e2,e3,e4,_⟩:=cells5 Q;refine bodyPost_ret (v:=.tuple #[.agg #[.int .i64 5,.int .i64 0,.string ⟨#[]⟩,.slice KA m.length KC,.slice VA n VC],.bool true]) (by simp [results,Tryz.results51,go_sem,e0,e1,e2,e3,e4]) rfl ⟨_,rfl,hcW,Rd.mk_map (by simpa using RK) RV⟩
  ·have hent2:=hent w2 rfl rfl
   have hne1:w.heap.size+1≠w.heap.size+2:=by omega
   have z2:=(hon.block (w.heap.size+1) hne1).trans hFR.out;obtain ⟨d0,d1,d2,d3,d4,df⟩:=cells5 z2;have hsz2:w2.heap.size=wr.heap.size:=hon.size;have hszr:w.heap.size+2 < wr.heap.size:=hFR.iter.lt
   have hrow2:w2.ownsRow (w.heap.size+3) 9 1 (.slice KA l.length KC) l.length (strC l):=ownsRow_keep hFR.row fun g hg=>hon.block g (by have:=(ownsRow_own hFR.row hg).1; omega)
   have HST:=Lib.hid (app_row hrow2 k hll (by omega));have HK:=Lib.hid (And.intro hk (And.intro hlk (And.intro hit2 (And.intro hon (And.intro z2 hrow2)))));have HFR:=Lib.hid hFR
   have hz2:w.heap.size+2 < w2.heap.size:=by omega
   clear hFK hFR hent hk hlk hit2 hon z2 hsz2 hne1 hszr hrow2 hll
   go_wp2_with (first | (at_builtin; refine wpList_app rfl _ _ _ rfl rfl rfl HST.out ?_) | fail)
   rintro R' w4 ho4 hc4 g c rfl hg;obtain ⟨hk,hlk,hit2,hon,z2,hrow2⟩:=HK.out;have hfr:=HFR.out
   have hro:∀ y,y∈(Value.slice KA l.length KC).ownBlock.toList->w.heap.size+3<=y:=fun y hy=>(ownsRow_own hrow2 (by simpa using hy)).1
   have hlow:∀ y,y < w.heap.size+3->w4.heap[y]?=w2.heap[y]?:=fun y hy=>hc4.block y (by omega) (fun hm=>by have:=hro y hm; omega)
   have hc2:Chg [w.heap.size+2] wr w2:=Chg.only hon (List.mem_singleton.2 rfl);have hc24:Chg [] w w4:=(hfr.chg.trans hc2 (fun y hy=>.inr (by rw [List.mem_singleton.1 hy]; omega))).trans hc4 (fun y hy=>.inr (by have:=hro y hy; omega))
   obtain ⟨W7,hW7⟩ : ∃ W7,W7=w4.setCell ⟨w.heap.size+1,3,none⟩ (.slice (some ⟨g,0,none⟩) (l.length+1) c):=⟨_,rfl⟩
   have hne:∀ y,y≠w.heap.size+1->W7.heap[y]?=w4.heap[y]?:=fun y hy=>hW7 ▸ heap_setCell_other _ _ _ _ hy
   have z4:=(hlow (w.heap.size+1) (by omega)).trans z2;have Q2:W7.heap[w.heap.size+1]?=_:=hW7 ▸ heap_setCell_same _ _ 3 _ _ (.slice (some ⟨g,0,none⟩) (l.length+1) c) z4
   have hFN:FK w b ks (mdel k left) (l++[k]) (some ⟨g,0,none⟩) c W7:=by
    refine ⟨hW7 ▸ hc24.st (by show w.heap.size<=w.heap.size+1; omega) _,?_,?_,by simpa using Q2,?_,?_⟩
    ·exact (hit2.frame (hlow b (by omega)) (hlow _ (by omega))).frame (hne b (by omega)) (hne _ (by omega))
    ·exact (hne _ (by omega)).trans ((hlow _ (by omega)).trans ((hon.block _ (by omega)).trans hfr.res))
    ·have h:=ownsRow_keep (w':=W7) ho4 fun y hy=>hne y (by have:=(ownsRow_own ho4 hy).1; omega)
     simpa using h
    ·refine (List.Perm.trans ?_ hfr.perm)
     rw [List.append_assoc];exact (List.Perm.append_left l (del_perm hk).symm)
   have HFN:=Lib.hid hFN;have HW7:=Lib.hid hW7;have HL:=Lib.hid hk;obtain ⟨d0,d1,d2,d3,d4,df⟩:=cells5 z4;clear hk hlk hit2 hon z2 hrow2 hfr hro hlow hc2 hc24 hW7 hne z4 Q2 hFN ho4 hc4
   go_wp2_with fail
   rw [<- HW7.out]
   go_roundg (mdel k left).length
   case measure=>have:=del_length HL.out; omega
   case rel=>exact ⟨_,_,_,_,rfl,HFN.out⟩
end Go.Proofs.YtpofkokbmifhgaaGreatDoor
namespace Go.Proofs.YtpofkokbmifhgaaGreatDoor
open Go.RowKit
variable {o:Nat->Prop}
@[go_sem] theorem ta_s_i64 (v:Value) (w:World):(Instr.typeAssert (.iface 9 v) 20 2 true).run Tryz.prog w=.ok (.tuple #[.int .i64 0,.bool false]) w:=by kernel_rfl
@[go_sem] theorem ta_s_u64 (v:Value) (w:World):(Instr.typeAssert (.iface 9 v) 20 102 true).run Tryz.prog w=.ok (.tuple #[.int .u64 0,.bool false]) w:=by kernel_rfl
@[go_sem] theorem ta_l_i64 (v:Value) (w:World):(Instr.typeAssert (.iface 76 v) 20 2 true).run Tryz.prog w=.ok (.tuple #[.int .i64 0,.bool false]) w:=by kernel_rfl
@[go_sem] theorem ta_l_u64 (v:Value) (w:World):(Instr.typeAssert (.iface 76 v) 20 102 true).run Tryz.prog w=.ok (.tuple #[.int .u64 0,.bool false]) w:=by kernel_rfl
@[go_sem] theorem ta_m_i64 (v:Value) (w:World):(Instr.typeAssert (.iface 50 v) 20 2 true).run Tryz.prog w=.ok (.tuple #[.int .i64 0,.bool false]) w:=by kernel_rfl
@[go_sem] theorem ta_m_u64 (v:Value) (w:World):(Instr.typeAssert (.iface 50 v) 20 102 true).run Tryz.prog w=.ok (.tuple #[.int .u64 0,.bool false]) w:=by kernel_rfl
structure FL (w:World) (l:List T) (n:Nat) (V:Value) (xs:List Value) (wr:World):Prop where
 chg:Chg [] w wr
 res:wr.heap[w.heap.size]?=some (.cells #[.int .i64 0,.int .i64 0,.string ⟨#[]⟩,.slice none 0 0,.slice none 0 0] 32)
 out:wr.heap[w.heap.size+1]?=some (.cells #[.int .i64 4,.int .i64 0,.string ⟨#[]⟩,.slice none 0 0,V] 32)
 vrow:wr.ownsRow (w.heap.size+2) 32 5 V n xs
 flat:FlatV (Off (w.heap.size+2) (w.heap.size+1) V) wr (l.take n) xs
theorem OwnL.at_ {w:World}:∀ {l:List T} {cs:List Value} {F:List Nat} {n:Nat} {x:T},OwnL w l cs F->l[n]?=some x->∃ v F1,cs[n]?=some v/\Own w x v F1
 | [],_,_,_,_,_,h=>by simp at h
 | y :: l,cs,F,0,x,h,hx=>by
  simp only [OwnL] at h;obtain ⟨v,r,F1,F2,rfl,h1,h2,rfl⟩:=h;simp at hx;subst hx;exact ⟨v,F1,rfl,h1⟩
 | y :: l,cs,F,n+1,x,h,hx=>by
  simp only [OwnL] at h;obtain ⟨v,r,F1,F2,rfl,h1,h2,rfl⟩:=h;simp at hx;obtain ⟨v',F',h3,h4⟩:=h2.at_ hx;exact ⟨v',F',by simpa using h3,h4⟩
theorem fromAny_any {B:Nat} (nn:Nat):∀ (t:T) (v:Value) (w:World) (F:List Nat),T.size t<=nn->nn<=67108864->WF B t->Own w t v F->Calls Tryz.prog 70 #[v] w (FromR w t):=by
 induction nn with
 | zero=>exact fun t _ _ _ hn=>absurd hn (by have:=T.size_pos t; omega)
 | succ nn ih=>
 intro t v w F hn hb hw h
 cases t with
 | null=>
  obtain ⟨rfl,rfl⟩:=h.null_inv;clear h
  go_enter Tryz.func70,Tryz.ntmps70
  go_wp2_with fail
  refine bodyPost_ret (v:=.tuple #[.agg #[.int .i64 0,.int .i64 0,.string ⟨#[]⟩,.slice none 0 0,.slice none 0 0],.bool true]) (by simp [results,Tryz.results70,go_sem]) rfl ⟨_,rfl,?_,Rd.zero _⟩
  repeat refine Chg.st ?_ (Nat.le_refl _) _
  exact (Chg.refl [] w).al _
 | bool b=>
  obtain ⟨rfl,rfl⟩:=h.bool_inv;clear h
  cases b with
  | true=>
   go_enter Tryz.func70,Tryz.ntmps70
   go_wp2_with fail
   refine bodyPost_ret (v:=.tuple #[.agg #[.int .i64 1,.int .i64 1,.string ⟨#[]⟩,.slice none 0 0,.slice none 0 0],.bool true]) (by simp [results,Tryz.results70,go_sem]) rfl ⟨_,rfl,?_,Rd.mk (t:=.bool true) (RdK.nil _) (RdV.nil _)⟩
   repeat refine Chg.st ?_ (Nat.le_refl _) _
   exact (Chg.refl [] w).al _
  | false=>
   go_enter Tryz.func70,Tryz.ntmps70
   go_wp2_with fail
   refine bodyPost_ret (v:=.tuple #[.agg #[.int .i64 1,.int .i64 0,.string ⟨#[]⟩,.slice none 0 0,.slice none 0 0],.bool true]) (by simp [results,Tryz.results70,go_sem]) rfl ⟨_,rfl,?_,Rd.mk (t:=.bool false) (RdK.nil _) (RdV.nil _)⟩
   repeat refine Chg.st ?_ (Nat.le_refl _) _
   exact (Chg.refl [] w).al _
 | int n=>
  obtain ⟨rfl,rfl⟩:=h.int_inv;clear h
  go_enter Tryz.func70,Tryz.ntmps70
  go_wp2_with fail
  refine bodyPost_ret (v:=.tuple #[.agg #[.int .i64 2,.int .i64 n,.string ⟨#[]⟩,.slice none 0 0,.slice none 0 0],.bool true]) (by simp [results,Tryz.results70,go_sem]) rfl ⟨_,rfl,?_,Rd.mk (t:=.int n) (RdK.nil _) (RdV.nil _)⟩
  repeat refine Chg.st ?_ (Nat.le_refl _) _
  exact (Chg.refl [] w).al _
 | text s=>
  obtain ⟨rfl,rfl⟩:=h.text_inv;clear h
  go_enter Tryz.func70,Tryz.ntmps70
  go_wp2_with fail
  refine bodyPost_ret (v:=.tuple #[.agg #[.int .i64 3,.int .i64 0,.string s,.slice none 0 0,.slice none 0 0],.bool true]) (by simp [results,Tryz.results70,go_sem]) rfl ⟨_,rfl,?_,Rd.mk (t:=.text s) (RdK.nil _) (RdV.nil _)⟩
  repeat refine Chg.st ?_ (Nat.le_refl _) _
  exact (Chg.refl [] w).al _
 | map m=>
  obtain ⟨b,rfl⟩:=h.block
  have HM:Hid (∀ W,Chg [] w W->Calls Tryz.prog 51 #[.map (some b)] W (FromR W (.map m))):=
   Lib.hid fun W hc=>fromMap_step nn (fun t v w F h1 h2 h3=>ih t v w F h1 (by omega) h2 h3) m b W F hn (h.frame fun x hx=>hc.block x (h.lt x hx) (by simp)) hw (by omega)
  clear ih h
  go_enter Tryz.func70,Tryz.ntmps70
  go_wp2_with fail
  refine (HM.out _ ((Chg.refl [] w).al _)).mono ?_;rintro e w1 ⟨v',rfl,hc1,hr1⟩;obtain ⟨A5,q5,A6,q6,rfl,hyz⟩:=hr1.five;clear hyz;have hcw:Chg [] w w1:=((Chg.refl [] w).al _).trans hc1 New.nil;have z1:=box5 (heap_alloc_new w (.cells #[.int .i64 0,.int .i64 0,.string ⟨#[]⟩,.slice none 0 0,.slice none 0 0] 32)) _ hc1;obtain ⟨W7,hW7,Q,hne,hcW,_⟩:=store5 z1 hcw (Nat.le_refl _) (.int .i64 (T.map m).kind) (.int .i64 (T.map m).num) (.string (T.map m).txt) (.slice A5 (T.map m).keys.length q5) (.slice A6 (T.map m).vals.length q6)
  have hr7:Rd (fun b=>w.heap.size<=b) W7 (.map m) (.agg #[.int .i64 (T.map m).kind,.int .i64 (T.map m).num,.string (T.map m).txt,.slice A5 (T.map m).keys.length q5,.slice A6 (T.map m).vals.length q6]):=hr1.to fun b hb ho=>by
   have ho:(w.alloc (.cells #[.int .i64 0,.int .i64 0,.string ⟨#[]⟩,.slice none 0 0,.slice none 0 0] 32)).heap.size<=b:=ho;simp at ho;exact ⟨by omega,hne b (by omega)⟩
  have HR7:=Lib.hid (And.intro hr7 (And.intro Q hcW));obtain ⟨d0,d1,d2,d3,d4,df⟩:=cells5 z1;clear hr1 hc1 hr7 hne Q hcW hcw
  go_wp2_with fail
  rw [<- hW7];obtain ⟨h1,Q,h2⟩:=HR7.out;obtain ⟨e0,e1,e2,e3,e4,_⟩:=cells5 Q;refine bodyPost_ret (v:=.tuple #[.agg #[.int .i64 (T.map m).kind,.int .i64 (T.map m).num,.string (T.map m).txt,.slice A5 (T.map m).keys.length q5,.slice A6 (T.map m).vals.length q6],.bool true]) (by simp [results,Tryz.results70,go_sem,e0,e1,e2,e3,e4]) rfl ⟨_,rfl,h2,h1⟩
 | list l=>
  have h0:=h;simp only [Own] at h;obtain ⟨ga,cap,cs,F',rfl,hrow,hol,rfl⟩:=h
  have hll:l.length<=67108864:=by have:=T.vals_len (.list l); simp [T.vals] at this; omega
  obtain ⟨cur,hga,hcells⟩ : ∃ cur,w.heap[ga]?=some (.cells cur 20)/\∀ n v,cs[n]?=some v->cur[n]?=some v:=by
   rcases hrow.2 with ⟨h1,_⟩ | ⟨g',cap',cur,h1,_,hh,_,_,_,htk⟩
   ·cases h1
   ·injection h1 with h1 h2 h3
    injection h1 with h1
    injection h1 with h1
    subst h1;refine ⟨cur,hh,fun n v hv=>?_⟩;rw [<- htk,List.getElem?_take] at hv
    split at hv
    ·rwa [Array.getElem?_toList] at hv
    ·cases hv
  have hgl:ga < w.heap.size:=(Array.getElem?_eq_some_iff.1 hga).1;have hlc:l.length<=cap:=ownsRow_cap hrow;have HO:=Lib.hid (And.intro hol (And.intro hga hcells));clear hol hga hcells h0 hrow
  go_enter Tryz.func70,Tryz.ntmps70
  go_wp2_with fail
  go_loopg [52] l.length (fun g i wr=>∃ (n:Nat) (V:Value) (xs:List Value),n<=l.length/\g=l.length - n/\i=.int .i64 n/\FL w l n V xs wr)
  case atStart=>exact ⟨0,_,[],Nat.zero_le _,by omega,rfl,((Chg.refl [] w).al _).al _,heap_al1 w _ _,heap_al2 w _ _,World.ownsRow_nil _ _ _ _,by simp [FlatV]⟩
  case round=>
   obtain ⟨n,V,xs,hn',rfl,rfl,hFX⟩:=hrel;have HFX:=Lib.hid hFX;have hszx:w.heap.size+1 < wr.heap.size:=(Array.getElem?_eq_some_iff.1 hFX.out).1;obtain ⟨d0,d1,d2,d3,d4,df⟩:=cells5 hFX.out
   by_cases hlt:n < l.length
   ·obtain ⟨x,hx⟩ : ∃ x,l[n]?=some x:=⟨_,List.getElem?_eq_getElem hlt⟩
    have hn64:n<=67108864:=by omega
    obtain ⟨v,F1,hcv,hov⟩:=HO.out.1.at_ hx
    have hcell:wr.cell? ⟨ga,n,none⟩=some v:=by
     rw [cell_of_row wr ga n cur _ _ ((hFX.chg.block ga hgl (by simp)).trans HO.out.2.1)];exact HO.out.2.2 n v hcv
    have hovx:Own wr x v F1:=hov.frame fun y hy=>hFX.chg.block y (hov.lt y hy) (by simp)
    have hxs:T.size x<=nn:=by
     have h2:=T.sizeL_at hx;simp only [T.size] at hn
     omega
    have hwx:WF B x:=WFL_iff.1 hw _ (List.mem_of_getElem? hx);have HXM:=Lib.hid (And.intro hx (And.intro hovx hxs));clear hx hcv hov hovx hxs hFX
    go_wp2_with fail
    refine (ih x v wr F1 HXM.out.2.2 (by omega) hwx HXM.out.2.1).mono ?_;rintro e w3 ⟨v',rfl,hc3,hr3⟩;obtain ⟨A5,q5,A6,q6,rfl,hyz⟩:=hr3.five;clear hyz
    obtain ⟨W4,hW4⟩ : ∃ W4,W4=w3.alloc (.cells #[.int .i64 x.kind,.int .i64 x.num,.string x.txt,.slice A5 x.keys.length q5,.slice A6 x.vals.length q6] 32):=⟨_,rfl⟩
    obtain ⟨W5,hW5⟩ : ∃ W5,W5=W4.alloc (.cells #[.int .i64 x.kind,.int .i64 x.num,.string x.txt,.slice A5 x.keys.length q5,.slice A6 x.vals.length q6] 32):=⟨_,rfl⟩
    have hc34:Chg [] w3 W4:=hW4 ▸ (Chg.refl [] w3).al _;have hc45:Chg [] W4 W5:=hW5 ▸ (Chg.refl [] W4).al _;have hc5:Chg [] wr W5:=hc3.trans (hc34.trans hc45 New.nil) New.nil;have hb4:W4.heap[w3.heap.size]?=some (.cells #[.int .i64 x.kind,.int .i64 x.num,.string x.txt,.slice A5 x.keys.length q5,.slice A6 x.vals.length q6] 32):=hW4 ▸ heap_alloc_new w3 _;have hb5:W5.heap[W4.heap.size]?=some (.cells #[.int .i64 x.kind,.int .i64 x.num,.string x.txt,.slice A5 x.keys.length q5,.slice A6 x.vals.length q6] 32):=hW5 ▸ heap_alloc_new W4 _
    have hs34:W4.heap.size=w3.heap.size+1:=by rw [hW4]; simp
    obtain ⟨n0,n1,n2,n3,n4,_⟩:=cells5 hb5
    have hvr:W5.ownsRow (w.heap.size+2) 32 5 V n xs:=ownsRow_keep HFX.out.vrow fun g hg=>hc5.block g (ownsRow_own HFX.out.vrow hg).2 (by simp)
    have hfl:FlatV (Off (w.heap.size+2) (w.heap.size+1) V) W5 (l.take n) xs:=HFX.out.flat.mono fun b hb _=>hc5.block b hb (by simp)
    have happ:=app_one (P:=Tryz.prog) (t:=30) (ty:=30) (g1:=W4.heap.size) (c1:=1) uWs iW rfl hvr hfl (v:=.agg #[.int .i64 x.kind,.int .i64 x.num,.string x.txt,.slice A5 x.keys.length q5,.slice A6 x.vals.length q6]) (x:=x) (fun i u hu=>by
     rcases i with _ | _ | _ | _ | _ | i
     all_goals first | (cases hu; assumption) | (simp [Value.cells] at hu)) ((hr3.to fun b hb ho=>⟨⟨by omega,by omega,fun e=>by have:=(ownsRow_own HFX.out.vrow e).2; omega⟩,(hc34.trans hc45 New.nil).block b hb (by simp)⟩)) (by have:=hc5.size; omega) (by omega) (by omega)
    rw [hW5,hs34] at happ;have HAPP:=Lib.hid happ;have HC5:=Lib.hid (And.intro hc5 hW5);obtain ⟨e0,e1,e2,e3,e4,ef⟩:=cells5 hb4;have o4:=(hc3.trans hc34 New.nil).cells.1 _ 4 hszx;rw [d4] at o4
    have hz4:w.heap.size+1 < w3.heap.size:=by have:=hc3.size; omega
    clear d0 d1 d2 d3 d4 df hc3 hr3 hc5 hW5 hb4 hb5 hc34 hc45 happ hvr hfl n0 n1 n2 n3 n4 hs34;subst hW4
    go_wp2_with (first | (at_builtin; refine wpList_app rfl _ _ _ rfl rfl rfl HAPP.out ?_) | fail)
    rintro R' W6 ho6 hf6 hc6 g c' rfl hg1 hg2 hg3;obtain ⟨hc5,hW5⟩:=HC5.out;rw [<- hW5] at hc6;have hs5:=hc5.size
    have hVb:∀ y,y∈V.ownBlock.toList->w.heap.size+2<=y/\y < wr.heap.size:=fun y hy=>ownsRow_own HFX.out.vrow (by simpa using hy)
    have hlow:∀ y,y < wr.heap.size->V.ownBlock≠some y->W6.heap[y]?=wr.heap[y]?:=fun y hy hv=>(hc6.block y (by omega) (by simpa using hv)).trans (hc5.block y hy (by simp))
    have hno:∀ y,y < w.heap.size+2->V.ownBlock≠some y:=fun y hy e=>by
     have:=(hVb y (by simp [e])).1
     omega
    have z1:=(hlow w.heap.size (by omega) (hno _ (by omega))).trans HFX.out.res;have z2:=(hlow (w.heap.size+1) (by omega) (hno _ (by omega))).trans HFX.out.out;have hcV:Chg V.ownBlock.toList wr W6:=(hc5.mono (G:=V.ownBlock.toList) (by simp)).trans hc6 (New.refl _ _);have hcw:Chg [] w W6:=HFX.out.chg.trans hcV (fun y hy=>.inr (by have:=(hVb y hy).1; omega))
    obtain ⟨W7,hW7⟩ : ∃ W7,W7=W6.setCell ⟨w.heap.size+1,4,none⟩ (.slice (some ⟨g,0,none⟩) (n+1) c'):=⟨_,rfl⟩
    have hne:∀ y,y≠w.heap.size+1->W7.heap[y]?=W6.heap[y]?:=fun y hy=>hW7 ▸ heap_setCell_other _ _ _ _ hy
    have Q2:W7.heap[w.heap.size+1]?=_:=hW7 ▸ heap_setCell_same _ _ 4 _ _ (.slice (some ⟨g,0,none⟩) (n+1) c') z2
    have hFV:FL w l (n+1) (.slice (some ⟨g,0,none⟩) (n+1) c') (xs++(Value.agg #[.int .i64 x.kind,.int .i64 x.num,.string x.txt,.slice A5 x.keys.length q5,.slice A6 x.vals.length q6]).cells.toList) W7:=by
     refine ⟨hW7 ▸ hcw.st (by show w.heap.size<=w.heap.size+1; omega) _,(hne _ (by omega)).trans z1,by simpa using Q2,ownsRow_keep ho6 fun y hy=>hne y (by have:=(ownsRow_own ho6 hy).1; omega),?_⟩;rw [take_snoc HXM.out.1]
     exact hf6.mono fun y hy ho=>hne y ho.2.1
    have HFV:=Lib.hid hFV;have HW7:=Lib.hid hW7;clear hFV hW7 hne Q2 hcw hcV z1 hno hlow hVb hs5 hc6 hg3 ho6 hf6 hc5 hW5 e0 e1 e2 e3 e4 ef o4;have hgX:g < W6.heap.size:=hg2;obtain ⟨d0,d1,d2,d3,d4,df⟩:=cells5 z2;clear z2
    go_wp2_with fail
    rw [<- HW7.out]
    go_roundg (l.length - (n+1))
    case measure=>omega
    case rel=>exact ⟨n+1,_,_,by omega,rfl,by go_num,HFV.out⟩
   ·have hE:n=l.length:=by omega
    have HE:=Lib.hid hE;obtain ⟨VA,VC,rfl⟩:=ownsRow_slice hFX.vrow;clear hE;obtain ⟨W7,hW7,Q,hne,hcW,_⟩:=store5 hFX.res hFX.chg (Nat.le_refl _) (.int .i64 4) (.int .i64 0) (.string ⟨#[]⟩) (.slice none 0 0) (.slice VA n VC);have HW7:=Lib.hid hW7;obtain ⟨r0,r1,r2,r3,r4,rf⟩:=cells5 hFX.res;clear hW7 hFX
    go_wp2_with fail
    rw [<- HW7.out];have hm:=HFX.out
    have hxs:FlatV (fun b=>w.heap.size<=b) W7 (l.take n) xs:=hm.flat.to fun b hb ho=>⟨by have:=ho.1; omega,hne b (by have:=ho.1; omega)⟩
    have hn2:l.take n=l:=by rw [HE.out]; exact List.take_of_length_le (Nat.le_refl _)
    rw [hn2] at hxs
    have RV:=RdV.of_own (o:=fun b=>w.heap.size<=b) (l:=l) (base:=w.heap.size+2) (e:=32) (v:=.slice VA n VC) (fun b hb=>by omega) (by
     have h:=ownsRow_keep (w':=W7) hm.vrow fun g hg=>hne g (by have:=(ownsRow_own hm.vrow hg).1; omega)
     rw [<- HE.out]
     exact h) hxs
    obtain ⟨e0,e1,e2,e3,e4,_⟩:=cells5 Q;refine bodyPost_ret (v:=.tuple #[.agg #[.int .i64 4,.int .i64 0,.string ⟨#[]⟩,.slice none 0 0,.slice VA n VC],.bool true]) (by simp [results,Tryz.results70,go_sem,e0,e1,e2,e3,e4]) rfl ⟨_,rfl,hcW,Rd.mk (t:=.list l) (RdK.nil _) RV⟩
end Go.Proofs.YtpofkokbmifhgaaGreatDoor
