/- Parts of the walk, made small by wip/tools/pack.py: Core. No condition but those in each statement. -/
import Derived.Maps.RangeRun
import Derived.Maps.Keyed
import Derived.Maps.OwnSet
import Derived.WalkKit
import Derived.ProofKit
import Derived.Deep.QuietTactic
set_option maxRecDepth 100000
set_option maxHeartbeats 20000000
set_option linter.unusedVariables false
set_option linter.unusedSimpArgs false
namespace Go.Proofs.YtpofkokbmifhgaaGreatDoor
open Go.ChangeMaps (setBlock)
open Go.RowKit
structure MapRep (es:Array MapEntry) (clock:Nat) (ks:List (ByteArray × Value)):Prop where
 kv:es.toList.map (fun e=>(e.key,e.val))=ks.map (fun p=>(Value.string p.1,p.2))
 nodup:(ks.map (·.1)).Nodup
 born:(es.toList.map (·.born)).Nodup
 lt:∀ e∈es.toList,e.born < clock
def MapAt (w:World) (b:Nat) (ks:List (ByteArray × Value)):Prop:=∃ es clock,w.heap[b]?=some (.map es clock)/\MapRep es clock ks
theorem MapAt.lt {w:World} {b:Nat} {ks} (h:MapAt w b ks):b < w.heap.size:=by
 obtain ⟨es,clock,hb,_⟩:=h;exact (Array.getElem?_eq_some_iff.1 hb).1
theorem MapAt.nodup {w:World} {b:Nat} {ks} (h:MapAt w b ks):(ks.map (·.1)).Nodup:=by
 obtain ⟨es,clock,hb,R⟩:=h;exact R.nodup
theorem MapAt.frame {w w':World} {b:Nat} {ks} (h:MapAt w b ks) (hf:w'.heap[b]?=w.heap[b]?):MapAt w' b ks:=by
 obtain ⟨es,clock,hb,R⟩:=h;exact ⟨es,clock,hf.trans hb,R⟩
theorem MapAt.new (w:World):MapAt (w.alloc (.map #[] 0)) w.heap.size []:=
 ⟨#[],0,(MapKept.heap_alloc w _).1,⟨rfl,by simp,by simp,by simp⟩⟩
def mlook (k:ByteArray):List (ByteArray × Value)->Option Value
 | []=>none
 | p :: r=>if p.1=k then some p.2 else mlook k r
theorem look_none {k:ByteArray} {ks:List (ByteArray × Value)}:mlook k ks=none ↔ k ∉ ks.map (·.1):=by
 induction ks with
 | nil=>simp [mlook]
 | cons p r ih=>
  unfold mlook
  by_cases h:p.1=k
  ·simp [h]
  ·simp only [h,if_false,ih,List.map_cons,List.mem_cons,not_or]
   exact ⟨fun h2=>⟨fun e=>h e.symm,h2⟩,fun h2=>h2.2⟩
theorem look_some {k:ByteArray} {v:Value} {ks:List (ByteArray × Value)} (h:mlook k ks=some v):(k,v)∈ks:=by
 induction ks with
 | nil=>simp [mlook] at h
 | cons p r ih=>
  unfold mlook at h
  by_cases e:p.1=k
  ·simp only [e,if_true,Option.some.injEq] at h
   subst e; subst h;simp
  ·simp only [e,if_false] at h
   exact List.mem_cons_of_mem _ (ih h)
theorem look_of_mem {k:ByteArray} {v:Value} {ks:List (ByteArray × Value)} (hn:(ks.map (·.1)).Nodup) (h:(k,v)∈ks):mlook k ks=some v:=by
 induction ks with
 | nil=>simp at h
 | cons p r ih=>
  simp only [List.map_cons,List.nodup_cons] at hn;unfold mlook;rcases List.mem_cons.1 h with e | h
  ·subst e; simp
  ·have:p.1≠k:=fun e=>hn.1 (by rw [e]; exact List.mem_map.2 ⟨(k,v),h,rfl⟩)
   simp only [this,if_false];exact ih hn.2 h
def mupd (k:ByteArray) (v:Value):List (ByteArray × Value)->List (ByteArray × Value)
 | []=>[(k,v)]
 | p :: r=>if p.1=k then (k,v) :: r else p :: mupd k v r
theorem upd_keys {k:ByteArray} {v:Value} {ks:List (ByteArray × Value)} (h:k∈ks.map (·.1)):(mupd k v ks).map (·.1)=ks.map (·.1):=by
 induction ks with
 | nil=>simp at h
 | cons p r ih=>
  unfold mupd
  by_cases e:p.1=k
  ·simp [e]
  ·simp only [e,if_false,List.map_cons,List.cons.injEq,true_and]
   refine ih ?_;simp only [List.map_cons,List.mem_cons] at h;rcases h with h | h
   ·exact absurd h.symm e
   ·exact h
theorem upd_new {k:ByteArray} {v:Value} {ks:List (ByteArray × Value)} (h:k ∉ ks.map (·.1)):mupd k v ks=ks++[(k,v)]:=by
 induction ks with
 | nil=>rfl
 | cons p r ih=>
  simp only [List.map_cons,List.mem_cons,not_or] at h;unfold mupd
  have e:p.1≠k:=fun e=>h.1 e.symm
  simp only [e,if_false,List.cons_append,List.cons.injEq,true_and];exact ih h.2
theorem upd_nodup {k:ByteArray} {v:Value} {ks:List (ByteArray × Value)} (hn:(ks.map (·.1)).Nodup):((mupd k v ks).map (·.1)).Nodup:=by
 by_cases h:k∈ks.map (·.1)
 ·rw [upd_keys h]; exact hn
 ·rw [upd_new h,List.map_append,List.nodup_append]
  refine ⟨hn,by simp,?_⟩
  intro a ha b hb
  simp at hb;subst hb
  exact fun e=>h (e ▸ ha)
section
variable {P:Program} {K:TypeId}
theorem rep_find:∀ {es:List MapEntry} {ks:List (ByteArray × Value)},P.underlying K=some .string ->
  es.map (fun e=>(e.key,e.val))=ks.map (fun p=>(Value.string p.1,p.2))->∀ (k:ByteArray) (w:World),
  (mlook k ks=none/\(Instr.findKey K (.string k) es).run P w=.ok none w) ∨
  ∃ j v e,mlook k ks=some v/\(Instr.findKey K (.string k) es).run P w=.ok (some (j,v)) w/\es[j]?=some e/\e.key=.string k/\e.val=v:=by
 intro es ks hK hkv k w
 have hkeys:∀ x∈es,MapKept.IsKey .string x.key:=by
  intro x hx
  have:(x.key,x.val)∈ks.map (fun p=>(Value.string p.1,p.2)):=hkv ▸ List.mem_map.2 ⟨x,hx,rfl⟩;obtain ⟨p,_,hp⟩:=List.mem_map.1 this;simp only [Prod.mk.injEq] at hp;rw [<- hp.1]; trivial
 rcases MapKept.findNow_spec (d:=.string) (k:=.string k) trivial es 0 hkeys with ⟨h1,h2⟩ | ⟨j,e,h1,h2,h3⟩
 ·left
  refine ⟨look_none.2 fun hm=>?_,MapKept.run_findKey hK h1⟩;obtain ⟨p,hp,rfl⟩:=List.mem_map.1 hm;have:(Value.string p.1,p.2)∈es.map (fun e=>(e.key,e.val)):=hkv ▸ List.mem_map.2 ⟨p,hp,rfl⟩;obtain ⟨x,hx,hxe⟩:=List.mem_map.1 this;simp only [Prod.mk.injEq] at hxe;exact h2 x hx hxe.1
 ·right
  refine ⟨j,e.val,e,?_,by simpa using MapKept.run_findKey hK h1,h2,h3,rfl⟩;clear hkeys
  have gen:∀ (l:List MapEntry) (ks:List (ByteArray × Value)) (i:Nat),l.map (fun e=>(e.key,e.val))=ks.map (fun p=>(Value.string p.1,p.2)) ->
    ∀ r v,Instr.findNow .string (.string k) l i=some (some (r,v))->mlook k ks=some v:=by
   intro l
   induction l with
   | nil=>intro ks i _ r v h; simp [Instr.findNow] at h
   | cons x l ih=>
    intro ks i hk r v h
    cases ks with
    | nil=>simp at hk
    | cons p ks=>
     simp only [List.map_cons,List.cons.injEq,Prod.mk.injEq] at hk;obtain ⟨⟨hk1,hk2⟩,hk3⟩:=hk;unfold Instr.findNow at h;rw [hk1] at h;simp only [Instr.sameNow] at h;unfold mlook
     by_cases e:p.1=k
     ·have:(k == p.1)=true:=(MapKept.bytes_beq _ _).2 e.symm
      rw [this] at h;simp only [Option.some.injEq,Prod.mk.injEq] at h;simp only [e,if_true,Option.some.injEq];exact hk2.symm.trans h.2
     ·have:(k == p.1)=false:=by
       cases hb:(k == p.1)
       ·rfl
       ·exact absurd ((MapKept.bytes_beq _ _).1 hb).symm e
      rw [this] at h;simp only [e,if_false];exact ih ks (i+1) hk3 r v h
  exact gen es ks 0 hkv _ _ h1
theorem run_lookup_ok {w:World} {b:Nat} {ks} (h:MapAt w b ks) {t E:TypeId} {z:Value} (ht:P.underlying t=some (.map K E)) (hK:P.underlying K=some .string) (hz:(zeroValue E).run P w=.ok z w) (k:ByteArray) :
  (Instr.lookup t (.map (some b)) (.string k) true).run P w=.ok (.tuple #[(mlook k ks).getD z,.bool (mlook k ks).isSome]) w:=by
 obtain ⟨es,clock,hb,R⟩:=h
 rcases rep_find (P:=P) hK R.kv k w with ⟨h1,h2⟩ | ⟨j,v,e,h1,h2,_⟩
 ·simp [Instr.lookup,run_underlying ht,MapKept.run_getObj_map hb,MapKept.run_checkKey hK (k:=.string k) trivial,h2,h1,hz,Result.andThen]
 ·simp [Instr.lookup,run_underlying ht,MapKept.run_getObj_map hb,MapKept.run_checkKey hK (k:=.string k) trivial,h2,h1,Result.andThen]
theorem run_lookup_plain {w:World} {b:Nat} {ks} (h:MapAt w b ks) {t E:TypeId} {z:Value} (ht:P.underlying t=some (.map K E)) (hK:P.underlying K=some .string) (hz:(zeroValue E).run P w=.ok z w) (k:ByteArray) :
  (Instr.lookup t (.map (some b)) (.string k) false).run P w=.ok ((mlook k ks).getD z) w:=by
 obtain ⟨es,clock,hb,R⟩:=h
 rcases rep_find (P:=P) hK R.kv k w with ⟨h1,h2⟩ | ⟨j,v,e,h1,h2,_⟩
 ·simp [Instr.lookup,run_underlying ht,MapKept.run_getObj_map hb,MapKept.run_checkKey hK (k:=.string k) trivial,h2,h1,hz,Result.andThen]
 ·simp [Instr.lookup,run_underlying ht,MapKept.run_getObj_map hb,MapKept.run_checkKey hK (k:=.string k) trivial,h2,h1,Result.andThen]
def mdel (k:ByteArray):List ByteArray->List ByteArray
 | []=>[]
 | a :: r=>if a=k then r else a :: mdel k r
theorem del_perm {k:ByteArray} {l:List ByteArray} (h:k∈l):l.Perm (k :: mdel k l):=by
 induction l with
 | nil=>simp at h
 | cons a r ih=>
  unfold mdel
  by_cases e:a=k
  ·simp [e]
  ·simp only [e,if_false]
   have h':k∈r:=by
    rcases List.mem_cons.1 h with h | h
    ·exact absurd h.symm e
    ·exact h
   exact ((ih h').cons a).trans (List.Perm.swap _ _ _)
theorem del_length {k:ByteArray} {l:List ByteArray} (h:k∈l):(mdel k l).length+1=l.length:=by
 have:=(del_perm h).length_eq;simp at this
 omega
theorem mem_of_del {k x:ByteArray} {l:List ByteArray} (h:x∈mdel k l):x∈l:=by
 induction l with
 | nil=>simp [mdel] at h
 | cons a r ih=>
  unfold mdel at h
  by_cases e:a=k
  ·simp only [e,if_true] at h; exact List.mem_cons_of_mem _ h
  ·simp only [e,if_false] at h
   rcases List.mem_cons.1 h with h | h
   ·exact h ▸ List.mem_cons_self
   ·exact List.mem_cons_of_mem _ (ih h)
def IterAt (w:World) (it b:Nat) (ks:List (ByteArray × Value)) (left:List ByteArray):Prop:=
 ∃ es clock since seen c0,w.heap[b]?=some (.map es clock)/\MapRep es clock ks/\w.heap[it]?=some (.mapIter (some b) since seen c0) /\
  (∀ e∈es.toList,e.born < since)/\since<=c0/\since<=clock/\(leftOf es seen).toList.map (·.key)=left.map Value.string
theorem IterAt.map {w:World} {it b:Nat} {ks left} (h:IterAt w it b ks left):MapAt w b ks:=by
 obtain ⟨es,clock,since,seen,c0,hb,R,_⟩:=h;exact ⟨es,clock,hb,R⟩
theorem IterAt.ne {w:World} {it b:Nat} {ks left} (h:IterAt w it b ks left):it≠b:=by
 obtain ⟨es,clock,since,seen,c0,hb,R,hi,_⟩:=h
 intro e
 rw [e,hb] at hi
 cases hi
theorem IterAt.lt {w:World} {it b:Nat} {ks left} (h:IterAt w it b ks left):it < w.heap.size:=by
 obtain ⟨es,clock,since,seen,c0,hb,R,hi,_⟩:=h;exact (Array.getElem?_eq_some_iff.1 hi).1
theorem IterAt.frame {w w':World} {it b:Nat} {ks left} (h:IterAt w it b ks left) (h1:w'.heap[b]?=w.heap[b]?) (h2:w'.heap[it]?=w.heap[it]?):IterAt w' it b ks left:=by
 obtain ⟨es,clock,since,seen,c0,hb,R,hi,r⟩:=h;exact ⟨es,clock,since,seen,c0,h1.trans hb,R,h2.trans hi,r⟩
theorem run_range {w:World} {b:Nat} {ks} (h:MapAt w b ks) {t E:TypeId} (ht:P.underlying t=some (.map K E)) :
  ∃ w',(Instr.range t (.map (some b))).run P w=.ok (.pointer (some ⟨w.heap.size,0,none⟩)) w'/\IterAt w' w.heap.size b ks (ks.map (·.1))/\(∃ o,w'=w.alloc o):=by
 have hlt:=h.lt;obtain ⟨es,clock,hb,R⟩:=h;refine ⟨_,run_range_map w t K E b es clock ht hb,⟨es,clock,clock,#[],clock,((MapKept.heap_alloc w _).2 b hlt).trans hb,R,(MapKept.heap_alloc w _).1,R.lt,Nat.le_refl _,Nat.le_refl _,?_⟩,_,rfl⟩;have:=congrArg (List.map Prod.fst) R.kv;simp only [List.map_map] at this
 have hf:(leftOf es #[]).toList=es.toList:=by
  simp only [leftOf,Array.toList_filter];exact List.filter_eq_self.2 (fun x _=>by simp)
 rw [hf,List.map_map]
 simpa [Function.comp_def] using this
structure Only (w w':World) (b:Nat):Prop where
 os:w'.os=w.os
 tape:w'.tape=w.tape
 output:w'.output=w.output
 size:w'.heap.size=w.heap.size
 block:∀ i,i≠b->w'.heap[i]?=w.heap[i]?
theorem Only.set {w:World} (b:Nat) (o:Obj):Only w (setBlock w b o) b:=
 ⟨rfl,rfl,rfl,by simp [setBlock],fun i hi=>by simp [setBlock,Ne.symm hi]⟩
theorem Only.drew_set {w:World} (b:Nat) (o:Obj):Only w (setBlock w.drew b o) b:=
 ⟨rfl,rfl,rfl,by simp [setBlock],fun i hi=>by simp [setBlock,Ne.symm hi]; rfl⟩
theorem nodup_keys {es:List MapEntry} {ks:List (ByteArray × Value)} (hkv:es.map (fun e=>(e.key,e.val))=ks.map (fun p=>(Value.string p.1,p.2))) (hn:(ks.map (·.1)).Nodup):(es.map (·.key)).Nodup:=by
 have:es.map (·.key)=(ks.map (·.1)).map Value.string:=by
  have:=congrArg (List.map Prod.fst) hkv
  simpa [List.map_map,Function.comp_def] using this
 rw [this];exact List.Pairwise.map _ (fun a b h e=>h (by injection e)) hn
theorem run_next {w:World} {it b:Nat} {ks left} (h:IterAt w it b ks left) (ty:TypeId) :
  (left=[]/\(Instr.next (.pointer (some ⟨it,0,none⟩)) false ty).run P w=.ok (.tuple #[.bool false]) w) ∨
  ∃ k v w',k∈left/\mlook k ks=some v/\(Instr.next (.pointer (some ⟨it,0,none⟩)) false ty).run P w=.ok (.tuple #[.bool true,.string k,v]) w'/\IterAt w' it b ks (mdel k left)/\Only w w' it /\
   ∀ w2:World,w2.heap[it]?=w'.heap[it]?->w2.heap[b]?=w'.heap[b]?->(Instr.entry (.pointer (some ⟨it,0,none⟩))).run P w2=.ok (.tuple #[.string k,v]) w2:=by
 have hne:=h.ne;obtain ⟨es,clock,since,seen,c0,hb,R,hi,hold,hsc,hsk,hl⟩:=h
 rcases run_next_at (P:=P) w ty it b since c0 seen es clock hi hb hold hsc with ⟨h0,hrun⟩ | ⟨e,he,w1,hal,hrun⟩
 ·left
  refine ⟨?_,hrun⟩;have:leftOf es seen=#[]:=Array.eq_empty_of_size_eq_zero h0;rw [this] at hl
  simpa using hl.symm
 ·right
  obtain ⟨hem,hes⟩:=mem_left he;have hmem:(e.key,e.val)∈ks.map (fun p=>(Value.string p.1,p.2)):=R.kv ▸ List.mem_map.2 ⟨e,hem,rfl⟩;obtain ⟨⟨k,v⟩,hkv,hp⟩:=List.mem_map.1 hmem;simp only [Prod.mk.injEq] at hp;obtain ⟨hp1,hp2⟩:=hp
  have hhi1:w1.heap[it]?=some (.mapIter (some b) since seen c0):=by rcases hal with rfl | rfl <;> exact hi
  have hbb1:w1.heap[b]?=some (.map es clock):=by rcases hal with rfl | rfl <;> exact hb
  have hset:=MapKept.heap_set (o':=.mapIter (some b) since (seen.push e.born) clock) hhi1;have hb':(setBlock w1 it (.mapIter (some b) since (seen.push e.born) clock)).heap[b]?=some (.map es clock):=(hset.2 b (Ne.symm hne)).trans hbb1
  have hkl:k∈left:=by
   have:Value.string k∈left.map Value.string:=by rw [<- hl,hp1]; exact List.mem_map.2 ⟨e,he,rfl⟩
   obtain ⟨x,hx,hxe⟩:=List.mem_map.1 this
   injection hxe with hxe
   exact hxe ▸ hx
  refine ⟨k,v,_,hkl,look_of_mem R.nodup hkv,by rw [hrun,<- hp1,<- hp2],⟨es,clock,since,seen.push e.born,clock,hb',R,hset.1,hold,hsk,hsk,?_⟩,?_,?_⟩
  ·
   have hleft:(leftOf es (seen.push e.born)).toList=(leftOf es seen).toList.filter (fun x=>!(x.born == e.born)):=by
    simp only [leftOf,Array.toList_filter,List.filter_filter]
    congr 1
    funext x
    rw [contains_push]
    cases seen.contains x.born <;> cases (x.born == e.born) <;> rfl
   rw [hleft];have hkeysn:(es.toList.map (·.key)).Nodup:=nodup_keys R.kv R.nodup
   have hsub:(leftOf es seen).toList.Sublist es.toList:=by simp only [leftOf,Array.toList_filter]; exact List.filter_sublist
   have hleftn:((leftOf es seen).toList.map (·.key)).Nodup:=List.Nodup.sublist (hsub.map _) hkeysn;have hborn:((leftOf es seen).toList.map (·.born)).Nodup:=List.Nodup.sublist (hsub.map _) R.born;clear hsub hkl
   revert hl hleftn hborn
   have hk1:e.key=.string k:=hp1.symm
   revert he
   generalize (leftOf es seen).toList=L
   intro he hl hleftn hborn
   clear hleft hrun hset hb'
   induction L generalizing left with
   | nil=>simp at he
   | cons x L ih=>
    cases left with
    | nil=>simp at hl
    | cons a left=>
     simp only [List.map_cons,List.cons.injEq] at hl;simp only [List.map_cons,List.nodup_cons] at hleftn hborn;unfold mdel
     by_cases hx:x.born=e.born
     ·have hxe:x=e:=by
       rcases List.mem_cons.1 he with h | h
       ·exact h.symm
       ·exact absurd (hx ▸ List.mem_map.2 ⟨e,h,rfl⟩) hborn.1
      subst hxe
      have ha:a=k:=by
       have:=hl.1.symm.trans hk1
       injection this
      simp only [ha,if_true];rw [List.filter_cons_of_neg (by simp)]
      rw [List.filter_eq_self.2 (fun y hy=>by
       have:y.born≠x.born:=fun e'=>hborn.1 (e' ▸ List.mem_map.2 ⟨y,hy,rfl⟩)
       simp [this])]
      exact hl.2
     ·have he':e∈L:=by
       rcases List.mem_cons.1 he with h | h
       ·exact absurd (congrArg MapEntry.born h).symm hx
       ·exact h
      have ha:a≠k:=by
       intro hak
       have:x.key=e.key:=by rw [hl.1,hak,hk1]
       exact hleftn.1 (this ▸ List.mem_map.2 ⟨e,he',rfl⟩)
      simp only [ha,if_false];rw [List.filter_cons_of_pos (by simp [hx])];simp only [List.map_cons,List.cons.injEq];exact ⟨hl.1,ih he' hl.2 hleftn.2 hborn.2⟩
  ·rcases hal with rfl | rfl
   ·exact Only.set _ _
   ·exact Only.drew_set _ _
  ·intro w2 e1 e2
   rw [hp1,hp2];exact run_entry_at w2 it b since seen es clock e (e1.trans hset.1) (e2.trans hb') hem R.born
theorem run_update {w:World} {b:Nat} {ks} (h:MapAt w b ks) {t E:TypeId} (ht:P.underlying t=some (.map K E)) (hK:P.underlying K=some .string) (k:ByteArray) (v:Value) :
  ∃ w',(Instr.mapUpdate t (.map (some b)) (.string k) v).run P w=.ok () w'/\MapAt w' b (mupd k v ks)/\Only w w' b/\w'.drawn=w.drawn /\
   (∀ it left,IterAt w it b ks left->k∈ks.map (·.1)->IterAt w' it b (mupd k v ks) left):=by
 obtain ⟨es,clock,hb,R⟩:=h
 rcases rep_find (P:=P) hK R.kv k w with ⟨h1,h2⟩ | ⟨j,v0,e,h1,h2,hj,hek,hev⟩
 ·have hnk:=look_none.1 h1
  have hset:=MapKept.heap_set (o':=Obj.map (es.push { key:=.string k,val:=v,born:=clock }) (clock+1)) hb;refine ⟨setBlock w b (.map (es.push { key:=.string k,val:=v,born:=clock }) (clock+1)),?_,⟨_,_,hset.1,?_⟩,Only.set _ _,rfl,fun it left _ hk=>absurd hk hnk⟩
  ·simp [Instr.mapUpdate,run_underlying ht,MapKept.run_getObj_map hb,MapKept.run_checkKey hK (k:=.string k) trivial,h2,MapKept.run_setObj_map _ hb,Result.andThen,setBlock]
  ·rw [upd_new hnk]
   refine ⟨?_,?_,?_,?_⟩
   ·simp [R.kv]
   ·rw [<- upd_new (v:=v) hnk]; exact upd_nodup R.nodup
   ·simp only [Array.toList_push,List.map_append,List.map_cons,List.map_nil]
    rw [List.nodup_append];refine ⟨R.born,by simp,?_⟩
    intro x hx y hy
    simp at hy;subst hy;obtain ⟨z,hz,rfl⟩:=List.mem_map.1 hx;have:=R.lt z hz
    omega
   ·intro x hx
    simp only [Array.toList_push,List.mem_append,List.mem_singleton] at hx;rcases hx with hx | rfl
    ·exact Nat.lt_succ_of_lt (R.lt x hx)
    ·exact Nat.lt_succ_self _
 ·have hjs:es[j]?=some e:=by simpa using hj
  have hset:=MapKept.heap_set (o':=Obj.map (es.modify j fun e'=>{ e' with key:=.string k,val:=v }) clock) hb;have hjlt:j < es.size:=(Array.getElem?_eq_some_iff.1 hjs).1;have hjget:es[j]=e:=(Array.getElem?_eq_some_iff.1 hjs).2
  have hmod:(es.modify j fun e'=>{ e' with key:=.string k,val:=v }).toList=es.toList.set j { e with key:=.string k,val:=v }:=by
   rw [Array.toList_modify]
   apply List.ext_getElem?
   intro i
   rw [List.getElem?_modify,List.getElem?_set]
   by_cases hji:j=i
   ·subst hji
    simp [hjlt,hjget]
   ·simp [hji]
  have hkm:k∈ks.map (·.1):=by
   have:=look_some h1;exact List.mem_map.2 ⟨_,this,rfl⟩
  have hupd:∀ (l:List MapEntry) (ks:List (ByteArray × Value)) (j:Nat) (e:MapEntry),l.map (fun e=>(e.key,e.val))=ks.map (fun p=>(Value.string p.1,p.2))->(ks.map (·.1)).Nodup->l[j]?=some e->e.key=.string k ->
    (l.set j { e with key:=.string k,val:=v }).map (fun e=>(e.key,e.val))=(mupd k v ks).map (fun p=>(Value.string p.1,p.2)):=by
   intro l
   induction l with
   | nil=>intro ks j e _ _ hj; simp at hj
   | cons x l ih=>
    intro ks j e hk hn hj hek
    cases ks with
    | nil=>simp at hk
    | cons p ks=>
     simp only [List.map_cons,List.cons.injEq,Prod.mk.injEq] at hk;simp only [List.map_cons,List.nodup_cons] at hn
     cases j with
     | zero=>
      simp only [List.getElem?_cons_zero,Option.some.injEq] at hj;subst hj
      have hp:p.1=k:=by
       have:=hk.1.1.symm.trans hek
       injection this
      unfold mupd;simp [hp,hk.2]
     | succ j=>
      simp only [List.getElem?_cons_succ] at hj
      have hp:p.1≠k:=by
       intro hp
       have hm:(e.key,e.val)∈ks.map (fun p=>(Value.string p.1,p.2)):=hk.2 ▸ List.mem_map.2 ⟨e,List.mem_of_getElem? hj,rfl⟩;obtain ⟨q,hq,hqe⟩:=List.mem_map.1 hm;simp only [Prod.mk.injEq] at hqe
       have:q.1=k:=by
        have:=hqe.1.trans hek
        injection this
       exact hn.1 (by rw [hp,<- this]; exact List.mem_map.2 ⟨q,hq,rfl⟩)
      unfold mupd;simp only [hp,if_false,List.set_cons_succ,List.map_cons,List.cons.injEq];exact ⟨by rw [hk.1.1,hk.1.2],ih ks j e hk.2 hn.2 hj hek⟩
  have hbornS:((es.toList.set j { e with key:=.string k,val:=v }).map (·.born))=es.toList.map (·.born):=by
   rw [List.map_set]
   apply List.ext_getElem?
   intro i
   rw [List.getElem?_set]
   split
   ·rename_i hji
    subst hji;simp [hjlt,hjget]
   ·rfl
  have hR':MapRep (es.modify j fun e'=>{ e' with key:=.string k,val:=v }) clock (mupd k v ks):=by
   refine ⟨?_,upd_nodup R.nodup,?_,?_⟩
   ·rw [hmod]; exact hupd es.toList ks j e R.kv R.nodup hj hek
   ·rw [hmod,hbornS]; exact R.born
   ·intro x hx
    rw [hmod] at hx;rcases List.mem_or_eq_of_mem_set hx with hx | rfl
    ·exact R.lt x hx
    ·exact R.lt e (List.mem_of_getElem? hj)
  refine ⟨setBlock w b (.map (es.modify j fun e'=>{ e' with key:=.string k,val:=v }) clock),?_,⟨_,_,hset.1,hR'⟩,Only.set _ _,rfl,?_⟩
  ·simp [Instr.mapUpdate,run_underlying ht,MapKept.run_getObj_map hb,MapKept.run_checkKey hK (k:=.string k) trivial,h2,hjs,hek,MapKept.run_keyThatStays (d:=.string) (k:=.string k) trivial,MapKept.run_setObj_map _ hb,Result.andThen,setBlock]
  ·intro it left hit _
   have hne:=hit.ne;obtain ⟨es2,clock2,since,seen,c0,hb2,R2,hi,hold,hsc,hsk,hl⟩:=hit;rw [hb] at hb2
   injection hb2 with hb2
   injection hb2 with e1 e2
   subst e1; subst e2;refine ⟨_,_,since,seen,c0,hset.1,hR',(hset.2 it hne).trans hi,?_,hsc,hsk,?_⟩
   ·intro x hx
    rw [hmod] at hx;rcases List.mem_or_eq_of_mem_set hx with hx | rfl
    ·exact hold x hx
    ·exact hold e (List.mem_of_getElem? hj)
   ·rw [<- hl]
    simp only [leftOf,Array.toList_filter,hmod]
    have hkeyS:∀ (l:List MapEntry) (j:Nat),l[j]?=some e->((l.set j { e with key:=.string k,val:=v }).filter (fun x=>!seen.contains x.born)).map (·.key)=(l.filter (fun x=>!seen.contains x.born)).map (·.key):=by
     intro l
     induction l with
     | nil=>intro j hj; simp at hj
     | cons x l ih=>
      intro j hj
      cases j with
      | zero=>
       simp only [List.getElem?_cons_zero,Option.some.injEq] at hj;subst hj;simp only [List.set_cons_zero,List.filter_cons]
       split <;> simp [hek]
      | succ j=>
       simp only [List.getElem?_cons_succ] at hj;simp only [List.set_cons_succ,List.filter_cons]
       split
       ·simp only [List.map_cons,List.cons.injEq,true_and]; exact ih j hj
       ·exact ih j hj
    exact hkeyS es.toList j hj
end
inductive T where
 | null
 | bool (b:Bool)
 | int (n:Int)
 | text (s:ByteArray)
 | list (l:List T)
 | map (m:List (ByteArray × T))
 deriving Inhabited
mutual
def T.size:T->Nat
 | .list l=>1+T.sizeL l
 | .map m=>1+T.sizeM m
 | _=>1
def T.sizeL:List T->Nat
 | []=>0
 | t :: l=>T.size t+T.sizeL l
def T.sizeM:List (ByteArray × T)->Nat
 | []=>0
 | p :: m=>T.size p.2+T.sizeM m
end
mutual
def Own (w:World):T->Value->List Nat->Prop
 | .null,v,F=>v=.nilIface/\F=[]
 | .bool b,v,F=>v=.iface 4 (.bool b)/\F=[]
 | .int n,v,F=>v=.iface 3 (.int .i64 n)/\F=[]
 | .text s,v,F=>v=.iface 9 (.string s)/\F=[]
 | .list l,v,F=>∃ g cap cs F',v=.iface 76 (.slice (some ⟨g,0,none⟩) l.length cap)/\w.ownsRow 0 20 1 (.slice (some ⟨g,0,none⟩) l.length cap) l.length cs/\OwnL w l cs F'/\F=g :: F'
 | .map m,v,F=>∃ b ks F',v=.iface 50 (.map (some b))/\MapAt w b ks/\ks.length=m.length/\OwnM w m ks F'/\F=b :: F'
def OwnL (w:World):List T->List Value->List Nat->Prop
 | [],cs,F=>cs=[]/\F=[]
 | t :: l,cs,F=>∃ v r F1 F2,cs=v :: r/\Own w t v F1/\OwnL w l r F2/\F=F1++F2
def OwnM (w:World):List (ByteArray × T)->List (ByteArray × Value)->List Nat->Prop
 | [],_,F=>F=[]
 | p :: m,ks,F=>∃ v F1 F2,mlook p.1 ks=some v/\Own w p.2 v F1/\OwnM w m ks F2/\F=F1++F2
end
theorem ownsRow_lt {w:World} {base e size g n cap:Nat} {xs:List Value} (h:w.ownsRow base e size (.slice (some ⟨g,0,none⟩) n cap) n xs):g < w.heap.size:=(h.lt g rfl).2
theorem ownsRow_frame {w w':World} {base e size g n cap:Nat} {xs:List Value} (h:w.ownsRow base e size (.slice (some ⟨g,0,none⟩) n cap) n xs) (hf:w'.heap[g]?=w.heap[g]?):w'.ownsRow base e size (.slice (some ⟨g,0,none⟩) n cap) n xs:=by
 refine ⟨h.1,?_⟩
 rcases h.2 with ⟨h1,_⟩ | ⟨g',cap',cur,h1,hb,hh,rest⟩
 ·cases h1
 ·injection h1 with h1 h2 h3
  injection h1 with h1
  injection h1 with h1
  subst h1; subst h3;exact .inr ⟨g,cap,cur,rfl,hb,hf.trans hh,rest⟩
mutual
theorem Own.frame {w w':World}:∀ {t:T} {v:Value} {F:List Nat},Own w t v F->(∀ b∈F,w'.heap[b]?=w.heap[b]?)->Own w' t v F
 | .null,_,_,h,_=>h
 | .bool _,_,_,h,_=>h
 | .int _,_,_,h,_=>h
 | .text _,_,_,h,_=>h
 | .list l,v,F,h,hf=>by
  simp only [Own] at h ⊢;obtain ⟨g,cap,cs,F',rfl,hr,hl,rfl⟩:=h;exact ⟨g,cap,cs,F',rfl,ownsRow_frame hr (hf g (by simp)),hl.frame (fun b hb=>hf b (by simp [hb])),rfl⟩
 | .map m,v,F,h,hf=>by
  simp only [Own] at h ⊢;obtain ⟨b,ks,F',rfl,hm,hn,hl,rfl⟩:=h;exact ⟨b,ks,F',rfl,hm.frame (hf b (by simp)),hn,hl.frame (fun b hb=>hf b (by simp [hb])),rfl⟩
theorem OwnL.frame {w w':World}:∀ {l:List T} {cs:List Value} {F:List Nat},OwnL w l cs F->(∀ b∈F,w'.heap[b]?=w.heap[b]?)->OwnL w' l cs F
 | [],_,_,h,_=>h
 | t :: l,cs,F,h,hf=>by
  simp only [OwnL] at h ⊢;obtain ⟨v,r,F1,F2,rfl,h1,h2,rfl⟩:=h;exact ⟨v,r,F1,F2,rfl,h1.frame (fun b hb=>hf b (by simp [hb])),h2.frame (fun b hb=>hf b (by simp [hb])),rfl⟩
theorem OwnM.frame {w w':World}:∀ {m:List (ByteArray × T)} {ks:List (ByteArray × Value)} {F:List Nat},OwnM w m ks F->(∀ b∈F,w'.heap[b]?=w.heap[b]?)->OwnM w' m ks F
 | [],_,_,h,_=>h
 | p :: m,ks,F,h,hf=>by
  simp only [OwnM] at h ⊢;obtain ⟨v,F1,F2,hl,h1,h2,rfl⟩:=h;exact ⟨v,F1,F2,hl,h1.frame (fun b hb=>hf b (by simp [hb])),h2.frame (fun b hb=>hf b (by simp [hb])),rfl⟩
end
mutual
theorem Own.lt {w:World}:∀ {t:T} {v:Value} {F:List Nat},Own w t v F->∀ b∈F,b < w.heap.size
 | .null,_,_,h=>by simp only [Own] at h; simp [h.2]
 | .bool _,_,_,h=>by simp only [Own] at h; simp [h.2]
 | .int _,_,_,h=>by simp only [Own] at h; simp [h.2]
 | .text _,_,_,h=>by simp only [Own] at h; simp [h.2]
 | .list l,v,F,h=>by
  simp only [Own] at h;obtain ⟨g,cap,cs,F',rfl,hr,hl,rfl⟩:=h
  intro b hb
  rcases List.mem_cons.1 hb with rfl | hb
  ·exact ownsRow_lt hr
  ·exact hl.lt b hb
 | .map m,v,F,h=>by
  simp only [Own] at h;obtain ⟨b,ks,F',rfl,hm,hn,hl,rfl⟩:=h
  intro b' hb
  rcases List.mem_cons.1 hb with rfl | hb
  ·exact hm.lt
  ·exact hl.lt b' hb
theorem OwnL.lt {w:World}:∀ {l:List T} {cs:List Value} {F:List Nat},OwnL w l cs F->∀ b∈F,b < w.heap.size
 | [],_,_,h=>by simp only [OwnL] at h; simp [h.2]
 | t :: l,cs,F,h=>by
  simp only [OwnL] at h;obtain ⟨v,r,F1,F2,rfl,h1,h2,rfl⟩:=h
  intro b hb
  rcases List.mem_append.1 hb with hb | hb
  ·exact h1.lt b hb
  ·exact h2.lt b hb
theorem OwnM.lt {w:World}:∀ {m:List (ByteArray × T)} {ks:List (ByteArray × Value)} {F:List Nat},OwnM w m ks F->∀ b∈F,b < w.heap.size
 | [],_,_,h=>by simp only [OwnM] at h; simp [h]
 | p :: m,ks,F,h=>by
  simp only [OwnM] at h;obtain ⟨v,F1,F2,hl,h1,h2,rfl⟩:=h
  intro b hb
  rcases List.mem_append.1 hb with hb | hb
  ·exact h1.lt b hb
  ·exact h2.lt b hb
end
def blt (a b:ByteArray):Bool:=Op.bytesLess a.toList b.toList
def mins {α:Type} (k:ByteArray) (x:α):List (ByteArray × α)->List (ByteArray × α)
 | []=>[(k,x)]
 | p :: r=>if p.1=k then (k,x) :: r else if blt p.1 k then p :: mins k x r else (k,x) :: p :: r
def mrem {α:Type} (k:ByteArray) (m:List (ByteArray × α)):List (ByteArray × α):=m.filter (fun p=>decide (p.1≠k))
def mget {α:Type} (k:ByteArray):List (ByteArray × α)->Option α
 | []=>none
 | p :: r=>if p.1=k then some p.2 else mget k r
def Srt {α:Type} (m:List (ByteArray × α)):Prop:=m.Pairwise (fun p q=>blt p.1 q.1=true)
theorem bytesLess_irrefl:∀ l:List UInt8,Op.bytesLess l l=false
 | []=>rfl
 | a :: l=>by unfold Op.bytesLess; simp [bytesLess_irrefl l]
theorem blt_irrefl (a:ByteArray):blt a a=false:=bytesLess_irrefl _
theorem Srt.nodup {α:Type} {m:List (ByteArray × α)} (h:Srt m):(m.map (·.1)).Nodup:=
 List.Pairwise.map _ (fun a b hab e=>by rw [e,blt_irrefl] at hab; cases hab) h
theorem look_upd_ne {k x:ByteArray} {v:Value} {ks:List (ByteArray × Value)} (h:x≠k):mlook x (mupd k v ks)=mlook x ks:=by
 induction ks with
 | nil=>simp [mupd,mlook,Ne.symm h]
 | cons p r ih=>
  unfold mupd
  by_cases e:p.1=k
  ·simp only [e,if_true,mlook,Ne.symm h,if_false]
  ·simp only [e,if_false,mlook,ih]
theorem look_upd {k:ByteArray} {v:Value} {ks:List (ByteArray × Value)}:mlook k (mupd k v ks)=some v:=by
 induction ks with
 | nil=>simp [mupd,mlook]
 | cons p r ih=>
  unfold mupd
  by_cases e:p.1=k
  ·simp [e,mlook]
  ·simp only [e,if_false,mlook,ih]
theorem upd_same {k:ByteArray} {v:Value} {ks:List (ByteArray × Value)} (h:mlook k ks=some v):mupd k v ks=ks:=by
 induction ks with
 | nil=>simp [mlook] at h
 | cons p r ih=>
  unfold mlook at h;unfold mupd
  by_cases e:p.1=k
  ·simp only [e,if_true,Option.some.injEq] at h
   simp only [e,if_true];rw [<- h,<- e]
  ·simp only [e,if_false] at h
   simp only [e,if_false,ih h]
theorem upd_length_old {k:ByteArray} {v:Value} {ks:List (ByteArray × Value)} (h:k∈ks.map (·.1)):(mupd k v ks).length=ks.length:=by
 have:=congrArg List.length (upd_keys (v:=v) h)
 simpa using this
theorem upd_length_new {k:ByteArray} {v:Value} {ks:List (ByteArray × Value)} (h:k ∉ ks.map (·.1)):(mupd k v ks).length=ks.length+1:=by
 rw [upd_new h]; simp
theorem get_none {α:Type} {k:ByteArray} {m:List (ByteArray × α)}:mget k m=none ↔ k ∉ m.map (·.1):=by
 induction m with
 | nil=>simp [mget]
 | cons p r ih=>
  unfold mget
  by_cases h:p.1=k
  ·simp [h]
  ·simp only [h,if_false,ih,List.map_cons,List.mem_cons,not_or]
   exact ⟨fun h2=>⟨fun e=>h e.symm,h2⟩,fun h2=>h2.2⟩
theorem get_some {α:Type} {k:ByteArray} {x:α} {m:List (ByteArray × α)} (h:mget k m=some x):(k,x)∈m:=by
 induction m with
 | nil=>simp [mget] at h
 | cons p r ih=>
  unfold mget at h
  by_cases e:p.1=k
  ·simp only [e,if_true,Option.some.injEq] at h
   subst e; subst h;simp
  ·simp only [e,if_false] at h
   exact List.mem_cons_of_mem _ (ih h)
theorem rem_of_not {α:Type} {k:ByteArray} {m:List (ByteArray × α)} (h:k ∉ m.map (·.1)):mrem k m=m:=by
 unfold mrem
 refine List.filter_eq_self.2 fun p hp=>?_
 have:p.1≠k:=fun e=>h (e ▸ List.mem_map.2 ⟨p,hp,rfl⟩)
 simp [this]
theorem OwnM.take {w:World} {k:ByteArray} {t:T}:∀ {m:List (ByteArray × T)} {ks:List (ByteArray × Value)} {F:List Nat},OwnM w m ks F->(m.map (·.1)).Nodup->mget k m=some t ->
  ∃ v F0 Fr,mlook k ks=some v/\Own w t v F0/\OwnM w (mrem k m) ks Fr/\F.Perm (F0++Fr)
 | [],_,_,_,_,hg=>by simp [mget] at hg
 | p :: m,ks,F,h,hn,hg=>by
  simp only [OwnM] at h;obtain ⟨v,F1,F2,hl,h1,h2,rfl⟩:=h;simp only [List.map_cons,List.nodup_cons] at hn;unfold mget at hg
  by_cases e:p.1=k
  ·simp only [e,if_true,Option.some.injEq] at hg
   subst hg;refine ⟨v,F1,F2,e ▸ hl,h1,?_,List.Perm.refl _⟩
   have:mrem k (p :: m)=m:=by
    unfold mrem;rw [List.filter_cons_of_neg (by simp [e])];exact rem_of_not (by rw [<- e]; exact hn.1)
   rw [this]; exact h2
  ·simp only [e,if_false] at hg
   obtain ⟨v',F0,Fr,hl',ho,hr,hp⟩:=h2.take hn.2 hg;refine ⟨v',F0,F1++Fr,hl',ho,?_,?_⟩
   ·have:mrem k (p :: m)=p :: mrem k m:=by
     unfold mrem;rw [List.filter_cons_of_pos (by simp [e])]
    rw [this];simp only [OwnM];exact ⟨v,F1,Fr,hl,h1,hr,rfl⟩
   ·exact (hp.append_left F1).trans (by rw [<- List.append_assoc,<- List.append_assoc]; exact List.perm_append_comm.append_right _)
theorem OwnM.upd_other {w:World} {k:ByteArray} {v:Value}:∀ {m:List (ByteArray × T)} {ks:List (ByteArray × Value)} {F:List Nat},OwnM w m ks F->k ∉ m.map (·.1)->OwnM w m (mupd k v ks) F
 | [],_,_,h,_=>h
 | p :: m,ks,F,h,hk=>by
  simp only [OwnM] at h ⊢;obtain ⟨v',F1,F2,hl,h1,h2,rfl⟩:=h;simp only [List.map_cons,List.mem_cons,not_or] at hk;exact ⟨v',F1,F2,by rw [look_upd_ne (Ne.symm hk.1)]; exact hl,h1,h2.upd_other hk.2,rfl⟩
theorem OwnM.put {w:World} {k:ByteArray} {t:T} {v:Value} {Fv:List Nat} (hv:Own w t v Fv):∀ {m:List (ByteArray × T)} {ks:List (ByteArray × Value)} {Fr:List Nat},OwnM w (mrem k m) ks Fr->Srt m ->
  ∃ F,OwnM w (mins k t m) (mupd k v ks) F/\F.Perm (Fv++Fr)
 | [],ks,Fr,h,_=>by
  simp only [mrem,List.filter_nil,OwnM] at h;subst h;exact ⟨Fv++[],by simp only [mins,OwnM]; exact ⟨v,Fv,[],look_upd,hv,rfl,rfl⟩,List.Perm.refl _⟩
 | p :: m,ks,Fr,h,hs=>by
  have hn:=hs.nodup;simp only [List.map_cons,List.nodup_cons] at hn;have hs2:=(List.pairwise_cons.1 hs).2;unfold mins
  by_cases e:p.1=k
  ·simp only [e,if_true]
   have hr:mrem k (p :: m)=m:=by
    unfold mrem;rw [List.filter_cons_of_neg (by simp [e])];exact rem_of_not (by rw [<- e]; exact hn.1)
   rw [hr] at h;refine ⟨Fv++Fr,?_,List.Perm.refl _⟩;simp only [OwnM];exact ⟨v,Fv,Fr,look_upd,hv,h.upd_other (by rw [<- e]; exact hn.1),rfl⟩
  ·simp only [e,if_false]
   have hr:mrem k (p :: m)=p :: mrem k m:=by
    unfold mrem;rw [List.filter_cons_of_pos (by simp [e])]
   rw [hr] at h
   have hk:k ∉ (p :: mrem k m).map (·.1):=by
    intro hm
    obtain ⟨q,hq,hqk⟩:=List.mem_map.1 hm;rcases List.mem_cons.1 hq with rfl | hq
    ·exact e hqk
    ·simp [mrem] at hq
     exact hq.2 hqk
   by_cases b:blt p.1 k=true
   ·simp only [b,if_true]
    simp only [OwnM] at h;obtain ⟨v',F1,F2,hl,h1,h2,rfl⟩:=h;obtain ⟨F,hF,hp⟩:=OwnM.put hv h2 hs2;refine ⟨F1++F,?_,?_⟩
    ·simp only [OwnM]
     exact ⟨v',F1,F,by rw [look_upd_ne e]; exact hl,h1,hF,rfl⟩
    ·exact (hp.append_left F1).trans (by rw [<- List.append_assoc,<- List.append_assoc]; exact List.perm_append_comm.append_right _)
   ·simp only [b,Bool.false_eq_true,if_false]
    by_cases hmem:k∈m.map (·.1)
    ·obtain ⟨q,hq,hqk⟩:=List.mem_map.1 hmem
     exact absurd (hqk ▸ (List.pairwise_cons.1 hs).1 q hq) b
    ·rw [rem_of_not hmem] at h
     refine ⟨Fv++Fr,?_,List.Perm.refl _⟩;have h':=h.upd_other (v:=v) (by rw [<- rem_of_not hmem]; exact hk);simp only [OwnM] at h' ⊢;exact ⟨v,Fv,Fr,look_upd,hv,h',rfl⟩
theorem bytesLess_trans:∀ {a b c:List UInt8},Op.bytesLess a b=true->Op.bytesLess b c=true->Op.bytesLess a c=true
 | _,[],_,h,_=>by cases ‹List UInt8› <;> simp [Op.bytesLess] at h
 | _,_ :: _,[],_,h=>by simp [Op.bytesLess] at h
 | [],_ :: _,_ :: _,_,_=>rfl
 | x :: a,y :: b,z :: c,h1,h2=>by
  simp only [Op.bytesLess,Bool.or_eq_true,decide_eq_true_eq,Bool.and_eq_true,beq_iff_eq] at h1 h2 ⊢
  rcases h1 with h1 | ⟨rfl,h1⟩
  ·rcases h2 with h2 | ⟨rfl,h2⟩
   ·exact .inl (UInt8.lt_trans h1 h2)
   ·exact .inl h1
  ·rcases h2 with h2 | ⟨rfl,h2⟩
   ·exact .inl h2
   ·exact .inr ⟨rfl,bytesLess_trans h1 h2⟩
theorem bytesLess_total:∀ (a b:List UInt8),a≠b->Op.bytesLess a b=true∨Op.bytesLess b a=true
 | [],[],h=>absurd rfl h
 | [],_ :: _,_=>.inl rfl
 | _ :: _,[],_=>.inr rfl
 | x :: a,y :: b,h=>by
  simp only [Op.bytesLess,Bool.or_eq_true,decide_eq_true_eq,Bool.and_eq_true,beq_iff_eq]
  by_cases e:x=y
  ·subst e
   have hab:a≠b:=fun e=>h (by rw [e])
   rcases bytesLess_total a b hab with h | h
   ·exact .inl (.inr ⟨rfl,h⟩)
   ·exact .inr (.inr ⟨rfl,h⟩)
  ·rcases UInt8.lt_or_lt_of_ne e with h | h
   ·exact .inl (.inl h)
   ·exact .inr (.inl h)
theorem toList_inj {a b:ByteArray} (h:a.toList=b.toList):a=b:=by
 rw [ByteArray.toList_eq,ByteArray.toList_eq] at h;exact WideShapes.bytes_inj h
theorem blt_trans {a b c:ByteArray} (h1:blt a b=true) (h2:blt b c=true):blt a c=true:=bytesLess_trans h1 h2
theorem blt_total {a b:ByteArray} (h:a≠b):blt a b=true∨blt b a=true:=bytesLess_total _ _ (fun e=>h (toList_inj e))
theorem blt_asymm {a b:ByteArray} (h:blt a b=true):blt b a=false:=by
 cases hb:blt b a
 ·rfl
 ·have:=blt_trans h hb
  rw [blt_irrefl] at this
  cases this
section
variable {α:Type}
theorem Srt.tail {p:ByteArray × α} {m:List (ByteArray × α)} (h:Srt (p :: m)):Srt m:=(List.pairwise_cons.1 h).2
theorem Srt.head {p:ByteArray × α} {m:List (ByteArray × α)} (h:Srt (p :: m)):∀ q∈m,blt p.1 q.1=true:=(List.pairwise_cons.1 h).1
theorem mem_ins {k:ByteArray} {x:α}:∀ {m:List (ByteArray × α)} {q:ByteArray × α},q∈mins k x m->q=(k,x)∨q∈m
 | [],q,h=>by simp [mins] at h; exact .inl h
 | p :: m,q,h=>by
  unfold mins at h
  split at h
  ·rcases List.mem_cons.1 h with h | h
   ·exact .inl h
   ·exact .inr (List.mem_cons_of_mem _ h)
  ·split at h
   ·rcases List.mem_cons.1 h with h | h
    ·exact .inr (h ▸ List.mem_cons_self)
    ·rcases mem_ins h with h | h
     ·exact .inl h
     ·exact .inr (List.mem_cons_of_mem _ h)
   ·rcases List.mem_cons.1 h with h | h
    ·exact .inl h
    ·exact .inr h
theorem Srt.srt_ins {k:ByteArray} {x:α}:∀ {m:List (ByteArray × α)},Srt m->Srt (mins k x m)
 | [],_=>by simp [mins,Srt]
 | p :: m,h=>by
  unfold mins
  split
  ·rename_i e
   exact List.pairwise_cons.2 ⟨fun q hq=>by have:=h.head q hq; rwa [e] at this,h.tail⟩
  ·rename_i e
   split
   ·rename_i b
    refine List.pairwise_cons.2 ⟨fun q hq=>?_,h.tail.srt_ins⟩;rcases mem_ins hq with rfl | hq
    ·exact b
    ·exact h.head q hq
   ·rename_i b
    have hkp:blt k p.1=true:=by
     rcases blt_total (fun e'=>e e'.symm:k≠p.1) with h' | h'
     ·exact h'
     ·exact absurd h' b
    refine List.pairwise_cons.2 ⟨fun q hq=>?_,h⟩;rcases List.mem_cons.1 hq with rfl | hq
    ·exact hkp
    ·exact blt_trans hkp (h.head q hq)
theorem get_ins {k:ByteArray} {x:α}:∀ {m:List (ByteArray × α)},mget k (mins k x m)=some x
 | []=>by simp [mins,mget]
 | p :: m=>by
  unfold mins
  split
  ·simp [mget]
  ·rename_i e
   split
   ·simp [mget,e,get_ins]
   ·simp [mget]
theorem get_ins_ne {k y:ByteArray} {x:α} (h:y≠k):∀ {m:List (ByteArray × α)},mget y (mins k x m)=mget y m
 | []=>by simp [mins,mget,Ne.symm h]
 | p :: m=>by
  unfold mins
  split
  ·rename_i e
   simp [mget,Ne.symm h,e]
  ·split
   ·simp [mget,get_ins_ne h]
   ·simp [mget,Ne.symm h]
theorem get_rem {k:ByteArray} {m:List (ByteArray × α)}:mget k (mrem k m)=none:=by
 refine get_none.2 fun hm=>?_
 obtain ⟨q,hq,e⟩:=List.mem_map.1 hm;simp [mrem] at hq;exact hq.2 e
theorem get_rem_ne {k y:ByteArray} (h:y≠k):∀ {m:List (ByteArray × α)},mget y (mrem k m)=mget y m
 | []=>rfl
 | p :: m=>by
  unfold mrem
  by_cases e:p.1=k
  ·rw [List.filter_cons_of_neg (by simp [e])]
   have:p.1≠y:=fun e'=>h (e'.symm.trans e)
   show mget y (mrem k m)=_;rw [get_rem_ne h];simp [mget,this]
  ·rw [List.filter_cons_of_pos (by simp [e])]
   show mget y (p :: mrem k m)=_;simp only [mget,get_rem_ne h]
theorem Srt.ext:∀ {m n:List (ByteArray × α)},Srt m->Srt n->(∀ k,mget k m=mget k n)->m=n
 | [],[],_,_,_=>rfl
 | [],q :: n,_,_,h=>by have:=h q.1; simp [mget] at this
 | p :: m,[],_,_,h=>by have:=h p.1; simp [mget] at this
 | p :: m,q :: n,hm,hn,h=>by
  have hpq:p.1=q.1:=by
   by_cases e:p.1=q.1
   ·exact e
   ·exfalso
    rcases blt_total e with b | b
    ·have h1:=h p.1
     simp only [mget,if_true,Ne.symm e,if_false] at h1
     have h2:mget p.1 n=none:=get_none.2 fun hmem=>by
      obtain ⟨r,hr,e'⟩:=List.mem_map.1 hmem;have:=hn.head r hr;rw [e'] at this;rw [blt_asymm b] at this
      cases this
     rw [h2] at h1
     cases h1
    ·have h1:=h q.1
     simp only [mget,if_true,e,if_false] at h1
     have h2:mget q.1 m=none:=get_none.2 fun hmem=>by
      obtain ⟨r,hr,e'⟩:=List.mem_map.1 hmem;have:=hm.head r hr;rw [e'] at this;rw [blt_asymm b] at this
      cases this
     rw [h2] at h1
     cases h1
  have hv:p.2=q.2:=by
   have:=h p.1;simp only [mget,if_true,hpq] at this
   injection this
  have ht:m=n:=by
   refine Srt.ext hm.tail hn.tail fun k=>?_
   by_cases e:p.1=k
   ·rw [get_none.2,get_none.2]
    ·intro hmem
     obtain ⟨r,hr,e'⟩:=List.mem_map.1 hmem;have:=hn.head r hr;rw [e',<- e,<- hpq,blt_irrefl] at this
     cases this
    ·intro hmem
     obtain ⟨r,hr,e'⟩:=List.mem_map.1 hmem;have:=hm.head r hr;rw [e',<- e,blt_irrefl] at this
     cases this
   ·have:=h k
    have e2:q.1≠k:=fun e2=>e (hpq.trans e2)
    simpa only [mget,e,e2,if_false] using this
  rw [ht,Prod.ext hpq hv]
end
structure Chg (F:List Nat) (w w':World):Prop where
 os:w'.os=w.os
 tape:w'.tape=w.tape
 output:w'.output=w.output
 size:w.heap.size<=w'.heap.size
 block:∀ i,i < w.heap.size->i ∉ F->w'.heap[i]?=w.heap[i]?
def New (w:World) (F F':List Nat):Prop:=∀ x∈F',x∈F∨w.heap.size<=x
theorem New.refl (w:World) (F:List Nat):New w F F:=fun _ h=>.inl h
theorem New.trans {w w1:World} {F G H:List Nat} (h1:New w F G) (h2:New w1 G H) (hs:w.heap.size<=w1.heap.size):New w F H:=fun x hx=>by
 rcases h2 x hx with h | h
 ·exact h1 x h
 ·exact .inr (by omega)
theorem New.sub {w:World} {F G H:List Nat} (h1:New w F G) (h:∀ x∈H,x∈G):New w F H:=fun x hx=>h1 x (h x hx)
theorem New.cons {w:World} {F G:List Nat} {b:Nat} (hb:b∈F∨w.heap.size<=b) (h:New w F G):New w F (b :: G):=fun x hx=>by
 rcases List.mem_cons.1 hx with rfl | hx
 ·exact hb
 ·exact h x hx
theorem New.append {w:World} {F G H:List Nat} (h1:New w F G) (h2:New w F H):New w F (G++H):=fun x hx=>by
 rcases List.mem_append.1 hx with hx | hx
 ·exact h1 x hx
 ·exact h2 x hx
theorem New.nil {w:World} {F:List Nat}:New w F []:=fun x hx=>by cases hx
theorem New.mono {w:World} {F F' G:List Nat} (h:New w F G) (hs:∀ x∈F,x∈F'):New w F' G:=fun x hx=>(h x hx).imp (hs x) id
theorem Chg.refl (F:List Nat) (w:World):Chg F w w:=⟨rfl,rfl,rfl,Nat.le_refl _,fun _ _ _=>rfl⟩
theorem Chg.trans {F G:List Nat} {w w1 w2:World} (h1:Chg F w w1) (h2:Chg G w1 w2) (hn:New w F G):Chg F w w2:=
 ⟨h2.os.trans h1.os,h2.tape.trans h1.tape,h2.output.trans h1.output,Nat.le_trans h1.size h2.size,fun i hi hF=>
  (h2.block i (Nat.lt_of_lt_of_le hi h1.size) (fun hg=>by
   rcases hn i hg with h | h
   ·exact hF h
   ·omega)).trans (h1.block i hi hF)⟩
theorem Chg.mono {F G:List Nat} {w w':World} (h:Chg F w w') (hs:∀ x∈F,x∈G):Chg G w w':=
 ⟨h.os,h.tape,h.output,h.size,fun i hi hG=>h.block i hi (fun hf=>hG (hs i hf))⟩
theorem Chg.only {F:List Nat} {w w':World} {b:Nat} (h:Only w w' b) (hb:b∈F):Chg F w w':=
 ⟨h.os,h.tape,h.output,Nat.le_of_eq h.size.symm,fun i _ hF=>h.block i (fun e=>hF (e ▸ hb))⟩
theorem Chg.alloc (F:List Nat) (w:World) (o:Obj):Chg F w (w.alloc o):=
 ⟨rfl,rfl,rfl,by simp,fun i hi _=>(MapKept.heap_alloc w o).2 i hi⟩
instance:LawfulBEq ByteArray where
 eq_of_beq h:=(MapKept.bytes_beq _ _).1 h
 rfl:=(MapKept.bytes_beq _ _).2 rfl
theorem Chg.drewN (F:List Nat) (w:World) (n:Nat):Chg F w (w.drewN n):=⟨rfl,rfl,rfl,Nat.le_refl _,fun _ _ _=>rfl⟩
theorem Chg.drew (F:List Nat) (w:World):Chg F w w.drew:=⟨rfl,rfl,rfl,Nat.le_refl _,fun _ _ _=>rfl⟩
theorem Chg.keep {F:List Nat} {w w':World} (h:Chg F w w') {G:List Nat} (hlt:∀ b∈G,b < w.heap.size) (hd:∀ b∈G,b ∉ F):∀ b∈G,w'.heap[b]?=w.heap[b]?:=
 fun b hb=>h.block b (hlt b hb) (hd b hb)
def Res (F:List Nat) (w:World) (t:T) (v:Value) (w':World):Prop:=∃ F',Own w' t v F'/\F'.Nodup/\New w F F'/\Chg F w w'
theorem subset_of_length:∀ {l l':List ByteArray},l.Nodup->l'.Nodup->l.length=l'.length->(∀ x∈l,x∈l')->∀ x∈l',x∈l
 | [],l',_,_,hl,_,x,hx=>by
  have:l'=[]:=List.eq_nil_of_length_eq_zero (by simpa using hl.symm);rw [this] at hx
  cases hx
 | a :: l,l',hn,hn',hl,hs,x,hx=>by
  have ha:a∈l':=hs a (by simp);have hp:=del_perm ha;have hnd:(a :: mdel a l').Nodup:=hp.nodup hn';have hlen:=del_length ha;obtain ⟨h1,h2⟩:=List.nodup_cons.1 hn;rcases List.mem_cons.1 (hp.mem_iff.1 hx) with rfl | hx
  ·simp
  ·refine List.mem_cons_of_mem _ (subset_of_length h2 (List.nodup_cons.1 hnd).2 (by simp at hl; omega) (fun y hy=>?_) x hx)
   rcases List.mem_cons.1 (hp.mem_iff.1 (hs y (List.mem_cons_of_mem _ hy))) with rfl | h
   ·exact absurd hy h1
   ·exact h
theorem OwnM.has {w:World}:∀ {m:List (ByteArray × T)} {ks:List (ByteArray × Value)} {F:List Nat},OwnM w m ks F->∀ k∈m.map (·.1),k∈ks.map (·.1)
 | [],_,_,_,k,hk=>by simp at hk
 | p :: m,ks,F,h,k,hk=>by
  simp only [OwnM] at h;obtain ⟨v,F1,F2,hl,h1,h2,rfl⟩:=h;simp only [List.map_cons,List.mem_cons] at hk;rcases hk with rfl | hk
  ·exact List.mem_map.2 ⟨_,look_some hl,rfl⟩
  ·exact h2.has k hk
theorem OwnM.keys {w:World} {m:List (ByteArray × T)} {ks:List (ByteArray × Value)} {F:List Nat} (h:OwnM w m ks F) (hm:(m.map (·.1)).Nodup) (hk:(ks.map (·.1)).Nodup) (hl:ks.length=m.length):∀ k,k∈ks.map (·.1) ↔ k∈m.map (·.1):=
 fun k=>⟨fun hx=>subset_of_length hm hk (by simpa using hl.symm) h.has k hx,fun hx=>h.has k hx⟩
def stM (f:ByteArray->T->T) (left:List ByteArray) (m:List (ByteArray × T)):List (ByteArray × T):=m.map (fun p=>if p.1∈left then p else (p.1,f p.1 p.2))
theorem stM_keys (f:ByteArray->T->T) (left:List ByteArray) (m:List (ByteArray × T)):(stM f left m).map (·.1)=m.map (·.1):=by
 unfold stM;rw [List.map_map]
 apply List.map_congr_left
 intro p _
 simp only [Function.comp]
 split <;> rfl
theorem stM_srt {f:ByteArray->T->T} {left:List ByteArray} {m:List (ByteArray × T)} (h:Srt m):Srt (stM f left m):=by
 unfold Srt stM at *;rw [List.pairwise_map];refine List.Pairwise.imp ?_ h
 intro a b hab
 split <;> split <;> exact hab
theorem stM_all {f:ByteArray->T->T} {left:List ByteArray} {m:List (ByteArray × T)} (h:∀ p∈m,p.1∈left):stM f left m=m:=by
 unfold stM;have:m.map (fun p=>if p.1∈left then p else (p.1,f p.1 p.2))=m.map id:=List.map_congr_left (fun p hp=>by simp [h p hp]);rw [this,List.map_id]
theorem stM_none {f:ByteArray->T->T} {m:List (ByteArray × T)}:stM f [] m=m.map (fun p=>(p.1,f p.1 p.2)):=by
 unfold stM;exact List.map_congr_left (fun p _=>by simp)
theorem stM_get {f:ByteArray->T->T} {left:List ByteArray} {k:ByteArray} (hk:k∈left):∀ {m:List (ByteArray × T)},mget k (stM f left m)=mget k m
 | []=>rfl
 | p :: m=>by
  show mget k ((if p.1∈left then p else (p.1,f p.1 p.2)) :: stM f left m)=_
  by_cases e:p.1=k
  ·simp [mget,e,hk]
  ·have:(if p.1∈left then p else (p.1,f p.1 p.2)).1=p.1:=by split <;> rfl
   simp only [mget,this,e,if_false,stM_get hk]
theorem stM_del {f:ByteArray->T->T} {left:List ByteArray} {k:ByteArray} {t:T} (hn:left.Nodup) (hk:k∈left):∀ {m:List (ByteArray × T)},Srt m->mget k m=some t->mins k (f k t) (stM f left m)=stM f (mdel k left) m
 | [],_,h=>by simp [mget] at h
 | p :: m,hs,h=>by
  have hmem:∀ x,x∈mdel k left ↔ x∈left/\x≠k:=by
   intro x
   have hp:=del_perm hk;have hn':(k :: mdel k left).Nodup:=hp.nodup hn
   constructor
   ·intro hx
    refine ⟨mem_of_del hx,fun e=>?_⟩;subst e;exact (List.nodup_cons.1 hn').1 hx
   ·rintro ⟨hx,hne⟩
    have:=hp.mem_iff.1 hx;rcases List.mem_cons.1 this with h | h
    ·exact absurd h hne
    ·exact h
  show mins k (f k t) ((if p.1∈left then p else (p.1,f p.1 p.2)) :: stM f left m)=(if p.1∈mdel k left then p else (p.1,f p.1 p.2)) :: stM f (mdel k left) m
  have h1:(if p.1∈left then p else (p.1,f p.1 p.2)).1=p.1:=by split <;> rfl
  unfold mins;rw [h1]
  by_cases e:p.1=k
  ·have ht:t=p.2:=by
    unfold mget at h;rw [if_pos e] at h
    injection h with h
    exact h.symm
   have hnd:p.1 ∉ mdel k left:=fun hx=>((hmem _).1 hx).2 e
   rw [if_pos e,if_neg hnd,ht,<- e]
   congr 1
   unfold stM
   refine List.map_congr_left fun q hq=>?_
   have hqk:q.1≠k:=by
    intro hqk
    have:=hs.head q hq;rw [e,hqk,blt_irrefl] at this
    cases this
   have:(q.1∈left) ↔ (q.1∈mdel k left):=by rw [hmem]; exact ⟨fun h=>⟨h,hqk⟩,fun h=>h.1⟩
   rw [<- e] at this;simp only [this]
  ·have hgm:mget k m=some t:=by
    unfold mget at h;rw [if_neg e] at h;exact h
   have hb:blt p.1 k=true:=by
    have:=hs.head _ (get_some hgm);exact this
   rw [if_neg e,if_pos hb]
   have:(p.1∈left) ↔ (p.1∈mdel k left):=by rw [hmem]; exact ⟨fun h=>⟨h,e⟩,fun h=>h.1⟩
   rw [stM_del hn hk hs.tail hgm];simp only [this]
structure RM (w:World) (F0:List Nat) (it bt:Nat) (tl:List (ByteArray × T)) (f:ByteArray->T->T) (left:List ByteArray) (wr:World):Prop where
 nodup:left.Nodup
 mem:∀ k∈left,k∈tl.map (·.1)
 new:w.heap.size<=it
 chg:Chg F0 w wr
 own:∃ ks Fs,IterAt wr it bt ks left/\ks.length=tl.length/\OwnM wr (stM f left tl) ks Fs/\(it :: bt :: Fs).Nodup/\New w F0 (bt :: Fs)
structure RH (w:World) (F0:List Nat) (it bt:Nat) (tl:List (ByteArray × T)) (f:ByteArray->T->T) (left:List ByteArray) (k:ByteArray) (v:Value) (F1:List Nat) (wr:World):Prop where
 nodup:left.Nodup
 mem:∀ k∈left,k∈tl.map (·.1)
 isin:k∈left
 new:w.heap.size<=it
 chg:Chg F0 w wr
 own:∃ ks Fr,IterAt wr it bt ks (mdel k left)/\ks.length=tl.length/\mlook k ks=some v/\OwnM wr (mrem k (stM f left tl)) ks Fr/\(it :: bt :: (F1++Fr)).Nodup/\New w F0 (bt :: (F1++Fr))
section
variable {P:Program} {w:World} {F0:List Nat} {it bt:Nat} {tl:List (ByteArray × T)} {f:ByteArray->T->T} {left:List ByteArray} {wr:World}
theorem RM.start {K E t:TypeId} (ht:P.underlying t=some (.map K E)) (h:Own w (.map tl) (.iface 50 (.map (some bt))) F0) (hn:F0.Nodup) (hs:Srt tl) (f:ByteArray->T->T) :
  ∃ w1 left,(Instr.range t (.map (some bt))).run P w=.ok (.pointer (some ⟨w.heap.size,0,none⟩)) w1/\left.length=tl.length/\(∀ k,k∈left ↔ k∈tl.map (·.1))/\RM w F0 w.heap.size bt tl f left w1:=by
 simp only [Own] at h;obtain ⟨b,ks,F',hv,hm,hl,ho,rfl⟩:=h
 injection hv with _ hv
 injection hv with hv
 injection hv with hv
 subst hv;obtain ⟨w1,hrun,hit,o,rfl⟩:=run_range (P:=P) hm ht;have hmlt:=hm.lt;have hkeys:=ho.keys hs.nodup hm.nodup hl;refine ⟨_,ks.map (·.1),hrun,by simpa using hl,hkeys,hm.nodup,fun k hk=>(hkeys k).1 hk,Nat.le_refl _,Chg.alloc _ _ _,ks,F',hit,hl,?_,?_,New.refl _ _⟩
 ·rw [stM_all (fun p hp=>(hkeys p.1).2 (List.mem_map.2 ⟨p,hp,rfl⟩))]
  exact ho.frame (fun b hb=>(MapKept.heap_alloc w o).2 b (ho.lt b hb))
 ·refine List.nodup_cons.2 ⟨?_,hn⟩
  intro hmem
  rcases List.mem_cons.1 hmem with e | hmem
  ·omega
  ·exact absurd (ho.lt _ hmem) (Nat.lt_irrefl _)
theorem RM.next (h:RM w F0 it bt tl f left wr) (hs:Srt tl) (ty:TypeId) :
  (left=[]/\(Instr.next (.pointer (some ⟨it,0,none⟩)) false ty).run P wr=.ok (.tuple #[.bool false]) wr) ∨
  ∃ k v w1 t F1,k∈left/\mget k tl=some t/\(Instr.next (.pointer (some ⟨it,0,none⟩)) false ty).run P wr=.ok (.tuple #[.bool true,.string k,v]) w1 /\
   (Instr.entry (.pointer (some ⟨it,0,none⟩))).run P w1=.ok (.tuple #[.string k,v]) w1/\Own w1 t v F1/\F1.Nodup/\RH w F0 it bt tl f left k v F1 w1:=by
 obtain ⟨hnd,hmem,hnew,hchg,ks,Fs,hit,hl,ho,hn,hN⟩:=h
 rcases run_next (P:=P) hit ty with ⟨h0,hrun⟩ | ⟨k,v,w1,hk,hlk,hrun,hit',hon,hent⟩
 ·exact .inl ⟨h0,hrun⟩
 ·right
  have hkt:k∈tl.map (·.1):=hmem k hk
  obtain ⟨t,ht⟩ : ∃ t,mget k tl=some t:=by
   cases hg:mget k tl with
   | none=>exact absurd hkt (get_none.1 hg)
   | some t=>exact ⟨t,rfl⟩
  have hkeysn:((stM f left tl).map (·.1)).Nodup:=by rw [stM_keys]; exact hs.nodup
  obtain ⟨v',F1,Fr,hv',h1,hr,hp⟩:=ho.take hkeysn (by rw [stM_get hk]; exact ht)
  have:v'=v:=by rw [hlk] at hv'; injection hv' with hv'; exact hv'.symm
  subst this;have hn':(it :: bt :: (F1++Fr)).Nodup:=((hp.cons bt).cons it).nodup hn;have hN':New w F0 (bt :: (F1++Fr)):=hN.sub (fun x hx=>((hp.cons bt).mem_iff).2 hx);have hitn:=(List.nodup_cons.1 hn').1;simp only [List.mem_cons,List.mem_append,not_or] at hitn;have hF1:Own w1 t v' F1:=h1.frame (fun b hb=>hon.block b (fun e=>hitn.2.1 (e ▸ hb)));have hFr:OwnM w1 (mrem k (stM f left tl)) ks Fr:=hr.frame (fun b hb=>hon.block b (fun e=>hitn.2.2 (e ▸ hb)));refine ⟨k,v',w1,t,F1,hk,ht,hrun,hent w1 rfl rfl,hF1,?_,hnd,hmem,hk,hnew,?_,ks,Fr,hit',hl,hlk,hFr,hn',hN'⟩
  ·have h2:=(List.nodup_cons.1 (List.nodup_cons.1 hn').2).2
   exact (List.nodup_append.1 h2).1
  ·exact hchg.trans (Chg.only hon (List.mem_singleton.2 rfl)) (fun x hx=>by
    rw [List.mem_singleton.1 hx]; exact .inr hnew)
theorem RH.frame {k:ByteArray} {v:Value} {F1:List Nat} {w1 w2:World} (h:RH w F0 it bt tl f left k v F1 w1) (hc:Chg F1 w1 w2):RH w F0 it bt tl f left k v F1 w2:=by
 obtain ⟨hnd,hmem,hin,hnew,hchg,ks,Fr,hit,hl,hlk,ho,hn,hN⟩:=h;simp only [List.nodup_cons,List.mem_cons,List.mem_append,not_or] at hn;have hbt:bt < w1.heap.size:=hit.map.lt;have hitl:it < w1.heap.size:=hit.lt;refine ⟨hnd,hmem,hin,hnew,hchg.trans hc (hN.sub (fun x hx=>by simp [hx])),ks,Fr,hit.frame (hc.block bt hbt hn.2.1.1) (hc.block it hitl hn.1.2.1),hl,hlk,?_,by simp only [List.nodup_cons,List.mem_cons,List.mem_append,not_or]; exact hn,hN⟩
 refine ho.frame fun b hb=>hc.block b (ho.lt b hb) (fun hb1=>?_)
 exact (List.nodup_append.1 hn.2.2).2.2 b hb1 b hb rfl
theorem RH.put {K E ty:TypeId} (ht:P.underlying ty=some (.map K E)) (hK:P.underlying K=some .string) {k:ByteArray} {v v':Value} {t:T} {F1 F2:List Nat} {w1 w2:World} (hs:Srt tl) (hg:mget k tl=some t)
  (h:RH w F0 it bt tl f left k v F1 w1) (hc:Chg F1 w1 w2) (ho2:Own w2 (f k t) v' F2) (hn2:F2.Nodup) (hN2:New w1 F1 F2) :
  ∃ w3,(Instr.mapUpdate ty (.map (some bt)) (.string k) v').run P w2=.ok () w3/\RM w F0 it bt tl f (mdel k left) w3:=by
 obtain ⟨hnd,hmem,hin,hnew,hchg,ks,Fr,hit,hl,hlk,hof,hn,hN⟩:=h;simp only [List.nodup_cons,List.mem_cons,List.mem_append,not_or] at hn;have hbt:bt < w1.heap.size:=hit.map.lt;have hitl:it < w1.heap.size:=hit.lt;have hit2:IterAt w2 it bt ks (mdel k left):=hit.frame (hc.block bt hbt hn.2.1.1) (hc.block it hitl hn.1.2.1)
 have hFrd:∀ b∈Fr,b ∉ F1:=fun b hb hb1=>(List.nodup_append.1 hn.2.2).2.2 b hb1 b hb rfl
 have hof2:OwnM w2 (mrem k (stM f left tl)) ks Fr:=hof.frame fun b hb=>hc.block b (hof.lt b hb) (hFrd b hb)
 have hkm:k∈ks.map (·.1):=List.mem_map.2 ⟨_,look_some hlk,rfl⟩;obtain ⟨w3,hrun,hm3,hon,_,hiter⟩:=run_update (P:=P) hit2.map ht hK k v';have hput:=OwnM.put ho2 hof2 (stM_srt hs);rw [stM_del hnd hin hs hg] at hput;obtain ⟨F,hF,hp⟩:=hput
 have far:∀ b,b < w1.heap.size->b ∉ F1->b ∉ F2:=fun b hb hb1 hb2=>by
  rcases hN2 b hb2 with h | h
  ·exact hb1 h
  ·omega
 have hFn:F.Nodup:=hp.symm.nodup (List.nodup_append.2 ⟨hn2,(List.nodup_append.1 hn.2.2).2.1,fun a ha b hb e=>by
  subst e
  exact far a (hof.lt a hb) (hFrd a hb) ha⟩)
 have hbF:bt ∉ F:=fun hb=>by
  rcases List.mem_append.1 (hp.mem_iff.1 hb) with h | h
  ·exact far bt hbt hn.2.1.1 h
  ·exact hn.2.1.2 h
 have hiF:it ∉ F:=fun hb=>by
  rcases List.mem_append.1 (hp.mem_iff.1 hb) with h | h
  ·exact far it hitl hn.1.2.1 h
  ·exact hn.1.2.2 h
 have hNF:New w F0 (bt :: F):=by
  intro x hx
  rcases List.mem_cons.1 hx with rfl | hx
  ·exact hN x (by simp)
  ·rcases List.mem_append.1 (hp.mem_iff.1 hx) with h | h
   ·rcases hN2 x h with h | h
    ·exact hN x (by simp [h])
    ·exact .inr (Nat.le_trans hchg.size h)
   ·exact hN x (by simp [h])
 have hc2:Chg F0 w w2:=hchg.trans hc (hN.sub (fun x hx=>by simp [hx]));have hndel:(k :: mdel k left).Nodup:=(del_perm hin).nodup hnd;refine ⟨w3,hrun,(List.nodup_cons.1 hndel).2,fun x hx=>hmem x (mem_of_del hx),hnew,?_,mupd k v' ks,F,hiter _ _ hit2 hkm,?_,?_,?_,hNF⟩
 ·exact hc2.trans (Chg.only hon (List.mem_singleton.2 rfl)) (fun x hx=>by rw [List.mem_singleton.1 hx]; exact hN bt (by simp))
 ·rw [upd_length_old hkm]; exact hl
 ·exact hF.frame fun b hb=>hon.block b (fun e=>hbF (e ▸ hb))
 ·simp only [List.nodup_cons,List.mem_cons,not_or]
  exact ⟨⟨hn.1.1,hiF⟩,hbF,hFn⟩
theorem RM.done (h:RM w F0 it bt tl f [] wr):Res F0 w (.map (tl.map (fun p=>(p.1,f p.1 p.2)))) (.iface 50 (.map (some bt))) wr:=by
 obtain ⟨hnd,hmem,hnew,hchg,ks,Fs,hit,hl,ho,hn,hN⟩:=h;rw [stM_none] at ho;refine ⟨bt :: Fs,?_,(List.nodup_cons.1 hn).2,hN,hchg⟩;simp only [Own];exact ⟨bt,ks,Fs,rfl,hit.map,by simpa using hl,ho,rfl⟩
end
theorem perm_nodup_append {a b:List Nat} (h:(a++b).Nodup):a.Nodup/\b.Nodup/\∀ x∈a,x ∉ b:=
 ⟨(List.nodup_append.1 h).1,(List.nodup_append.1 h).2.1,fun x hx hb=>(List.nodup_append.1 h).2.2 x hx x hb rfl⟩
def Hole (w:World) (b:Nat) (m:List (ByteArray × T)) (k:ByteArray) (v:Value) (F1 Fr:List Nat):Prop:=
 ∃ ks,MapAt w b ks/\ks.length=m.length/\mlook k ks=some v/\OwnM w (mrem k m) ks Fr/\(b :: (F1++Fr)).Nodup
theorem Own.block {w:World} {m:List (ByteArray × T)} {v:Value} {F:List Nat} (h:Own w (.map m) v F):∃ b,v=.iface 50 (.map (some b)):=by
 simp only [Own] at h;obtain ⟨b,ks,F',hv,_⟩:=h;exact ⟨b,hv⟩
theorem Own.mapAt {w:World} {m:List (ByteArray × T)} {b:Nat} {F:List Nat} (h:Own w (.map m) (.iface 50 (.map (some b))) F) :
  ∃ ks F',MapAt w b ks/\ks.length=m.length/\OwnM w m ks F'/\F=b :: F':=by
 simp only [Own] at h;obtain ⟨b',ks,F',hv,hm,hl,ho,hF⟩:=h
 injection hv with _ hv
 injection hv with hv
 injection hv with hv
 subst hv;exact ⟨ks,F',hm,hl,ho,hF⟩
theorem ins_length {α:Type} {k:ByteArray} {x:α}:∀ {m:List (ByteArray × α)},Srt m->k∈m.map (·.1)->(mins k x m).length=m.length
 | [],_,h=>by simp at h
 | p :: m,hs,h=>by
  unfold mins
  split
  ·rfl
  ·rename_i e
   have hk:k∈m.map (·.1):=by
    simp only [List.map_cons,List.mem_cons] at h;rcases h with h | h
    ·exact absurd h.symm e
    ·exact h
   split
   ·simp [ins_length hs.tail hk]
   ·rename_i b
    obtain ⟨q,hq,hqk⟩:=List.mem_map.1 hk;have:=hs.head q hq;rw [hqk] at this;exact absurd this b
theorem ins_length_new {α:Type} {k:ByteArray} {x:α}:∀ {m:List (ByteArray × α)},k ∉ m.map (·.1)->(mins k x m).length=m.length+1
 | [],_=>rfl
 | p :: m,h=>by
  simp only [List.map_cons,List.mem_cons,not_or] at h;unfold mins;rw [if_neg (Ne.symm h.1)]
  split
  ·simp [ins_length_new h.2]
  ·rfl
section
variable {P:Program} {w:World} {b:Nat} {m:List (ByteArray × T)} {k:ByteArray} {F:List Nat}
theorem Own.mem_block (h:Own w (.map m) (.iface 50 (.map (some b))) F):b∈F:=by
 obtain ⟨ks,F',_,_,_,rfl⟩:=h.mapAt;simp
theorem Hole.frame {v:Value} {F1 Fr:List Nat} {w2:World} (h:Hole w b m k v F1 Fr) (hc:Chg F1 w w2):Hole w2 b m k v F1 Fr:=by
 obtain ⟨ks,hm,hl,hlk,ho,hn⟩:=h;simp only [List.nodup_cons,List.mem_append,not_or] at hn;refine ⟨ks,hm.frame (hc.block b hm.lt hn.1.1),hl,hlk,ho.frame fun x hx=>hc.block x (ho.lt x hx) (fun h1=>?_),by simp only [List.nodup_cons,List.mem_append,not_or]; exact hn⟩;exact (perm_nodup_append hn.2).2.2 x h1 hx
theorem Own.store {K E ty:TypeId} (ht:P.underlying ty=some (.map K E)) (hK:P.underlying K=some .string) (h:Own w (.map m) (.iface 50 (.map (some b))) F) (hs:Srt m) {v:Value} {t:T} {Fv:List Nat}
  (hv:Own w t v Fv) (hn:(F++Fv).Nodup) :
  ∃ w' F',(Instr.mapUpdate ty (.map (some b)) (.string k) v).run P w=.ok () w'/\Own w' (.map (mins k t m)) (.iface 50 (.map (some b))) (b :: F')/\(b :: F').Nodup/\(∀ x∈F',x∈F∨x∈Fv)/\Only w w' b/\w'.drawn=w.drawn:=by
 obtain ⟨ks,F0,hm,hl,ho,rfl⟩:=h.mapAt;obtain ⟨w',hrun,hm',hon,hdr,_⟩:=run_update (P:=P) hm ht hK k v;have hd:=perm_nodup_append hn;have hb0:=(List.nodup_cons.1 hd.1).1;have hbv:b ∉ Fv:=hd.2.2 b (by simp)
 obtain ⟨Fr,hr,hsub,hnr⟩ : ∃ Fr,OwnM w (mrem k m) ks Fr/\(∀ x∈Fr,x∈F0)/\Fr.Nodup:=by
  cases hg:mget k m with
  | none=>exact ⟨F0,by rw [rem_of_not (get_none.1 hg)]; exact ho,fun x hx=>hx,(List.nodup_cons.1 hd.1).2⟩
  | some t0=>
   obtain ⟨v0,F1,Fr,_,_,hr,hp⟩:=ho.take hs.nodup hg;exact ⟨Fr,hr,fun x hx=>hp.mem_iff.2 (List.mem_append_right _ hx),(perm_nodup_append (hp.nodup (List.nodup_cons.1 hd.1).2)).2.1⟩
 obtain ⟨F',hF',hp⟩:=OwnM.put hv hr hs
 have hbF:b ∉ F':=fun hb=>by
  rcases List.mem_append.1 (hp.mem_iff.1 hb) with h | h
  ·exact hbv h
  ·exact hb0 (hsub b h)
 refine ⟨w',F',hrun,?_,List.nodup_cons.2 ⟨hbF,hp.symm.nodup (List.nodup_append.2 ⟨hd.2.1,hnr,fun a ha c hc e=>?_⟩)⟩,fun x hx=>?_,hon,hdr⟩
 ·simp only [Own]
  refine ⟨b,_,F',rfl,hm',?_,hF'.frame fun x hx=>hon.block x (fun e=>hbF (e ▸ hx)),rfl⟩;have hkeys:=ho.keys hs.nodup hm.nodup hl k
  by_cases hk:k∈m.map (·.1)
  ·rw [upd_length_old (hkeys.2 hk),ins_length hs hk]; exact hl
  ·rw [upd_length_new (fun h=>hk (hkeys.1 h)),ins_length_new hk,hl]
 ·subst e
  exact hd.2.2 a (by simp [hsub a hc]) ha
 ·rcases List.mem_append.1 (hp.mem_iff.1 hx) with h | h
  ·exact .inr h
  ·exact .inl (by simp [hsub x h])
theorem Hole.store {K E ty:TypeId} (ht:P.underlying ty=some (.map K E)) (hK:P.underlying K=some .string) {v v':Value} {F1 Fr F2:List Nat} {w2:World} {t:T} (h:Hole w b m k v F1 Fr) (hs:Srt m) (hc:Chg F1 w w2) (ho2:Own w2 t v' F2) (hn2:F2.Nodup) (hN2:New w F1 F2) :
  ∃ w3 F',(Instr.mapUpdate ty (.map (some b)) (.string k) v').run P w2=.ok () w3/\Own w3 (.map (mins k t m)) (.iface 50 (.map (some b))) (b :: F')/\(b :: F').Nodup/\F'.Perm (F2++Fr)/\Only w2 w3 b/\w3.drawn=w2.drawn:=by
 obtain ⟨ks,hm,hl,hlk,ho,hn⟩:=h;simp only [List.nodup_cons,List.mem_append,not_or] at hn;have hm2:MapAt w2 b ks:=hm.frame (hc.block b hm.lt hn.1.1);have hd:=perm_nodup_append hn.2
 have ho':OwnM w2 (mrem k m) ks Fr:=ho.frame fun x hx=>hc.block x (ho.lt x hx) (fun h1=>hd.2.2 x h1 hx)
 obtain ⟨w3,hrun,hm3,hon,hdr,_⟩:=run_update (P:=P) hm2 ht hK k v';obtain ⟨F',hF',hp⟩:=OwnM.put ho2 ho' hs
 have far:∀ x,x < w.heap.size->x ∉ F1->x ∉ F2:=fun x hx h1 h2=>by
  rcases hN2 x h2 with h | h
  ·exact h1 h
  ·omega
 have hkk:k∈ks.map (·.1):=List.mem_map.2 ⟨_,look_some hlk,rfl⟩
 have hk:k∈m.map (·.1):=by
  by_cases hkm:k∈m.map (·.1)
  ·exact hkm
  ·rw [rem_of_not hkm] at ho
   exact (ho.keys hs.nodup hm.nodup hl k).1 hkk
 have hbF:b ∉ F':=fun hb=>by
  rcases List.mem_append.1 (hp.mem_iff.1 hb) with h | h
  ·exact far b hm.lt hn.1.1 h
  ·exact hn.1.2 h
 refine ⟨w3,F',hrun,?_,List.nodup_cons.2 ⟨hbF,hp.symm.nodup (List.nodup_append.2 ⟨hn2,hd.2.1,fun a ha c hc' e=>?_⟩)⟩,hp,hon,hdr⟩
 ·simp only [Own]
  refine ⟨b,_,F',rfl,hm3,?_,hF'.frame fun x hx=>hon.block x (fun e=>hbF (e ▸ hx)),rfl⟩;rw [upd_length_old hkk,ins_length hs hk]; exact hl
 ·subst e
  exact far a (ho.lt a hc') (fun h1=>hd.2.2 a h1 hc') ha
end
theorem OwnM.leaf {w:World} {k:ByteArray} {t:T}:∀ {m:List (ByteArray × T)} {ks:List (ByteArray × Value)} {F:List Nat},OwnM w m ks F->mget k m=some t->∃ v F1,mlook k ks=some v/\Own w t v F1
 | [],_,_,_,h=>by simp [mget] at h
 | p :: m,ks,F,h,hg=>by
  simp only [OwnM] at h;obtain ⟨v,F1,F2,hl,h1,h2,rfl⟩:=h;unfold mget at hg
  split at hg
  ·rename_i e
   injection hg with hg
   subst hg;exact ⟨v,F1,e ▸ hl,h1⟩
  ·exact h2.leaf hg
theorem Hole.leaf {w:World} {b:Nat} {m:List (ByteArray × T)} {k k':ByteArray} {v:Value} {F1 Fr:List Nat} {t:T} (h:Hole w b m k v F1 Fr) (hne:k'≠k) (hg:mget k' m=some t) :
  ∃ ks v' F',MapAt w b ks/\mlook k' ks=some v'/\Own w t v' F':=by
 obtain ⟨ks,hm,hl,hlk,ho,hn⟩:=h;obtain ⟨v',F',h1,h2⟩:=ho.leaf (k:=k') (by rw [get_rem_ne hne]; exact hg);exact ⟨ks,v',F',hm,h1,h2⟩
theorem Own.leaf {w:World} {b:Nat} {m:List (ByteArray × T)} {k':ByteArray} {F:List Nat} {t:T} (h:Own w (.map m) (.iface 50 (.map (some b))) F) (hg:mget k' m=some t) :
  ∃ ks v' F',MapAt w b ks/\mlook k' ks=some v'/\Own w t v' F':=by
 obtain ⟨ks,F0,hm,hl,ho,rfl⟩:=h.mapAt;obtain ⟨v',F',h1,h2⟩:=ho.leaf hg;exact ⟨ks,v',F',hm,h1,h2⟩
theorem ownText (w:World) (s:ByteArray):Own w (.text s) (.iface 9 (.string s)) []:=by simp [Own]
theorem ownBool (w:World) (b:Bool):Own w (.bool b) (.iface 4 (.bool b)) []:=by simp [Own]
theorem ownInt (w:World) (n:Int):Own w (.int n) (.iface 3 (.int .i64 n)) []:=by simp [Own]
theorem ownNull (w:World):Own w .null .nilIface []:=by simp [Own]
theorem Own.text_inv {w:World} {s:ByteArray} {v:Value} {F:List Nat} (h:Own w (.text s) v F):v=.iface 9 (.string s)/\F=[]:=by simpa [Own] using h
theorem Own.bool_inv {w:World} {b:Bool} {v:Value} {F:List Nat} (h:Own w (.bool b) v F):v=.iface 4 (.bool b)/\F=[]:=by simpa [Own] using h
theorem Own.int_inv {w:World} {n:Int} {v:Value} {F:List Nat} (h:Own w (.int n) v F):v=.iface 3 (.int .i64 n)/\F=[]:=by simpa [Own] using h
theorem Own.null_inv {w:World} {v:Value} {F:List Nat} (h:Own w .null v F):v=.nilIface/\F=[]:=by simpa [Own] using h
variable {o:Nat->Prop}
def RdK (o:Nat->Prop) (w:World) (ks:List ByteArray) (v:Value):Prop:=
 ∃ A c,v=.slice A ks.length c/\ks.length<=c/\(0 < ks.length->∃ g,A=some ⟨g,0,none⟩/\o g/\∀ j s,ks[j]?=some s->w.cell? ⟨g,j,none⟩=some (.string s))
mutual
def Rd (o:Nat->Prop) (w:World):T->Value->Prop
 | .null,v=>∃ ka va,v=.agg #[.int .i64 0,.int .i64 0,.string ⟨#[]⟩,ka,va]/\RdK o w [] ka/\∃ A c,va=.slice A 0 c
 | .bool b,v=>∃ ka va,v=.agg #[.int .i64 1,.int .i64 (if b then 1 else 0),.string ⟨#[]⟩,ka,va]/\RdK o w [] ka/\∃ A c,va=.slice A 0 c
 | .int n,v=>∃ ka va,v=.agg #[.int .i64 2,.int .i64 n,.string ⟨#[]⟩,ka,va]/\RdK o w [] ka/\∃ A c,va=.slice A 0 c
 | .text s,v=>∃ ka va,v=.agg #[.int .i64 3,.int .i64 0,.string s,ka,va]/\RdK o w [] ka/\∃ A c,va=.slice A 0 c
 | .list l,v=>∃ ka A c,v=.agg #[.int .i64 4,.int .i64 0,.string ⟨#[]⟩,ka,.slice A l.length c]/\RdK o w [] ka/\l.length<=c/\(0 < l.length->∃ g,A=some ⟨g,0,none⟩/\o g/\RdL o w g l 0)
 | .map m,v=>∃ ka A c,v=.agg #[.int .i64 5,.int .i64 0,.string ⟨#[]⟩,ka,.slice A m.length c]/\RdK o w (m.map (·.1)) ka/\m.length<=c/\(0 < m.length->∃ g,A=some ⟨g,0,none⟩/\o g/\RdM o w g m 0)
def RdL (o:Nat->Prop) (w:World) (g:Nat):List T->Nat->Prop
 | [],_=>True
 | t :: l,j=>(∃ v,Rd o w t v/\∀ i u,v.cells[i]?=some u->w.cell? ⟨g,j * 5+i,none⟩=some u)/\RdL o w g l (j+1)
def RdM (o:Nat->Prop) (w:World) (g:Nat):List (ByteArray × T)->Nat->Prop
 | [],_=>True
 | p :: m,j=>(∃ v,Rd o w p.2 v/\∀ i u,v.cells[i]?=some u->w.cell? ⟨g,j * 5+i,none⟩=some u)/\RdM o w g m (j+1)
end
theorem RdK.mono {w w':World} {ks:List ByteArray} {v:Value} (h:RdK o w ks v) (hf:∀ b,b < w.heap.size->o b->w'.heap[b]?=w.heap[b]?):RdK o w' ks v:=by
 obtain ⟨A,c,rfl,hc,h⟩:=h;refine ⟨A,c,rfl,hc,fun h0=>?_⟩;obtain ⟨g,rfl,ho,hg⟩:=h h0;exact ⟨g,rfl,ho,fun j s hs=>(World.cell?_of_block (hf g (World.block_lt_of_cell? w _ (hg j s hs)) ho)).trans (hg j s hs)⟩
mutual
theorem Rd.mono {w w':World} (hf:∀ b,b < w.heap.size->o b->w'.heap[b]?=w.heap[b]?):∀ {t:T} {v:Value},Rd o w t v->Rd o w' t v
 | .null,v,h=>by simp only [Rd] at h ⊢; obtain ⟨ka,va,e,hk,hv⟩:=h; exact ⟨ka,va,e,hk.mono hf,hv⟩
 | .bool _,v,h=>by simp only [Rd] at h ⊢; obtain ⟨ka,va,e,hk,hv⟩:=h; exact ⟨ka,va,e,hk.mono hf,hv⟩
 | .int _,v,h=>by simp only [Rd] at h ⊢; obtain ⟨ka,va,e,hk,hv⟩:=h; exact ⟨ka,va,e,hk.mono hf,hv⟩
 | .text _,v,h=>by simp only [Rd] at h ⊢; obtain ⟨ka,va,e,hk,hv⟩:=h; exact ⟨ka,va,e,hk.mono hf,hv⟩
 | .list l,v,h=>by
  simp only [Rd] at h ⊢;obtain ⟨ka,A,c,e,hk,hc,h⟩:=h;exact ⟨ka,A,c,e,hk.mono hf,hc,fun h0=>let ⟨g,hA,ho,hg⟩:=h h0; ⟨g,hA,ho,RdL.mono hf ho hg⟩⟩
 | .map m,v,h=>by
  simp only [Rd] at h ⊢;obtain ⟨ka,A,c,e,hk,hc,h⟩:=h;exact ⟨ka,A,c,e,hk.mono hf,hc,fun h0=>let ⟨g,hA,ho,hg⟩:=h h0; ⟨g,hA,ho,RdM.mono hf ho hg⟩⟩
theorem RdL.mono {w w':World} (hf:∀ b,b < w.heap.size->o b->w'.heap[b]?=w.heap[b]?) {g:Nat} (ho:o g):∀ {l:List T} {j:Nat},RdL o w g l j->RdL o w' g l j
 | [],_,h=>by simp only [RdL]
 | t :: l,j,h=>by
  simp only [RdL] at h ⊢;obtain ⟨⟨v,h1,h2⟩,h3⟩:=h;exact ⟨⟨v,Rd.mono hf h1,fun i u hu=>(World.cell?_of_block (hf g (World.block_lt_of_cell? w _ (h2 i u hu)) ho)).trans (h2 i u hu)⟩,RdL.mono hf ho h3⟩
theorem RdM.mono {w w':World} (hf:∀ b,b < w.heap.size->o b->w'.heap[b]?=w.heap[b]?) {g:Nat} (ho:o g):∀ {l:List (ByteArray × T)} {j:Nat},RdM o w g l j->RdM o w' g l j
 | [],_,h=>by simp only [RdM]
 | t :: l,j,h=>by
  simp only [RdM] at h ⊢;obtain ⟨⟨v,h1,h2⟩,h3⟩:=h;exact ⟨⟨v,Rd.mono hf h1,fun i u hu=>(World.cell?_of_block (hf g (World.block_lt_of_cell? w _ (h2 i u hu)) ho)).trans (h2 i u hu)⟩,RdM.mono hf ho h3⟩
end
theorem Rd.chg {w w':World} {t:T} {v:Value} (h:Rd o w t v) (hc:Chg [] w w'):Rd o w' t v:=h.mono (fun b hb _=>hc.block b hb (by simp))
theorem RdK.chg {w w':World} {ks:List ByteArray} {v:Value} (h:RdK o w ks v) (hc:Chg [] w w'):RdK o w' ks v:=h.mono (fun b hb _=>hc.block b hb (by simp))
def T.kind:T->Int
 | .null=>0
 | .bool _=>1
 | .int _=>2
 | .text _=>3
 | .list _=>4
 | .map _=>5
def T.num:T->Int
 | .bool b=>if b then 1 else 0
 | .int n=>n
 | _=>0
def T.txt:T->ByteArray
 | .text s=>s
 | _=>⟨#[]⟩
def T.keys:T->List ByteArray
 | .map m=>m.map (·.1)
 | _=>[]
def T.vals:T->List T
 | .list l=>l
 | .map m=>m.map (·.2)
 | _=>[]
def RdV (o:Nat->Prop) (w:World) (l:List T) (v:Value):Prop:=
 ∃ A c,v=.slice A l.length c/\l.length<=c/\(0 < l.length->∃ g,A=some ⟨g,0,none⟩/\o g/\RdL o w g l 0)
theorem RdM_iff {w:World} {g:Nat}:∀ {m:List (ByteArray × T)} {j:Nat},RdM o w g m j ↔ RdL o w g (m.map (·.2)) j
 | [],_=>by simp [RdM,RdL]
 | p :: m,j=>by
  simp only [List.map_cons,RdM,RdL];rw [RdM_iff]
theorem RdV.mono {w w':World} {l:List T} {v:Value} (h:RdV o w l v) (hf:∀ b,b < w.heap.size->o b->w'.heap[b]?=w.heap[b]?):RdV o w' l v:=by
 obtain ⟨A,c,rfl,hc,h⟩:=h;exact ⟨A,c,rfl,hc,fun h0=>let ⟨g,hA,ho,hg⟩:=h h0; ⟨g,hA,ho,RdL.mono hf ho hg⟩⟩
theorem RdV.chg {w w':World} {l:List T} {v:Value} (h:RdV o w l v) (hc:Chg [] w w'):RdV o w' l v:=h.mono (fun b hb _=>hc.block b hb (by simp))
theorem Rd.open {w:World}:∀ {t:T} {v:Value},Rd o w t v->∃ ka va,v=.agg #[.int .i64 t.kind,.int .i64 t.num,.string t.txt,ka,va]/\RdK o w t.keys ka/\RdV o w t.vals va
 | .null,v,h=>by simp only [Rd] at h; obtain ⟨ka,va,e,hk,A,c,rfl⟩:=h; exact ⟨ka,_,e,hk,A,c,rfl,Nat.zero_le _,fun h=>absurd h (Nat.lt_irrefl 0)⟩
 | .bool _,v,h=>by simp only [Rd] at h; obtain ⟨ka,va,e,hk,A,c,rfl⟩:=h; exact ⟨ka,_,e,hk,A,c,rfl,Nat.zero_le _,fun h=>absurd h (Nat.lt_irrefl 0)⟩
 | .int _,v,h=>by simp only [Rd] at h; obtain ⟨ka,va,e,hk,A,c,rfl⟩:=h; exact ⟨ka,_,e,hk,A,c,rfl,Nat.zero_le _,fun h=>absurd h (Nat.lt_irrefl 0)⟩
 | .text _,v,h=>by simp only [Rd] at h; obtain ⟨ka,va,e,hk,A,c,rfl⟩:=h; exact ⟨ka,_,e,hk,A,c,rfl,Nat.zero_le _,fun h=>absurd h (Nat.lt_irrefl 0)⟩
 | .list l,v,h=>by
  simp only [Rd] at h;obtain ⟨ka,A,c,e,hk,hc,h⟩:=h;exact ⟨ka,_,e,hk,A,c,rfl,hc,h⟩
 | .map m,v,h=>by
  simp only [Rd] at h;obtain ⟨ka,A,c,e,hk,hc,h⟩:=h;refine ⟨ka,_,e,hk,A,c,by simp [T.vals],by simpa [T.vals] using hc,fun h0=>?_⟩;obtain ⟨g,hA,ho,hg⟩:=h (by simpa [T.vals] using h0);exact ⟨g,hA,ho,RdM_iff.1 hg⟩
theorem Rd.mk {w:World} {ka va:Value}:∀ {t:T},RdK o w t.keys ka->RdV o w t.vals va->Rd o w t (.agg #[.int .i64 t.kind,.int .i64 t.num,.string t.txt,ka,va])
 | .null,hk,⟨A,c,e,_,_⟩=>by simp only [Rd]; exact ⟨ka,va,rfl,hk,A,c,e⟩
 | .bool _,hk,⟨A,c,e,_,_⟩=>by simp only [Rd]; exact ⟨ka,va,rfl,hk,A,c,e⟩
 | .int _,hk,⟨A,c,e,_,_⟩=>by simp only [Rd]; exact ⟨ka,va,rfl,hk,A,c,e⟩
 | .text _,hk,⟨A,c,e,_,_⟩=>by simp only [Rd]; exact ⟨ka,va,rfl,hk,A,c,e⟩
 | .list l,hk,⟨A,c,e,hc,h⟩=>by subst e; simp only [Rd]; exact ⟨ka,A,c,rfl,hk,hc,h⟩
 | .map m,hk,⟨A,c,e,hc,h⟩=>by
  subst e;simp only [Rd];refine ⟨ka,A,c,by simp [T.vals,T.kind,T.num,T.txt],hk,by simpa [T.vals] using hc,fun h0=>?_⟩;obtain ⟨g,hA,ho,hg⟩:=h (by simpa [T.vals] using h0);exact ⟨g,hA,ho,RdM_iff.2 hg⟩
theorem RdL.at_ {w:World} {g:Nat}:∀ {l:List T} {j0 j:Nat} {t:T},RdL o w g l j0->l[j]?=some t->∃ v,Rd o w t v/\∀ i u,v.cells[i]?=some u->w.cell? ⟨g,(j0+j) * 5+i,none⟩=some u
 | [],_,_,_,_,h=>by simp at h
 | x :: l,j0,0,t,h,hj=>by
  simp only [RdL] at h;simp at hj;subst hj;exact h.1
 | x :: l,j0,j+1,t,h,hj=>by
  simp only [RdL] at h;simp at hj;obtain ⟨v,h1,h2⟩:=RdL.at_ h.2 hj;exact ⟨v,h1,fun i u hu=>by have:=h2 i u hu; rwa [show j0+1+j=j0+(j+1) by omega] at this⟩
theorem RdV.at_ {w:World} {l:List T} {v:Value} {j:Nat} {t:T} (h:RdV o w l v) (hj:l[j]?=some t) :
  ∃ g c ka va,v=.slice (some ⟨g,0,none⟩) l.length c/\l.length<=c/\RdK o w t.keys ka/\RdV o w t.vals va/\w.cell? ⟨g,j * 5,none⟩=some (.int .i64 t.kind)/\w.cell? ⟨g,j * 5+1,none⟩=some (.int .i64 t.num) /\
   w.cell? ⟨g,j * 5+2,none⟩=some (.string t.txt)/\w.cell? ⟨g,j * 5+3,none⟩=some ka/\w.cell? ⟨g,j * 5+4,none⟩=some va:=by
 obtain ⟨A,c,rfl,hc,h⟩:=h;have hlt:j < l.length:=(List.getElem?_eq_some_iff.1 hj).1;obtain ⟨g,rfl,ho,hg⟩:=h (by omega);obtain ⟨v,h1,h2⟩:=hg.at_ hj;obtain ⟨ka,va,rfl,hk,hv⟩:=h1.open;rw [Nat.zero_add] at h2;exact ⟨g,c,ka,va,rfl,hc,hk,hv,h2 0 _ rfl,h2 1 _ rfl,h2 2 _ rfl,h2 3 _ rfl,h2 4 _ rfl⟩
theorem RdK.at_ {w:World} {ks:List ByteArray} {v:Value} {j:Nat} {s:ByteArray} (h:RdK o w ks v) (hj:ks[j]?=some s) :
  ∃ g c,v=.slice (some ⟨g,0,none⟩) ks.length c/\ks.length<=c/\w.cell? ⟨g,j,none⟩=some (.string s):=by
 obtain ⟨A,c,rfl,hc,h⟩:=h;have hlt:j < ks.length:=(List.getElem?_eq_some_iff.1 hj).1;obtain ⟨g,rfl,ho,hg⟩:=h (by omega);exact ⟨g,c,rfl,hc,hg j s hj⟩
theorem RdK.nil (w:World):RdK o w [] (.slice none 0 0):=⟨none,0,rfl,Nat.le_refl _,fun h=>absurd h (Nat.lt_irrefl 0)⟩
theorem RdV.nil (w:World):RdV o w [] (.slice none 0 0):=⟨none,0,rfl,Nat.le_refl _,fun h=>absurd h (Nat.lt_irrefl 0)⟩
def strC (ks:List ByteArray):List Value:=ks.map Value.string
theorem RdK.of_own {w:World} {base:Nat} {e:TypeId} {v:Value} {ks:List ByteArray} (ho:∀ b,base<=b->o b) (h:w.ownsRow base e 1 v ks.length (strC ks)):RdK o w ks v:=by
 rcases h.2 with ⟨rfl,h0⟩ | ⟨g,cap,cur,rfl,hb,hh,hc,hm,hs,ht⟩
 ·have:ks=[]:=List.eq_nil_of_length_eq_zero h0
  subst this;exact RdK.nil w
 ·refine ⟨_,cap,rfl,hc,fun _=>⟨g,rfl,ho g hb,fun j s hs=>?_⟩⟩
  have:=h.cells (g:=g) rfl j (.string s) (by simp [strC,hs])
  rwa [show (⟨g,0,none⟩ : Addr).add j=⟨g,j,none⟩ by unfold Addr.add; split <;> simp_all] at this
def FlatV (o:Nat->Prop) (w:World):List T->List Value->Prop
 | [],xs=>xs=[]
 | t :: l,xs=>∃ v ys,Rd o w t v/\xs=v.cells.toList++ys/\FlatV o w l ys
theorem Rd.size {w:World} {t:T} {v:Value} (h:Rd o w t v):v.cells.toList.length=5:=by
 obtain ⟨ka,va,rfl,_⟩:=h.open
 rfl
theorem FlatV.length {w:World}:∀ {l:List T} {xs:List Value},FlatV o w l xs->xs.length=l.length * 5
 | [],xs,h=>by simp only [FlatV] at h; simp [h]
 | t :: l,xs,h=>by
  simp only [FlatV] at h;obtain ⟨v,ys,hv,rfl,hy⟩:=h;rw [List.length_append,hv.size,hy.length,List.length_cons]
  omega
theorem FlatV.mono {w w':World} (hf:∀ b,b < w.heap.size->o b->w'.heap[b]?=w.heap[b]?):∀ {l:List T} {xs:List Value},FlatV o w l xs->FlatV o w' l xs
 | [],xs,h=>h
 | t :: l,xs,h=>by
  simp only [FlatV] at h ⊢;obtain ⟨v,ys,hv,rfl,hy⟩:=h;exact ⟨v,ys,hv.mono hf,rfl,hy.mono hf⟩
theorem FlatV.snoc {w:World} {t:T} {v:Value} (hv:Rd o w t v):∀ {l:List T} {xs:List Value},FlatV o w l xs->FlatV o w (l++[t]) (xs++v.cells.toList)
 | [],xs,h=>by
  simp only [FlatV] at h;subst h;simp only [List.nil_append,FlatV];exact ⟨v,[],hv,by simp,rfl⟩
 | x :: l,xs,h=>by
  simp only [FlatV] at h;obtain ⟨v',ys,hv',rfl,hy⟩:=h;simp only [List.cons_append,FlatV];exact ⟨v',ys++v.cells.toList,hv',by rw [List.append_assoc],hy.snoc hv⟩
theorem FlatV.row {w:World} {g:Nat}:∀ {l:List T} {xs:List Value} (j:Nat),FlatV o w l xs->(∀ i u,xs[i]?=some u->w.cell? ⟨g,j * 5+i,none⟩=some u)->RdL o w g l j
 | [],xs,j,_,_=>by simp only [RdL]
 | t :: l,xs,j,h,hc=>by
  simp only [FlatV] at h;obtain ⟨v,ys,hv,rfl,hy⟩:=h;have h5:=hv.size;simp only [RdL];refine ⟨⟨v,hv,fun i u hu=>hc i u ?_⟩,hy.row (j+1) fun i u hu=>?_⟩
  ·have hi:i < v.cells.toList.length:=by
    have:=(Array.getElem?_eq_some_iff.1 hu).1
    simpa using this
   rw [List.getElem?_append_left hi]
   simpa using hu
  ·have:=hc (5+i) u (by rw [List.getElem?_append_right (by omega),h5,show 5+i - 5=i by omega]; exact hu)
   rwa [show j * 5+(5+i)=(j+1) * 5+i by omega] at this
theorem RdV.of_own {w:World} {base:Nat} {e:TypeId} {v:Value} {l:List T} {xs:List Value} (ho:∀ b,base<=b->o b) (h:w.ownsRow base e 5 v l.length xs) (hx:FlatV o w l xs):RdV o w l v:=by
 rcases h.2 with ⟨rfl,h0⟩ | ⟨g,cap,cur,rfl,hb,hh,hc,hm,hs,ht⟩
 ·have:l=[]:=List.eq_nil_of_length_eq_zero h0
  subst this;exact RdV.nil w
 ·refine ⟨_,cap,rfl,hc,fun _=>⟨g,rfl,ho g hb,hx.row 0 fun i u hu=>?_⟩⟩
  have:=h.cells (g:=g) rfl i u hu
  rwa [show (⟨g,0,none⟩ : Addr).add i=⟨g,0 * 5+i,none⟩ by unfold Addr.add; split <;> simp_all] at this
theorem Chg.al {F:List Nat} {w w1:World} (h:Chg F w w1) (o:Obj):Chg F w (w1.alloc o):=
 ⟨h.os,h.tape,h.output,Nat.le_trans h.size (by simp),fun i hi hF=>((MapKept.heap_alloc w1 o).2 i (Nat.lt_of_lt_of_le hi h.size)).trans (h.block i hi hF)⟩
theorem Chg.dr {F:List Nat} {w w1:World} (h:Chg F w w1):Chg F w w1.drew:=⟨h.os,h.tape,h.output,h.size,h.block⟩
theorem Chg.drN {F:List Nat} {w w1:World} (h:Chg F w w1) (n:Nat):Chg F w (w1.drewN n):=⟨h.os,h.tape,h.output,h.size,h.block⟩
theorem Chg.st {F:List Nat} {w w1:World} (h:Chg F w w1) {p:Addr} (hp:w.heap.size<=p.block) (v:Value):Chg F w (w1.setCell p v):=
 ⟨h.os,h.tape,h.output,by rw [show (w1.setCell p v).heap.size=w1.heap.size by simp [World.setCell]]; exact h.size,fun i hi hF=>(Below.heap_setCell w1 p v i (by omega)).trans (h.block i hi hF)⟩
theorem eqS (a b:ByteArray):(a.toList == b.toList)=decide (a=b):=by
 by_cases h:a=b
 ·subst h; simp
 ·have:a.toList≠b.toList:=fun e=>h (toList_inj e)
  simp [h,this]
theorem Chg.cells {W w1:World} (h:Chg [] W w1):(∀ b o,b < W.heap.size->w1.cell? ⟨b,o,none⟩=W.cell? ⟨b,o,none⟩)/\(∀ b o,b < W.heap.size->w1.frozen? ⟨b,o,none⟩=W.frozen? ⟨b,o,none⟩)/\W.heap.size<=w1.heap.size:=
 ⟨fun b o hb=>World.cell?_of_block (a:=⟨b,o,none⟩) (h.block b hb (by simp)),fun b o hb=>World.frozen?_of_block (a:=⟨b,o,none⟩) (h.block b hb (by simp)),h.size⟩
theorem Rd.open_map {w:World} {m:List (ByteArray × T)} {v:Value} (h:Rd o w (.map m) v):∃ ka va,v=.agg #[.int .i64 5,.int .i64 0,.string ⟨#[]⟩,ka,va]/\RdK o w (m.map (·.1)) ka/\RdV o w (m.map (·.2)) va:=h.open
theorem Rd.mk_map {w:World} {m:List (ByteArray × T)} {ka va:Value} (hk:RdK o w (m.map (·.1)) ka) (hv:RdV o w (m.map (·.2)) va):Rd o w (.map m) (.agg #[.int .i64 5,.int .i64 0,.string ⟨#[]⟩,ka,va]):=Rd.mk (t:=.map m) hk hv
theorem Rd.zero (w:World):Rd o w .null (.agg #[.int .i64 0,.int .i64 0,.string ⟨#[]⟩,.slice none 0 0,.slice none 0 0]):=Rd.mk (t:=.null) (RdK.nil _) (RdV.nil _)
theorem Rd.five {w:World} {t:T} {v:Value} (h:Rd o w t v):∃ A3 q3 A4 q4,v=.agg #[.int .i64 t.kind,.int .i64 t.num,.string t.txt,.slice A3 t.keys.length q3,.slice A4 t.vals.length q4] /\
  RdK o w t.keys (.slice A3 t.keys.length q3)/\RdV o w t.vals (.slice A4 t.vals.length q4):=by
 obtain ⟨ka,va,rfl,hk,hv⟩:=h.open;obtain ⟨A3,q3,rfl,hk'⟩:=id hk;obtain ⟨A4,q4,rfl,hv'⟩:=id hv;exact ⟨A3,q3,A4,q4,rfl,hk,hv⟩
theorem RdL.blk {w:World} {g:Nat}:∀ {l:List T} {j:Nat},0 < l.length->RdL o w g l j->g < w.heap.size
 | [],_,h,_=>absurd h (Nat.lt_irrefl 0)
 | t :: l,j,_,h=>by
  simp only [RdL] at h;obtain ⟨⟨v,h1,h2⟩,_⟩:=h;obtain ⟨ka,va,rfl,_⟩:=h1.open;exact World.block_lt_of_cell? w _ (h2 0 _ rfl)
theorem RdM.blk {w:World} {g:Nat} {m:List (ByteArray × T)} {j:Nat} (h0:0 < m.length) (h:RdM o w g m j):g < w.heap.size:=
 RdL.blk (l:=m.map (·.2)) (by simpa using h0) (RdM_iff.1 h)
theorem RdK.to {o':Nat->Prop} {w w':World} {ks:List ByteArray} {v:Value} (hf:∀ b,b < w.heap.size->o b->o' b/\w'.heap[b]?=w.heap[b]?) (h:RdK o w ks v):RdK o' w' ks v:=by
 obtain ⟨A,c,rfl,hc,h⟩:=h;refine ⟨A,c,rfl,hc,fun h0=>?_⟩;obtain ⟨g,rfl,ho,hg⟩:=h h0
 obtain ⟨s,hs⟩ : ∃ s,ks[0]?=some s:=⟨_,List.getElem?_eq_getElem h0⟩
 have hlt:=World.block_lt_of_cell? w _ (hg 0 s hs);exact ⟨g,rfl,(hf g hlt ho).1,fun j s hs=>(World.cell?_of_block (hf g hlt ho).2).trans (hg j s hs)⟩
mutual
theorem Rd.to {o':Nat->Prop} {w w':World} (hf:∀ b,b < w.heap.size->o b->o' b/\w'.heap[b]?=w.heap[b]?):∀ {t:T} {v:Value},Rd o w t v->Rd o' w' t v
 | .null,v,h=>by simp only [Rd] at h ⊢; obtain ⟨ka,va,e,hk,hv⟩:=h; exact ⟨ka,va,e,hk.to hf,hv⟩
 | .bool _,v,h=>by simp only [Rd] at h ⊢; obtain ⟨ka,va,e,hk,hv⟩:=h; exact ⟨ka,va,e,hk.to hf,hv⟩
 | .int _,v,h=>by simp only [Rd] at h ⊢; obtain ⟨ka,va,e,hk,hv⟩:=h; exact ⟨ka,va,e,hk.to hf,hv⟩
 | .text _,v,h=>by simp only [Rd] at h ⊢; obtain ⟨ka,va,e,hk,hv⟩:=h; exact ⟨ka,va,e,hk.to hf,hv⟩
 | .list l,v,h=>by
  simp only [Rd] at h ⊢;obtain ⟨ka,A,c,e,hk,hc,h⟩:=h;refine ⟨ka,A,c,e,hk.to hf,hc,fun h0=>?_⟩;obtain ⟨g,hA,ho,hg⟩:=h h0;exact ⟨g,hA,(hf g (RdL.blk h0 hg) ho).1,RdL.to hf (hf g (RdL.blk h0 hg) ho).2 hg⟩
 | .map m,v,h=>by
  simp only [Rd] at h ⊢;obtain ⟨ka,A,c,e,hk,hc,h⟩:=h;refine ⟨ka,A,c,e,hk.to hf,hc,fun h0=>?_⟩;obtain ⟨g,hA,ho,hg⟩:=h h0;exact ⟨g,hA,(hf g (RdM.blk h0 hg) ho).1,RdM.to hf (hf g (RdM.blk h0 hg) ho).2 hg⟩
theorem RdL.to {o':Nat->Prop} {w w':World} (hf:∀ b,b < w.heap.size->o b->o' b/\w'.heap[b]?=w.heap[b]?) {g:Nat} (hg:w'.heap[g]?=w.heap[g]?):∀ {l:List T} {j:Nat},RdL o w g l j->RdL o' w' g l j
 | [],_,h=>by simp only [RdL]
 | t :: l,j,h=>by
  simp only [RdL] at h ⊢;obtain ⟨⟨v,h1,h2⟩,h3⟩:=h;exact ⟨⟨v,Rd.to hf h1,fun i u hu=>(World.cell?_of_block hg).trans (h2 i u hu)⟩,RdL.to hf hg h3⟩
theorem RdM.to {o':Nat->Prop} {w w':World} (hf:∀ b,b < w.heap.size->o b->o' b/\w'.heap[b]?=w.heap[b]?) {g:Nat} (hg:w'.heap[g]?=w.heap[g]?):∀ {l:List (ByteArray × T)} {j:Nat},RdM o w g l j->RdM o' w' g l j
 | [],_,h=>by simp only [RdM]
 | t :: l,j,h=>by
  simp only [RdM] at h ⊢;obtain ⟨⟨v,h1,h2⟩,h3⟩:=h;exact ⟨⟨v,Rd.to hf h1,fun i u hu=>(World.cell?_of_block hg).trans (h2 i u hu)⟩,RdM.to hf hg h3⟩
end
theorem FlatV.to {o':Nat->Prop} {w w':World} (hf:∀ b,b < w.heap.size->o b->o' b/\w'.heap[b]?=w.heap[b]?):∀ {l:List T} {xs:List Value},FlatV o w l xs->FlatV o' w' l xs
 | [],xs,h=>h
 | t :: l,xs,h=>by
  simp only [FlatV] at h ⊢;obtain ⟨v,ys,hv,rfl,hy⟩:=h;exact ⟨v,ys,hv.to hf,rfl,hy.to hf⟩
theorem RdV.to {o':Nat->Prop} {w w':World} {l:List T} {v:Value} (hf:∀ b,b < w.heap.size->o b->o' b/\w'.heap[b]?=w.heap[b]?) (h:RdV o w l v):RdV o' w' l v:=by
 obtain ⟨A,c,rfl,hc,h⟩:=h;refine ⟨A,c,rfl,hc,fun h0=>?_⟩;obtain ⟨g,hA,ho,hg⟩:=h h0;exact ⟨g,hA,(hf g (RdL.blk h0 hg) ho).1,RdL.to hf (hf g (RdL.blk h0 hg) ho).2 hg⟩
theorem Rd.lo {w:World} {t:T} {v:Value} (h:Rd o w t v):Rd (fun b=>o b/\b < w.heap.size) w t v:=h.to (fun _ hb ho=>⟨⟨ho,hb⟩,rfl⟩)
theorem FlatV.lo {w:World} {l:List T} {xs:List Value} (h:FlatV o w l xs):FlatV (fun b=>o b/\b < w.heap.size) w l xs:=h.to (fun _ hb ho=>⟨⟨ho,hb⟩,rfl⟩)
theorem Rd.weak {o':Nat->Prop} {w:World} {t:T} {v:Value} (h:Rd o w t v) (hw:∀ b,o b->o' b):Rd o' w t v:=h.to (fun _ _ ho=>⟨hw _ ho,rfl⟩)
end Go.Proofs.YtpofkokbmifhgaaGreatDoor
