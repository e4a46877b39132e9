/- Parts of the walk, made small by wip/tools/pack.py: SayR, SayT, Put. No condition but those in each statement. -/
import Derived.Test.YtpofkokbmifhgaaGreatDoorL23
import Derived.Test.YtpofkokbmifhgaaGreatDoorL14
set_option maxRecDepth 100000
set_option maxHeartbeats 20000000
set_option linter.unusedVariables false
set_option linter.unusedSimpArgs false
namespace Go.Proofs.YtpofkokbmifhgaaGreatDoor
open Go.RowKit
variable {o:Nat->Prop}
theorem sayNamed_any (s:ByteArray) (b:Bool) (hb:decide (s∈([⟨#[101,110,118,105,114,111,110,109,101,110,116]⟩,⟨#[108,97,98,101,108,115]⟩,⟨#[97,110,110,111,116,97,116,105,111,110,115]⟩,⟨#[115,121,115,99,116,108,115]⟩]:List ByteArray))=b) (w:World):Calls Tryz.prog 36 #[.string s] w fun e w'=>e=.returned (.bool b)/\Chg [] w w':=by
 go_enter Tryz.func36,Tryz.ntmps36
 go_wp2_with fail
 refine (sayIn_any (o:=fun _=>True) s [⟨#[101,110,118,105,114,111,110,109,101,110,116]⟩,⟨#[108,97,98,101,108,115]⟩,⟨#[97,110,110,111,116,97,116,105,111,110,115]⟩,⟨#[115,121,115,99,116,108,115]⟩] _ _ (RdK.lit [⟨#[101,110,118,105,114,111,110,109,101,110,116]⟩,⟨#[108,97,98,101,108,115]⟩,⟨#[97,110,110,111,116,97,116,105,111,110,115]⟩,⟨#[115,121,115,99,116,108,115]⟩] (heap_alloc_new w _) rfl) (by decide)).mono ?_;rintro e w1 ⟨rfl,rfl⟩;rw [hb];clear hb
 go_wp2
 go_ret
 exact ⟨rfl,(Chg.refl [] w).al _⟩
theorem sayAttr_q (s:ByteArray) (t:T) (v:Value) (w:World) (h:Rd o w t v) (hf:Fine t):Calls Tryz.prog 59 #[.string s,v] w (SomeQ (AttrOK s t) w):=by
 obtain ⟨A3,q3,A4,q4,rfl,hk,hv⟩:=h.five;have hkl:=hf.len
 have HR:Hid (∀ W,Chg [] w W->Rd o W t (.agg #[.int .i64 t.kind,.int .i64 t.num,.string t.txt,.slice A3 t.keys.length q3,.slice A4 t.vals.length q4])):=Lib.hid fun W hc=>h.chg hc
 have HIN:Hid (∀ (l:List ByteArray) (g:Nat) (W:World) (xs:Array Value) (e:TypeId),l.length<=67108864->W.heap[g]?=some (.cells xs e)->xs=(l.map Value.string).toArray->Calls Tryz.prog 56 #[.string s,.slice (some ⟨g,0,none⟩) l.length l.length] W fun e w'=>e=.returned (.bool (decide (s∈l)))/\W=w'):=
  Lib.hid fun l g W xs e hl hg hx=>sayIn_any (o:=fun _=>True) s l _ W (RdK.lit l hg hx) hl
 have HT:Hid (∀ x∈t.vals,x.txt.size<=67108864):=Lib.hid fun x hx=>(hf.vals hx).txt
 clear h hk hv
 go_enter Tryz.func59,Tryz.ntmps59
 go_wp2_with fail
 obtain ⟨w1,hw1⟩ : ∃ W:World,W=(w.alloc (.cells #[.int .i64 t.kind,.int .i64 t.num,.string t.txt,.slice A3 t.keys.length q3,.slice A4 t.vals.length q4] 25)).alloc (.cells #[.string ⟨#[105,109,97,103,101]⟩,.string ⟨#[117,115,101,114]⟩,.string ⟨#[104,111,115,116,110,97,109,101]⟩,.string ⟨#[100,111,109,97,105,110,110,97,109,101]⟩,.string ⟨#[119,111,114,107,105,110,103,95,100,105,114]⟩,.string ⟨#[99,111,110,116,97,105,110,101,114,95,110,97,109,101]⟩,.string ⟨#[114,101,115,116,97,114,116]⟩,.string ⟨#[112,108,97,116,102,111,114,109]⟩,.string ⟨#[115,116,111,112,95,115,105,103,110,97,108]⟩,.string ⟨#[114,117,110,116,105,109,101]⟩] 9):=⟨_,rfl⟩
 rw [<- hw1]
 have c1:Chg [] w w1:=by rw [hw1]; exact ((Chg.refl [] w).al _).al _
 have z1:w1.heap[w.heap.size]?=some (.cells #[.int .i64 t.kind,.int .i64 t.num,.string t.txt,.slice A3 t.keys.length q3,.slice A4 t.vals.length q4] 25):=by rw [hw1]; exact heap_al1 w _ _
 have l1:w1.heap[w.heap.size+1]?=some (.cells #[.string ⟨#[105,109,97,103,101]⟩,.string ⟨#[117,115,101,114]⟩,.string ⟨#[104,111,115,116,110,97,109,101]⟩,.string ⟨#[100,111,109,97,105,110,110,97,109,101]⟩,.string ⟨#[119,111,114,107,105,110,103,95,100,105,114]⟩,.string ⟨#[99,111,110,116,97,105,110,101,114,95,110,97,109,101]⟩,.string ⟨#[114,101,115,116,97,114,116]⟩,.string ⟨#[112,108,97,116,102,111,114,109]⟩,.string ⟨#[115,116,111,112,95,115,105,103,110,97,108]⟩,.string ⟨#[114,117,110,116,105,109,101]⟩] 9):=by rw [hw1]; exact heap_al2 w _ _
 clear hw1;obtain ⟨a0,a1,a2,a3,a4,af⟩:=cells5 z1;refine (HIN.out [⟨#[105,109,97,103,101]⟩,⟨#[117,115,101,114]⟩,⟨#[104,111,115,116,110,97,109,101]⟩,⟨#[100,111,109,97,105,110,110,97,109,101]⟩,⟨#[119,111,114,107,105,110,103,95,100,105,114]⟩,⟨#[99,111,110,116,97,105,110,101,114,95,110,97,109,101]⟩,⟨#[114,101,115,116,97,114,116]⟩,⟨#[112,108,97,116,102,111,114,109]⟩,⟨#[115,116,111,112,95,115,105,103,110,97,108]⟩,⟨#[114,117,110,116,105,109,101]⟩] _ _ _ _ (by decide) l1 rfl).mono ?_;clear l1;rintro e w' ⟨rfl,rfl⟩
 by_cases h1:s∈([⟨#[105,109,97,103,101]⟩,⟨#[117,115,101,114]⟩,⟨#[104,111,115,116,110,97,109,101]⟩,⟨#[100,111,109,97,105,110,110,97,109,101]⟩,⟨#[119,111,114,107,105,110,103,95,100,105,114]⟩,⟨#[99,111,110,116,97,105,110,101,114,95,110,97,109,101]⟩,⟨#[114,101,115,116,97,114,116]⟩,⟨#[112,108,97,116,102,111,114,109]⟩,⟨#[115,116,111,112,95,115,105,103,110,97,108]⟩,⟨#[114,117,110,116,105,109,101]⟩]:List ByteArray)
 ·have H1:=Lib.hid h1
  rw [decide_eq_true h1];clear h1
  go_wp2_with fail
  refine (sayText_any t _ _ (HR.out _ c1) hf.txt).mono ?_;rintro e wz ⟨b,rfl,hc,hq⟩;have HQ:=Lib.hid hq;clear hq
  go_wp2
  go_ret
  exact ⟨_,rfl,c1.trans hc New.nil,fun hb=>.plain (.inl ((by decide +kernel:∀ k∈textA,k∈plainA) s H1.out))⟩
 rw [decide_eq_false h1];clear h1
 go_wp2_with fail
 obtain ⟨w2,hw2⟩ : ∃ W:World,W=w1.alloc (.cells #[.string ⟨#[112,114,105,118,105,108,101,103,101,100]⟩,.string ⟨#[114,101,97,100,95,111,110,108,121]⟩,.string ⟨#[105,110,105,116]⟩,.string ⟨#[116,116,121]⟩,.string ⟨#[115,116,100,105,110,95,111,112,101,110]⟩] 9):=⟨_,rfl⟩
 rw [<- hw2]
 have c2:Chg [] w w2:=by rw [hw2]; exact c1.al _
 have z2:w2.heap[w.heap.size]?=some (.cells #[.int .i64 t.kind,.int .i64 t.num,.string t.txt,.slice A3 t.keys.length q3,.slice A4 t.vals.length q4] 25):=by rw [hw2]; exact (heap_alloc_old _ _ _ (Array.getElem?_eq_some_iff.1 z1).1).trans z1
 have l2:w2.heap[w1.heap.size]?=some (.cells #[.string ⟨#[112,114,105,118,105,108,101,103,101,100]⟩,.string ⟨#[114,101,97,100,95,111,110,108,121]⟩,.string ⟨#[105,110,105,116]⟩,.string ⟨#[116,116,121]⟩,.string ⟨#[115,116,100,105,110,95,111,112,101,110]⟩] 9):=by rw [hw2]; exact heap_alloc_new _ _
 clear z1 a0 a1 a2 a3 a4 af;clear hw2;obtain ⟨a0,a1,a2,a3,a4,af⟩:=cells5 z2;refine (HIN.out [⟨#[112,114,105,118,105,108,101,103,101,100]⟩,⟨#[114,101,97,100,95,111,110,108,121]⟩,⟨#[105,110,105,116]⟩,⟨#[116,116,121]⟩,⟨#[115,116,100,105,110,95,111,112,101,110]⟩] _ _ _ _ (by decide) l2 rfl).mono ?_;clear l2;rintro e w' ⟨rfl,rfl⟩
 by_cases h2:s∈([⟨#[112,114,105,118,105,108,101,103,101,100]⟩,⟨#[114,101,97,100,95,111,110,108,121]⟩,⟨#[105,110,105,116]⟩,⟨#[116,116,121]⟩,⟨#[115,116,100,105,110,95,111,112,101,110]⟩]:List ByteArray)
 ·have H2:=Lib.hid h2
  rw [decide_eq_true h2];clear h2
  go_wp2
  go_ret
  exact ⟨_,rfl,c2,fun _=>.plain (.inl ((by decide +kernel:∀ k∈boolA,k∈plainA) s H2.out))⟩
 rw [decide_eq_false h2];clear h2
 go_wp2_with fail
 obtain ⟨w3,hw3⟩ : ∃ W:World,W=w2.alloc (.cells #[.string ⟨#[99,97,112,95,97,100,100]⟩,.string ⟨#[99,97,112,95,100,114,111,112]⟩,.string ⟨#[100,110,115]⟩,.string ⟨#[100,110,115,95,115,101,97,114,99,104]⟩,.string ⟨#[100,110,115,95,111,112,116]⟩,.string ⟨#[115,101,99,117,114,105,116,121,95,111,112,116]⟩,.string ⟨#[115,101,99,114,101,116,115]⟩,.string ⟨#[99,111,110,102,105,103,115]⟩] 9):=⟨_,rfl⟩
 rw [<- hw3]
 have c3:Chg [] w w3:=by rw [hw3]; exact c2.al _
 have z3:w3.heap[w.heap.size]?=some (.cells #[.int .i64 t.kind,.int .i64 t.num,.string t.txt,.slice A3 t.keys.length q3,.slice A4 t.vals.length q4] 25):=by rw [hw3]; exact (heap_alloc_old _ _ _ (Array.getElem?_eq_some_iff.1 z2).1).trans z2
 have l3:w3.heap[w2.heap.size]?=some (.cells #[.string ⟨#[99,97,112,95,97,100,100]⟩,.string ⟨#[99,97,112,95,100,114,111,112]⟩,.string ⟨#[100,110,115]⟩,.string ⟨#[100,110,115,95,115,101,97,114,99,104]⟩,.string ⟨#[100,110,115,95,111,112,116]⟩,.string ⟨#[115,101,99,117,114,105,116,121,95,111,112,116]⟩,.string ⟨#[115,101,99,114,101,116,115]⟩,.string ⟨#[99,111,110,102,105,103,115]⟩] 9):=by rw [hw3]; exact heap_alloc_new _ _
 clear z2 a0 a1 a2 a3 a4 af;clear hw3;obtain ⟨a0,a1,a2,a3,a4,af⟩:=cells5 z3;refine (HIN.out [⟨#[99,97,112,95,97,100,100]⟩,⟨#[99,97,112,95,100,114,111,112]⟩,⟨#[100,110,115]⟩,⟨#[100,110,115,95,115,101,97,114,99,104]⟩,⟨#[100,110,115,95,111,112,116]⟩,⟨#[115,101,99,117,114,105,116,121,95,111,112,116]⟩,⟨#[115,101,99,114,101,116,115]⟩,⟨#[99,111,110,102,105,103,115]⟩] _ _ _ _ (by decide) l3 rfl).mono ?_;clear l3;rintro e w' ⟨rfl,rfl⟩
 by_cases h3:s∈([⟨#[99,97,112,95,97,100,100]⟩,⟨#[99,97,112,95,100,114,111,112]⟩,⟨#[100,110,115]⟩,⟨#[100,110,115,95,115,101,97,114,99,104]⟩,⟨#[100,110,115,95,111,112,116]⟩,⟨#[115,101,99,117,114,105,116,121,95,111,112,116]⟩,⟨#[115,101,99,114,101,116,115]⟩,⟨#[99,111,110,102,105,103,115]⟩]:List ByteArray)
 ·have H3:=Lib.hid h3
  rw [decide_eq_true h3];clear h3
  go_wp2_with fail
  refine (sayTexts_q t _ _ (HR.out _ c3) HT.out hkl.1).mono ?_;rintro e wz ⟨b,rfl,hc,hq⟩;have HQ:=Lib.hid hq;clear hq
  go_wp2
  go_ret
  exact ⟨_,rfl,c3.trans hc New.nil,fun hb=>attr_words H3.out (HQ.out hb).1 (HQ.out hb).2⟩
 rw [decide_eq_false h3];clear h3
 by_cases e4:s=cExpose
 ·subst e4
  go_wp2_with fail
  refine (sayExposed_q t _ _ (HR.out _ c3) HT.out hkl.1).mono ?_;rintro e wz ⟨b,rfl,hc,hq⟩;have HQ:=Lib.hid hq;clear hq
  go_wp2
  go_ret
  exact ⟨_,rfl,c3.trans hc New.nil,fun hb=>attr_expose (HQ.out hb).1 (HQ.out hb).2⟩
 have f4:(s.toList == [101,120,112,111,115,101])=false:=ne_toList e4 (by kernel_rfl);clear e4
 go_wp2_with fail
 refine (sayNamed_any s _ rfl _).mono ?_;rintro e w4 ⟨rfl,hc4⟩;have c4:=c3.trans hc4 New.nil;have z4:=box5 z3 _ hc4;clear z3 a0 a1 a2 a3 a4 af hc4;obtain ⟨a0,a1,a2,a3,a4,af⟩:=cells5 z4
 by_cases h5:s∈([⟨#[101,110,118,105,114,111,110,109,101,110,116]⟩,⟨#[108,97,98,101,108,115]⟩,⟨#[97,110,110,111,116,97,116,105,111,110,115]⟩,⟨#[115,121,115,99,116,108,115]⟩]:List ByteArray)
 ·have H5:=Lib.hid h5
  rw [decide_eq_true h5];clear h5
  go_wp2_with fail
  refine (sayPairs_q t _ _ (HR.out _ c4) hf).mono ?_;rintro e wz ⟨b,rfl,hc,hq⟩;have HQ:=Lib.hid hq;clear hq
  go_wp2
  go_ret
  exact ⟨_,rfl,c4.trans hc New.nil,fun hb=>attr_named H5.out (HQ.out hb)⟩
 rw [decide_eq_false h5];clear h5
 by_cases e6:s=cCommand
 ·subst e6
  go_wp2_with fail
  refine (sayShell_any t _ _ (HR.out _ c4) hf.txt HT.out hkl.1).mono ?_;rintro e wz ⟨b,rfl,hc⟩
  go_wp2
  go_ret
  exact ⟨_,rfl,c4.trans hc New.nil,fun hb=>.plain (.inl (by decide +kernel))⟩
 have f6:(s.toList == [99,111,109,109,97,110,100])=false:=ne_toList e6 (by kernel_rfl);clear e6
 by_cases e7:s=cEntrypoint
 ·subst e7
  go_wp2_with fail
  refine (sayShell_any t _ _ (HR.out _ c4) hf.txt HT.out hkl.1).mono ?_;rintro e wz ⟨b,rfl,hc⟩
  go_wp2
  go_ret
  exact ⟨_,rfl,c4.trans hc New.nil,fun hb=>.plain (.inl (by decide +kernel))⟩
 have f7:(s.toList == [101,110,116,114,121,112,111,105,110,116])=false:=ne_toList e7 (by kernel_rfl);clear e7
 by_cases e8:s=cHealthcheck
 ·subst e8
  go_wp2_with fail
  refine (sayHealth_any t _ _ (HR.out _ c4) hf).mono ?_;rintro e wz ⟨b,rfl,hc⟩
  go_wp2
  go_ret
  exact ⟨_,rfl,c4.trans hc New.nil,fun hb=>.plain (.inl (by decide +kernel))⟩
 have f8:(s.toList == [104,101,97,108,116,104,99,104,101,99,107])=false:=ne_toList e8 (by kernel_rfl);clear e8
 by_cases e9:s=cDependsOn
 ·subst e9
  go_wp2_with fail
  refine (sayNeeds_q t _ _ (HR.out _ c4) hf).mono ?_;rintro e wz ⟨b,rfl,hc,hq⟩;have HQ:=Lib.hid hq;clear hq
  go_wp2
  go_ret
  exact ⟨_,rfl,c4.trans hc New.nil,fun hb=>attr_needs (HQ.out hb)⟩
 have f9:(s.toList == [100,101,112,101,110,100,115,95,111,110])=false:=ne_toList e9 (by kernel_rfl);clear e9
 by_cases e10:s=cNetworks
 ·subst e10
  go_wp2_with fail
  refine (sayNets_q t _ _ (HR.out _ c4) hf).mono ?_;rintro e wz ⟨b,rfl,hc,hq⟩;have HQ:=Lib.hid hq;clear hq
  go_wp2
  go_ret
  exact ⟨_,rfl,c4.trans hc New.nil,fun hb=>attr_nets (HQ.out hb)⟩
 have f10:(s.toList == [110,101,116,119,111,114,107,115])=false:=ne_toList e10 (by kernel_rfl);clear e10
 by_cases e11:s=cBuild
 ·subst e11
  go_wp2_with fail
  refine (sayText_any t _ _ (HR.out _ c4) hf.txt).mono ?_;rintro e w5 ⟨b,rfl,hc5,hq5⟩;have HQ5:=Lib.hid hq5;clear hq5;have c5:=c4.trans hc5 New.nil;have z5:=box5 z4 _ hc5;clear z4 a0 a1 a2 a3 a4 af hc5;obtain ⟨a0,a1,a2,a3,a4,af⟩:=cells5 z5
  cases b
  ·go_wp2_with fail
   obtain ⟨w6,hw6⟩ : ∃ W:World,W=(w5.alloc (.cells #[.string ⟨#[99,111,110,116,101,120,116]⟩,.string ⟨#[100,111,99,107,101,114,102,105,108,101]⟩,.string ⟨#[116,97,114,103,101,116]⟩,.string ⟨#[110,101,116,119,111,114,107]⟩] 9)).alloc (.cells #[.string ⟨#[112,114,105,118,105,108,101,103,101,100]⟩,.string ⟨#[110,111,95,99,97,99,104,101]⟩] 9):=⟨_,rfl⟩
   rw [<- hw6]
   have c6:Chg [] w w6:=by rw [hw6]; exact (c5.al _).al _
   have l6:w6.heap[w5.heap.size]?=some (.cells #[.string ⟨#[99,111,110,116,101,120,116]⟩,.string ⟨#[100,111,99,107,101,114,102,105,108,101]⟩,.string ⟨#[116,97,114,103,101,116]⟩,.string ⟨#[110,101,116,119,111,114,107]⟩] 9):=by rw [hw6]; exact heap_al1 w5 _ _
   have l7:w6.heap[w5.heap.size+1]?=some (.cells #[.string ⟨#[112,114,105,118,105,108,101,103,101,100]⟩,.string ⟨#[110,111,95,99,97,99,104,101]⟩] 9):=by rw [hw6]; exact heap_al2 w5 _ _
   clear hw6;refine (sayKnown_any (o:=fun _=>True) t _ [⟨#[99,111,110,116,101,120,116]⟩,⟨#[100,111,99,107,101,114,102,105,108,101]⟩,⟨#[116,97,114,103,101,116]⟩,⟨#[110,101,116,119,111,114,107]⟩] [⟨#[112,114,105,118,105,108,101,103,101,100]⟩,⟨#[110,111,95,99,97,99,104,101]⟩] _ _ _ ((HR.out _ c6).weak (fun _ _=>trivial)) (RdK.lit _ l6 rfl) (RdK.lit _ l7 rfl) HT.out hkl.1 (by decide) (by decide)).mono ?_;rintro e w7 ⟨b,rfl,hc7,hq⟩;have HQ:=Lib.hid hq;clear hq
   go_wp2
   go_ret
   exact ⟨_,rfl,c6.trans hc7 New.nil,fun hb=>attr_build (.inr ⟨(HQ.out hb).1,(HQ.out hb).2.2⟩)⟩
  ·go_wp2
   go_ret
   exact ⟨_,rfl,c5,fun _=>attr_build (.inl (by first | exact HQ5.out rfl | exact HQ5.out trivial))⟩
 have f11:(s.toList == [98,117,105,108,100])=false:=ne_toList e11 (by kernel_rfl);clear e11
 by_cases e12:s=cLogging
 ·subst e12
  go_wp2_with fail
  refine (sayLogging_any t _ _ (HR.out _ c4) hf).mono ?_;rintro e wz ⟨b,rfl,hc⟩
  go_wp2
  go_ret
  exact ⟨_,rfl,c4.trans hc New.nil,fun hb=>.plain (.inl (by decide +kernel))⟩
 have f12:(s.toList == [108,111,103,103,105,110,103])=false:=ne_toList e12 (by kernel_rfl);clear e12
 by_cases e13:s=cVolumes
 ·subst e13
  go_wp2_with fail
  refine (sayMounts_q t _ _ (HR.out _ c4) hf).mono ?_;rintro e wz ⟨b,rfl,hc,hq⟩;have HQ:=Lib.hid hq;clear hq
  go_wp2
  go_ret
  exact ⟨_,rfl,c4.trans hc New.nil,fun hb=>attr_vols (HQ.out hb).1 (HQ.out hb).2⟩
 have f13:(s.toList == [118,111,108,117,109,101,115])=false:=ne_toList e13 (by kernel_rfl);clear e13
 by_cases e14:s=cPorts
 ·subst e14
  go_wp2_with fail
  refine (sayPorts_q t _ _ (HR.out _ c4) hf).mono ?_;rintro e wz ⟨b,rfl,hc,hq⟩;have HQ:=Lib.hid hq;clear hq
  go_wp2
  go_ret
  exact ⟨_,rfl,c4.trans hc New.nil,fun hb=>attr_ports (HQ.out hb).1 (HQ.out hb).2.1 (HQ.out hb).2.2⟩
 have f14:(s.toList == [112,111,114,116,115])=false:=ne_toList e14 (by kernel_rfl);clear e14
 go_wp2_with fail
 refine (sayExtra_q s _).mono ?_;rintro e wz ⟨b,rfl,hc,hq⟩;have HQ:=Lib.hid hq;clear hq
 go_wp2
 go_ret
 exact ⟨_,rfl,c4.trans hc New.nil,fun hb=>.plain (.inr (HQ.out hb))⟩
end Go.Proofs.YtpofkokbmifhgaaGreatDoor
namespace Go.Proofs.YtpofkokbmifhgaaGreatDoor
open Go.RowKit
variable {o:Nat->Prop}
theorem svc_of {t:T} (h5:t.kind=5) (h:∀ (j:Nat) (k:ByteArray) (y:T),t.keys[j]?=some k->t.vals[j]?=some y->AttrOK k y):SvcSaid t:=by
 obtain ⟨m,rfl⟩:=map_of h5;refine ⟨m,rfl,fun p hp=>?_⟩;obtain ⟨j,hj⟩:=List.getElem?_of_mem hp;exact h j p.1 p.2 (by simp [T.keys,T.m,hj]) (by simp [T.vals,T.m,hj])
theorem saysService_q (t:T) (v:Value) (w:World) (h:Rd o w t v) (hf:Fine t):Calls Tryz.prog 40 #[v] w (SomeQ (SvcSaid t) w):=by
 obtain ⟨A3,q3,A4,q4,rfl,hk,hv⟩:=h.five;have hkl:=hf.len
 go_enter Tryz.func40,Tryz.ntmps40
 go_wp2
 go_loopg [3] t.keys.length (fun g i wr=>∃ n:Nat,n<=t.keys.length/\g=t.keys.length - n/\i=.int .i64 n/\Chg [] w wr/\wr.heap[w.heap.size]?=some (.cells #[.int .i64 t.kind,.int .i64 t.num,.string t.txt,.slice A3 t.keys.length q3,.slice A4 t.vals.length q4] 25)/\Hid (∀ j k y,j < n->t.keys[j]?=some k->t.vals[j]?=some y->AttrOK k y))
 case atStart=>exact ⟨0,Nat.zero_le _,by omega,rfl,(Chg.refl [] w).al _,heap_alloc_new _ _,Lib.hid fun j k y hj=>absurd hj (Nat.not_lt_zero _)⟩
 case round=>
  obtain ⟨n,hn,rfl,rfl,hcr,z1,hall⟩:=hrel;obtain ⟨a0,a1,a2,a3,a4,af⟩:=cells5 z1
  by_cases hlt:n < t.keys.length
  ·obtain ⟨s,hs1⟩ : ∃ s,t.keys[n]?=some s:=⟨_,List.getElem?_eq_getElem hlt⟩
   obtain ⟨x,hx⟩ : ∃ x,t.vals[n]?=some x:=⟨_,List.getElem?_eq_getElem (by omega)⟩
   obtain ⟨gk,ck,ek,hgk,yk⟩:=hk.elem hs1;obtain ⟨ge,c1,A5,q5,A6,q6,e1,hge,rx,ye⟩:=hv.elem hx
   cases e1
   cases ek
   have hfx:=hf.vals (List.mem_of_getElem? hx)
   have hnv:n < t.vals.length:=by omega
   have YK:=Lib.hid yk;have YE:=Lib.hid ye;have HSX:=Lib.hid (And.intro hs1 hx);have HRX:=Lib.hid rx;clear hs1 hx ye yk rx
   go_wp2
   clear a0 a1 a2 a3 a4 af;rename_i K hK;have HK:=Lib.hid hK;clear hK
   refine wp_region_all (by rfl) (by kernel_rfl) [1,3] (by kernel_rfl)
    (fun j u V=>match j with
     | 0=>u=.pointer (some ⟨w.heap.size,3,none⟩)
     | 1=>u=.slice (some ⟨gk,0,none⟩) t.keys.length q3
     | 2=>u=.int .i64 n
     | 3=>u=.pointer (some ⟨gk,n,none⟩)
     | 4=>u=.string s
     | 5=>u=.pointer (some ⟨w.heap.size,4,none⟩)
     | 6=>u=.slice (some ⟨ge,0,none⟩) t.vals.length q4
     | 7=>u=.int .i64 n
     | 8=>u=.pointer (some ⟨ge,n * 5,none⟩)
     | 9=>u=.agg #[.int .i64 x.kind,.int .i64 x.num,.string x.txt,.slice A5 x.keys.length q5,.slice A6 x.vals.length q6]
     | 10=>∃ b:Bool,u=.bool b/\(b=true->AttrOK s x)
     | 11=>∃ b:Bool,u=.bool b/\(b=false->AttrOK s x)
     | _=>True) ?_ ?_ ?_
   ·intro j u V V' hc hφ
    rcases j with _ | _ | _ | _ | _ | _ | _ | _ | _ | _ | _ | _ | j
    ·exact hφ
    ·exact hφ
    ·exact hφ
    ·exact hφ
    ·exact hφ
    ·exact hφ
    ·exact hφ
    ·exact hφ
    ·exact hφ
    ·exact hφ
    ·exact hφ
    ·exact hφ
    ·exact hφ
   ·intro j oo hj ho a' w' hst hch hdep K2 hK2
    have hcw:Chg [] w w':=hcr.trans ((Chg.refl [] wr).dr.trans hch New.nil) New.nil;obtain ⟨a0,a1,a2,a3,a4,af⟩:=cells5 (box5 z1 _ ((Chg.refl [] wr).dr.trans hch New.nil));obtain ⟨y0,y1,y2,y3,y4⟩:=YE.out _ hcw;have hyk:=YK.out _ hcw;have hj':j < 12:=hj;rcases j with _ | _ | _ | _ | _ | _ | _ | _ | _ | _ | _ | _ | j
    ·obtain rfl:_=oo:=Option.some.inj ho
     have h1:=g_eq (t:=1) (v:=.pointer (some ⟨w.heap.size,0,none⟩)) (hst 1 (by simp));unfold Oper.wp;go_simp;exact ⟨_,rfl,hK2 _ _ (Chg.refl _ _) rfl⟩
    ·obtain rfl:_=oo:=Option.some.inj ho
     have h11:=g_eq (t:=11) (v:=.pointer (some ⟨w.heap.size,3,none⟩)) (hdep 0 (by kernel_rfl));unfold Oper.wp;go_simp;exact ⟨_,rfl,hK2 _ _ (Chg.refl _ _) rfl⟩
    ·obtain rfl:_=oo:=Option.some.inj ho
     have h3:=g_eq (t:=3) (v:=.int .i64 n) (hst 3 (by simp));unfold Oper.wp;go_simp;exact ⟨_,rfl,hK2 _ _ (Chg.refl _ _) rfl⟩
    ·obtain rfl:_=oo:=Option.some.inj ho
     have h12:=g_eq (t:=12) (v:=.slice (some ⟨gk,0,none⟩) t.keys.length q3) (hdep 1 (by kernel_rfl));have h13:=g_eq (t:=13) (v:=.int .i64 n) (hdep 2 (by kernel_rfl));unfold Oper.wp;go_simp;exact ⟨_,rfl,hK2 _ _ (Chg.refl _ _) rfl⟩
    ·obtain rfl:_=oo:=Option.some.inj ho
     have h14:=g_eq (t:=14) (v:=.pointer (some ⟨gk,n,none⟩)) (hdep 3 (by kernel_rfl));unfold Oper.wp;go_simp;exact ⟨_,rfl,hK2 _ _ (Chg.refl _ _) rfl⟩
    ·obtain rfl:_=oo:=Option.some.inj ho
     have h1:=g_eq (t:=1) (v:=.pointer (some ⟨w.heap.size,0,none⟩)) (hst 1 (by simp));unfold Oper.wp;go_simp;exact ⟨_,rfl,hK2 _ _ (Chg.refl _ _) rfl⟩
    ·obtain rfl:_=oo:=Option.some.inj ho
     have h16:=g_eq (t:=16) (v:=.pointer (some ⟨w.heap.size,4,none⟩)) (hdep 5 (by kernel_rfl));unfold Oper.wp;go_simp;exact ⟨_,rfl,hK2 _ _ (Chg.refl _ _) rfl⟩
    ·obtain rfl:_=oo:=Option.some.inj ho
     have h3:=g_eq (t:=3) (v:=.int .i64 n) (hst 3 (by simp));unfold Oper.wp;go_simp;exact ⟨_,rfl,hK2 _ _ (Chg.refl _ _) rfl⟩
    ·obtain rfl:_=oo:=Option.some.inj ho
     have h17:=g_eq (t:=17) (v:=.slice (some ⟨ge,0,none⟩) t.vals.length q4) (hdep 6 (by kernel_rfl));have h18:=g_eq (t:=18) (v:=.int .i64 n) (hdep 7 (by kernel_rfl));unfold Oper.wp;go_simp;exact ⟨_,rfl,hK2 _ _ (Chg.refl _ _) rfl⟩
    ·obtain rfl:_=oo:=Option.some.inj ho
     have h19:=g_eq (t:=19) (v:=.pointer (some ⟨ge,n * 5,none⟩)) (hdep 8 (by kernel_rfl));unfold Oper.wp;go_simp;exact ⟨_,rfl,hK2 _ _ (Chg.refl _ _) rfl⟩
    ·obtain rfl:_=oo:=Option.some.inj ho
     have h15:=g_eq (t:=15) (v:=.string s) (hdep 4 (by kernel_rfl));have h20:=g_eq (t:=20) (v:=.agg #[.int .i64 x.kind,.int .i64 x.num,.string x.txt,.slice A5 x.keys.length q5,.slice A6 x.vals.length q6]) (hdep 9 (by kernel_rfl));unfold Oper.wp;go_simp;refine (sayAttr_q s x _ _ (HRX.out.chg hcw) hfx).mono ?_;rintro e w3 ⟨b,rfl,hc3,hq⟩;exact ⟨_,rfl,hK2 _ _ hc3 ⟨b,rfl,hq⟩⟩
    ·obtain rfl:_=oo:=Option.some.inj ho
     obtain ⟨b,hb,hq⟩ : ∃ b:Bool,Act.g a' 21=.bool b/\(b=true->AttrOK s x):=hdep 10 (by kernel_rfl);have h21:=g_eq hb;have HQ:=Lib.hid hq;clear hq;unfold Oper.wp;go_simp;exact ⟨_,rfl,hK2 _ _ (Chg.refl _ _) ⟨!b,rfl,fun h=>HQ.out (by simpa using h)⟩⟩
    ·omega
   ·intro u w' hch hφ A2 hA2
    obtain ⟨b,hub,hq⟩ : ∃ b:Bool,u 11=.bool b/\(b=false->AttrOK s x):=hφ 11 (by decide);simp [putAll,dOf,Act.put,hub] at hA2;subst hA2;have HQ:=Lib.hid hq;clear hφ hub hq;have hcw:Chg [] w w':=hcr.trans ((Chg.refl [] wr).dr.trans hch New.nil) New.nil;have z2:=box5 z1 _ ((Chg.refl [] wr).dr.trans hch New.nil);refine HK.out _ _ ?_;clear HK
    cases b
    ·go_wp2
     go_roundg (t.keys.length - (n+1))
     case measure=>omega
     case rel=>exact ⟨n+1,by omega,rfl,by go_num,hcw,z2,Lib.hid fun j k y hj hk hy=>by
       rcases Nat.lt_succ_iff_lt_or_eq.1 hj with h | rfl
       ·exact hall.out j k y h hk hy
       ·rw [HSX.out.1] at hk
        rw [HSX.out.2] at hy
        cases hk
        cases hy
        first | exact HQ.out rfl | exact HQ.out trivial⟩
    ·go_wp2
     go_ret
     exact ⟨_,rfl,hcw,fun h=>by cases h⟩
  ·have hq:n=t.keys.length:=by omega
   have HQ:Hid (∀ (j:Nat) (k:ByteArray) (y:T),t.keys[j]?=some k->t.vals[j]?=some y->AttrOK k y):=Lib.hid fun j k y hk hy=>hall.out j k y (by have:=(List.getElem?_eq_some_iff.1 hk).1; omega) hk hy
   clear hq
   go_wp2
   go_ret
   exact ⟨_,rfl,hcr,fun hb=>svc_of (by simpa using hb) HQ.out⟩
theorem says_of {t:T} (h5:t.kind=5) (h:∀ (j:Nat) (k:ByteArray) (y:T),t.keys[j]?=some k->t.vals[j]?=some y->TopOKc k y):∃ m,t=.map m/\SaysOK m:=by
 obtain ⟨m,rfl⟩:=map_of h5;refine ⟨m,rfl,fun p hp=>?_⟩;obtain ⟨j,hj⟩:=List.getElem?_of_mem hp;exact h j p.1 p.2 (by simp [T.keys,T.m,hj]) (by simp [T.vals,T.m,hj])
theorem top_svcs {x:T} (h5:x.kind=5) (h:∀ (j:Nat) (y:T),x.vals[j]?=some y->SvcSaid y):TopOKc cServices x:=by
 obtain ⟨m,rfl⟩:=map_of h5
 refine .services fun p hp=>?_
 obtain ⟨j,hj⟩:=List.getElem?_of_mem hp;exact h j p.2 (by simp [T.vals,T.m,hj])
theorem top_res {s:ByteArray} {x:T} (hs:s=cNetworks∨s=cVolumes) (h5:x.kind=5) (h:ResAt x x.keys.length):TopOKc s x:=by
 obtain ⟨m,rfl,hm⟩:=res_said h5 h;rcases hs with rfl | rfl
 ·exact .nets hm
 ·exact .vols hm
theorem says_q (t:T) (v:Value) (w:World) (h:Rd o w t v) (hf:Fine t):Calls Tryz.prog 17 #[v] w (SomeQ (∃ m,t=.map m/\SaysOK m) w):=by
 obtain ⟨A3,q3,A4,q4,rfl,hk,hv⟩:=h.five;have hkl:=hf.len
 go_enter Tryz.func17,Tryz.ntmps17
 go_wp2_with fail
 go_loopg [3] t.keys.length (fun g i wr=>∃ n:Nat,n<=t.keys.length/\g=t.keys.length - n/\i=.int .i64 n/\Chg [] w wr/\wr.heap[w.heap.size]?=some (.cells #[.int .i64 t.kind,.int .i64 t.num,.string t.txt,.slice A3 t.keys.length q3,.slice A4 t.vals.length q4] 25)/\Hid (∀ j k y,j < n->t.keys[j]?=some k->t.vals[j]?=some y->TopOKc k y))
 case atStart=>exact ⟨0,Nat.zero_le _,by omega,rfl,(Chg.refl [] w).al _,heap_alloc_new _ _,Lib.hid fun j k y hj=>absurd hj (Nat.not_lt_zero _)⟩
 case round=>
  obtain ⟨n,hn,rfl,rfl,hcr,z1,hall⟩:=hrel;obtain ⟨a0,a1,a2,a3,a4,af⟩:=cells5 z1
  by_cases hlt:n < t.keys.length
  ·have hltb:decide ((n:Int) < (t.keys.length:Int))=true:=by simp; omega
   obtain ⟨s,hs1⟩ : ∃ s,t.keys[n]?=some s:=⟨_,List.getElem?_eq_getElem hlt⟩
   obtain ⟨x,hx⟩ : ∃ x,t.vals[n]?=some x:=⟨_,List.getElem?_eq_getElem (by omega)⟩
   obtain ⟨gk,ck,ek,hgk,yk⟩:=hk.elem hs1;obtain ⟨ge,c1,A5,q5,A6,q6,e1,hge,rx,ye⟩:=hv.elem hx
   cases e1
   cases ek
   have hfx:=hf.vals (List.mem_of_getElem? hx)
   have hnv:n < t.vals.length:=by omega
   have YK:=Lib.hid yk;have HSX:=Lib.hid (And.intro hs1 hx);have HRX:=Lib.hid rx
   have HNEXT:Hid (TopOKc s x->∀ (j:Nat) (k:ByteArray) (y:T),j < n+1->t.keys[j]?=some k->t.vals[j]?=some y->TopOKc k y):=Lib.hid fun hq j k y hj hk hy=>by
    rcases Nat.lt_succ_iff_lt_or_eq.1 hj with h | rfl
    ·exact hall.out j k y h hk hy
    ·rw [hs1] at hk
     rw [hx] at hy
     cases hk
     cases hy
     exact hq
   obtain ⟨y0,y1,y2,y3,y4⟩:=ye _ hcr;clear hs1 hx ye yk rx
   go_upto_region 5 with fail
   have k0:=YK.out _ hcr;have k1:=cell_al k0;have b3:=cell_al a3;have b4:=cell_al a4;have g0:=cell_al y0;have g1:=cell_al y1;have g2:=cell_al y2;have g3:=cell_al y3;have g4:=cell_al y4
   go_region
   clear k0 k1 b3 b4 g0 g1 g2 g3 g4
   obtain ⟨W0,hW0⟩ : ∃ W0:World,W0=(wr.alloc (.cells #[.int .i64 x.kind,.int .i64 x.num,.string x.txt,.slice A5 x.keys.length q5,.slice A6 x.vals.length q6] 25)).drew:=⟨_,rfl⟩
   obtain ⟨B,hB⟩ : ∃ B:Nat,B=wr.heap.size:=⟨_,rfl⟩
   have hc0:Chg [] w W0:=hW0 ▸ (hcr.al _).dr
   have hx0:W0.heap[B]?=some (.cells #[.int .i64 x.kind,.int .i64 x.num,.string x.txt,.slice A5 x.keys.length q5,.slice A6 x.vals.length q6] 25):=by rw [hB,hW0]; exact heap_alloc_new wr _
   have z2:W0.heap[w.heap.size]?=some (.cells #[.int .i64 t.kind,.int .i64 t.num,.string t.txt,.slice (some ⟨gk,0,none⟩) t.keys.length q3,.slice (some ⟨ge,0,none⟩) t.vals.length q4] 25):=by rw [hW0]; exact (heap_alloc_old wr (.cells #[.int .i64 x.kind,.int .i64 x.num,.string x.txt,.slice A5 x.keys.length q5,.slice A6 x.vals.length q6] 25) _ (Array.getElem?_eq_some_iff.1 z1).1).trans z1
   rw [<- hW0,<- hB];clear hW0 hB a0 a1 a2 a3 a4 af y0 y1 y2 y3 y4 z1 hcr;obtain ⟨a0,a1,a2,a3,a4,af⟩:=cells5 z2;obtain ⟨x0,x1,x2,x3,x4,xf⟩:=cells5 hx0;have hxt:=hfx.txt;have hxl:=hfx.len
   by_cases h1:s=cName
   ·subst h1
    by_cases hk3:x.kind=3
    ·have hk3':((x.kind:Int) != 3)=false:=by simp; omega
     have HK3:Hid (TopOKc cName x):=Lib.hid (by obtain ⟨z,rfl⟩:=text_of hk3; exact .name);clear hk3
     go_wp2_with fail
     refine (sayProject_any x.txt _ hxt).mono ?_;rintro e w3 ⟨b,rfl,hc3⟩;have hc:=hc0.trans hc3 New.nil;have z3:=box5 z2 _ hc3;clear hc3
     cases b
     ·go_wp2
      go_ret
      exact ⟨_,rfl,hc,fun h=>by cases h⟩
     ·go_wp2
      go_roundg (t.keys.length - (n+1))
      case measure=>omega
      case rel=>exact ⟨n+1,by omega,rfl,by go_num,hc,z3,Lib.hid (HNEXT.out HK3.out)⟩
    ·have hk3':((x.kind:Int) != 3)=true:=by simp; omega
     clear hk3
     go_wp2
     go_ret
     exact ⟨_,rfl,hc0,fun h=>by cases h⟩
   have f1:(s.toList == [110,97,109,101])=false:=ne_toList h1 (by kernel_rfl);clear h1
   by_cases h2:s=cServices
   ·subst h2
    obtain ⟨B5,p5,B6,p6,e5,hkx,hvx⟩:=HRX.out.five
    cases e5
    go_wp2
    go_loopg [6] x.keys.length (fun g i wx=>∃ j:Nat,j<=x.keys.length/\g=x.keys.length - j/\i=.int .i64 j/\Chg [] w wx/\wx.heap[w.heap.size]?=some (.cells #[.int .i64 t.kind,.int .i64 t.num,.string t.txt,.slice (some ⟨gk,0,none⟩) t.keys.length q3,.slice (some ⟨ge,0,none⟩) t.vals.length q4] 25)/\wx.heap[B]?=some (.cells #[.int .i64 x.kind,.int .i64 x.num,.string x.txt,.slice A5 x.keys.length q5,.slice A6 x.vals.length q6] 25)/\Hid (∀ jj y,jj < j->x.vals[jj]?=some y->SvcSaid y))
    case atStart=>exact ⟨0,Nat.zero_le _,by omega,rfl,hc0,z2,hx0,Lib.hid fun jj y hj=>absurd hj (Nat.not_lt_zero _)⟩
    case round=>
     clear a0 a1 a2 a3 a4 af x0 x1 x2 x3 x4 xf hc0 z2 hx0;obtain ⟨j,hj,rfl,rfl,hcj,zt,zx,hsv⟩:=hrel;obtain ⟨a0,a1,a2,a3,a4,af⟩:=cells5 zt;obtain ⟨x0,x1,x2,x3,x4,xf⟩:=cells5 zx
     by_cases hjl:j < x.keys.length
     ·have hjv:j < x.vals.length:=by omega
      have hjlb:decide ((j:Int) < (x.keys.length:Int))=true:=by simp; omega
      obtain ⟨s,hs1⟩ : ∃ s,x.keys[j]?=some s:=⟨_,List.getElem?_eq_getElem hjl⟩
      obtain ⟨y,hy⟩ : ∃ y,x.vals[j]?=some y:=⟨_,List.getElem?_eq_getElem hjv⟩
      obtain ⟨hk2,ck2,ek2,hhk2,yk2⟩:=hkx.elem hs1;obtain ⟨he2,ce2,A7,q7,A8,q8,ee2,hhe2,ry,ye2⟩:=hvx.elem hy
      cases ek2
      cases ee2
      have hss:=hfx.key (List.mem_of_getElem? hs1);have hfy:=hfx.vals (List.mem_of_getElem? hy);have hks:=yk2 _ hcj;have YE:=Lib.hid ye2;have HRY:=Lib.hid ry;have HY:=Lib.hid hy;clear hs1 hy yk2 ye2 ry
      go_wp2_with fail
      refine (sayName_any s _ hss).mono ?_;rintro e w3 ⟨b,rfl,hc3⟩;have hc:=hcj.trans hc3 New.nil;have zt3:=box5 zt _ hc3;have zx3:=box5 zx _ hc3;clear hc3 x0 x1 x2 x3 x4 xf a0 a1 a2 a3 a4 af zt zx hks hcj;obtain ⟨a0,a1,a2,a3,a4,af⟩:=cells5 zt3;obtain ⟨x0,x1,x2,x3,x4,xf⟩:=cells5 zx3;obtain ⟨y0,y1,y2,y3,y4⟩:=YE.out _ hc
      cases b
      ·go_wp2
       go_ret
       exact ⟨_,rfl,hc,fun h=>by cases h⟩
      ·go_wp2_with fail
       refine (saysService_q y _ _ (HRY.out.chg hc) hfy).mono ?_;rintro e w4 ⟨b,rfl,hc4,hq⟩;have hcc:=hc.trans hc4 New.nil;have zt4:=box5 zt3 _ hc4;have zx4:=box5 zx3 _ hc4;have HQ:=Lib.hid hq;clear hc4 x0 x1 x2 x3 x4 xf a0 a1 a2 a3 a4 af zt3 zx3 hc hq y0 y1 y2 y3 y4
       cases b
       ·go_wp2
        go_ret
        exact ⟨_,rfl,hcc,fun h=>by cases h⟩
       ·go_wp2
        go_roundg (x.keys.length - (j+1))
        case measure=>omega
        case rel=>exact ⟨j+1,by omega,rfl,by go_num,hcc,zt4,zx4,Lib.hid fun jj z hj hz=>by
          rcases Nat.lt_succ_iff_lt_or_eq.1 hj with h | rfl
          ·exact hsv.out jj z h hz
          ·rw [HY.out] at hz
           cases hz
           first | exact HQ.out rfl | exact HQ.out trivial⟩
     ·have hjlb:decide ((j:Int) < (x.keys.length:Int))=false:=by simp; omega
      have hje:j=x.keys.length:=by omega
      by_cases hk5:x.kind=5
      ·have n5:((x.kind:Int) != 5)=false:=by simp; omega
       have HT5:Hid (TopOKc cServices x):=Lib.hid (top_svcs hk5 fun jj y hy=>hsv.out jj y (by have h1:=(List.getElem?_eq_some_iff.1 hy).1; have h2:=T.keys_len hk5; omega) hy);clear hk5 hje
       go_wp2
       go_roundg (t.keys.length - (n+1))
       case measure=>omega
       case rel=>exact ⟨n+1,by omega,rfl,by go_num,hcj,zt,Lib.hid (HNEXT.out HT5.out)⟩
      ·have n5:((x.kind:Int) != 5)=true:=by simp; omega
       clear hk5 hje
       go_wp2
       go_ret
       exact ⟨_,rfl,hcj,fun h=>by cases h⟩
   have f2:(s.toList == [115,101,114,118,105,99,101,115])=false:=ne_toList h2 (by kernel_rfl);clear h2
   by_cases h3:s=cNetworks∨s=cVolumes
   ·have H3:=Lib.hid h3
    rcases h3 with rfl | rfl
    all_goals
     go_wp2_with fail
     refine (sayResources_any x _ _ (HRX.out.chg hc0) hfx).mono ?_;rintro e w3 ⟨b,rfl,hc3,hq⟩;have hc:=hc0.trans hc3 New.nil;have z3:=box5 z2 _ hc3;have HQ:=Lib.hid hq;clear hc3 x0 x1 x2 x3 x4 xf hx0 hq
     cases b
     ·go_wp2
      go_ret
      exact ⟨_,rfl,hc,fun h=>by cases h⟩
     ·go_wp2
      go_roundg (t.keys.length - (n+1))
      case measure=>omega
      case rel=>exact ⟨n+1,by omega,rfl,by go_num,hc,z3,Lib.hid (HNEXT.out (by
        have hq:x.kind=5/\ResAt x x.keys.length:=by first | exact HQ.out rfl | exact HQ.out trivial
        exact top_res (by first | exact .inl rfl | exact .inr rfl) hq.1 hq.2))⟩
   simp only [not_or] at h3;have f3:(s.toList == [110,101,116,119,111,114,107,115])=false:=ne_toList h3.1 (by kernel_rfl);have f4:(s.toList == [118,111,108,117,109,101,115])=false:=ne_toList h3.2 (by kernel_rfl);clear h3
   go_wp2_with fail
   refine (sayExtra_q s _).mono ?_;rintro e w3 ⟨b,rfl,hc3,hq⟩;have hc:=hc0.trans hc3 New.nil;have z3:=box5 z2 _ hc3;have HQ:=Lib.hid hq;clear hc3 x0 x1 x2 x3 x4 xf hx0 hq
   cases b
   ·go_wp2
    go_ret
    exact ⟨_,rfl,hc,fun h=>by cases h⟩
   ·go_wp2
    go_roundg (t.keys.length - (n+1))
    case measure=>omega
    case rel=>exact ⟨n+1,by omega,rfl,by go_num,hc,z3,Lib.hid (HNEXT.out (.extra (by first | exact HQ.out rfl | exact HQ.out trivial)))⟩
  ·have HQ:Hid (∀ (j:Nat) (k:ByteArray) (y:T),t.keys[j]?=some k->t.vals[j]?=some y->TopOKc k y):=Lib.hid fun j k y hk hy=>hall.out j k y (by have:=(List.getElem?_eq_some_iff.1 hk).1; omega) hk hy
   go_wp2
   go_ret
   exact ⟨_,rfl,hcr,fun hb=>says_of (by simpa using hb) HQ.out⟩
end Go.Proofs.YtpofkokbmifhgaaGreatDoor
namespace Go.Proofs.YtpofkokbmifhgaaGreatDoor
open Go.RowKit
section
variable {P:Program} {ops:Array Oper} {Q:Exit->Act->World->Prop}
theorem wp_region_put3 {id:Nat} {a:Act} {w:World} (hm:P.follows .mixedOrders=true) (hord:ordered ops=true) (st:List Nat) (p jb:Nat) (hform:putForm ops a.tmps.size st p=true) (hjb:waits ops p jb=true) (O:Obj)
  (φ:Nat->Value->Option Nat->World->Prop) (mono:∀ i v b w w',Chg [] w w'->φ i v b w->φ i v b w') (born:∀ i v w',φ i v none w'->φ i v (some w'.heap.size) (w'.alloc O)) (ψ:Nat->World->Prop) (monoψ:∀ B w w',Chg [] w w'->ψ B w->ψ B w') (keep:Nat->Bool)
  (stepB:∀ (o:Oper),ops[jb]?=some o->∀ (a':Act) (w':World),(∀ s∈st,Act.g a' s=Act.g a s)->∀ K:Value->World->Prop,K (.pointer (some ⟨w'.heap.size,0,none⟩)) (w'.alloc O)->o.wp P a' w' (fun a2 w2=>∃ v,a2=a'.put o.dst v/\K v w2) Q)
  (step:∀ (i:Nat) (o:Oper),i < ops.size->i≠p->i≠jb->ops[i]?=some o->∀ (a':Act) (w':World) (b:Option Nat),(∀ B,b=some B->w.heap.size<=B/\B < w'.heap.size)->(∀ s∈st,Act.g a' s=Act.g a s)->Chg [] w.drew w'->(∀ j,j≠p->j≠jb->waits ops i j=true->(waits ops p i=true∨keep j=true)->φ j (Act.g a' (dOf ops j)) b w') ->
   ∀ K:Value->World->Prop,(∀ v w'',Chg [] w' w''->φ i v b w''->K v w'')->o.wp P a' w' (fun a2 w2=>∃ v,a2=a'.put o.dst v/\K v w2) Q)
  (stepP:∀ (o:Oper),ops[p]?=some o->∀ (a':Act) (w':World) (B:Nat),Act.g a' (dOf ops jb)=.pointer (some ⟨B,0,none⟩)->w.heap.size<=B->w'.heap[B]?=some O->(∀ s∈st,Act.g a' s=Act.g a s)->Chg [] w.drew w'->(∀ j,j≠jb->waits ops p j=true->φ j (Act.g a' (dOf ops j)) (some B) w') ->
   ∀ K:World->Prop,(∀ w2,Chg [] w.drew w2->w'.heap.size<=w2.heap.size->ψ B w2->(∀ j v,j≠p->j≠jb->keep j=true->φ j v (some B) w'->φ j v (some B) w2)->K w2)->o.wp P a' w' (fun a2 w2=>a2=a'/\K w2) Q)
  (fin:∀ (u:Nat->Value) (w':World) (B:Nat),Chg [] w.drew w'->u jb=.pointer (some ⟨B,0,none⟩)->w.heap.size<=B->B < w'.heap.size->(∀ j,j < ops.size->j≠p->j≠jb->keep j=true->φ j (u j) (some B) w')->u p=Act.g a 0->ψ B w'->∀ A2,A2=putAll ops u ops.size a->Q .normal A2 w'):(Code.region id ops true).wp P Q a w:=by
 unfold putForm at hform;simp only [Bool.and_eq_true,decide_eq_true_eq] at hform;obtain ⟨⟨⟨⟨⟨hgd,hdst⟩,hnd⟩,h0st⟩,h0s⟩,hp⟩:=hform
 have h0st:0∈st:=by simpa using h0st
 have guard:∀ (i:Nat) (o:Oper),ops[i]?=some o->o.guard=none:=by
  intro i o ho
  obtain ⟨hlt,he⟩:=(Array.getElem?_eq_some_iff.1 ho)
  have:=Array.all_eq_true.1 hgd i hlt;rw [he] at this
  simpa using this
 have head:∀ i,i < ops.size->i≠p->∃ o d,ops[i]?=some o/\o.dst=some d/\dOf ops i=d/\d < a.tmps.size/\d ∉ st:=by
  intro i hi hip
  have h1:=List.all_eq_true.1 hdst i (List.mem_range.2 hi);have ho:ops[i]?=some (ops[i]'(by omega)):=Array.getElem?_eq_getElem (by omega);rw [ho] at h1;simp only at h1
  cases hd:(ops[i]'(by omega)).dst with
  | none=>rw [hd] at h1; simp at h1; exact absurd h1 hip
  | some d=>
   rw [hd] at h1;simp only [Bool.and_eq_true,decide_eq_true_eq,Bool.not_eq_true',List.contains_eq_mem,decide_eq_false_iff_not] at h1;exact ⟨_,d,ho,hd,by unfold dOf; rw [ho]; simp [hd],h1.1.1,h1.1.2⟩
 have headp:∃ o,ops[p]?=some o/\o.dst=none/\dOf ops p=0:=by
  have h1:=List.all_eq_true.1 hdst p (List.mem_range.2 hp);have ho:ops[p]?=some (ops[p]'(by omega)):=Array.getElem?_eq_getElem (by omega);rw [ho] at h1;simp only at h1
  cases hd:(ops[p]'(by omega)).dst with
  | none=>exact ⟨_,ho,hd,by unfold dOf; rw [ho]; simp [hd]⟩
  | some d=>rw [hd] at h1; simp at h1
 have distinct:∀ i j,i < ops.size->j < ops.size->i≠j->dOf ops i≠dOf ops j:=by
  intro i j hi hj hij he
  have hp:=List.pairwise_iff_getElem.1 hnd;simp only [List.length_map,List.length_range,List.getElem_map,List.getElem_range] at hp;rcases Nat.lt_or_gt_of_ne hij with h | h
  ·exact hp i j hi hj h he
  ·exact hp j i hj hi h he.symm
 have wt:∀ {i j:Nat} {o:Oper},ops[i]?=some o->waits ops i j=true->∃ e∈o.after,Region.binds .any e=true/\e.on=j:=fun {i j o} ho hj=>by
  unfold waits at hj;rw [ho] at hj;obtain ⟨e,he,hb⟩:=Array.any_eq_true'.1 hj;simp only [Bool.and_eq_true,beq_iff_eq] at hb;exact ⟨e,he,hb⟩
 have jlt:∀ {i j:Nat},i < ops.size->waits ops i j=true->j < i:=fun {i j} hi hj=>by
  have ho:ops[i]?=some (ops[i]'hi):=Array.getElem?_eq_getElem hi;obtain ⟨e,he,hb,rfl⟩:=wt ho hj;exact ordered_spec hord ho e he hb
 have hjbp:jb < p:=jlt hp hjb
 refine wp_region_inv hm hord (fun L a' w'=>(∀ s,(∀ j,j < ops.size->j≠p->dOf ops j≠s)->Act.g a' s=Act.g a s)/\a'.tmps.size=a.tmps.size/\a'.defers=a.defers/\Chg [] w.drew w' /\
   ∃ b:Option Nat,(L jb=false->b=none)/\(L jb=true->∃ B,b=some B/\Act.g a' (dOf ops jb)=.pointer (some ⟨B,0,none⟩)/\w.heap.size<=B/\B < w'.heap.size/\(L p=false->w'.heap[B]?=some O)) /\
    (∀ j,j < ops.size->j≠p->j≠jb->L j=true->(L p=true->keep j=true)->φ j (Act.g a' (dOf ops j)) b w')/\(L p=true->L jb=true/\∃ B,b=some B/\ψ B w'))
  ⟨fun _ _=>rfl,rfl,rfl,Chg.refl _ _,none,fun _=>rfl,fun h=>(by cases h),fun j _ _ _ h _=>(by cases h),fun h=>(by cases h)⟩ ?_ ?_
 ·intro L i o ho hLi hcl hdeps a' w' ⟨hst,hsz,hdf,hch,b,hb0,hb1,hφ,hψ⟩
  have hi:i < ops.size:=(Array.getElem?_eq_some_iff.1 ho).1
  have hwant:Region.wanted o (yielded ops a'.tmps)=true:=by simp [Region.wanted,guard i o ho]
  unfold wpOp;simp only [ho,hwant,if_true];refine .inl ?_
  have hst':∀ s∈st,Act.g a' s=Act.g a s:=fun s hs=>hst s (fun j hj hjp e=>by obtain ⟨_,_,_,_,hd1,_,hds1⟩:=head j hj hjp; exact hds1 (by rw [<- hd1,e]; exact hs))
  have hbB:∀ B,b=some B->w.heap.size<=B/\B < w'.heap.size:=fun B hB=>by
   cases hL:L jb with
   | false=>rw [hb0 hL] at hB; cases hB
   | true=>
    obtain ⟨B',h1,_,h2,h3,_⟩:=hb1 hL;rw [h1] at hB;obtain rfl:B'=B:=Option.some.inj hB;exact ⟨h2,h3⟩
  have pnot:∀ {j},L p=true->waits ops p j=true->L j=true:=fun {j} hLp hj=>by
   obtain ⟨op,hop,_,_⟩:=headp;obtain ⟨e,he,hb,rfl⟩:=wt hop hj;exact hcl p op hop hLp e he hb
  have hdep:∀ j,j≠p->j≠jb->waits ops i j=true->(i=p∨waits ops p i=true∨keep j=true)->φ j (Act.g a' (dOf ops j)) b w':=fun j hjp hjjb hj hkj=>by
   obtain ⟨e,he,hb,rfl⟩:=wt ho hj;have h1:=hdeps e he hb;have h2:=jlt hi hj
   refine hφ e.on (by omega) hjp hjjb h1 fun hLp=>?_
   by_cases hip:i=p
   ·rw [hip,hLp] at hLi
    cases hLi
   ·rcases hkj with h3 | h3 | h3
    ·exact absurd h3 hip
    ·have:=pnot hLp h3
     rw [hLi] at this
     cases this
    ·exact h3
  by_cases hip:i=p
  ·subst hip
   obtain ⟨o1,ho1,hd,_⟩:=headp;obtain rfl:o1=o:=Option.some.inj (ho1.symm.trans ho)
   have hLjb:L jb=true:=by
    obtain ⟨e,he,hb,rfl⟩:=wt ho hjb;exact hdeps e he hb
   obtain ⟨B,rfl,hgB,hB1,hB2,hB3⟩:=hb1 hLjb;refine Oper.wp_mono ?_ (stepP o1 ho a' w' B hgB hB1 (hB3 hLi) hst' hch (fun j hjjb hj=>hdep j (by have:=jlt hi hj; omega) hjjb hj (.inl rfl)) (fun w2=>Chg [] w.drew w2/\w'.heap.size<=w2.heap.size/\ψ B w2/\∀ j v,j≠i->j≠jb->keep j=true->φ j v (some B) w'->φ j v (some B) w2) (fun w2 h1 h2 h3 h4=>⟨h1,h2,h3,h4⟩));rintro a2 w2 ⟨rfl,hc2,hs2,hψ2,hj2⟩
   have hbj:∀ {j},j≠i->(j == i)=false:=fun h=>by simp [h]
   refine ⟨hst,hsz,hdf,hc2,some B,fun h=>?_,fun _=>⟨B,rfl,hgB,hB1,by omega,fun h=>by simp at h⟩,fun j hj hjp hjjb hL hk=>?_,fun _=>⟨by simp [hLjb],B,rfl,hψ2⟩⟩
   ·rw [hLjb] at h
    simp at h
   ·exact hj2 _ _ hjp hjjb (hk (by simp)) (hφ j hj hjp hjjb (by simpa [hbj hjp] using hL) fun h=>by rw [hLi] at h; cases h)
  ·obtain ⟨o1,d,ho1,hd,hdi,hdl,hds⟩:=head i hi hip
   obtain rfl:o1=o:=Option.some.inj (ho1.symm.trans ho)
   have hbp:(p == i)=false:=by simp [Ne.symm hip]
   by_cases hijb:i=jb
   ·subst hijb
    have hLp:L p=false:=by
     cases h:L p with
     | false=>rfl
     | true=>have:=pnot h hjb; rw [hLi] at this; cases this
    obtain rfl:=hb0 hLi;refine Oper.wp_mono ?_ (stepB o1 ho a' w' hst' (fun v w2=>v=.pointer (some ⟨w'.heap.size,0,none⟩)/\w2=w'.alloc O) ⟨rfl,rfl⟩);rintro a2 w2 ⟨v,rfl,rfl,rfl⟩;rw [hd];refine ⟨fun s hs=>?_,by rw [size_put]; exact hsz,hdf,hch.al _,some w'.heap.size,fun h=>by simp at h,fun _=>⟨_,rfl,?_,?_,by simp,fun _=>(MapKept.heap_alloc w' O).1⟩,fun j hj hjp hjjb hL _=>?_,fun hL=>?_⟩
    ·rw [g_put_ne _ _ _ _ (fun e=>by subst e; exact hs i hi hip hdi)]
     exact hst s hs
    ·rw [hdi,g_put_same _ _ _ (by rw [hsz]; exact hdl)]
    ·exact hch.size
    ·have hb:(j == i)=false:=by simp [hjjb]
     rw [g_put_ne _ _ _ _ (by rw [<- hdi]; exact distinct j i hj hi hjjb)];exact born _ _ _ (hφ j hj hjp hjjb (by simpa [hb] using hL) fun h=>by rw [hLp] at h; cases h)
    ·simp [hbp,hLp] at hL
   ·refine Oper.wp_mono ?_ (step i o1 hi hip hijb ho a' w' b hbB hst' hch (fun j h1 h2 h3 h4=>hdep j h1 h2 h3 (.inr h4)) (fun v w2=>Chg [] w' w2/\φ i v b w2) (fun v w2 h1 h2=>⟨h1,h2⟩))
    rintro a2 w2 ⟨v,rfl,hc2,hv⟩;rw [hd]
    have hbjb:(jb == i)=false:=by simp [Ne.symm hijb]
    refine ⟨fun s hs=>?_,by rw [size_put]; exact hsz,hdf,hch.trans hc2 New.nil,b,fun h=>hb0 (by simpa [hbjb] using h),fun h=>?_,fun j hj hjp hjjb hL hk=>?_,fun hL=>?_⟩
    ·rw [g_put_ne _ _ _ _ (fun e=>by subst e; exact hs i hi hip hdi)]
     exact hst s hs
    ·obtain ⟨B,h1,h2,h3,h4,h5⟩:=hb1 (by simpa [hbjb] using h)
     refine ⟨B,h1,?_,h3,Nat.lt_of_lt_of_le h4 hc2.size,fun h=>(hc2.block B h4 (by simp)).trans (h5 (by simpa [hbp] using h))⟩;rw [g_put_ne _ _ _ _ (by rw [<- hdi]; exact distinct jb i (by omega) hi (Ne.symm hijb))];exact h2
    ·by_cases hji:j=i
     ·subst hji
      rw [hdi,g_put_same _ _ _ (by rw [hsz]; exact hdl)];exact hv
     ·have hb:(j == i)=false:=by simp [hji]
      rw [g_put_ne _ _ _ _ (by rw [<- hdi]; exact distinct j i hj hi hji)];exact mono _ _ _ _ _ hc2 (hφ j hj hjp hjjb (by simpa [hb] using hL) fun h=>hk (by simp [h]))
    ·have hLp:L p=true:=by simpa [hbp] using hL
     obtain ⟨h1,B,h2,h3⟩:=hψ hLp;exact ⟨by simp [h1],B,h2,monoψ _ _ _ hc2 h3⟩
 ·intro a' w' ⟨hst,hsz,hdf,hch,b,hb0,hb1,hφ,hψ⟩
  have hlt:∀ {j},j < ops.size->decide (j < ops.size)=true:=fun h=>by simp [h]
  obtain ⟨B,rfl,hgB,hB1,hB2,_⟩:=hb1 (hlt (by omega));obtain ⟨_,B',hB',hψB⟩:=hψ (hlt hp);obtain rfl:B=B':=Option.some.inj hB';obtain ⟨_,_,_,hp0⟩:=headp;have h0:Act.g a' 0=Act.g a 0:=hst 0 (fun j hj hjp e=>by obtain ⟨_,_,_,_,hd1,_,hds1⟩:=head j hj hjp; exact hds1 (by rw [<- hd1,e]; exact h0st));refine fin (fun j=>Act.g a' (dOf ops j)) w' B hch hgB hB1 hB2 (fun j hj hjp hjjb hk=>hφ j hj hjp hjjb (hlt hj) fun _=>hk) (by show Act.g a' (dOf ops p)=_; rw [hp0,h0]) hψB a' ?_
  refine act_ext (by rw [putAll_size,hsz]) (by rw [putAll_defers,hdf]) fun s=>?_
  by_cases hs:∃ j,j < ops.size/\dOf ops j=s
  ·obtain ⟨j,hj,rfl⟩:=hs
   have hdl1:dOf ops j < a.tmps.size:=by
    by_cases hjp:j=p
    ·subst hjp
     rw [hp0];exact h0s
    ·obtain ⟨o1,d1,_,_,hd1,hdl1,_⟩:=head j hj hjp
     rw [hd1];exact hdl1
   rw [putAll_eq ops _ a j _ hj (fun k hk hkj=>distinct k j hk hj hkj) hdl1]
  ·rw [putAll_ne ops _ a s _ (fun j hj e=>hs ⟨j,hj,e⟩)]
   exact hst s (fun j hj _ e=>hs ⟨j,hj,e⟩)
end
def Av (o:Nat->Prop) (b:Option Nat) (x:Nat):Prop:=o x/\∀ B,b=some B->x≠B
theorem Rd.av_born {o:Nat->Prop} {w:World} {O:Obj} {t:T} {u:Value} (h:Rd (Av o none) w t u):Rd (Av o (some w.heap.size)) (w.alloc O) t u:=
 h.to fun x hx ho=>⟨⟨ho.1,fun B hB=>by cases hB; omega⟩,(MapKept.heap_alloc w O).2 x hx⟩
theorem Rd.av_none {o:Nat->Prop} {w:World} {t:T} {u:Value} {b:Option Nat} (h:Rd (Av o b) w t u):Rd o w t u:=h.weak fun _ hx=>hx.1
end Go.Proofs.YtpofkokbmifhgaaGreatDoor
