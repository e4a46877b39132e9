/- Parts of the walk, made small by wip/tools/pack.py: Idx, Idx2, Next. No condition but those in each statement. -/
import Derived.Test.YtpofkokbmifhgaaGreatDoorL10
import Derived.BigQuiet
import Derived.Lib.ItoaLen
import Derived.Lib.AppendStr
import Derived.Laws.BytesArg
import Derived.Laws.IdiomStrings
set_option maxRecDepth 100000
set_option maxHeartbeats 20000000
set_option linter.unusedVariables false
set_option linter.unusedSimpArgs false
namespace Go.Proofs.YtpofkokbmifhgaaGreatDoor
open Go.RowKit
variable {o:Nat->Prop}
theorem ovIndex (c:UInt8) (s:ByteArray) (w:World) (hs:s.size<=70368744177664):Calls Tryz.prog 190 #[.string s,.string ⟨#[c]⟩] w fun e w'=>e=.returned (.int .i64 (bI c s))/\w=w':=by
 have hcl:=bIdx_le c s;have HC:=Lib.hid hcl;clear hcl;have hc1:(⟨#[c]⟩ : ByteArray).size=1:=rfl
 go_enter Tryz.func190,Tryz.ntmps190
 go_wp2
 go_loopg [5] s.size (fun g i wr=>∃ n:Nat,n<=bIdx c s/\g=s.size - n/\i=.int .i64 n/\w=wr)
 case atStart=>exact ⟨0,Nat.zero_le _,by omega,rfl,rfl⟩
 case round=>
  obtain ⟨n,hn,rfl,rfl,rfl⟩:=hrel;have HN:=Lib.hid hn;clear hn
  by_cases hlt:n < s.size
  ·have hlt2:decide ((n:Int)+1<=s.size)=true:=by simp; omega
   by_cases h58:s[n]=c
   ·have he:((s.extract n (n+1)).toList == [c])=true:=by
     rw [ext_one hlt,h58,ByteArray.toList_eq];simp
    have hc:=bIdx_here HN.out hlt h58;have HCC:=Lib.hid hc
    have hn64:n<=70368744177664:=by omega
    clear hc h58
    go_wp2
    go_ret
    refine ⟨?_,rfl⟩;unfold bI;rw [HCC.out,if_pos hlt]
    rfl
   ·have he:((s.extract n (n+1)).toList == [c])=false:=ne_toList (k:=⟨#[c]⟩) (fun e=>by
     rw [ext_one hlt] at e;have:(#[s[n]]:Array UInt8)=#[c]:=congrArg ByteArray.data e
     exact h58 (by simpa using this)) (by rw [ByteArray.toList_eq])
    have hc:=bIdx_step HN.out hlt h58;have HCC:=Lib.hid hc
    have hn64:n<=70368744177664:=by omega
    clear hc h58
    go_wp2
    go_roundg (s.size - (n+1))
    case measure=>omega
    case rel=>exact ⟨n+1,HCC.out,rfl,by go_num,rfl⟩
  ·have hlt2:decide ((n:Int)+1<=s.size)=false:=by simp; omega
   have hn64:n<=70368744177664:=by have:=HN.out; have:=HC.out; omega
   go_wp2
   go_ret
   refine ⟨?_,rfl⟩;unfold bI;rw [if_neg (by have:=HN.out; omega)]
   rfl
theorem extract_all (s:ByteArray):s.extract 0 s.size=s:=ByteArray.extract_zero_size
theorem ovCut_eq (s:ByteArray) (w:World) (hs:s.size<=70368744177664):Calls Tryz.prog 151 #[.string s,.string ⟨#[61]⟩] w fun e w'=>∃ a b,e=.returned (.tuple #[.string (cutK s),.string a,.bool b])/\(b=false->cutK s=s)/\Chg [] w w':=by
 have hle:=bIdx_le 61 s;have HI:=Lib.hid (ovIndex 61 s w hs);have he61:(⟨#[61]⟩ : ByteArray).size=1:=rfl
 go_enter Tryz.func151,Tryz.ntmps151
 go_wp2_with fail
 refine HI.out.mono ?_;rintro e w1 ⟨rfl,rfl⟩
 by_cases hc:bIdx 61 s < s.size
 ·obtain ⟨i,hi⟩ : ∃ i,i=bIdx 61 s:=⟨_,rfl⟩
  have hci:bI 61 s=(i:Int):=by unfold bI; rw [if_pos hc,hi]
  have hck:cutK s=s.extract 0 i:=by rw [hi]; rfl
  rw [hci];have HCK:=Lib.hid hck
  have hge:decide ((0:Int)<=(i:Int))=true:=by simp
  have hge2:decide ((i:Int) ≥ 0)=true:=by simp
  have hlt:i < s.size:=by omega
  have h1:i<=s.size:=by omega
  have h2:i+1<=s.size:=by omega
  clear hci hck hi hle hc HI
  go_wp2_with fail
  go_quiet (fail)
  go_wp2
  (try simp only [Exit.inBlock,Exit.then])
  refine bodyPost_ret (v:=.tuple #[.string (s.extract 0 i),.string (s.extract (i+1) s.size),.bool true]) (by simp [results,Tryz.results151,go_sem]) rfl ⟨s.extract (i+1) s.size,true,by rw [HCK.out],fun h=>(by cases h),by first | exact Chg.refl _ _ | exact Chg.drewN _ _ _ | exact Chg.drew _ _⟩
 ·have hci:bI 61 s=-1:=by unfold bI; rw [if_neg hc]
  have hck:cutK s=s:=by
   show s.extract 0 (bIdx 61 s)=s;rw [show bIdx 61 s=s.size by omega];exact extract_all s
  rw [hci];have HCK:=Lib.hid hck;clear hci hck hc HI hle
  go_wp2
  (try simp only [Exit.inBlock,Exit.then])
  refine bodyPost_ret (v:=.tuple #[.string s,.string ⟨#[]⟩,.bool false]) (by simp [results,Tryz.results151,go_sem]) rfl ⟨⟨#[]⟩,false,by rw [HCK.out],fun _=>HCK.out,Chg.refl _ _⟩
theorem kv_any (s:ByteArray) (p:Value) (w:World) (hs:s.size<=70368744177664):Calls Tryz.prog 106 #[.iface 9 (.string s),p] w fun e w'=>e=.returned (.tuple #[.string (cutK s),.nilIface])/\Chg [] w w':=by
 have HC:=Lib.hid (ovCut_eq s w hs)
 go_enter Tryz.func106,Tryz.ntmps106
 go_wp2_with fail
 refine HC.out.mono ?_;rintro e w1 ⟨a,b,rfl,hb,hc⟩;have HB:=Lib.hid (And.intro hb hc);clear hb hc
 obtain ⟨ck,hck⟩ : ∃ ck,ck=cutK s:=⟨_,rfl⟩
 rw [<- hck];have HK:=Lib.hid hck;clear hck
 cases b
 ·go_wp2
  go_ret2
  exact ⟨by show Ending.returned (.tuple #[.string s,.nilIface])=_; rw [HB.out.1 (by trivial)],HB.out.2⟩
 ·go_wp2
  go_ret2
  exact ⟨by show Ending.returned (.tuple #[.string ck,.nilIface])=_; rw [HK.out],HB.out.2⟩
theorem expose_any (s:ByteArray) (p:Value) (w:World):Calls Tryz.prog 110 #[.iface 9 (.string s),p] w fun e w'=>e=.returned (.tuple #[.string s,.nilIface])/\w=w':=by
 go_enter Tryz.func110,Tryz.ntmps110
 go_wp2
 go_ret2
 exact ⟨rfl,rfl⟩
theorem verb_text (s:ByteArray) (w:World):Calls Tryz.prog 154 #[.iface 9 (.string s)] w fun e w'=>e=.returned (.string s)/\w=w':=by
 go_enter Tryz.func154,Tryz.ntmps154
 go_wp2
 go_ret
 exact ⟨rfl,rfl⟩
theorem verb_nil (w:World):Calls Tryz.prog 154 #[.nilIface] w fun e w'=>e=.returned (.string cNilVerb)/\w=w':=by
 go_enter Tryz.func154,Tryz.ntmps154
 go_wp2
 go_ret
 exact ⟨rfl,rfl⟩
theorem leaf_text {w:World} {s:ByteArray} {v:Value} {F:List Nat} (h:Own w (.text s) v F):v=.iface 9 (.string s):=by
 simp only [Own] at h;exact h.1
theorem OwnM.look {w:World}:∀ {m:List (ByteArray × T)} {ks:List (ByteArray × Value)} {F:List Nat},OwnM w m ks F->∀ {k:ByteArray} {t:T},mget k m=some t->∃ v F',mlook k ks=some v/\Own w t v F'
 | [],_,_,_,k,t,hg=>by simp [mget] at hg
 | p :: m,ks,F,h,k,t,hg=>by
  simp only [OwnM] at h;obtain ⟨v,F1,F2,hl,h1,h2,rfl⟩:=h;unfold mget at hg
  by_cases e:p.1=k
  ·rw [if_pos e] at hg
   cases hg
   exact ⟨v,F1,e ▸ hl,h1⟩
  ·rw [if_neg e] at hg
   exact h2.look hg
theorem OwnM.look_none {w:World} {m:List (ByteArray × T)} {ks:List (ByteArray × Value)} {F:List Nat} (h:OwnM w m ks F) (hm:(m.map (·.1)).Nodup) (hk:(ks.map (·.1)).Nodup) (hl:ks.length=m.length) {k:ByteArray} (hg:mget k m=none):mlook k ks=none:=
 Go.Proofs.YtpofkokbmifhgaaGreatDoor.look_none.2 fun hmem=>get_none.1 hg ((h.keys hm hk hl k).1 hmem)
theorem look_at {w:World} {m:List (ByteArray × T)} {b:Nat} {F:List Nat} (h:Own w (.map m) (.iface 50 (.map (some b))) F) (hs:Srt m) (k:ByteArray) :
  ∃ ks,MapAt w b ks/\(match mget k m with | some t=>∃ v F',mlook k ks=some v/\Own w t v F' | none=>mlook k ks=none):=by
 obtain ⟨ks,F',hma,hl,ho,rfl⟩:=h.mapAt;refine ⟨ks,hma,?_⟩
 cases hg:mget k m with
 | none=>exact ho.look_none hs.nodup hma.nodup hl hg
 | some t=>exact ho.look hg
theorem volume_any (m:List (ByteArray × T)) (s:ByteArray) (b:Nat) (F:List Nat) (p:Value) (w:World) (h:Own w (.map m) (.iface 50 (.map (some b))) F) (hs:Srt m) (hg:mget cTarget m=some (.text s)) :
  Calls Tryz.prog 112 #[.iface 50 (.map (some b)),p] w fun e w'=>e=.returned (.tuple #[.string s,.nilIface])/\w=w':=by
 obtain ⟨ks,hma,hlk⟩:=look_at h hs cTarget;rw [hg] at hlk;obtain ⟨v,F',hlk,hv⟩:=hlk;obtain rfl:=leaf_text hv;have L1:=run_lookup_plain (P:=Tryz.prog) hma uM uS (zA w) cTarget;rw [hlk] at L1;simp only [Option.getD_some] at L1;clear hlk hma h hs hg hv
 go_enter Tryz.func112,Tryz.ntmps112
 go_wp2
 go_ret2
 exact ⟨rfl,rfl⟩
end Go.Proofs.YtpofkokbmifhgaaGreatDoor
namespace Go.Proofs.YtpofkokbmifhgaaGreatDoor
open Go.RowKit
variable {o:Nat->Prop}
noncomputable def gPow:Nat:=(Tryz.prog.globalNamed "internal/strconv.uint64pow10").getD 0
theorem gPow_eq:Tryz.prog.globalNamed "internal/strconv.uint64pow10" = some gPow:=by kernel_rfl
def TabP (w:World):Prop:=Lib.TabIs Tryz.prog w "internal/strconv.uint64pow10" .u64 Lib.pow10Tab
theorem TabP.lt {w:World} (h:TabP w):gPow < w.heap.size:=by
 unfold TabP Lib.TabIs World.var? at h;rw [gPow_eq,Option.bind_some] at h
 cases hb:w.heap[gPow]? with
 | none=>rw [hb] at h; simp at h
 | some x=>exact (Array.getElem?_eq_some_iff.1 hb).1
theorem TabP.keep {w w':World} (h:TabP w) (hb:w'.heap[gPow]?=w.heap[gPow]?):TabP w':=by
 unfold TabP Lib.TabIs World.var? at h ⊢;rw [gPow_eq,Option.bind_some] at h ⊢;rw [hb];exact h
theorem TabP.chg {F:List Nat} {w w':World} (h:TabP w) (hc:Chg F w w') (hF:gPow ∉ F):TabP w':=h.keep (hc.block _ h.lt hF)
theorem Chg.grow (F:List Nat) (w:World) (n:Nat) (os:Array Obj):Chg F w (Sort.grow (w.drewN n) os):=
 ⟨rfl,rfl,rfl,by simp [Sort.grow],fun i hi _=>by
  show (w.heap++os)[i]?=w.heap[i]?
  exact Array.getElem?_append_left hi⟩
theorem itoa_any (n:Int) (h0:-9223372036854775808<=n) (h1:n<=9223372036854775807) (w:World) (hT:TabP w):Calls Tryz.prog 113 #[.int .i64 n] w fun e w'=>e=.returned (.string (digits n))/\Chg [] w w':=by
 refine (strconv_Itoa n h0 h1 w hT).mono ?_;rintro e w' ⟨rfl,k,os,rfl⟩;exact ⟨rfl,Chg.grow _ _ _ _⟩
theorem number_any (n:Int) (h0:-9223372036854775808<=n) (h1:n<=9223372036854775807) (w:World) (hT:TabP w):Calls Tryz.prog 155 #[.iface 3 (.int .i64 n)] w fun e w'=>e=.returned (.string (digits n))/\Chg [] w w':=by
 have HI:=Lib.hid (itoa_any n h0 h1 w hT)
 go_enter Tryz.func155,Tryz.ntmps155
 go_wp2_with fail
 refine HI.out.mono ?_;rintro e w1 ⟨rfl,hc⟩
 go_wp2
 go_ret
 exact ⟨rfl,hc⟩
theorem look_text {w:World} {m:List (ByteArray × T)} {ks:List (ByteArray × Value)} {k:ByteArray} (h:match mget k m with | some t=>∃ v F',mlook k ks=some v/\Own w t v F' | none=>mlook k ks=none) (ht:textOr (mget k m)) :
  (∃ s,mget k m=some (.text s)/\mlook k ks=some (.iface 9 (.string s)))∨(mget k m=none/\mlook k ks=none):=by
 cases hg:mget k m with
 | none=>rw [hg] at h; exact .inr ⟨rfl,h⟩
 | some t=>
  rw [hg] at h;obtain ⟨v,F',h1,h2⟩:=h;have:=ht t hg
  cases t <;> simp [isText] at this
  obtain rfl:=leaf_text h2;exact .inl ⟨_,rfl,h1⟩
theorem portKey_eq {m:List (ByteArray × T)} {n:Int} (h:mget cTarget m=some (.int n)):portKey (.map m)=strOr cAny4 (mget cHostIp m)++cColon++strOr cNilVerb (mget cPublished m)++cColon++digits n++cSlash++strOr cTcp (mget cProtocol m):=by
 simp only [portKey,tg,h,numOf]
theorem port_any (m:List (ByteArray × T)) (n:Int) (b:Nat) (F:List Nat) (p:Value) (w:World) (h:Own w (.map m) (.iface 50 (.map (some b))) F) (hs:Srt m) (hg:mget cTarget m=some (.int n)) (h0:-9223372036854775808<=n) (h1:n<=9223372036854775807)
  (hh:textOr (mget cHostIp m)) (hp:textOr (mget cPublished m)) (hr:textOr (mget cProtocol m)) (hT:TabP w) (hw:WF 70368744177664 (.map m)) :
  Calls Tryz.prog 111 #[.iface 50 (.map (some b)),p] w fun e w'=>e=.returned (.tuple #[.string (portKey (.map m)),.nilIface])/\Chg [] w w':=by
 obtain ⟨ks,F',hma,hl,ho,rfl⟩:=h.mapAt
 have lk:∀ k,match mget k m with | some t=>∃ v F',mlook k ks=some v/\Own w t v F' | none=>mlook k ks=none:=fun k=>by
  cases hg:mget k m with
  | none=>exact ho.look_none hs.nodup hma.nodup hl hg
  | some t=>exact ho.look hg
 have l0:=lk cTarget;rw [hg] at l0;obtain ⟨v0,F0,l0,o0⟩:=l0;simp only [Own] at o0;obtain ⟨rfl,_⟩:=o0;have L0:=run_lookup_ok (P:=Tryz.prog) hma uM uS (zA w) cTarget;have L1:=run_lookup_ok (P:=Tryz.prog) hma uM uS (zA w) cPublished;have L2:=run_lookup_ok (P:=Tryz.prog) hma uM uS (zA w) cHostIp;have L3:=run_lookup_ok (P:=Tryz.prog) hma uM uS (zA w) cProtocol;have t1:=look_text (lk cPublished) hp;have t2:=look_text (lk cHostIp) hh;have t3:=look_text (lk cProtocol) hr;have hN:=Lib.hid (fun W (hc:Chg [] w W)=>number_any n h0 h1 W (hT.chg hc (by simp)));have HG:=Lib.hid hg
 have hdz:(digits n).size<=21:=by
  have:=Lib.itoa_length_le n h0 h1
  simpa [digits,ByteArray.size] using this
 have htz:∀ k s,mget k m=some (.text s)->s.size<=70368744177664:=fun k s hg=>(hw.of_get hg:WF _ (.text s))
 rw [l0] at L0;clear lk l0 hma hl ho hs hg h hh hp hr
 rcases t1 with ⟨s1,g1,e1⟩ | ⟨g1,e1⟩ <;> rcases t2 with ⟨s2,g2,e2⟩ | ⟨g2,e2⟩ <;> rcases t3 with ⟨s3,g3,e3⟩ | ⟨g3,e3⟩
 ·have z1:=htz _ _ g1
  have z2:=htz _ _ g2;have z3:=htz _ _ g3;clear htz hw;rw [e1] at L1;rw [e2] at L2;rw [e3] at L3;simp only [Option.getD_some,Option.isSome_some,Option.getD_none,Option.isSome_none] at L0 L1 L2 L3;have HE:=Lib.hid (And.intro g1 (And.intro g2 g3));clear e1 e2 e3 g1 g2 g3
  go_enter Tryz.func111,Tryz.ntmps111
  go_wp2_with fail
  refine (verb_text _ _).mono ?_;rintro e w1 ⟨rfl,rfl⟩
  go_wp2_with fail
  refine (verb_text _ _).mono ?_;rintro e w1 ⟨rfl,rfl⟩
  go_wp2_with fail
  refine (hN.out _ (Chg.refl _ _)).mono ?_;rintro e w1 ⟨rfl,hc⟩
  go_wp2_with fail
  refine (verb_text _ _).mono ?_;rintro e w1 ⟨rfl,rfl⟩
  go_wp2
  go_ret2
  refine ⟨?_,hc⟩;rw [portKey_eq HG.out,HE.out.1,HE.out.2.1,HE.out.2.2]
  rfl
 ·have z1:=htz _ _ g1
  have z2:=htz _ _ g2;clear htz hw;rw [e1] at L1;rw [e2] at L2;rw [e3] at L3;simp only [Option.getD_some,Option.isSome_some,Option.getD_none,Option.isSome_none] at L0 L1 L2 L3;have HE:=Lib.hid (And.intro g1 (And.intro g2 g3));clear e1 e2 e3 g1 g2 g3
  go_enter Tryz.func111,Tryz.ntmps111
  go_wp2_with fail
  refine (verb_text _ _).mono ?_;rintro e w1 ⟨rfl,rfl⟩
  go_wp2_with fail
  refine (verb_text _ _).mono ?_;rintro e w1 ⟨rfl,rfl⟩
  go_wp2_with fail
  refine (hN.out _ (Chg.refl _ _)).mono ?_;rintro e w1 ⟨rfl,hc⟩
  go_wp2_with fail
  refine (verb_text _ _).mono ?_;rintro e w1 ⟨rfl,rfl⟩
  go_wp2
  go_ret2
  refine ⟨?_,hc⟩;rw [portKey_eq HG.out,HE.out.1,HE.out.2.1,HE.out.2.2]
  rfl
 ·have z1:=htz _ _ g1
  have z3:=htz _ _ g3;clear htz hw;rw [e1] at L1;rw [e2] at L2;rw [e3] at L3;simp only [Option.getD_some,Option.isSome_some,Option.getD_none,Option.isSome_none] at L0 L1 L2 L3;have HE:=Lib.hid (And.intro g1 (And.intro g2 g3));clear e1 e2 e3 g1 g2 g3
  go_enter Tryz.func111,Tryz.ntmps111
  go_wp2_with fail
  refine (verb_text _ _).mono ?_;rintro e w1 ⟨rfl,rfl⟩
  go_wp2_with fail
  refine (verb_text _ _).mono ?_;rintro e w1 ⟨rfl,rfl⟩
  go_wp2_with fail
  refine (hN.out _ (Chg.refl _ _)).mono ?_;rintro e w1 ⟨rfl,hc⟩
  go_wp2_with fail
  refine (verb_text _ _).mono ?_;rintro e w1 ⟨rfl,rfl⟩
  go_wp2
  go_ret2
  refine ⟨?_,hc⟩;rw [portKey_eq HG.out,HE.out.1,HE.out.2.1,HE.out.2.2]
  rfl
 ·have z1:=htz _ _ g1
  clear htz hw;rw [e1] at L1;rw [e2] at L2;rw [e3] at L3;simp only [Option.getD_some,Option.isSome_some,Option.getD_none,Option.isSome_none] at L0 L1 L2 L3;have HE:=Lib.hid (And.intro g1 (And.intro g2 g3));clear e1 e2 e3 g1 g2 g3
  go_enter Tryz.func111,Tryz.ntmps111
  go_wp2_with fail
  refine (verb_text _ _).mono ?_;rintro e w1 ⟨rfl,rfl⟩
  go_wp2_with fail
  refine (verb_text _ _).mono ?_;rintro e w1 ⟨rfl,rfl⟩
  go_wp2_with fail
  refine (hN.out _ (Chg.refl _ _)).mono ?_;rintro e w1 ⟨rfl,hc⟩
  go_wp2_with fail
  refine (verb_text _ _).mono ?_;rintro e w1 ⟨rfl,rfl⟩
  go_wp2
  go_ret2
  refine ⟨?_,hc⟩;rw [portKey_eq HG.out,HE.out.1,HE.out.2.1,HE.out.2.2]
  rfl
 ·have z2:=htz _ _ g2
  have z3:=htz _ _ g3;clear htz hw;rw [e1] at L1;rw [e2] at L2;rw [e3] at L3;simp only [Option.getD_some,Option.isSome_some,Option.getD_none,Option.isSome_none] at L0 L1 L2 L3;have HE:=Lib.hid (And.intro g1 (And.intro g2 g3));clear e1 e2 e3 g1 g2 g3
  go_enter Tryz.func111,Tryz.ntmps111
  go_wp2_with fail
  refine (verb_text _ _).mono ?_;rintro e w1 ⟨rfl,rfl⟩
  go_wp2_with fail
  refine (verb_nil _).mono ?_;rintro e w1 ⟨rfl,rfl⟩
  go_wp2_with fail
  refine (hN.out _ (Chg.refl _ _)).mono ?_;rintro e w1 ⟨rfl,hc⟩
  go_wp2_with fail
  refine (verb_text _ _).mono ?_;rintro e w1 ⟨rfl,rfl⟩
  go_wp2
  go_ret2
  refine ⟨?_,hc⟩;rw [portKey_eq HG.out,HE.out.1,HE.out.2.1,HE.out.2.2]
  rfl
 ·have z2:=htz _ _ g2
  clear htz hw;rw [e1] at L1;rw [e2] at L2;rw [e3] at L3;simp only [Option.getD_some,Option.isSome_some,Option.getD_none,Option.isSome_none] at L0 L1 L2 L3;have HE:=Lib.hid (And.intro g1 (And.intro g2 g3));clear e1 e2 e3 g1 g2 g3
  go_enter Tryz.func111,Tryz.ntmps111
  go_wp2_with fail
  refine (verb_text _ _).mono ?_;rintro e w1 ⟨rfl,rfl⟩
  go_wp2_with fail
  refine (verb_nil _).mono ?_;rintro e w1 ⟨rfl,rfl⟩
  go_wp2_with fail
  refine (hN.out _ (Chg.refl _ _)).mono ?_;rintro e w1 ⟨rfl,hc⟩
  go_wp2_with fail
  refine (verb_text _ _).mono ?_;rintro e w1 ⟨rfl,rfl⟩
  go_wp2
  go_ret2
  refine ⟨?_,hc⟩;rw [portKey_eq HG.out,HE.out.1,HE.out.2.1,HE.out.2.2]
  rfl
 ·have z3:=htz _ _ g3
  clear htz hw;rw [e1] at L1;rw [e2] at L2;rw [e3] at L3;simp only [Option.getD_some,Option.isSome_some,Option.getD_none,Option.isSome_none] at L0 L1 L2 L3;have HE:=Lib.hid (And.intro g1 (And.intro g2 g3));clear e1 e2 e3 g1 g2 g3
  go_enter Tryz.func111,Tryz.ntmps111
  go_wp2_with fail
  refine (verb_text _ _).mono ?_;rintro e w1 ⟨rfl,rfl⟩
  go_wp2_with fail
  refine (verb_nil _).mono ?_;rintro e w1 ⟨rfl,rfl⟩
  go_wp2_with fail
  refine (hN.out _ (Chg.refl _ _)).mono ?_;rintro e w1 ⟨rfl,hc⟩
  go_wp2_with fail
  refine (verb_text _ _).mono ?_;rintro e w1 ⟨rfl,rfl⟩
  go_wp2
  go_ret2
  refine ⟨?_,hc⟩;rw [portKey_eq HG.out,HE.out.1,HE.out.2.1,HE.out.2.2]
  rfl
 ·clear htz hw
  rw [e1] at L1;rw [e2] at L2;rw [e3] at L3;simp only [Option.getD_some,Option.isSome_some,Option.getD_none,Option.isSome_none] at L0 L1 L2 L3;have HE:=Lib.hid (And.intro g1 (And.intro g2 g3));clear e1 e2 e3 g1 g2 g3
  go_enter Tryz.func111,Tryz.ntmps111
  go_wp2_with fail
  refine (verb_text _ _).mono ?_;rintro e w1 ⟨rfl,rfl⟩
  go_wp2_with fail
  refine (verb_nil _).mono ?_;rintro e w1 ⟨rfl,rfl⟩
  go_wp2_with fail
  refine (hN.out _ (Chg.refl _ _)).mono ?_;rintro e w1 ⟨rfl,hc⟩
  go_wp2_with fail
  refine (verb_text _ _).mono ?_;rintro e w1 ⟨rfl,rfl⟩
  go_wp2
  go_ret2
  refine ⟨?_,hc⟩;rw [portKey_eq HG.out,HE.out.1,HE.out.2.1,HE.out.2.2]
  rfl
def MountF (w:World) (pre:ByteArray) (f:Value):Prop:=∃ B,f=.func (.func 153) #[] #[.pointer (some ⟨B,0,none⟩)]/\w.heap[B]?=some (.cells #[.string pre] 9)
theorem MountF.chg {F:List Nat} {w w':World} {pre:ByteArray} {f:Value} (h:MountF w pre f) (hc:Chg F w w') (hF:∀ B,f=.func (.func 153) #[] #[.pointer (some ⟨B,0,none⟩)]->B ∉ F):MountF w' pre f:=by
 obtain ⟨B,rfl,hB⟩:=h;exact ⟨B,rfl,(hc.block B (Array.getElem?_eq_some_iff.1 hB).1 (hF B rfl)).trans hB⟩
theorem mountF_any (s:ByteArray) (w:World):Calls Tryz.prog 108 #[.string s] w fun e w'=>∃ f,e=.returned f/\Chg [] w w'/\MountF w' s f/\∀ B,f=.func (.func 153) #[] #[.pointer (some ⟨B,0,none⟩)]->w.heap.size<=B:=by
 go_enter Tryz.func108,Tryz.ntmps108
 go_wp2_with fail
 go_ret
 exact ⟨_,rfl,(Chg.refl [] w).al _,⟨_,rfl,heap_alloc_new w _⟩,fun B hB=>by cases hB; exact Nat.le_refl _⟩
end Go.Proofs.YtpofkokbmifhgaaGreatDoor
namespace Go.Proofs.YtpofkokbmifhgaaGreatDoor
open Go.RowKit
variable {o:Nat->Prop}
theorem uBs:Tryz.prog.underlying 109=some (.slice 5):=by kernel_rfl
theorem uB8:Tryz.prog.underlying 5=some (.int .u8):=by kernel_rfl
theorem iB8:(Tryz.prog.info? 5).map (fun i=>(i.zero,i.size,i.bytes))=some (some (.int .u8 0),1,1):=by kernel_rfl
theorem app_bytes {w:World} {base:Nat} {v:Value} {n:Nat} {xs:List Value} (hown:w.ownsRow base 5 1 v n xs) (s:ByteArray) (hb:n+s.size<=140737488355328) (hbase:base<=w.heap.size) (ty:TypeId) :
  ∃ v' w',(Builtin.append_ #[109,9] ty #[v,.string s]).run Tryz.prog w=.ok v' w'/\w'.ownsRow base 5 1 v' (n+s.size) (xs++Lib.strCells s)/\Chg v.ownBlock.toList w w':=by
 obtain ⟨i0,hi,hzz⟩:=Option.map_eq_some_iff.1 iB8;simp only [Prod.mk.injEq] at hzz;obtain ⟨v',w',hr,ho,hg,_⟩:=Lib.run_append_own_string (P:=Tryz.prog) (w:=w) base 109 9 ty 5 i0 uBs uS hi hzz.1 hzz.2.1 hzz.2.2 v n xs hown s (by simp only [maxLen]; omega) hb hbase;exact ⟨v',w',hr,ho,Chg.of_grown hg⟩
theorem wpList_apps {P:Program} {w:World} {ops:Array Oper} {rest:List Oper} {o:Oper} {a:Act} {Q:Exit->Act->World->Prop} (hgd:o.guard=none) (s x:Operand) (t u:TypeId)
  (ho:o.op=.call { callee:=.builtin .append,args:=#[s,x],argTypes:=#[t,u] }) {v:Value} {b:ByteArray} (hs:a.eval s=v) (hx:a.eval x=.string b) {Φ:Value->World->Prop}
  (hr:∃ v' w',(Builtin.append_ #[t,u] o.type #[v,.string b]).run P w=.ok v' w'/\Φ v' w') (h:∀ v' w',Φ v' w'->wpList P ops Q rest (a.put o.dst v') w'):wpList P ops Q (o :: rest) a w:=by
 refine wpList_plain hgd fun K hK=>?_
 obtain ⟨v',w',hrun,hΦ⟩:=hr;unfold Oper.wp execOp;simp only [ho,resolve,invoke,builtin,Sem.run_bind,Sem.run_pure,Result.andThen_ok,List.map_toArray,List.map_cons,List.map_nil,hs,hx,hrun];exact hK _ _ (h v' w' hΦ)
def bc (l:List UInt8):List Value:=l.map fun b=>Value.int .u8 (b.toNat:Int)
theorem conv_own {w:World} {base:Nat} {v:Value} {l:List UInt8} (h:w.ownsRow base 5 1 v l.length (bc l)):(convert 109 9 v).run Tryz.prog w=.ok (.string ⟨l.toArray⟩) w:=by
 rcases h.2 with ⟨rfl,h0⟩ | ⟨g,cap,cur,rfl,hb,hh,hc,hm,hs,ht⟩
 ·have:l=[]:=List.eq_nil_of_length_eq_zero h0
  subst this;exact run_convert_bytes_nil (P:=Tryz.prog) w 109 5 uBs uB8 0 0 9 uS
 ·refine run_convert_bytes_back (P:=Tryz.prog) w 109 9 5 ⟨g,0,none⟩ cap l uBs uB8 uS fun j hj=>?_
  exact h.cells (g:=g) rfl j _ (by simp [bc,hj])
def escL (l:List UInt8):List UInt8:=l.flatMap fun b=>if b=46 then [240,159,145,187] else [b]
theorem escL_app (a b:List UInt8):escL (a++b)=escL a++escL b:=by simp [escL]
theorem escL_no:∀ {l:List UInt8},(46:UInt8) ∉ l->escL l=l
 | [],_=>rfl
 | x :: l,h=>by
  simp only [List.mem_cons,not_or] at h;have:=escL_no h.2;unfold escL at this ⊢;simp only [List.flatMap_cons,this,if_neg (fun e=>h.1 e.symm:¬ x=46)]
  rfl
theorem escL_size:∀ (l:List UInt8),(escL l).length<=4 * l.length
 | []=>by simp [escL]
 | x :: l=>by
  have:=escL_size l;unfold escL at this ⊢;simp only [List.flatMap_cons,List.length_append,List.length_cons]
  by_cases hx:x=46
  ·rw [if_pos hx]
   simp only [List.length_cons,List.length_nil]
   omega
  ·rw [if_neg hx]
   simp only [List.length_cons,List.length_nil]
   omega
theorem esc_noDot (k:ByteArray):NoDot (esc k):=by
 have gen:∀ l:List UInt8,(46:UInt8) ∉ escL l:=by
  intro l hm
  unfold escL at hm;obtain ⟨b,_,hb⟩:=List.mem_flatMap.1 hm
  split at hb
  ·revert hb; decide
  ·rename_i h
   simp at hb;exact h hb.symm
 show (46:UInt8) ∉ (escL k.data.toList).toArray.toList
 simpa using gen k.data.toList
theorem esc_size (k:ByteArray):(esc k).size<=4 * k.size:=by
 have:=escL_size k.data.toList;show (escL k.data.toList).toArray.size<=4 * k.data.size
 simpa using this
theorem bIdx_take {c:UInt8} {s:ByteArray}:c ∉ s.data.toList.take (bIdx c s):=by
 intro hm
 obtain ⟨i,hi,e⟩:=List.mem_iff_getElem.1 hm;simp only [List.length_take] at hi;rw [List.getElem_take] at e;have:=List.not_of_lt_findIdx (p:=fun b=>b == c) (xs:=s.data.toList) (i:=i) (by unfold bIdx at hi; omega);simp [e] at this
theorem bIdx_split {c:UInt8} {s:ByteArray} (h:bIdx c s < s.size):s.data.toList=s.data.toList.take (bIdx c s)++c :: s.data.toList.drop (bIdx c s+1):=by
 have hlt:bIdx c s < s.data.toList.length:=by simpa using h
 have hg:s.data.toList[bIdx c s]=c:=by
  have:=List.findIdx_getElem (xs:=s.data.toList) (p:=fun b=>b == c) (w:=hlt);exact eq_of_beq this
 conv=>lhs; rw [<- List.take_append_drop (bIdx c s) s.data.toList,List.drop_eq_getElem_cons hlt,hg]
theorem strCells_bc (s:ByteArray):Lib.strCells s=bc s.data.toList:=rfl
theorem replace_any (s:ByteArray) (w:World) (hs:s.size<=268435456) :
  Calls Tryz.prog 104 #[.string s,.string cDot,.string cGhost] w fun e w'=>e=.returned (.string (esc s))/\Chg [] w w':=by
 go_enter Tryz.func104,Tryz.ntmps104
 go_wp2_with fail
 go_loopg [0,7] s.size (fun g a R wr=>∃ (r:ByteArray) (d:List UInt8),a=.string r/\g=r.size/\s.data.toList=d++r.data.toList/\Chg [] w wr/\wr.ownsRow w.heap.size 5 1 R (escL d).length (bc (escL d)))
 case atStart=>exact ⟨s,[],rfl,rfl,rfl,Chg.refl _ _,World.ownsRow_nil _ _ _ _⟩
 case round=>
  obtain ⟨r,d,rfl,rfl,hsd,hcr,hown⟩:=hrel
  have hlen:d.length+r.size=s.size:=by
   have:=congrArg List.length hsd;simp at this;exact this.symm
  have hel:=escL_size d;have hbase:=hcr.size;have HO:=Lib.hid (And.intro hsd hcr);clear hsd hcr
  go_wp2_with fail
  refine (treeIndex 46 r _ (by omega)).mono ?_;rintro e w3 ⟨rfl,rfl⟩
  by_cases hc:bIdx 46 r < r.size
  ·obtain ⟨i,hi⟩ : ∃ i,i=bIdx 46 r:=⟨_,rfl⟩
   have hci:bI 46 r=(i:Int):=by unfold bI; rw [if_pos hc,hi]
   rw [hci]
   have hilt:i < r.size:=by omega
   have hx:(r.extract 0 i).size=i:=by simp; omega
   have HST:=Lib.hid (app_bytes hown (r.extract 0 i) (by rw [hx]; omega) hbase 109);have HI:=Lib.hid hi;have HX:=Lib.hid hx;have HOW:=Lib.hid hown;clear hci hi hx hown hc
   go_wp2_with (first | (at_builtin; refine wpList_apps rfl _ _ _ _ rfl rfl rfl HST.out ?_) | fail)
   intro v1 w1 ho1 hc1
   have hb1:=hc1.size;have HST2:=Lib.hid (app_bytes ho1 cGhost (by have h1:min i r.size<=i:=Nat.min_le_left _ _; show _+4<=_; omega) (by omega) 109);have HC1:=Lib.hid (And.intro hc1 ho1);clear ho1 hc1
   go_wp2_with (first | (at_builtin; refine wpList_apps rfl _ _ _ _ rfl rfl rfl HST2.out ?_) | fail)
   intro v2 w2 ho2 hc2
   have hr':(r.extract (i+1) r.size).size=r.size - (i+1):=by simp
   have HR:=Lib.hid hr';have HC2:=Lib.hid (And.intro hc2 ho2);clear hr' ho2 hc2
   go_wp2
   go_roundg (r.extract (i+1) r.size).size
   case measure=>rw [HR.out]; omega
   case rel=>
    have hsp:=bIdx_split (c:=46) (s:=r) (by rw [<- HI.out]; exact hilt);rw [<- HI.out] at hsp
    have h1:(r.extract 0 i).data.toList=r.data.toList.take i:=by
     rw [ByteArray.data_extract,Array.toList_extract];show (r.data.toList.drop 0).take (i - 0)=_;rw [List.drop_zero,Nat.sub_zero]
    have h2:(r.extract (i+1) r.size).data.toList=r.data.toList.drop (i+1):=by
     rw [ByteArray.data_extract,Array.toList_extract];show (r.data.toList.drop (i+1)).take (r.size - (i+1))=_;refine List.take_of_length_le ?_;rw [List.length_drop,Array.length_toList];exact Nat.le_refl _
    have hno:(46:UInt8) ∉ r.data.toList.take i:=by rw [HI.out]; exact bIdx_take
    have hesc:escL (d++r.data.toList.take i++[46])=escL d++r.data.toList.take i++cGhost.data.toList:=by
     rw [escL_app,escL_app,escL_no hno]
     rfl
    have hn1:∀ x∈v1.ownBlock.toList,w.heap.size<=x:=fun x hx=>(ownsRow_own HC1.out.2 (g:=x) (by simpa using hx)).1
    have hn0:∀ x∈u7.ownBlock.toList,w.heap.size<=x:=fun x hx=>(ownsRow_own HOW.out (g:=x) (by simpa using hx)).1
    refine ⟨r.extract (i+1) r.size,d++r.data.toList.take i++[46],rfl,rfl,?_,?_,?_⟩
    ·rw [HO.out.1,h2]
     conv=>lhs; rw [hsp]
     simp
    ·exact (HO.out.2.trans HC1.out.1 fun x hx=>.inr (hn0 x hx)).trans HC2.out.1 fun x hx=>.inr (hn1 x hx)
    ·rw [hesc]
     have:=HC2.out.2;rw [strCells_bc,strCells_bc,h1] at this
     have hl:(escL d).length+min i r.size+4=(escL d++r.data.toList.take i++cGhost.data.toList).length:=by
      simp only [List.length_append,List.length_take,Array.length_toList]
      rfl
     rw [hl] at this;unfold bc at this ⊢;rw [List.map_append,List.map_append];rw [<- List.append_assoc] at this;exact this
  ·have hci:bI 46 r=-1:=by unfold bI; rw [if_neg hc]
   rw [hci];have HST:=Lib.hid (app_bytes hown r (by omega) hbase 109);have HC:=Lib.hid hc;have HOW:=Lib.hid hown;clear hown hci hc
   go_wp2_with (first | (at_builtin; refine wpList_apps rfl _ _ _ _ rfl rfl rfl HST.out ?_) | fail)
   intro v1 w1 ho1 hc1
   have hno:(46:UInt8) ∉ r.data.toList:=by
    have h0:bIdx 46 r=r.size:=by have:=HC.out; have:=bIdx_le 46 r; omega
    have:=bIdx_take (c:=46) (s:=r);rw [h0] at this;have e:r.data.toList.take r.size=r.data.toList:=List.take_of_length_le (by rw [Array.length_toList]; exact Nat.le_refl _)
    rwa [e] at this
   have hall:escL s.data.toList=escL d++r.data.toList:=by rw [HO.out.1,escL_app,escL_no hno]
   have hl:(escL d).length+r.size=(escL s.data.toList).length:=by
    rw [hall,List.length_append,Array.length_toList]
    rfl
   have hb:bc (escL d)++Lib.strCells r=bc (escL s.data.toList):=by
    rw [hall,strCells_bc];unfold bc;rw [List.map_append]
   rw [hl,hb] at ho1;have hconv:=conv_own ho1
   have hn0:∀ x∈u7.ownBlock.toList,w.heap.size<=x:=fun x hx=>(ownsRow_own HOW.out (g:=x) (by simpa using hx)).1
   have HE:=Lib.hid (HO.out.2.trans hc1 fun x hx=>.inr (hn0 x hx));have hesc:(⟨(escL s.data.toList).toArray⟩ : ByteArray)=esc s:=rfl;rw [hesc] at hconv;clear ho1 hc1 hall hl hb hno hn0 hesc
   go_wp2
   go_ret
   exact ⟨rfl,HE.out⟩
def nextS (p k:ByteArray):ByteArray:=if p=⟨#[]⟩ then k else p++cDot++esc k
theorem next_any (p k:ByteArray) (w:World) (hp:p.size<=70368744177664) (hk:k.size<=268435456) :
  Calls Tryz.prog 71 #[.string p,.string k] w fun e w'=>e=.returned (.string (nextS p k))/\Chg [] w w':=by
 by_cases h:p=⟨#[]⟩
 ·have hn:nextS p k=k:=by unfold nextS; rw [if_pos h]
  rw [hn]
  have hb:(p.toList == ([]:List UInt8))=true:=by rw [h]; kernel_rfl
  clear hn h
  go_enter Tryz.func71,Tryz.ntmps71
  go_wp2_with fail
  go_ret
  exact ⟨rfl,Chg.refl _ _⟩
 ·have hn:nextS p k=p++cDot++esc k:=by unfold nextS; rw [if_neg h]
  rw [hn];have hb:(p.toList == ([]:List UInt8))=false:=ne_toList h (by kernel_rfl);have HR:=Lib.hid (replace_any k w hk);have he:=esc_size k;clear hn h
  go_enter Tryz.func71,Tryz.ntmps71
  go_wp2_with fail
  refine HR.out.mono ?_;rintro e w1 ⟨rfl,hc⟩
  go_wp2_with fail
  go_ret
  exact ⟨rfl,hc⟩
theorem newPath_any (A:Option Addr) (c:Nat) (w:World):Calls Tryz.prog 53 #[.slice A 0 c] w fun e w'=>e=.returned (.string ⟨#[]⟩)/\w'=w:=by
 go_enter Tryz.func53,Tryz.ntmps53
 go_wp2_with fail
 refine (strings_Join_none A c cDot w).mono ?_;rintro e w1 ⟨rfl,rfl⟩
 go_wp2
 go_ret
 exact ⟨rfl,rfl⟩
theorem jn_snoc {p:ByteArray}:∀ {ps:List ByteArray},ps≠[]->jn (ps++[p])=jn ps++cDot++p
 | [],h=>absurd rfl h
 | [a],_=>rfl
 | a :: b :: r,_=>by
  have:=jn_snoc (p:=p) (ps:=b :: r) (by simp);show a++cDot++jn ((b :: r)++[p])=(a++cDot++jn (b :: r))++cDot++p;rw [this];simp only [ByteArray.append_assoc]
def PathOK (ps:List ByteArray):Prop:=(∀ p∈ps,NoDot p)/\(∀ p,ps.head?=some p->p≠⟨#[]⟩)
theorem jn_ne:∀ {ps:List ByteArray},ps≠[]->(∀ p,ps.head?=some p->p≠⟨#[]⟩)->jn ps≠⟨#[]⟩
 | [],h,_=>absurd rfl h
 | [a],_,h=>h a rfl
 | a :: b :: r,_,_=>fun e=>by
  have:=congrArg ByteArray.size e;simp only [jn,ByteArray.size_append] at this;have h1:cDot.size=1:=rfl;have h2:(⟨#[]⟩ : ByteArray).size=0:=rfl
  omega
theorem jn_next {ps:List ByteArray} {k:ByteArray} (h:PathOK ps) (hk:ps=[]->NoDot k/\k≠⟨#[]⟩):nextS (jn ps) k=jn (ps++[nxt ps k])/\PathOK (ps++[nxt ps k]):=by
 by_cases e:ps=[]
 ·subst e
  obtain ⟨h1,h2⟩:=hk rfl;refine ⟨rfl,?_,?_⟩
  ·intro p hp
   simp [nxt] at hp;rw [hp];exact h1
  ·intro p hp
   simp [nxt] at hp;rw [<- hp];exact h2
 ·have hn:nxt ps k=esc k:=by unfold nxt; rw [if_neg e]
  rw [hn];refine ⟨?_,?_,?_⟩
  ·unfold nextS
   rw [if_neg (jn_ne e h.2),jn_snoc e]
  ·intro p hp
   rcases List.mem_append.1 hp with hp | hp
   ·exact h.1 p hp
   ·simp at hp
    rw [hp];exact esc_noDot k
  ·intro p hp
   refine h.2 p ?_
   cases ps with
   | nil=>exact absurd rfl e
   | cons a r=>exact hp
end Go.Proofs.YtpofkokbmifhgaaGreatDoor
