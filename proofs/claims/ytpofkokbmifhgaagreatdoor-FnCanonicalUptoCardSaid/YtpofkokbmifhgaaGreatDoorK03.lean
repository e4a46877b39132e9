/- Parts of the walk, made small by wip/tools/pack.py: Facts, SpecA, SpecB, Copy. No condition but those in each statement. -/
import Derived.Test.YtpofkokbmifhgaaGreatDoorK01
import Derived.Test.YtpofkokbmifhgaaGreatDoorK02
import Derived.Test.YtpofkokbmifhgaaGreatDoorProg
import Derived.WalkLawsBesides
import Derived.Outline
import Derived.WalkSpells
import Derived.Lib.Hide
import Derived.Deep.LoopGhost
import Derived.Deep.QuietTactic
import Derived.BigQuiet
import Derived.Deep.RegionHeld3
import Derived.StillTailTactics
import Derived.Deep.RegionWith
import Derived.Deep.DeepCutAuto
import Derived.Deep.DeepFit
import Derived.Maps.AppendAt
set_option maxRecDepth 100000
set_option maxHeartbeats 20000000
set_option linter.unusedVariables false
set_option linter.unusedSimpArgs false
namespace Go.Proofs.YtpofkokbmifhgaaGreatDoor
open Go.RowKit
theorem uB:Tryz.prog.underlying 4=some .bool:=by kernel_rfl
theorem uS:Tryz.prog.underlying 9=some .string:=by kernel_rfl
theorem uM:Tryz.prog.underlying 50=some (.map 9 20):=by kernel_rfl
theorem uL:Tryz.prog.underlying 76=some (.slice 20):=by kernel_rfl
theorem zA (w:World):(zeroValue 20).run Tryz.prog w=.ok .nilIface w:=by kernel_rfl
@[go_sem] theorem ta_b_b (v:Value) (w:World):(Instr.typeAssert (.iface 4 v) 20 4 true).run Tryz.prog w=.ok (.tuple #[v,.bool true]) w:=by kernel_rfl
@[go_sem] theorem tb_b_b (v:Value) (w:World):(Instr.typeAssert (.iface 4 v) 20 4 false).run Tryz.prog w=.ok v w:=by kernel_rfl
@[go_sem] theorem ta_b_i (v:Value) (w:World):(Instr.typeAssert (.iface 4 v) 20 3 true).run Tryz.prog w=.ok (.tuple #[.int .i64 0,.bool false]) w:=by kernel_rfl
@[go_sem] theorem ta_b_s (v:Value) (w:World):(Instr.typeAssert (.iface 4 v) 20 9 true).run Tryz.prog w=.ok (.tuple #[.string ⟨#[]⟩,.bool false]) w:=by kernel_rfl
@[go_sem] theorem ta_b_m (v:Value) (w:World):(Instr.typeAssert (.iface 4 v) 20 50 true).run Tryz.prog w=.ok (.tuple #[.map none,.bool false]) w:=by kernel_rfl
@[go_sem] theorem ta_b_l (v:Value) (w:World):(Instr.typeAssert (.iface 4 v) 20 76 true).run Tryz.prog w=.ok (.tuple #[.slice none 0 0,.bool false]) w:=by kernel_rfl
@[go_sem] theorem ta_i_b (v:Value) (w:World):(Instr.typeAssert (.iface 3 v) 20 4 true).run Tryz.prog w=.ok (.tuple #[.bool false,.bool false]) w:=by kernel_rfl
@[go_sem] theorem ta_i_i (v:Value) (w:World):(Instr.typeAssert (.iface 3 v) 20 3 true).run Tryz.prog w=.ok (.tuple #[v,.bool true]) w:=by kernel_rfl
@[go_sem] theorem tb_i_i (v:Value) (w:World):(Instr.typeAssert (.iface 3 v) 20 3 false).run Tryz.prog w=.ok v w:=by kernel_rfl
@[go_sem] theorem ta_i_s (v:Value) (w:World):(Instr.typeAssert (.iface 3 v) 20 9 true).run Tryz.prog w=.ok (.tuple #[.string ⟨#[]⟩,.bool false]) w:=by kernel_rfl
@[go_sem] theorem ta_i_m (v:Value) (w:World):(Instr.typeAssert (.iface 3 v) 20 50 true).run Tryz.prog w=.ok (.tuple #[.map none,.bool false]) w:=by kernel_rfl
@[go_sem] theorem ta_i_l (v:Value) (w:World):(Instr.typeAssert (.iface 3 v) 20 76 true).run Tryz.prog w=.ok (.tuple #[.slice none 0 0,.bool false]) w:=by kernel_rfl
@[go_sem] theorem ta_s_b (v:Value) (w:World):(Instr.typeAssert (.iface 9 v) 20 4 true).run Tryz.prog w=.ok (.tuple #[.bool false,.bool false]) w:=by kernel_rfl
@[go_sem] theorem ta_s_i (v:Value) (w:World):(Instr.typeAssert (.iface 9 v) 20 3 true).run Tryz.prog w=.ok (.tuple #[.int .i64 0,.bool false]) w:=by kernel_rfl
@[go_sem] theorem ta_s_s (v:Value) (w:World):(Instr.typeAssert (.iface 9 v) 20 9 true).run Tryz.prog w=.ok (.tuple #[v,.bool true]) w:=by kernel_rfl
@[go_sem] theorem tb_s_s (v:Value) (w:World):(Instr.typeAssert (.iface 9 v) 20 9 false).run Tryz.prog w=.ok v w:=by kernel_rfl
@[go_sem] theorem ta_s_m (v:Value) (w:World):(Instr.typeAssert (.iface 9 v) 20 50 true).run Tryz.prog w=.ok (.tuple #[.map none,.bool false]) w:=by kernel_rfl
@[go_sem] theorem ta_s_l (v:Value) (w:World):(Instr.typeAssert (.iface 9 v) 20 76 true).run Tryz.prog w=.ok (.tuple #[.slice none 0 0,.bool false]) w:=by kernel_rfl
@[go_sem] theorem ta_m_b (v:Value) (w:World):(Instr.typeAssert (.iface 50 v) 20 4 true).run Tryz.prog w=.ok (.tuple #[.bool false,.bool false]) w:=by kernel_rfl
@[go_sem] theorem ta_m_i (v:Value) (w:World):(Instr.typeAssert (.iface 50 v) 20 3 true).run Tryz.prog w=.ok (.tuple #[.int .i64 0,.bool false]) w:=by kernel_rfl
@[go_sem] theorem ta_m_s (v:Value) (w:World):(Instr.typeAssert (.iface 50 v) 20 9 true).run Tryz.prog w=.ok (.tuple #[.string ⟨#[]⟩,.bool false]) w:=by kernel_rfl
@[go_sem] theorem ta_m_m (v:Value) (w:World):(Instr.typeAssert (.iface 50 v) 20 50 true).run Tryz.prog w=.ok (.tuple #[v,.bool true]) w:=by kernel_rfl
@[go_sem] theorem tb_m_m (v:Value) (w:World):(Instr.typeAssert (.iface 50 v) 20 50 false).run Tryz.prog w=.ok v w:=by kernel_rfl
@[go_sem] theorem ta_m_l (v:Value) (w:World):(Instr.typeAssert (.iface 50 v) 20 76 true).run Tryz.prog w=.ok (.tuple #[.slice none 0 0,.bool false]) w:=by kernel_rfl
@[go_sem] theorem ta_l_b (v:Value) (w:World):(Instr.typeAssert (.iface 76 v) 20 4 true).run Tryz.prog w=.ok (.tuple #[.bool false,.bool false]) w:=by kernel_rfl
@[go_sem] theorem ta_l_i (v:Value) (w:World):(Instr.typeAssert (.iface 76 v) 20 3 true).run Tryz.prog w=.ok (.tuple #[.int .i64 0,.bool false]) w:=by kernel_rfl
@[go_sem] theorem ta_l_s (v:Value) (w:World):(Instr.typeAssert (.iface 76 v) 20 9 true).run Tryz.prog w=.ok (.tuple #[.string ⟨#[]⟩,.bool false]) w:=by kernel_rfl
@[go_sem] theorem ta_l_m (v:Value) (w:World):(Instr.typeAssert (.iface 76 v) 20 50 true).run Tryz.prog w=.ok (.tuple #[.map none,.bool false]) w:=by kernel_rfl
@[go_sem] theorem ta_l_l (v:Value) (w:World):(Instr.typeAssert (.iface 76 v) 20 76 true).run Tryz.prog w=.ok (.tuple #[v,.bool true]) w:=by kernel_rfl
@[go_sem] theorem tb_l_l (v:Value) (w:World):(Instr.typeAssert (.iface 76 v) 20 76 false).run Tryz.prog w=.ok v w:=by kernel_rfl
@[go_sem] theorem ta_nil_b (w:World):(Instr.typeAssert .nilIface 20 4 true).run Tryz.prog w=.ok (.tuple #[.bool false,.bool false]) w:=by kernel_rfl
@[go_sem] theorem eqn_b (v:Value) (w:World):(binOp .eql 20 (.iface 4 v) .nilIface).run Tryz.prog w=.ok (.bool false) w:=by kernel_rfl
@[go_sem] theorem nen_b (v:Value) (w:World):(binOp .neq 20 (.iface 4 v) .nilIface).run Tryz.prog w=.ok (.bool true) w:=by kernel_rfl
@[go_sem] theorem ta_nil_i (w:World):(Instr.typeAssert .nilIface 20 3 true).run Tryz.prog w=.ok (.tuple #[.int .i64 0,.bool false]) w:=by kernel_rfl
@[go_sem] theorem eqn_i (v:Value) (w:World):(binOp .eql 20 (.iface 3 v) .nilIface).run Tryz.prog w=.ok (.bool false) w:=by kernel_rfl
@[go_sem] theorem nen_i (v:Value) (w:World):(binOp .neq 20 (.iface 3 v) .nilIface).run Tryz.prog w=.ok (.bool true) w:=by kernel_rfl
@[go_sem] theorem ta_nil_s (w:World):(Instr.typeAssert .nilIface 20 9 true).run Tryz.prog w=.ok (.tuple #[.string ⟨#[]⟩,.bool false]) w:=by kernel_rfl
@[go_sem] theorem eqn_s (v:Value) (w:World):(binOp .eql 20 (.iface 9 v) .nilIface).run Tryz.prog w=.ok (.bool false) w:=by kernel_rfl
@[go_sem] theorem nen_s (v:Value) (w:World):(binOp .neq 20 (.iface 9 v) .nilIface).run Tryz.prog w=.ok (.bool true) w:=by kernel_rfl
@[go_sem] theorem ta_nil_m (w:World):(Instr.typeAssert .nilIface 20 50 true).run Tryz.prog w=.ok (.tuple #[.map none,.bool false]) w:=by kernel_rfl
@[go_sem] theorem eqn_m (v:Value) (w:World):(binOp .eql 20 (.iface 50 v) .nilIface).run Tryz.prog w=.ok (.bool false) w:=by kernel_rfl
@[go_sem] theorem nen_m (v:Value) (w:World):(binOp .neq 20 (.iface 50 v) .nilIface).run Tryz.prog w=.ok (.bool true) w:=by kernel_rfl
@[go_sem] theorem ta_nil_l (w:World):(Instr.typeAssert .nilIface 20 76 true).run Tryz.prog w=.ok (.tuple #[.slice none 0 0,.bool false]) w:=by kernel_rfl
@[go_sem] theorem eqn_l (v:Value) (w:World):(binOp .eql 20 (.iface 76 v) .nilIface).run Tryz.prog w=.ok (.bool false) w:=by kernel_rfl
@[go_sem] theorem nen_l (v:Value) (w:World):(binOp .neq 20 (.iface 76 v) .nilIface).run Tryz.prog w=.ok (.bool true) w:=by kernel_rfl
@[go_sem] theorem eqn_nil (w:World):(binOp .eql 20 .nilIface .nilIface).run Tryz.prog w=.ok (.bool true) w:=by kernel_rfl
@[go_sem] theorem nen_nil (w:World):(binOp .neq 20 .nilIface .nilIface).run Tryz.prog w=.ok (.bool false) w:=by kernel_rfl
end Go.Proofs.YtpofkokbmifhgaaGreatDoor
namespace Go.Proofs.YtpofkokbmifhgaaGreatDoor
open Go.RowKit
variable {o:Nat->Prop}
def posK (k:ByteArray):List ByteArray->Nat
 | []=>0
 | a :: r=>if blt a k then posK k r+1 else 0
theorem posK_le (k:ByteArray):∀ ks,posK k ks<=ks.length
 | []=>Nat.le_refl _
 | a :: r=>by unfold posK; split <;> simp [posK_le k r]
theorem posK_lt {k:ByteArray}:∀ {ks:List ByteArray} {j:Nat} {s:ByteArray},j < posK k ks->ks[j]?=some s->blt s k=true
 | [],j,s,h,_=>by simp [posK] at h
 | a :: r,j,s,h,hs=>by
  unfold posK at h
  split at h
  ·rename_i hb
   cases j with
   | zero=>simp at hs; subst hs; exact hb
   | succ j=>exact posK_lt (ks:=r) (j:=j) (by omega) (by simpa using hs)
  ·omega
theorem posK_at {k:ByteArray}:∀ {ks:List ByteArray} {s:ByteArray},ks[posK k ks]?=some s->blt s k=false
 | [],s,h=>by simp [posK] at h
 | a :: r,s,h=>by
  unfold posK at h
  split at h
  ·exact posK_at (by simpa using h)
  ·rename_i hb
   simp at h
   subst h
   simpa using hb
theorem place_any (t:T) (v:Value) (k:ByteArray) (w:World) (h:Rd o w t v) (hl:t.keys.length<=67108864) :
  Calls Tryz.prog 45 #[v,.string k] w fun e w'=>e=.returned (.tuple #[.int .i64 (posK k t.keys),.bool (decide (t.keys[posK k t.keys]?=some k))])/\Chg [] w w':=by
 obtain ⟨ka,va,rfl,hk,hv⟩:=h.open
 obtain ⟨A,c,rfl,hc,hcell⟩:=hk
 have hp:=posK_le k t.keys
 go_enter Tryz.func45,Tryz.ntmps45
 go_wp2
 go_loopg [6] t.keys.length (fun g i wr=>∃ n:Nat,n<=posK k t.keys/\g=t.keys.length - n/\i=.int .i64 n/\w.alloc (.cells #[.int .i64 t.kind,.int .i64 t.num,.string t.txt,.slice A t.keys.length c,va] 25)=wr)
 case atStart=>exact ⟨0,Nat.zero_le _,by omega,rfl,rfl⟩
 case round=>
  obtain ⟨n,hn,rfl,rfl,rfl⟩:=hrel
  by_cases hlt:n < t.keys.length
  ·obtain ⟨g,rfl,_,hg⟩:=hcell (by omega)
   obtain ⟨s,hs⟩ : ∃ s,t.keys[n]?=some s:=⟨_,List.getElem?_eq_getElem hlt⟩
   have hx:=hg n s hs
   have hgw:g < w.heap.size:=World.block_lt_of_cell? w _ hx
   have hx1:(w.alloc (.cells #[.int .i64 t.kind,.int .i64 t.num,.string t.txt,.slice (some ⟨g,0,none⟩) t.keys.length c,va] 25)).cell? ⟨g,n,none⟩=some (.string s):=(World.cell?_alloc_lt w _ _ hgw).trans hx
   clear hg hcell hx
   by_cases hb:Op.bytesLess s.toList k.toList=true
   ·have HS:=Lib.hid hs
    clear hs
    go_wp2
    have hn1:n+1<=posK k t.keys:=by
     rcases Nat.lt_or_ge n (posK k t.keys) with h1 | h1
     ·exact h1
     ·have e:n=posK k t.keys:=by omega
      have:=posK_at (e ▸ HS.out)
      unfold blt at this
      rw [hb] at this
      cases this
    go_roundg (t.keys.length - (n+1))
    case measure=>omega
    case rel=>exact ⟨n+1,hn1,rfl,by go_num,rfl⟩
   ·have hb':Op.bytesLess s.toList k.toList=false:=by simpa using hb
    have HS:=Lib.hid hs
    clear hs hb
    go_wp2
    go_quiet (fail)
    go_wp2
    go_ret2
    have e:n=posK k t.keys:=by
     rcases Nat.lt_or_ge n (posK k t.keys) with h1 | h1
     ·have:=posK_lt h1 HS.out
      unfold blt at this
      rw [hb'] at this
      cases this
     ·omega
    refine ⟨?_,?_⟩
    ·rw [e] at HS ⊢
     rw [HS.out,eqS]
     simp
    ·exact ((Chg.refl [] w).al _).drN _
  ·have e:n=t.keys.length:=by omega
   have e2:posK k t.keys=n:=by omega
   have HE:=Lib.hid e
   have HE2:=Lib.hid e2
   clear e e2
   go_wp2
   go_ret2
   refine ⟨?_,(Chg.refl [] w).al _⟩
   rw [HE2.out,HE.out]
   simp
def tget (k:ByteArray):T->Option T
 | .map m=>mget k m
 | _=>none
theorem pos_get {k:ByteArray}:∀ {m:List (ByteArray × T)},Srt m->(mget k m=((m.map (·.1))[posK k (m.map (·.1))]?).bind (fun s=>if s=k then (m.map (·.2))[posK k (m.map (·.1))]? else none))
 | [],_=>by simp [mget,posK]
 | p :: m,hs=>by
  simp only [List.map_cons,mget,posK]
  by_cases e:p.1=k
  ·rw [if_pos e,e,blt_irrefl]
   simp
  ·rw [if_neg e]
   by_cases hb:blt p.1 k=true
   ·rw [if_pos hb,pos_get hs.tail]
    simp
   ·have:mget k m=none:=get_none.2 fun hm=>by
     obtain ⟨q,hq,hqk⟩:=List.mem_map.1 hm
     have:=hs.head q hq
     rw [hqk] at this
     exact hb this
    rw [this,if_neg hb]
    simp [e]
theorem get_any (t:T) (v:Value) (k:ByteArray) (w:World) (h:Rd o w t v) (hs:∀ m,t=.map m->Srt m) (hl:t.keys.length<=67108864) :
  Calls Tryz.prog 35 #[v,.string k] w fun e w'=>∃ v',e=.returned (.tuple #[v',.bool (tget k t).isSome])/\Chg [] w w'/\Rd o w' ((tget k t).getD .null) v':=by
 by_cases hm:t.kind=5
 ·obtain ⟨m,rfl⟩ : ∃ m,t=.map m:=by cases t <;> simp [T.kind] at hm; exact ⟨_,rfl⟩
  obtain ⟨ka,va,rfl,hk,hv⟩:=h.open_map
  have hsm:=hs m rfl
  have hpg:=pos_get (k:=k) hsm
  have hle:=posK_le k (m.map (·.1))
  obtain ⟨i,hi⟩ : ∃ i,i=posK k (m.map (·.1)):=⟨_,rfl⟩
  rw [<- hi] at hpg hle
  simp only [List.length_map] at hle
  have hml:m.length<=67108864:=by simpa [T.keys] using hl
  have hpl:∀ W:World,Chg [] w W->Calls Tryz.prog 45 #[.agg #[.int .i64 5,.int .i64 0,.string ⟨#[]⟩,ka,va],.string k] W fun e w'=>e=.returned (.tuple #[.int .i64 i,.bool (mget k m).isSome])/\Chg [] W w':=fun W hW=>by
   refine (place_any (.map m) _ k W (h.chg hW) hl).mono ?_
   rintro e w' ⟨rfl,hc⟩
   simp only [T.keys,<- hi]
   refine ⟨?_,hc⟩
   have hd:decide ((m.map (·.1))[i]?=some k)=(mget k m).isSome:=?_
   ·rw [hd]
   cases hg:mget k m with
   | none=>exact decide_eq_false fun e=>get_none.1 hg (List.mem_of_getElem? e)
   | some t'=>
    rw [hg] at hpg
    refine decide_eq_true ?_
    cases hk':(m.map (·.1))[i]? with
    | none=>rw [hk'] at hpg; simp at hpg
    | some s=>
     rw [hk'] at hpg
     simp only [Option.bind_some] at hpg
     by_cases e:s=k
     ·rw [e]
     ·rw [if_neg e] at hpg; cases hpg
  cases hg:mget k m with
  | none=>
   simp only [hg] at hpl
   have HP:=Lib.hid hi
   have HG:=Lib.hid hg
   have HL:=Lib.hid hpl
   clear hpg hi hg hpl
   go_enter Tryz.func35,Tryz.ntmps35
   go_wp2_with fail
   refine (HL.out _ (((Chg.refl [] w).al _).al _)).mono ?_
   rintro e w1 ⟨rfl,hc1⟩
   obtain ⟨hcw,hfw,hsw⟩:=hc1.cells
   simp at hcw hfw hsw
   go_wp2
   refine bodyPost_ret (v:=.tuple #[.agg #[.int .i64 0,.int .i64 0,.string ⟨#[]⟩,.slice none 0 0,.slice none 0 0],.bool false]) (by simp [results,Tryz.results35,go_sem,hcw]) rfl ⟨_,by rw [show tget k (.map m)=none from HG.out]; rfl,?_,?_⟩
   ·have hsz:w.heap.size<=w.heap.size+1:=by omega
    exact (((((((((Chg.refl [] w).al _).al _).trans hc1 New.nil).st hsz _).st hsz _).st hsz _).st hsz _).st hsz _)
   ·rw [show tget k (.map m)=none from HG.out]
    exact Rd.zero _
  | some t'=>
   have hiv:(m.map (·.2))[i]?=some t':=by
    rw [hg] at hpg
    cases hk':(m.map (·.1))[i]? with
    | none=>rw [hk'] at hpg; simp at hpg
    | some s=>
     rw [hk'] at hpg
     simp only [Option.bind_some] at hpg
     by_cases e:s=k
     ·rw [if_pos e] at hpg; exact hpg.symm
     ·rw [if_neg e] at hpg; cases hpg
   have him:i < m.length:=by
    have:=(List.getElem?_eq_some_iff.1 hiv).1
    simpa using this
   obtain ⟨g,c,ka',va',hva,hlc,hk',hv',c0,c1,c2,c3,c4⟩:=hv.at_ hiv
   simp only [List.length_map] at hva hlc
   subst hva
   have hgw:g < w.heap.size:=World.block_lt_of_cell? w _ c0
   simp only [hg] at hpl
   have HP:=Lib.hid (And.intro hi hiv)
   have HG:=Lib.hid hg
   have HL:=Lib.hid hpl
   have HR:=Lib.hid (Rd.mk (t:=t') hk' hv')
   obtain ⟨A3,q3,rfl,_,_⟩:=hk'
   obtain ⟨A4,q4,rfl,_,_⟩:=hv'
   clear hpg hi hg hpl hiv
   go_enter Tryz.func35,Tryz.ntmps35
   go_wp2_with fail
   refine (HL.out _ (((Chg.refl [] w).al _).al _)).mono ?_
   rintro e w1 ⟨rfl,hc1⟩
   have hcw1:=((((Chg.refl [] w).al _).al _).trans hc1 New.nil).cells
   obtain ⟨hcw,hfw,hsw⟩:=hc1.cells
   simp at hcw hfw hsw
   have d0:=(hcw1.1 g (i * 5) hgw).trans c0
   have d1:=(hcw1.1 g (i * 5+1) hgw).trans c1
   have d2:=(hcw1.1 g (i * 5+2) hgw).trans c2
   have d3:=(hcw1.1 g (i * 5+3) hgw).trans c3
   have d4:=(hcw1.1 g (i * 5+4) hgw).trans c4
   clear c0 c1 c2 c3 c4 hcw1
   go_wp2
   have hsz:w.heap.size<=w.heap.size+1:=by omega
   have hcf:Chg [] w (((((w1.setCell ⟨w.heap.size+1,0,none⟩ (.int .i64 t'.kind)).setCell ⟨w.heap.size+1,1,none⟩ (.int .i64 t'.num)).setCell ⟨w.heap.size+1,2,none⟩ (.string t'.txt)).setCell ⟨w.heap.size+1,3,none⟩ (.slice A3 t'.keys.length q3)).setCell ⟨w.heap.size+1,4,none⟩ (.slice A4 t'.vals.length q4)):=
    (((((((((Chg.refl [] w).al _).al _).trans hc1 New.nil).st hsz _).st hsz _).st hsz _).st hsz _).st hsz _)
   refine bodyPost_ret (v:=.tuple #[.agg #[.int .i64 t'.kind,.int .i64 t'.num,.string t'.txt,.slice A3 t'.keys.length q3,.slice A4 t'.vals.length q4],.bool true]) (by simp [results,Tryz.results35,go_sem,hcw]) rfl ⟨_,by rw [show tget k (.map m)=some t' from HG.out]; rfl,hcf,?_⟩
   rw [show tget k (.map m)=some t' from HG.out]
   exact HR.out.chg hcf
 ·have hg:tget k t=none:=by cases t <;> first | rfl | exact absurd rfl hm
  have hm':(t.kind != 5)=true:=by simpa using hm
  obtain ⟨ka,va,rfl,hk,hv⟩:=h.open
  rw [hg]
  go_enter Tryz.func35,Tryz.ntmps35
  go_wp2
  refine bodyPost_ret (v:=.tuple #[.agg #[.int .i64 0,.int .i64 0,.string ⟨#[]⟩,.slice none 0 0,.slice none 0 0],.bool false]) (by simp [results,Tryz.results35,go_sem]) rfl ⟨_,rfl,?_,?_⟩
  ·exact ((Chg.refl [] w).al _).al _
  ·simp only [Option.getD_none]
   exact Rd.zero _
end Go.Proofs.YtpofkokbmifhgaaGreatDoor
namespace Go.Proofs.YtpofkokbmifhgaaGreatDoor
open Go.RowKit
variable {o:Nat->Prop}
theorem sayIn_any (s:ByteArray) (l:List ByteArray) (v:Value) (w:World) (h:RdK o w l v) (hl:l.length<=67108864) :
  Calls Tryz.prog 56 #[.string s,v] w fun e w'=>e=.returned (.bool (decide (s∈l)))/\w=w':=by
 obtain ⟨A,c,rfl,hc,hcell⟩:=h
 go_enter Tryz.func56,Tryz.ntmps56
 go_wp2
 go_loopg [5] l.length (fun g i wr=>∃ n:Nat,n<=l.length/\g=l.length - n/\i=.int .i64 n/\w=wr/\s ∉ l.take n)
 case atStart=>exact ⟨0,Nat.zero_le _,by omega,rfl,rfl,by simp⟩
 case round=>
  obtain ⟨n,hn,rfl,rfl,rfl,hnot⟩:=hrel
  by_cases hlt:n < l.length
  ·obtain ⟨g,rfl,_,hg⟩:=hcell (by omega)
   obtain ⟨x,hx⟩ : ∃ x,l[n]?=some x:=⟨_,List.getElem?_eq_getElem hlt⟩
   have hxc:=hg n x hx
   clear hg hcell
   have HN:=Lib.hid hnot
   have HX:=Lib.hid hx
   clear hnot hx
   by_cases e:x=s
   ·subst e
    have hb:(x.toList == x.toList)=true:=by simp
    go_wp2
    go_ret
    have:x∈l:=List.mem_of_getElem? HX.out
    exact ⟨by simp [this],rfl⟩
   ·have hb:(x.toList == s.toList)=false:=by rw [eqS]; simp [e]
    go_wp2
    go_roundg (l.length - (n+1))
    case measure=>omega
    case rel=>
     refine ⟨n+1,by omega,rfl,by go_num,rfl,?_⟩
     rw [List.take_add_one,HX.out]
     simp only [Option.toList_some,List.mem_append,List.mem_singleton,not_or]
     exact ⟨HN.out,fun h=>e h.symm⟩
  ·have HN:=Lib.hid hnot
   have HE:=Lib.hid (show n=l.length by omega)
   clear hnot
   go_wp2
   go_ret
   have:s ∉ l:=by
    have:=HN.out
    rw [HE.out,List.take_length] at this
    exact this
   exact ⟨by simp [this],rfl⟩
theorem has_any (t:T) (v:Value) (k:ByteArray) (w:World) (h:Rd o w t v) (hs:∀ m,t=.map m->Srt m) (hl:t.keys.length<=67108864) :
  Calls Tryz.prog 91 #[v,.string k] w fun e w'=>e=.returned (.bool (tget k t).isSome)/\Chg [] w w':=by
 obtain ⟨ka,va,rfl,hk,hv⟩:=h.open
 go_enter Tryz.func91,Tryz.ntmps91
 go_wp2_with fail
 refine (get_any t _ k _ (h.chg ((Chg.refl [] w).al _)) hs hl).mono ?_
 rintro e w1 ⟨v',rfl,hc,hr⟩
 obtain ⟨A3,q3,A4,q4,rfl,_⟩:=hr.five
 go_wp2
 go_ret
 exact ⟨rfl,(((Chg.refl [] w).al _).trans hc New.nil).al _⟩
end Go.Proofs.YtpofkokbmifhgaaGreatDoor
namespace Go.Proofs.YtpofkokbmifhgaaGreatDoor
open Go.RowKit
variable {o:Nat->Prop}
theorem uKs:Tryz.prog.underlying 22=some (.slice 9):=by kernel_rfl
theorem uVs:Tryz.prog.underlying 23=some (.slice 25):=by kernel_rfl
theorem uWs:Tryz.prog.underlying 30=some (.slice 32):=by kernel_rfl
theorem iS:(Tryz.prog.info? 9).map (fun i=>(i.zero,i.size,i.bytes))=some (some (.string ⟨#[]⟩),1,16):=by kernel_rfl
theorem iV:(Tryz.prog.info? 25).map (fun i=>(i.zero,i.size,i.bytes))=some (some (.agg #[.int .i64 0,.int .i64 0,.string ⟨#[]⟩,.slice none 0 0,.slice none 0 0]),5,80):=by kernel_rfl
theorem iW:(Tryz.prog.info? 32).map (fun i=>(i.zero,i.size,i.bytes))=some (some (.agg #[.int .i64 0,.int .i64 0,.string ⟨#[]⟩,.slice none 0 0,.slice none 0 0]),5,80):=by kernel_rfl
theorem strC_one (ks:List ByteArray):∀ u∈strC ks,u.oneCell'=true:=by
 intro u hu
 simp only [strC,List.mem_map] at hu
 obtain ⟨s,_,rfl⟩:=hu
 rfl
theorem Rd.one {w:World} {t:T} {v:Value} (h:Rd o w t v):∀ u∈v.cells.toList,u.oneCell'=true:=by
 obtain ⟨A3,q3,A4,q4,rfl,_⟩:=h.five
 intro u hu
 simp only [Value.cells,List.mem_cons,List.mem_nil_iff,or_false] at hu
 rcases hu with rfl | rfl | rfl | rfl | rfl <;> rfl
theorem FlatV.one {w:World}:∀ {l:List T} {xs:List Value},FlatV o w l xs->∀ u∈xs,u.oneCell'=true
 | [],xs,h=>by simp only [FlatV] at h; subst h; intro u hu; cases hu
 | t :: l,xs,h=>by
  simp only [FlatV] at h
  obtain ⟨v,ys,hv,rfl,hy⟩:=h
  intro u hu
  rcases List.mem_append.1 hu with hu | hu
  ·exact hv.one u hu
  ·exact hy.one u hu
theorem RdL.flat {w:World} {g:Nat}:∀ {l:List T} {j:Nat},RdL o w g l j->∃ xs,FlatV o w l xs/\∀ i u,xs[i]?=some u->w.cell? ⟨g,j * 5+i,none⟩=some u
 | [],j,_=>⟨[],by simp [FlatV],fun i u h=>by simp at h⟩
 | t :: l,j,h=>by
  simp only [RdL] at h
  obtain ⟨⟨v,hv,hc⟩,hl⟩:=h
  obtain ⟨ys,hy,hcy⟩:=hl.flat
  have h5:=hv.size
  refine ⟨v.cells.toList++ys,by simp only [FlatV]; exact ⟨v,ys,hv,rfl,hy⟩,fun i u hu=>?_⟩
  rcases Nat.lt_or_ge i 5 with hi | hi
  ·rw [List.getElem?_append_left (by omega)] at hu
   exact hc i u (by simpa using hu)
  ·rw [List.getElem?_append_right (by omega),h5] at hu
   have:=hcy (i - 5) u hu
   rwa [show (j+1) * 5+(i - 5)=j * 5+i by omega] at this
section
variable {P:Program} {w:World}
theorem run_append_full (base:Nat) (t ty e:TypeId) (z:Value) (size bytes:Nat) (ht:P.underlying t=some (.slice e)) (hinfo:(P.info? e).map (fun i=>(i.zero,i.size,i.bytes))=some (some z,size,bytes)) (hzs:z.cells.size=size)
  (g n:Nat) (xs:List Value) (hown:w.ownsRow base e size (.slice (some ⟨g,0,none⟩) n n) n xs) (A:Option Addr) (m c:Nat) (news:List Value) (hl:news.length=m * size) (hA:0 < m->∃ a,A=some a/\∀ j u,news[j]?=some u->w.cell? (a.add j)=some u)
  (hbytes:(n+m) * bytes<=140737488355328) (hm:n+m<=140737488355328) :
  ∃ v' w',(Builtin.append_ #[t,t] ty #[.slice (some ⟨g,0,none⟩) n n,.slice A m c]).run P w=.ok v' w'/\w'.ownsRow base e size v' (n+m) (xs++news)/\Chg [] w w'/\∃ g' c',v'=.slice (some ⟨g',0,none⟩) (n+m) c'/\g' < w'.heap.size/\(g'=g∨w.heap.size<=g'):=by
 obtain ⟨i0,hi,hzz⟩:=Option.map_eq_some_iff.1 hinfo
 simp only [Prod.mk.injEq] at hzz
 obtain ⟨hz0,rfl,rfl⟩:=hzz
 have hb:base<=w.heap.size:=by
  have:=hown.lt g rfl
  omega
 by_cases h0:m=0
 ·subst h0
  have:news=[]:=List.eq_nil_of_length_eq_zero (by simpa using hl)
  subst this
  refine ⟨.slice (some ⟨g,0,none⟩) n n,w,?_,by simpa using hown,Chg.refl _ _,_,_,rfl,(hown.lt g rfl).2,.inl rfl⟩
  cases A <;> simp [Builtin.append_,run_underlying ht,sizeOf,typeInfo,hi,Builtin.lenOf,Builtin.firstCells,loadCells,loadCellsFrom,storeCells]
 ·obtain ⟨a,rfl,hc⟩:=hA (by omega)
  have hr:=run_append_grow (P:=P) w t ty e i0 z ht hi hz0 ⟨g,0,none⟩ n n xs hown.1 (hown.cells (g:=g) rfl) a m c news hl hc (by omega) (by omega) (growslice_fits (by omega) hbytes)
  have hge:=grownCap_ge w (n+m) n e
  have hcm:grownCap w (n+m) n e<=maxLen:=grownCap_le_maxLen w (n+m) n e (by simp only [maxLen]; omega)
  refine ⟨_,_,hr,?_,(Chg.refl [] w).dr.al _,w.heap.size,grownCap w (n+m) n e,rfl,by simp,.inr (Nat.le_refl _)⟩
  have hlen:(xs++news).length=(n+m) * i0.size:=by rw [List.length_append,hown.1,hl,Nat.add_mul]
  refine ⟨hlen,.inr ⟨w.heap.size,_,_,rfl,hb,heap_alloc_new w.drew _,hge,hcm,?_,?_⟩⟩
  ·simp only [Array.size_append,List.size_toArray,size_zeroCells,hzs,hown.1,hl,<- Nat.add_mul]
   congr 1
   omega
  ·simp only [Array.toList_append,List.append_assoc]
   rw [<- List.append_assoc,<- hlen]
   exact List.take_left
theorem run_append_copy (base:Nat) (t ty e:TypeId) (z:Value) (size bytes:Nat) (ht:P.underlying t=some (.slice e)) (hinfo:(P.info? e).map (fun i=>(i.zero,i.size,i.bytes))=some (some z,size,bytes)) (hzs:z.cells.size=size)
  (g:Nat) (hown:w.ownsRow base e size (.slice (some ⟨g,0,none⟩) 0 0) 0 []) (A:Option Addr) (m c:Nat) (news:List Value) (hl:news.length=m * size) (hA:0 < m->∃ b,A=some ⟨b,0,none⟩/\∀ j u,news[j]?=some u->w.cell? ⟨b,j,none⟩=some u)
  (hbytes:m * bytes<=140737488355328) (hm:m<=140737488355328) :
  ∃ v' w',(Builtin.append_ #[t,t] ty #[.slice (some ⟨g,0,none⟩) 0 0,.slice A m c]).run P w=.ok v' w'/\w'.ownsRow base e size v' m news/\Chg [] w w'/\∃ g' c',v'=.slice (some ⟨g',0,none⟩) m c'/\g' < w'.heap.size/\(g'=g∨w.heap.size<=g'):=by
 obtain ⟨v',w',hr,ho,hc,g',c',hv,h1,h2⟩:=run_append_full (P:=P) (w:=w) base t ty e z size bytes ht hinfo hzs g 0 [] hown A m c news hl (fun h=>by
  obtain ⟨b,hb,hcc⟩:=hA h
  refine ⟨_,hb,fun j u hu=>?_⟩
  have:(⟨b,0,none⟩ : Addr).add j=⟨b,j,none⟩:=by unfold Addr.add; split <;> simp_all
  rw [this]
  exact hcc j u hu) (by rw [Nat.zero_add]; exact hbytes) (by rw [Nat.zero_add]; exact hm)
 rw [Nat.zero_add] at ho hv
 rw [List.nil_append] at ho
 exact ⟨v',w',hr,ho,hc,g',c',hv,h1,h2⟩
theorem Chg.of_grown {w w':World} {row:Option Nat} (h:w.grownBy w' row):Chg row.toList w w':=
 ⟨h.os,h.tape,h.output,h.size,fun k hk hn=>h.block k hk (fun e=>hn (by simp [<- e]))⟩
theorem run_app (base:Nat) (t ty e:TypeId) (z:Value) (size bytes:Nat) (ht:P.underlying t=some (.slice e)) (hinfo:(P.info? e).map (fun i=>(i.zero,i.size,i.bytes))=some (some z,size,bytes)) (hzs:z.cells.size=size) (hsz:0 < size)
  (v:Value) (n:Nat) (xs:List Value) (hown:w.ownsRow base e size v n xs) (A:Option Addr) (m c:Nat) (news:List Value) (hl:news.length=m * size) (hA:0 < m->∃ a,A=some a/\∀ j u,news[j]?=some u->w.cell? (a.add j)=some u) (h1:∀ u∈news,u.oneCell'=true)
  (hbytes:(n+m) * bytes<=140737488355328) (hm:n+m<=140737488355328) (hbase:base<=w.heap.size) :
  ∃ v' w',(Builtin.append_ #[t,t] ty #[v,.slice A m c]).run P w=.ok v' w'/\w'.ownsRow base e size v' (n+m) (xs++news)/\Chg v.ownBlock.toList w w' /\
   ((v=.slice none 0 0/\m=0/\v'=.slice none 0 0)∨∃ g c',v'=.slice (some ⟨g,0,none⟩) (n+m) c'/\base<=g/\g < w'.heap.size/\(v.ownBlock=some g∨w.heap.size<=g)):=by
 obtain ⟨i0,hi,hzz⟩:=Option.map_eq_some_iff.1 hinfo
 simp only [Prod.mk.injEq] at hzz
 obtain ⟨hz0,hs0,hb0⟩:=hzz
 cases A with
 | none=>
  have h0:m=0:=by
   rcases Nat.eq_zero_or_pos m with h | h
   ·exact h
   ·obtain ⟨a,ha,_⟩:=hA h
    cases ha
  subst h0
  have:news=[]:=List.eq_nil_of_length_eq_zero (by simpa using hl)
  subst this
  rcases hown.2 with ⟨rfl,rfl⟩ | ⟨g,cap,cur,rfl,hbg,hg,hnc,hrest⟩
  ·refine ⟨.slice none 0 0,w,?_,by simpa using hown,Chg.refl _ _,.inl ⟨rfl,rfl,rfl⟩⟩
   simp [Builtin.append_,run_underlying ht,sizeOf,typeInfo,hi,Builtin.lenOf,Builtin.firstCells]
  ·have hlt:=hown.lt g rfl
   refine ⟨.slice (some ⟨g,0,none⟩) n cap,w,?_,by simpa using hown,Chg.refl _ _,.inr ⟨g,cap,rfl,hlt.1,hlt.2,.inl rfl⟩⟩
   simp [Builtin.append_,run_underlying ht,sizeOf,typeInfo,hi,Builtin.lenOf,Builtin.firstCells,hnc,storeCells]
 | some a=>
  have hc:∀ j u,news[j]?=some u->w.cell? (a.add j)=some u:=by
   intro j u hj
   have hpos:0 < m:=by
    rcases Nat.eq_zero_or_pos m with h | h
    ·subst h
     have:news=[]:=List.eq_nil_of_length_eq_zero (by simpa using hl)
     subst this
     simp at hj
    ·exact h
   obtain ⟨a',ha,hc⟩:=hA hpos
   cases ha
   exact hc j u hj
  obtain ⟨v',w',hr,hown',hgr,hnil,hblk⟩:=run_append_own_at (P:=P) w base t ty e i0 z size bytes ht hi hz0 hs0 hb0 hzs hsz v n xs hown a m c news hl hc h1 (by simp only [maxLen]; omega) hbytes hbase
  refine ⟨v',w',hr,hown',Chg.of_grown hgr,?_⟩
  rcases hown'.2 with ⟨rfl,hnm⟩ | ⟨g,cap,cur,rfl,hbg,hg,hnc,hrest⟩
  ·obtain ⟨hv,h0⟩:=hnil.1 rfl
   exact .inl ⟨hv,h0,rfl⟩
  ·have hlt:=hown'.lt g rfl
   refine .inr ⟨g,cap,rfl,hlt.1,hlt.2,?_⟩
   rcases hblk with h | h
   ·exact .inl (h ▸ rfl)
   ·right
    have:some g=some w.heap.size:=h
    rw [Option.some.inj this]
    exact Nat.le_refl _
theorem ownsRow_prefix {base e size g n cap i:Nat} {xs:List Value} (h:w.ownsRow base e size (.slice (some ⟨g,0,none⟩) n cap) n xs) (hi:i<=n) :
  w.ownsRow base e size (.slice (some ⟨g,0,none⟩) i cap) i (xs.take (i * size)):=by
 have hx:=h.1
 rcases h.2 with ⟨h',_⟩ | ⟨g',cap',cur,h',hb,hg,hnc,hcm,hcs,htake⟩
 ·cases h'
 ·cases h'
  have hle:i * size<=n * size:=Nat.mul_le_mul_right _ hi
  refine ⟨by rw [List.length_take,hx]; omega,.inr ⟨g,cap,cur,rfl,hb,hg,by omega,hcm,hcs,?_⟩⟩
  rw [<- htake,List.take_take]
  congr 1
  omega
theorem ownsRow_cap {base e size g n cap:Nat} {xs:List Value} (h:w.ownsRow base e size (.slice (some ⟨g,0,none⟩) n cap) n xs):n<=cap:=by
 rcases h.2 with ⟨h',_⟩ | ⟨g',cap',cur,h',hb,hg,hnc,hcm,hcs,htake⟩
 ·cases h'
 ·cases h'
  exact hnc
theorem ownsRow_suffix {base e size g n cap i:Nat} {xs:List Value} (h:w.ownsRow base e size (.slice (some ⟨g,0,none⟩) n cap) n xs) (hi:i<=n) :
  0 < n - i->∃ a,(if cap=i then some (⟨g,0,none⟩ : Addr) else some ⟨g,i * size,none⟩)=some a/\∀ j u,(xs.drop (i * size))[j]?=some u->w.cell? (a.add j)=some u:=by
 intro h0
 have hx:=h.1
 have hc:n<=cap:=by
  rcases h.2 with ⟨h',_⟩ | ⟨g',cap',cur,h',hb,hg,hnc,hcm,hcs,htake⟩
  ·cases h'
  ·cases h'
   exact hnc
 refine ⟨⟨g,i * size,none⟩,if_neg (by omega),fun j u hu=>?_⟩
 rw [List.getElem?_drop] at hu
 have hj:i * size+j < n * size:=by rw [<- hx]; exact (List.getElem?_eq_some_iff.1 hu).1
 have:(⟨g,i * size,none⟩ : Addr).add j=⟨g,i * size+j,none⟩:=by unfold Addr.add; split <;> simp_all
 rw [this,h.cellAt _ hj]
 exact hu
end
end Go.Proofs.YtpofkokbmifhgaaGreatDoor
