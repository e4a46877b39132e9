/- Parts of the walk, made small by wip/tools/pack.py: Facts, SpecA, SpecB, Region. No condition but those in each statement. -/
import Derived.Test.YtpofkokbmifhgaaGreatDoorL01
import Derived.Test.YtpofkokbmifhgaaGreatDoorProg
import Derived.WalkLawsBesides
import Derived.Outline
import Derived.WalkSpells
import Derived.Lib.Hide
import Derived.Deep.LoopGhost
import Derived.Deep.QuietTactic
import Derived.BigQuiet
import Derived.Deep.RegionHeld3
import Derived.StillTailTactics
import Derived.Deep.RegionWith
import Derived.Deep.DeepCutAuto
import Derived.Deep.DeepFit
import Derived.OrdersHeld
import Derived.StillTail
import Derived.Deep.Draws
set_option maxRecDepth 100000
set_option maxHeartbeats 20000000
set_option linter.unusedVariables false
set_option linter.unusedSimpArgs false
namespace Go.Proofs.YtpofkokbmifhgaaGreatDoor
open Go.RowKit
theorem uB:Tryz.prog.underlying 4=some .bool:=by kernel_rfl
theorem uS:Tryz.prog.underlying 9=some .string:=by kernel_rfl
theorem uM:Tryz.prog.underlying 50=some (.map 9 20):=by kernel_rfl
theorem uL:Tryz.prog.underlying 76=some (.slice 20):=by kernel_rfl
theorem zA (w:World):(zeroValue 20).run Tryz.prog w=.ok .nilIface w:=by kernel_rfl
@[go_sem] theorem ta_b_b (v:Value) (w:World):(Instr.typeAssert (.iface 4 v) 20 4 true).run Tryz.prog w=.ok (.tuple #[v,.bool true]) w:=by kernel_rfl
@[go_sem] theorem tb_b_b (v:Value) (w:World):(Instr.typeAssert (.iface 4 v) 20 4 false).run Tryz.prog w=.ok v w:=by kernel_rfl
@[go_sem] theorem ta_b_i (v:Value) (w:World):(Instr.typeAssert (.iface 4 v) 20 3 true).run Tryz.prog w=.ok (.tuple #[.int .i64 0,.bool false]) w:=by kernel_rfl
@[go_sem] theorem ta_b_s (v:Value) (w:World):(Instr.typeAssert (.iface 4 v) 20 9 true).run Tryz.prog w=.ok (.tuple #[.string ⟨#[]⟩,.bool false]) w:=by kernel_rfl
@[go_sem] theorem ta_b_m (v:Value) (w:World):(Instr.typeAssert (.iface 4 v) 20 50 true).run Tryz.prog w=.ok (.tuple #[.map none,.bool false]) w:=by kernel_rfl
@[go_sem] theorem ta_b_l (v:Value) (w:World):(Instr.typeAssert (.iface 4 v) 20 76 true).run Tryz.prog w=.ok (.tuple #[.slice none 0 0,.bool false]) w:=by kernel_rfl
@[go_sem] theorem ta_i_b (v:Value) (w:World):(Instr.typeAssert (.iface 3 v) 20 4 true).run Tryz.prog w=.ok (.tuple #[.bool false,.bool false]) w:=by kernel_rfl
@[go_sem] theorem ta_i_i (v:Value) (w:World):(Instr.typeAssert (.iface 3 v) 20 3 true).run Tryz.prog w=.ok (.tuple #[v,.bool true]) w:=by kernel_rfl
@[go_sem] theorem tb_i_i (v:Value) (w:World):(Instr.typeAssert (.iface 3 v) 20 3 false).run Tryz.prog w=.ok v w:=by kernel_rfl
@[go_sem] theorem ta_i_s (v:Value) (w:World):(Instr.typeAssert (.iface 3 v) 20 9 true).run Tryz.prog w=.ok (.tuple #[.string ⟨#[]⟩,.bool false]) w:=by kernel_rfl
@[go_sem] theorem ta_i_m (v:Value) (w:World):(Instr.typeAssert (.iface 3 v) 20 50 true).run Tryz.prog w=.ok (.tuple #[.map none,.bool false]) w:=by kernel_rfl
@[go_sem] theorem ta_i_l (v:Value) (w:World):(Instr.typeAssert (.iface 3 v) 20 76 true).run Tryz.prog w=.ok (.tuple #[.slice none 0 0,.bool false]) w:=by kernel_rfl
@[go_sem] theorem ta_s_b (v:Value) (w:World):(Instr.typeAssert (.iface 9 v) 20 4 true).run Tryz.prog w=.ok (.tuple #[.bool false,.bool false]) w:=by kernel_rfl
@[go_sem] theorem ta_s_i (v:Value) (w:World):(Instr.typeAssert (.iface 9 v) 20 3 true).run Tryz.prog w=.ok (.tuple #[.int .i64 0,.bool false]) w:=by kernel_rfl
@[go_sem] theorem ta_s_s (v:Value) (w:World):(Instr.typeAssert (.iface 9 v) 20 9 true).run Tryz.prog w=.ok (.tuple #[v,.bool true]) w:=by kernel_rfl
@[go_sem] theorem tb_s_s (v:Value) (w:World):(Instr.typeAssert (.iface 9 v) 20 9 false).run Tryz.prog w=.ok v w:=by kernel_rfl
@[go_sem] theorem ta_s_m (v:Value) (w:World):(Instr.typeAssert (.iface 9 v) 20 50 true).run Tryz.prog w=.ok (.tuple #[.map none,.bool false]) w:=by kernel_rfl
@[go_sem] theorem ta_s_l (v:Value) (w:World):(Instr.typeAssert (.iface 9 v) 20 76 true).run Tryz.prog w=.ok (.tuple #[.slice none 0 0,.bool false]) w:=by kernel_rfl
@[go_sem] theorem ta_m_b (v:Value) (w:World):(Instr.typeAssert (.iface 50 v) 20 4 true).run Tryz.prog w=.ok (.tuple #[.bool false,.bool false]) w:=by kernel_rfl
@[go_sem] theorem ta_m_i (v:Value) (w:World):(Instr.typeAssert (.iface 50 v) 20 3 true).run Tryz.prog w=.ok (.tuple #[.int .i64 0,.bool false]) w:=by kernel_rfl
@[go_sem] theorem ta_m_s (v:Value) (w:World):(Instr.typeAssert (.iface 50 v) 20 9 true).run Tryz.prog w=.ok (.tuple #[.string ⟨#[]⟩,.bool false]) w:=by kernel_rfl
@[go_sem] theorem ta_m_m (v:Value) (w:World):(Instr.typeAssert (.iface 50 v) 20 50 true).run Tryz.prog w=.ok (.tuple #[v,.bool true]) w:=by kernel_rfl
@[go_sem] theorem tb_m_m (v:Value) (w:World):(Instr.typeAssert (.iface 50 v) 20 50 false).run Tryz.prog w=.ok v w:=by kernel_rfl
@[go_sem] theorem ta_m_l (v:Value) (w:World):(Instr.typeAssert (.iface 50 v) 20 76 true).run Tryz.prog w=.ok (.tuple #[.slice none 0 0,.bool false]) w:=by kernel_rfl
@[go_sem] theorem ta_l_b (v:Value) (w:World):(Instr.typeAssert (.iface 76 v) 20 4 true).run Tryz.prog w=.ok (.tuple #[.bool false,.bool false]) w:=by kernel_rfl
@[go_sem] theorem ta_l_i (v:Value) (w:World):(Instr.typeAssert (.iface 76 v) 20 3 true).run Tryz.prog w=.ok (.tuple #[.int .i64 0,.bool false]) w:=by kernel_rfl
@[go_sem] theorem ta_l_s (v:Value) (w:World):(Instr.typeAssert (.iface 76 v) 20 9 true).run Tryz.prog w=.ok (.tuple #[.string ⟨#[]⟩,.bool false]) w:=by kernel_rfl
@[go_sem] theorem ta_l_m (v:Value) (w:World):(Instr.typeAssert (.iface 76 v) 20 50 true).run Tryz.prog w=.ok (.tuple #[.map none,.bool false]) w:=by kernel_rfl
@[go_sem] theorem ta_l_l (v:Value) (w:World):(Instr.typeAssert (.iface 76 v) 20 76 true).run Tryz.prog w=.ok (.tuple #[v,.bool true]) w:=by kernel_rfl
@[go_sem] theorem tb_l_l (v:Value) (w:World):(Instr.typeAssert (.iface 76 v) 20 76 false).run Tryz.prog w=.ok v w:=by kernel_rfl
@[go_sem] theorem ta_nil_b (w:World):(Instr.typeAssert .nilIface 20 4 true).run Tryz.prog w=.ok (.tuple #[.bool false,.bool false]) w:=by kernel_rfl
@[go_sem] theorem eqn_b (v:Value) (w:World):(binOp .eql 20 (.iface 4 v) .nilIface).run Tryz.prog w=.ok (.bool false) w:=by kernel_rfl
@[go_sem] theorem nen_b (v:Value) (w:World):(binOp .neq 20 (.iface 4 v) .nilIface).run Tryz.prog w=.ok (.bool true) w:=by kernel_rfl
@[go_sem] theorem ta_nil_i (w:World):(Instr.typeAssert .nilIface 20 3 true).run Tryz.prog w=.ok (.tuple #[.int .i64 0,.bool false]) w:=by kernel_rfl
@[go_sem] theorem eqn_i (v:Value) (w:World):(binOp .eql 20 (.iface 3 v) .nilIface).run Tryz.prog w=.ok (.bool false) w:=by kernel_rfl
@[go_sem] theorem nen_i (v:Value) (w:World):(binOp .neq 20 (.iface 3 v) .nilIface).run Tryz.prog w=.ok (.bool true) w:=by kernel_rfl
@[go_sem] theorem ta_nil_s (w:World):(Instr.typeAssert .nilIface 20 9 true).run Tryz.prog w=.ok (.tuple #[.string ⟨#[]⟩,.bool false]) w:=by kernel_rfl
@[go_sem] theorem eqn_s (v:Value) (w:World):(binOp .eql 20 (.iface 9 v) .nilIface).run Tryz.prog w=.ok (.bool false) w:=by kernel_rfl
@[go_sem] theorem nen_s (v:Value) (w:World):(binOp .neq 20 (.iface 9 v) .nilIface).run Tryz.prog w=.ok (.bool true) w:=by kernel_rfl
@[go_sem] theorem ta_nil_m (w:World):(Instr.typeAssert .nilIface 20 50 true).run Tryz.prog w=.ok (.tuple #[.map none,.bool false]) w:=by kernel_rfl
@[go_sem] theorem eqn_m (v:Value) (w:World):(binOp .eql 20 (.iface 50 v) .nilIface).run Tryz.prog w=.ok (.bool false) w:=by kernel_rfl
@[go_sem] theorem nen_m (v:Value) (w:World):(binOp .neq 20 (.iface 50 v) .nilIface).run Tryz.prog w=.ok (.bool true) w:=by kernel_rfl
@[go_sem] theorem ta_nil_l (w:World):(Instr.typeAssert .nilIface 20 76 true).run Tryz.prog w=.ok (.tuple #[.slice none 0 0,.bool false]) w:=by kernel_rfl
@[go_sem] theorem eqn_l (v:Value) (w:World):(binOp .eql 20 (.iface 76 v) .nilIface).run Tryz.prog w=.ok (.bool false) w:=by kernel_rfl
@[go_sem] theorem nen_l (v:Value) (w:World):(binOp .neq 20 (.iface 76 v) .nilIface).run Tryz.prog w=.ok (.bool true) w:=by kernel_rfl
@[go_sem] theorem eqn_nil (w:World):(binOp .eql 20 .nilIface .nilIface).run Tryz.prog w=.ok (.bool true) w:=by kernel_rfl
@[go_sem] theorem nen_nil (w:World):(binOp .neq 20 .nilIface .nilIface).run Tryz.prog w=.ok (.bool false) w:=by kernel_rfl
end Go.Proofs.YtpofkokbmifhgaaGreatDoor
namespace Go.Proofs.YtpofkokbmifhgaaGreatDoor
open Go.RowKit
variable {o:Nat->Prop}
def posK (k:ByteArray):List ByteArray->Nat
 | []=>0
 | a :: r=>if blt a k then posK k r+1 else 0
theorem posK_le (k:ByteArray):∀ ks,posK k ks<=ks.length
 | []=>Nat.le_refl _
 | a :: r=>by unfold posK; split <;> simp [posK_le k r]
theorem posK_lt {k:ByteArray}:∀ {ks:List ByteArray} {j:Nat} {s:ByteArray},j < posK k ks->ks[j]?=some s->blt s k=true
 | [],j,s,h,_=>by simp [posK] at h
 | a :: r,j,s,h,hs=>by
  unfold posK at h
  split at h
  ·rename_i hb
   cases j with
   | zero=>simp at hs; subst hs; exact hb
   | succ j=>exact posK_lt (ks:=r) (j:=j) (by omega) (by simpa using hs)
  ·omega
theorem posK_at {k:ByteArray}:∀ {ks:List ByteArray} {s:ByteArray},ks[posK k ks]?=some s->blt s k=false
 | [],s,h=>by simp [posK] at h
 | a :: r,s,h=>by
  unfold posK at h
  split at h
  ·exact posK_at (by simpa using h)
  ·rename_i hb
   simp at h;subst h
   simpa using hb
theorem place_any (t:T) (v:Value) (k:ByteArray) (w:World) (h:Rd o w t v) (hl:t.keys.length<=67108864) :
  Calls Tryz.prog 45 #[v,.string k] w fun e w'=>e=.returned (.tuple #[.int .i64 (posK k t.keys),.bool (decide (t.keys[posK k t.keys]?=some k))])/\Chg [] w w':=by
 obtain ⟨ka,va,rfl,hk,hv⟩:=h.open;obtain ⟨A,c,rfl,hc,hcell⟩:=hk;have hp:=posK_le k t.keys
 go_enter Tryz.func45,Tryz.ntmps45
 go_wp2
 go_loopg [6] t.keys.length (fun g i wr=>∃ n:Nat,n<=posK k t.keys/\g=t.keys.length - n/\i=.int .i64 n/\w.alloc (.cells #[.int .i64 t.kind,.int .i64 t.num,.string t.txt,.slice A t.keys.length c,va] 25)=wr)
 case atStart=>exact ⟨0,Nat.zero_le _,by omega,rfl,rfl⟩
 case round=>
  obtain ⟨n,hn,rfl,rfl,rfl⟩:=hrel
  by_cases hlt:n < t.keys.length
  ·obtain ⟨g,rfl,_,hg⟩:=hcell (by omega)
   obtain ⟨s,hs⟩ : ∃ s,t.keys[n]?=some s:=⟨_,List.getElem?_eq_getElem hlt⟩
   have hx:=hg n s hs;have hgw:g < w.heap.size:=World.block_lt_of_cell? w _ hx;have hx1:(w.alloc (.cells #[.int .i64 t.kind,.int .i64 t.num,.string t.txt,.slice (some ⟨g,0,none⟩) t.keys.length c,va] 25)).cell? ⟨g,n,none⟩=some (.string s):=(World.cell?_alloc_lt w _ _ hgw).trans hx;clear hg hcell hx
   by_cases hb:Op.bytesLess s.toList k.toList=true
   ·have HS:=Lib.hid hs
    clear hs
    go_wp2
    have hn1:n+1<=posK k t.keys:=by
     rcases Nat.lt_or_ge n (posK k t.keys) with h1 | h1
     ·exact h1
     ·have e:n=posK k t.keys:=by omega
      have:=posK_at (e ▸ HS.out)
      unfold blt at this;rw [hb] at this
      cases this
    go_roundg (t.keys.length - (n+1))
    case measure=>omega
    case rel=>exact ⟨n+1,hn1,rfl,by go_num,rfl⟩
   ·have hb':Op.bytesLess s.toList k.toList=false:=by simpa using hb
    have HS:=Lib.hid hs;clear hs hb
    go_wp2
    go_quiet (fail)
    go_wp2
    go_ret2
    have e:n=posK k t.keys:=by
     rcases Nat.lt_or_ge n (posK k t.keys) with h1 | h1
     ·have:=posK_lt h1 HS.out
      unfold blt at this;rw [hb'] at this
      cases this
     ·omega
    refine ⟨?_,?_⟩
    ·rw [e] at HS ⊢
     rw [HS.out,eqS];simp
    ·exact ((Chg.refl [] w).al _).drN _
  ·have e:n=t.keys.length:=by omega
   have e2:posK k t.keys=n:=by omega
   have HE:=Lib.hid e;have HE2:=Lib.hid e2;clear e e2
   go_wp2
   go_ret2
   refine ⟨?_,(Chg.refl [] w).al _⟩;rw [HE2.out,HE.out];simp
def tget (k:ByteArray):T->Option T
 | .map m=>mget k m
 | _=>none
theorem pos_get {k:ByteArray}:∀ {m:List (ByteArray × T)},Srt m->(mget k m=((m.map (·.1))[posK k (m.map (·.1))]?).bind (fun s=>if s=k then (m.map (·.2))[posK k (m.map (·.1))]? else none))
 | [],_=>by simp [mget,posK]
 | p :: m,hs=>by
  simp only [List.map_cons,mget,posK]
  by_cases e:p.1=k
  ·rw [if_pos e,e,blt_irrefl]
   simp
  ·rw [if_neg e]
   by_cases hb:blt p.1 k=true
   ·rw [if_pos hb,pos_get hs.tail]
    simp
   ·have:mget k m=none:=get_none.2 fun hm=>by
     obtain ⟨q,hq,hqk⟩:=List.mem_map.1 hm;have:=hs.head q hq;rw [hqk] at this;exact hb this
    rw [this,if_neg hb];simp [e]
theorem get_any (t:T) (v:Value) (k:ByteArray) (w:World) (h:Rd o w t v) (hs:∀ m,t=.map m->Srt m) (hl:t.keys.length<=67108864) :
  Calls Tryz.prog 35 #[v,.string k] w fun e w'=>∃ v',e=.returned (.tuple #[v',.bool (tget k t).isSome])/\Chg [] w w'/\Rd o w' ((tget k t).getD .null) v':=by
 by_cases hm:t.kind=5
 ·obtain ⟨m,rfl⟩ : ∃ m,t=.map m:=by cases t <;> simp [T.kind] at hm; exact ⟨_,rfl⟩
  obtain ⟨ka,va,rfl,hk,hv⟩:=h.open_map;have hsm:=hs m rfl;have hpg:=pos_get (k:=k) hsm;have hle:=posK_le k (m.map (·.1))
  obtain ⟨i,hi⟩ : ∃ i,i=posK k (m.map (·.1)):=⟨_,rfl⟩
  rw [<- hi] at hpg hle;simp only [List.length_map] at hle
  have hml:m.length<=67108864:=by simpa [T.keys] using hl
  have hpl:∀ W:World,Chg [] w W->Calls Tryz.prog 45 #[.agg #[.int .i64 5,.int .i64 0,.string ⟨#[]⟩,ka,va],.string k] W fun e w'=>e=.returned (.tuple #[.int .i64 i,.bool (mget k m).isSome])/\Chg [] W w':=fun W hW=>by
   refine (place_any (.map m) _ k W (h.chg hW) hl).mono ?_;rintro e w' ⟨rfl,hc⟩;simp only [T.keys,<- hi];refine ⟨?_,hc⟩;have hd:decide ((m.map (·.1))[i]?=some k)=(mget k m).isSome:=?_
   ·rw [hd]
   cases hg:mget k m with
   | none=>exact decide_eq_false fun e=>get_none.1 hg (List.mem_of_getElem? e)
   | some t'=>
    rw [hg] at hpg;refine decide_eq_true ?_
    cases hk':(m.map (·.1))[i]? with
    | none=>rw [hk'] at hpg; simp at hpg
    | some s=>
     rw [hk'] at hpg;simp only [Option.bind_some] at hpg
     by_cases e:s=k
     ·rw [e]
     ·rw [if_neg e] at hpg; cases hpg
  cases hg:mget k m with
  | none=>
   simp only [hg] at hpl;have HP:=Lib.hid hi;have HG:=Lib.hid hg;have HL:=Lib.hid hpl;clear hpg hi hg hpl
   go_enter Tryz.func35,Tryz.ntmps35
   go_wp2_with fail
   refine (HL.out _ (((Chg.refl [] w).al _).al _)).mono ?_;rintro e w1 ⟨rfl,hc1⟩;obtain ⟨hcw,hfw,hsw⟩:=hc1.cells;simp at hcw hfw hsw
   go_wp2
   refine bodyPost_ret (v:=.tuple #[.agg #[.int .i64 0,.int .i64 0,.string ⟨#[]⟩,.slice none 0 0,.slice none 0 0],.bool false]) (by simp [results,Tryz.results35,go_sem,hcw]) rfl ⟨_,by rw [show tget k (.map m)=none from HG.out]; rfl,?_,?_⟩
   ·have hsz:w.heap.size<=w.heap.size+1:=by omega
    exact (((((((((Chg.refl [] w).al _).al _).trans hc1 New.nil).st hsz _).st hsz _).st hsz _).st hsz _).st hsz _)
   ·rw [show tget k (.map m)=none from HG.out]
    exact Rd.zero _
  | some t'=>
   have hiv:(m.map (·.2))[i]?=some t':=by
    rw [hg] at hpg
    cases hk':(m.map (·.1))[i]? with
    | none=>rw [hk'] at hpg; simp at hpg
    | some s=>
     rw [hk'] at hpg;simp only [Option.bind_some] at hpg
     by_cases e:s=k
     ·rw [if_pos e] at hpg; exact hpg.symm
     ·rw [if_neg e] at hpg; cases hpg
   have him:i < m.length:=by
    have:=(List.getElem?_eq_some_iff.1 hiv).1
    simpa using this
   obtain ⟨g,c,ka',va',hva,hlc,hk',hv',c0,c1,c2,c3,c4⟩:=hv.at_ hiv;simp only [List.length_map] at hva hlc;subst hva;have hgw:g < w.heap.size:=World.block_lt_of_cell? w _ c0;simp only [hg] at hpl;have HP:=Lib.hid (And.intro hi hiv);have HG:=Lib.hid hg;have HL:=Lib.hid hpl;have HR:=Lib.hid (Rd.mk (t:=t') hk' hv');obtain ⟨A3,q3,rfl,_,_⟩:=hk';obtain ⟨A4,q4,rfl,_,_⟩:=hv';clear hpg hi hg hpl hiv
   go_enter Tryz.func35,Tryz.ntmps35
   go_wp2_with fail
   refine (HL.out _ (((Chg.refl [] w).al _).al _)).mono ?_;rintro e w1 ⟨rfl,hc1⟩;have hcw1:=((((Chg.refl [] w).al _).al _).trans hc1 New.nil).cells;obtain ⟨hcw,hfw,hsw⟩:=hc1.cells;simp at hcw hfw hsw;have d0:=(hcw1.1 g (i * 5) hgw).trans c0;have d1:=(hcw1.1 g (i * 5+1) hgw).trans c1;have d2:=(hcw1.1 g (i * 5+2) hgw).trans c2;have d3:=(hcw1.1 g (i * 5+3) hgw).trans c3;have d4:=(hcw1.1 g (i * 5+4) hgw).trans c4;clear c0 c1 c2 c3 c4 hcw1
   go_wp2
   have hsz:w.heap.size<=w.heap.size+1:=by omega
   have hcf:Chg [] w (((((w1.setCell ⟨w.heap.size+1,0,none⟩ (.int .i64 t'.kind)).setCell ⟨w.heap.size+1,1,none⟩ (.int .i64 t'.num)).setCell ⟨w.heap.size+1,2,none⟩ (.string t'.txt)).setCell ⟨w.heap.size+1,3,none⟩ (.slice A3 t'.keys.length q3)).setCell ⟨w.heap.size+1,4,none⟩ (.slice A4 t'.vals.length q4)):=
    (((((((((Chg.refl [] w).al _).al _).trans hc1 New.nil).st hsz _).st hsz _).st hsz _).st hsz _).st hsz _)
   refine bodyPost_ret (v:=.tuple #[.agg #[.int .i64 t'.kind,.int .i64 t'.num,.string t'.txt,.slice A3 t'.keys.length q3,.slice A4 t'.vals.length q4],.bool true]) (by simp [results,Tryz.results35,go_sem,hcw]) rfl ⟨_,by rw [show tget k (.map m)=some t' from HG.out]; rfl,hcf,?_⟩;rw [show tget k (.map m)=some t' from HG.out];exact HR.out.chg hcf
 ·have hg:tget k t=none:=by cases t <;> first | rfl | exact absurd rfl hm
  have hm':(t.kind != 5)=true:=by simpa using hm
  obtain ⟨ka,va,rfl,hk,hv⟩:=h.open;rw [hg]
  go_enter Tryz.func35,Tryz.ntmps35
  go_wp2
  refine bodyPost_ret (v:=.tuple #[.agg #[.int .i64 0,.int .i64 0,.string ⟨#[]⟩,.slice none 0 0,.slice none 0 0],.bool false]) (by simp [results,Tryz.results35,go_sem]) rfl ⟨_,rfl,?_,?_⟩
  ·exact ((Chg.refl [] w).al _).al _
  ·simp only [Option.getD_none]
   exact Rd.zero _
end Go.Proofs.YtpofkokbmifhgaaGreatDoor
namespace Go.Proofs.YtpofkokbmifhgaaGreatDoor
open Go.RowKit
variable {o:Nat->Prop}
theorem sayIn_any (s:ByteArray) (l:List ByteArray) (v:Value) (w:World) (h:RdK o w l v) (hl:l.length<=67108864) :
  Calls Tryz.prog 56 #[.string s,v] w fun e w'=>e=.returned (.bool (decide (s∈l)))/\w=w':=by
 obtain ⟨A,c,rfl,hc,hcell⟩:=h
 go_enter Tryz.func56,Tryz.ntmps56
 go_wp2
 go_loopg [5] l.length (fun g i wr=>∃ n:Nat,n<=l.length/\g=l.length - n/\i=.int .i64 n/\w=wr/\s ∉ l.take n)
 case atStart=>exact ⟨0,Nat.zero_le _,by omega,rfl,rfl,by simp⟩
 case round=>
  obtain ⟨n,hn,rfl,rfl,rfl,hnot⟩:=hrel
  by_cases hlt:n < l.length
  ·obtain ⟨g,rfl,_,hg⟩:=hcell (by omega)
   obtain ⟨x,hx⟩ : ∃ x,l[n]?=some x:=⟨_,List.getElem?_eq_getElem hlt⟩
   have hxc:=hg n x hx;clear hg hcell;have HN:=Lib.hid hnot;have HX:=Lib.hid hx;clear hnot hx
   by_cases e:x=s
   ·subst e
    have hb:(x.toList == x.toList)=true:=by simp
    go_wp2
    go_ret
    have:x∈l:=List.mem_of_getElem? HX.out;exact ⟨by simp [this],rfl⟩
   ·have hb:(x.toList == s.toList)=false:=by rw [eqS]; simp [e]
    go_wp2
    go_roundg (l.length - (n+1))
    case measure=>omega
    case rel=>
     refine ⟨n+1,by omega,rfl,by go_num,rfl,?_⟩;rw [List.take_add_one,HX.out];simp only [Option.toList_some,List.mem_append,List.mem_singleton,not_or];exact ⟨HN.out,fun h=>e h.symm⟩
  ·have HN:=Lib.hid hnot
   have HE:=Lib.hid (show n=l.length by omega);clear hnot
   go_wp2
   go_ret
   have:s ∉ l:=by
    have:=HN.out;rw [HE.out,List.take_length] at this;exact this
   exact ⟨by simp [this],rfl⟩
theorem has_any (t:T) (v:Value) (k:ByteArray) (w:World) (h:Rd o w t v) (hs:∀ m,t=.map m->Srt m) (hl:t.keys.length<=67108864) :
  Calls Tryz.prog 91 #[v,.string k] w fun e w'=>e=.returned (.bool (tget k t).isSome)/\Chg [] w w':=by
 obtain ⟨ka,va,rfl,hk,hv⟩:=h.open
 go_enter Tryz.func91,Tryz.ntmps91
 go_wp2_with fail
 refine (get_any t _ k _ (h.chg ((Chg.refl [] w).al _)) hs hl).mono ?_;rintro e w1 ⟨v',rfl,hc,hr⟩;obtain ⟨A3,q3,A4,q4,rfl,_⟩:=hr.five
 go_wp2
 go_ret
 exact ⟨rfl,(((Chg.refl [] w).al _).trans hc New.nil).al _⟩
end Go.Proofs.YtpofkokbmifhgaaGreatDoor
namespace Go.Proofs.YtpofkokbmifhgaaGreatDoor
def ordered (ops:Array Oper):Bool:=(List.range ops.size).all fun i=>match ops[i]? with
 | some o=>o.after.all fun e=>!Region.binds .any e || decide (e.on < i)
 | none=>true
section
variable {P:Program} {ops:Array Oper} {Q:Exit->Act->World->Prop}
theorem ordered_spec (h:ordered ops=true) {i:Nat} {o:Oper} (ho:ops[i]?=some o):∀ e∈o.after,Region.binds .any e=true->e.on < i:=by
 intro e he hb
 have hi:i < ops.size:=(Array.getElem?_eq_some_iff.1 ho).1;have h1:=List.all_eq_true.1 h i (List.mem_range.2 hi);rw [ho] at h1;have h2:=Array.all_eq_true'.1 h1 e he;rw [hb] at h2
 simpa using h2
theorem all_listed (h:ordered ops=true) {listed:Array Bool} (hsz:listed.size=ops.size) (hr:Region.ready .any ops listed=[]):∀ i,i < ops.size->listed.getD i false=true:=by
 intro i
 induction i using Nat.strongRecOn with
 | _ i ih=>
  intro hi
  cases hl:listed.getD i false with
  | true=>rfl
  | false=>
   exfalso
   have ho:ops[i]?=some ops[i]:=Array.getElem?_eq_getElem hi
   have:i∈Region.ready .any ops listed:=by
    refine mem_ready.2 ⟨?_,ops[i],ho,fun e he hb=>?_⟩
    ·have hi':i < listed.size:=by omega
     simp [hi'] at hl ⊢;exact hl
    ·have hlt:=ordered_spec h ho e he hb
     exact ih e.on hlt (by omega)
   rw [hr] at this
   cases this
theorem wpAny_inv (hord:ordered ops=true) (G:(Nat->Bool)->Act->World->Prop)
  (step:∀ (L:Nat->Bool) (i:Nat) (o:Oper),ops[i]?=some o->L i=false->(∀ (j:Nat) (oj:Oper),ops[j]?=some oj->L j=true->∀ e∈oj.after,Region.binds .any e=true->L e.on=true) ->
   (∀ e∈o.after,Region.binds .any e=true->L e.on=true)->∀ a w,G L a w->wpOp P ops Q i (fun a' w'=>G (fun j=>L j || j == i) a' w') a w)
  (fin:∀ a w,G (fun j=>decide (j < ops.size)) a w->Q .normal a w) :
  ∀ (fuel:Nat) (listed:Array Bool) (a:Act) (w:World),listed.size=ops.size->(∀ (j:Nat) (oj:Oper),ops[j]?=some oj->listed.getD j false=true->∀ e∈oj.after,Region.binds .any e=true->listed.getD e.on false=true) ->
   listed.toList.count false<=fuel->G (fun j=>listed.getD j false) a w->wpAny P .any ops Q fuel listed a w:=by
 have done:∀ (listed:Array Bool) (a:Act) (w:World),listed.size=ops.size->(∀ i,i < ops.size->listed.getD i false=true)->G (fun j=>listed.getD j false) a w->Q .normal a w:=by
  intro listed a w hsz hall hG
  refine fin a w ?_
  have:(fun j=>listed.getD j false)=(fun j=>decide (j < ops.size)):=by
   funext j
   by_cases hj:j < ops.size
   ·rw [hall j hj]; simp [hj]
   ·have:¬ j < listed.size:=by omega
    simp [this,hj]
  rwa [this] at hG
 intro fuel
 induction fuel with
 | zero=>
  intro listed a w hsz hcl hc hG
  have hall:∀ i,i < ops.size->listed.getD i false=true:=by
   intro i hi
   have h0:listed.toList.count false=0:=by omega
   have hn:=List.count_eq_zero.1 h0
   have hi':i < listed.size:=by omega
   cases hl:listed.getD i false with
   | true=>rfl
   | false=>
    exfalso
    apply hn
    simp [hi'] at hl;rw [<- hl];exact Array.getElem_mem_toList hi'
  refine ⟨?_,done listed a w hsz hall hG⟩
  cases hr:Region.ready .any ops listed with
  | nil=>rfl
  | cons i r=>
   exfalso
   have hi:i∈Region.ready .any ops listed:=by rw [hr]; simp
   obtain ⟨h1,o,ho,_⟩:=mem_ready.1 hi;have hlt:i < ops.size:=(Array.getElem?_eq_some_iff.1 ho).1;have h2:=hall i hlt
   have hi':i < listed.size:=by omega
   simp [hi'] at h1 h2;rw [h1] at h2
   cases h2
 | succ fuel ih=>
  intro listed a w hsz hcl hc hG
  refine ⟨fun hr=>done listed a w hsz (all_listed hord hsz hr) hG,fun i hi=>?_⟩;obtain ⟨h1,o,ho,hdeps⟩:=mem_ready.1 hi;have hlt:i < ops.size:=(Array.getElem?_eq_some_iff.1 ho).1
  have hi':i < listed.size:=by omega
  have hli:listed.getD i false=false:=by simp [hi'] at h1 ⊢; exact h1
  refine wpOp_mono (fun a' w' hG'=>?_) (step (fun j=>listed.getD j false) i o ho hli hcl hdeps a w hG)
  have hset:∀ j,(listed.setIfInBounds i true).getD j false=(listed.getD j false || j == i):=by
   intro j
   by_cases hji:j=i
   ·subst hji; simp [hi']
   ·rw [getD_set_ne false (Ne.symm hji)]
    have:(j == i)=false:=by simp [hji]
    rw [this,Bool.or_false]
  refine ih _ a' w' (by simp [hsz]) ?_ ?_ ?_
  ·intro j oj hoj hj e he hb
   rw [hset] at hj ⊢;simp only [Bool.or_eq_true,beq_iff_eq] at hj ⊢;rcases hj with hj | rfl
   ·exact .inl (hcl j oj hoj hj e he hb)
   ·have:oj=o:=Option.some.inj (hoj.symm.trans ho)
    subst this;exact .inl (hdeps e he hb)
  ·have hg:listed.toList[i]'(by simpa using hi')=false:=by
    simp [hi'] at h1
    simpa using h1
   rw [Array.toList_setIfInBounds,List.count_set (by simpa using hi'),hg];have hpos:0 < listed.toList.count false:=List.count_pos_iff.2 (hg ▸ List.getElem_mem _);have e1:((false == false)=true):=rfl
   have e2:¬ ((true == false)=true):=by simp
   rw [if_pos e1,if_neg e2]
   omega
  ·have:(fun j=>(listed.setIfInBounds i true).getD j false)=(fun j=>listed.getD j false || j == i):=funext hset
   rw [this];exact hG'
theorem wp_region_inv {id:Nat} {a:Act} {w:World} (hm:P.follows .mixedOrders=true) (hord:ordered ops=true) (G:(Nat->Bool)->Act->World->Prop)
  (h0:G (fun _=>false) a w.drew)
  (step:∀ (L:Nat->Bool) (i:Nat) (o:Oper),ops[i]?=some o->L i=false->(∀ (j:Nat) (oj:Oper),ops[j]?=some oj->L j=true->∀ e∈oj.after,Region.binds .any e=true->L e.on=true) ->
   (∀ e∈o.after,Region.binds .any e=true->L e.on=true)->∀ a w,G L a w->wpOp P ops Q i (fun a' w'=>G (fun j=>L j || j == i) a' w') a w)
  (fin:∀ a w,G (fun j=>decide (j < ops.size)) a w->Q .normal a w):(Code.region id ops true).wp P Q a w:=by
 refine wp_region_any hm (wpAny_inv hord G step fin _ _ _ _ (by simp) ?_ ?_ ?_)
 ·intro j oj _ hj
  rw [getD_replicate_false] at hj
  cases hj
 ·simp
 ·have:(fun j=>(Array.replicate ops.size false).getD j false)=fun _=>false:=funext fun j=>getD_replicate_false _ j
  rw [this];exact h0
end
def Act.g (a:Act) (t:Nat):Value:=a.tmps.getD t undef
theorem g_put_same (a:Act) (d:Nat) (v:Value) (h:d < a.tmps.size):Act.g (a.put (some d) v) d=v:=by
 simp [Act.g,Act.put,h]
theorem g_put_ne (a:Act) (d t:Nat) (v:Value) (h:t≠d):Act.g (a.put (some d) v) t=Act.g a t:=by
 simp [Act.g,Act.put,Ne.symm h]
theorem size_put (a:Act) (d:Option Nat) (v:Value):(a.put d v).tmps.size=a.tmps.size:=by
 cases d <;> simp [Act.put]
def dOf (ops:Array Oper) (i:Nat):Nat:=((ops[i]?).bind (·.dst)).getD 0
def waits (ops:Array Oper) (i j:Nat):Bool:=match ops[i]? with
 | some o=>o.after.any fun e=>Region.binds .any e && e.on == j
 | none=>false
def monoForm (ops:Array Oper) (size:Nat) (st:List Nat):Bool:=
 decide (0 < ops.size) && ops.all (fun o=>o.guard.isNone) &&
 ((List.range (ops.size - 1)).all fun i=>match ops[i]? with
  | some o=>(match o.dst with | some d=>decide (d < size) && !st.contains d | none=>false) && waits ops (ops.size - 1) i
  | none=>false) &&
 decide ((List.range (ops.size - 1)).map (dOf ops)).Nodup
def Value.blk:Value->Option Nat
 | .slice (some a) _ _=>some a.block
 | .pointer (some a)=>some a.block
 | _=>none
def putAll (ops:Array Oper) (u:Nat->Value):Nat->Act->Act
 | 0,a=>a
 | n+1,a=>(putAll ops u n a).put (some (dOf ops n)) (u n)
theorem putAll_size (ops:Array Oper) (u:Nat->Value) (a:Act):∀ n,(putAll ops u n a).tmps.size=a.tmps.size
 | 0=>rfl
 | n+1=>by rw [putAll,size_put,putAll_size ops u a n]
theorem putAll_defers (ops:Array Oper) (u:Nat->Value) (a:Act):∀ n,(putAll ops u n a).defers=a.defers
 | 0=>rfl
 | n+1=>putAll_defers ops u a n
theorem putAll_ne (ops:Array Oper) (u:Nat->Value) (a:Act) (s:Nat):∀ n,(∀ j,j < n->dOf ops j≠s)->Act.g (putAll ops u n a) s=Act.g a s
 | 0,_=>rfl
 | n+1,h=>by rw [putAll,g_put_ne _ _ _ _ (Ne.symm (h n (by omega))),putAll_ne ops u a s n (fun j hj=>h j (by omega))]
theorem putAll_eq (ops:Array Oper) (u:Nat->Value) (a:Act) (i:Nat):∀ n,i < n->(∀ j,j < n->j≠i->dOf ops j≠dOf ops i)->dOf ops i < a.tmps.size->Act.g (putAll ops u n a) (dOf ops i)=u i
 | 0,h,_,_=>absurd h (Nat.not_lt_zero _)
 | n+1,h,hd,hs=>by
  by_cases e:i=n
  ·subst e
   rw [putAll,g_put_same _ _ _ (by rw [putAll_size]; exact hs)]
  ·rw [putAll,g_put_ne _ _ _ _ (Ne.symm (hd n (by omega) (Ne.symm e))),putAll_eq ops u a i n (by omega) (fun j hj=>hd j (by omega)) hs]
theorem act_ext {a b:Act} (hs:a.tmps.size=b.tmps.size) (hd:a.defers=b.defers) (hg:∀ s,Act.g a s=Act.g b s):a=b:=by
 cases a with | mk t d=>cases b with | mk t2 d2=>
 simp only at hs hd;subst hd
 congr 1
 refine Array.ext hs fun i h1 h2=>?_
 have:=hg i
 simpa [Act.g,h1,h2] using this
section
variable {P:Program} {ops:Array Oper} {Q:Exit->Act->World->Prop}
theorem wp_region_mono {id:Nat} {a:Act} {w:World} (hm:P.follows .mixedOrders=true) (hord:ordered ops=true) (st:List Nat) (hform:monoForm ops a.tmps.size st=true)
  (φ:Nat->Value->World->Prop) (mono:∀ i v w w',Chg [] w w'->φ i v w->φ i v w') (lab:Nat->Option Nat) (bl:Nat->Value->Option Nat)
  (step:∀ (i:Nat) (o:Oper),i < ops.size - 1->ops[i]?=some o->∀ (a':Act) (w':World),(∀ s∈st,Act.g a' s=Act.g a s)->Chg [] w.drew w'->(∀ j,waits ops i j=true->φ j (Act.g a' (dOf ops j)) w') ->
   ∃ v w'',(execOp a'.eval o).run P w'=.ok (.value v) w''/\Chg [] w' w''/\φ i v w'' /\
    ∀ c,lab i=some c->∀ b,bl i v=some b->b < w''.heap.size/\(w'.heap.size<=b∨∃ j,waits ops i j=true/\lab j=some c/\bl j (Act.g a' (dOf ops j))=some b))
  (last:∀ (o:Oper),ops[ops.size - 1]?=some o->∀ (u:Nat->Value) (w':World),Chg [] w.drew w'->(∀ j,j < ops.size - 1->φ j (u j) w') ->
   (∀ i j c d,i < ops.size - 1->j < ops.size - 1->lab i=some c->lab j=some d->c≠d->∀ b,bl i (u i)=some b->bl j (u j)≠some b) ->
   ∀ A2,A2=putAll ops u (ops.size - 1) a->o.wp P A2 w' (Q .normal) Q):(Code.region id ops true).wp P Q a w:=by
 unfold monoForm at hform;simp only [Bool.and_eq_true,decide_eq_true_eq] at hform;obtain ⟨⟨⟨h0,hgd⟩,hdst⟩,hnd⟩:=hform
 have guard:∀ (i:Nat) (o:Oper),ops[i]?=some o->o.guard=none:=by
  intro i o ho
  have hi:=(Array.getElem?_eq_some_iff.1 ho)
  obtain ⟨hlt,he⟩:=hi;have:=Array.all_eq_true.1 hgd i hlt;rw [he] at this
  simpa using this
 have head:∀ i,i < ops.size - 1->∃ o d,ops[i]?=some o/\o.dst=some d/\dOf ops i=d/\d < a.tmps.size/\d ∉ st/\waits ops (ops.size - 1) i=true:=by
  intro i hi
  have h1:=List.all_eq_true.1 hdst i (List.mem_range.2 hi);have ho:ops[i]?=some (ops[i]'(by omega)):=Array.getElem?_eq_getElem (by omega);rw [ho] at h1;simp only [Bool.and_eq_true] at h1
  cases hd:(ops[i]'(by omega)).dst with
  | none=>rw [hd] at h1; simp at h1
  | some d=>
   rw [hd] at h1;simp only [Bool.and_eq_true,decide_eq_true_eq,Bool.not_eq_true',List.contains_eq_mem,decide_eq_false_iff_not] at h1;exact ⟨_,d,ho,hd,by unfold dOf; rw [ho]; simp [hd],h1.1.1,h1.1.2,h1.2⟩
 have distinct:∀ i j,i < ops.size - 1->j < ops.size - 1->i≠j->dOf ops i≠dOf ops j:=by
  intro i j hi hj hij he
  have hp:=List.pairwise_iff_getElem.1 hnd;simp only [List.length_map,List.length_range,List.getElem_map,List.getElem_range] at hp;rcases Nat.lt_or_gt_of_ne hij with h | h
  ·exact hp i j hi hj h he
  ·exact hp j i hj hi h he.symm
 refine wp_region_inv hm hord (fun L a' w'=>(L (ops.size - 1)=true/\Q .normal a' w')∨(L (ops.size - 1)=false/\(∀ s,(∀ j,j < ops.size - 1->dOf ops j≠s)->Act.g a' s=Act.g a s)/\a'.tmps.size=a.tmps.size/\a'.defers=a.defers/\Chg [] w.drew w'/\(∀ j,j < ops.size - 1->L j=true->φ j (Act.g a' (dOf ops j)) w') /\
   (∀ j c b,j < ops.size - 1->L j=true->lab j=some c->bl j (Act.g a' (dOf ops j))=some b->b < w'.heap.size) /\
   (∀ i j c d,i < ops.size - 1->j < ops.size - 1->L i=true->L j=true->lab i=some c->lab j=some d->c≠d->∀ b,bl i (Act.g a' (dOf ops i))=some b->bl j (Act.g a' (dOf ops j))≠some b)))
  (.inr ⟨rfl,fun _ _=>rfl,rfl,rfl,Chg.refl _ _,fun j _ h=>(by cases h),fun j _ _ _ h=>(by cases h),fun i j _ _ _ _ h=>(by cases h)⟩) ?_ ?_
 ·intro L i o ho hLi hcl hdeps a' w' hG
  have hi:i < ops.size:=(Array.getElem?_eq_some_iff.1 ho).1
  have hwant:Region.wanted o (yielded ops a'.tmps)=true:=by simp [Region.wanted,guard i o ho]
  have hlast:L (ops.size - 1)=false:=by
   cases hl:L (ops.size - 1) with
   | false=>rfl
   | true=>
    exfalso
    by_cases hil:i=ops.size - 1
    ·rw [hil] at hLi
     rw [hl] at hLi
     cases hLi
    ·obtain ⟨o1,d1,_,_,_,_,_,hw⟩:=head i (by omega)
     unfold waits at hw;have hol:ops[ops.size - 1]?=some (ops[ops.size - 1]'(by omega)):=Array.getElem?_eq_getElem (by omega);rw [hol] at hw;obtain ⟨e,he,hb⟩:=Array.any_eq_true'.1 hw;simp only [Bool.and_eq_true,beq_iff_eq] at hb;have:=hcl _ _ hol hl e he hb.1;rw [hb.2,hLi] at this
     cases this
  rcases hG with ⟨h,_⟩ | ⟨_,hst,hsz,hdf,hch,hφ,hbl,hap⟩
  ·rw [hlast] at h; cases h
  unfold wpOp;simp only [ho,hwant,if_true];refine .inl ?_
  by_cases hil:i=ops.size - 1
  ·subst hil
   have hdone:∀ j,j < ops.size - 1->L j=true:=by
    intro j hj
    obtain ⟨o1,d1,_,_,_,_,_,hw⟩:=head j hj;unfold waits at hw;rw [ho] at hw;obtain ⟨e,he,hb⟩:=Array.any_eq_true'.1 hw;simp only [Bool.and_eq_true,beq_iff_eq] at hb;have:=hdeps e he hb.1;rw [hb.2] at this;exact this
   refine Oper.wp_mono (fun a2 w2 hq=>.inl ⟨by simp,hq⟩) (by
    have ha:a'=putAll ops (fun j=>Act.g a' (dOf ops j)) (ops.size - 1) a:=act_ext (by rw [putAll_size,hsz]) (by rw [putAll_defers,hdf]) fun s=>by
     by_cases hs:∃ j,j < ops.size - 1/\dOf ops j=s
     ·obtain ⟨j,hj,rfl⟩:=hs
      obtain ⟨o1,d1,_,_,hd1,hdl1,_,_⟩:=head j hj;rw [putAll_eq ops _ a j _ hj (fun k hk hkj=>distinct k j hk hj hkj) (by rw [hd1]; exact hdl1)]
     ·rw [putAll_ne ops _ a s _ (fun j hj e=>hs ⟨j,hj,e⟩)]
      exact hst s (fun j hj e=>hs ⟨j,hj,e⟩)
    have hl:=last o ho (fun j=>Act.g a' (dOf ops j)) w' hch (fun j hj=>hφ j hj (hdone j hj)) (fun i j c d hi hj=>hap i j c d hi hj (hdone i hi) (hdone j hj)) a' ha
    exact hl)
  ·have hih:i < ops.size - 1:=by omega
   obtain ⟨o1,d,ho1,hd,hdi,hdl,hds,hw⟩:=head i hih;obtain rfl:o1=o:=Option.some.inj (ho1.symm.trans ho)
   have hL2:∀ j,waits ops i j=true->j < ops.size - 1/\L j=true:=fun j hj=>by
    unfold waits at hj;rw [ho] at hj;obtain ⟨e,he,hb⟩:=Array.any_eq_true'.1 hj;simp only [Bool.and_eq_true,beq_iff_eq] at hb;have h1:=hdeps e he hb.1;have h2:=ordered_spec hord ho e he hb.1;rw [hb.2] at h1 h2;exact ⟨by omega,h1⟩
   obtain ⟨v,w2,hrun,hc2,hv,hown⟩:=step i o1 hih ho a' w' (fun s hs=>hst s (fun j hj e=>by obtain ⟨_,_,_,_,hd1,_,hds1,_⟩:=head j hj; exact hds1 (by rw [<- hd1,e]; exact hs))) hch (fun j hj=>hφ j (hL2 j hj).1 (hL2 j hj).2)
   have hval:∀ j,j < ops.size - 1->j≠i->Act.g (a'.put (some d) v) (dOf ops j)=Act.g a' (dOf ops j):=fun j hj hji=>
    g_put_ne _ _ _ _ (by rw [<- hdi]; exact distinct j i hj hih hji)
   have hvali:Act.g (a'.put (some d) v) (dOf ops i)=v:=by rw [hdi,g_put_same _ _ _ (by rw [hsz]; exact hdl)]
   have hold:∀ j,j≠i->(L j || j == i)=true->L j=true:=fun j hji hL=>by
    have hb:(j == i)=false:=by simp [hji]
    simpa [hb] using hL
   have hnew:∀ j c e,j < ops.size - 1->L j=true->lab i=some c->lab j=some e->c≠e->∀ b,bl i v=some b->bl j (Act.g a' (dOf ops j))≠some b:=fun j c e hj hLj hc he hce b hvb hjb=>by
    rcases (hown c hc b hvb).2 with h | ⟨j2,hw2,hl2,hb2⟩
    ·exact absurd (hbl j e b hj hLj he hjb) (by omega)
    ·exact hap j2 j c e (hL2 j2 hw2).1 hj (hL2 j2 hw2).2 hLj hl2 he hce b hb2 hjb
   unfold Oper.wp;rw [hrun];simp only [Oper.upon_value,hd];refine .inr ⟨?_,fun s hs=>?_,by rw [size_put]; exact hsz,hdf,hch.trans hc2 New.nil,fun j hj hL=>?_,fun j c b hj hL hc hb=>?_,fun i1 j1 c e hi1 hj1 hLi1 hLj1 hc he hce b hb=>?_⟩
   ·rw [hlast]
    have:((ops.size - 1) == i)=false:=by simp; omega
    rw [this]
    rfl
   ·rw [g_put_ne _ _ _ _ (fun e=>by subst e; exact hs i hih hdi)]
    exact hst s hs
   ·by_cases hji:j=i
    ·subst hji
     rw [hvali];exact hv
    ·rw [hval j hj hji]
     exact mono _ _ _ _ hc2 (hφ j hj (hold j hji hL))
   ·by_cases hji:j=i
    ·subst hji
     rw [hvali] at hb;exact (hown c hc b hb).1
    ·rw [hval j hj hji] at hb
     exact Nat.lt_of_lt_of_le (hbl j c b hj (hold j hji hL) hc hb) hc2.size
   ·by_cases h1:i1=i
    ·subst h1
     have h2:j1≠i1:=fun e2=>by
      subst e2;rw [hc] at he;exact hce (Option.some.inj he)
     rw [hvali] at hb;rw [hval j1 hj1 h2];exact hnew j1 c e hj1 (hold j1 h2 hLj1) hc he hce b hb
    ·rw [hval i1 hi1 h1] at hb
     by_cases h2:j1=i
     ·subst h2
      rw [hvali]
      exact fun hb2=>hnew i1 e c hi1 (hold i1 h1 hLi1) he hc (Ne.symm hce) b hb2 hb
     ·rw [hval j1 hj1 h2]
      exact hap i1 j1 c e hi1 hj1 (hold i1 h1 hLi1) (hold j1 h2 hLj1) hc he hce b hb
 ·intro a' w' hG
  rcases hG with ⟨_,h⟩ | ⟨h,_⟩
  ·exact h
  ·have:decide (ops.size - 1 < ops.size)=true:=by simp; omega
   exact absurd (h.symm.trans this) (by simp)
def allForm (ops:Array Oper) (size:Nat) (st:List Nat):Bool:=
 ops.all (fun o=>o.guard.isNone) &&
 ((List.range ops.size).all fun i=>match ops[i]? with
  | some o=>(match o.dst with | some d=>decide (d < size) && !st.contains d | none=>false)
  | none=>false) &&
 decide ((List.range ops.size).map (dOf ops)).Nodup
theorem wp_region_all {id:Nat} {a:Act} {w:World} (hm:P.follows .mixedOrders=true) (hord:ordered ops=true) (st:List Nat) (hform:allForm ops a.tmps.size st=true)
  (φ:Nat->Value->World->Prop) (mono:∀ i v w w',Chg [] w w'->φ i v w->φ i v w')
  (step:∀ (i:Nat) (o:Oper),i < ops.size->ops[i]?=some o->∀ (a':Act) (w':World),(∀ s∈st,Act.g a' s=Act.g a s)->Chg [] w.drew w'->(∀ j,waits ops i j=true->φ j (Act.g a' (dOf ops j)) w') ->
   ∀ K:Value->World->Prop,(∀ v w'',Chg [] w' w''->φ i v w''->K v w'')->o.wp P a' w' (fun a2 w2=>∃ v,a2=a'.put o.dst v/\K v w2) Q)
  (fin:∀ (u:Nat->Value) (w':World),Chg [] w.drew w'->(∀ j,j < ops.size->φ j (u j) w')->∀ A2,A2=putAll ops u ops.size a->Q .normal A2 w'):(Code.region id ops true).wp P Q a w:=by
 unfold allForm at hform;simp only [Bool.and_eq_true,decide_eq_true_eq] at hform;obtain ⟨⟨hgd,hdst⟩,hnd⟩:=hform
 have guard:∀ (i:Nat) (o:Oper),ops[i]?=some o->o.guard=none:=by
  intro i o ho
  obtain ⟨hlt,he⟩:=(Array.getElem?_eq_some_iff.1 ho)
  have:=Array.all_eq_true.1 hgd i hlt;rw [he] at this
  simpa using this
 have head:∀ i,i < ops.size->∃ o d,ops[i]?=some o/\o.dst=some d/\dOf ops i=d/\d < a.tmps.size/\d ∉ st:=by
  intro i hi
  have h1:=List.all_eq_true.1 hdst i (List.mem_range.2 hi);have ho:ops[i]?=some (ops[i]'(by omega)):=Array.getElem?_eq_getElem (by omega);rw [ho] at h1;simp only at h1
  cases hd:(ops[i]'(by omega)).dst with
  | none=>rw [hd] at h1; simp at h1
  | some d=>
   rw [hd] at h1;simp only [Bool.and_eq_true,decide_eq_true_eq,Bool.not_eq_true',List.contains_eq_mem,decide_eq_false_iff_not] at h1;exact ⟨_,d,ho,hd,by unfold dOf; rw [ho]; simp [hd],h1.1,h1.2⟩
 have distinct:∀ i j,i < ops.size->j < ops.size->i≠j->dOf ops i≠dOf ops j:=by
  intro i j hi hj hij he
  have hp:=List.pairwise_iff_getElem.1 hnd;simp only [List.length_map,List.length_range,List.getElem_map,List.getElem_range] at hp;rcases Nat.lt_or_gt_of_ne hij with h | h
  ·exact hp i j hi hj h he
  ·exact hp j i hj hi h he.symm
 refine wp_region_inv hm hord (fun L a' w'=>(∀ s,(∀ j,j < ops.size->dOf ops j≠s)->Act.g a' s=Act.g a s)/\a'.tmps.size=a.tmps.size/\a'.defers=a.defers/\Chg [] w.drew w'/\(∀ j,j < ops.size->L j=true->φ j (Act.g a' (dOf ops j)) w'))
  ⟨fun _ _=>rfl,rfl,rfl,Chg.refl _ _,fun j _ h=>by cases h⟩ ?_ ?_
 ·intro L i o ho hLi hcl hdeps a' w' ⟨hst,hsz,hdf,hch,hφ⟩
  have hi:i < ops.size:=(Array.getElem?_eq_some_iff.1 ho).1
  have hwant:Region.wanted o (yielded ops a'.tmps)=true:=by simp [Region.wanted,guard i o ho]
  unfold wpOp;simp only [ho,hwant,if_true];refine .inl ?_;obtain ⟨o1,d,ho1,hd,hdi,hdl,hds⟩:=head i hi;obtain rfl:o1=o:=Option.some.inj (ho1.symm.trans ho)
  refine Oper.wp_mono ?_ (step i o1 hi ho a' w' (fun s hs=>hst s (fun j hj e=>by obtain ⟨_,_,_,_,hd1,_,hds1⟩:=head j hj; exact hds1 (by rw [<- hd1,e]; exact hs))) hch (fun j hj=>by
   unfold waits at hj;rw [ho] at hj;obtain ⟨e,he,hb⟩:=Array.any_eq_true'.1 hj;simp only [Bool.and_eq_true,beq_iff_eq] at hb;have h1:=hdeps e he hb.1;have h2:=ordered_spec hord ho e he hb.1;rw [hb.2] at h1 h2
   exact hφ j (by omega) h1) (fun v w2=>Chg [] w' w2/\φ i v w2) (fun v w2 h1 h2=>⟨h1,h2⟩))
  rintro a2 w2 ⟨v,rfl,hc2,hv⟩;rw [hd];refine ⟨fun s hs=>?_,by rw [size_put]; exact hsz,hdf,hch.trans hc2 New.nil,fun j hj hL=>?_⟩
  ·rw [g_put_ne _ _ _ _ (fun e=>by subst e; exact hs i hi hdi)]
   exact hst s hs
  ·by_cases hji:j=i
   ·subst hji
    rw [hdi,g_put_same _ _ _ (by rw [hsz]; exact hdl)];exact hv
   ·have hb:(j == i)=false:=by simp [hji]
    rw [g_put_ne _ _ _ _ (by rw [<- hdi]; exact distinct j i hj hi hji)];exact mono _ _ _ _ hc2 (hφ j hj (by simpa [hb] using hL))
 ·intro a' w' ⟨hst,hsz,hdf,hch,hφ⟩
  have hd:∀ j,j < ops.size->φ j (Act.g a' (dOf ops j)) w':=fun j hj=>hφ j hj (by simp [hj])
  refine fin (fun j=>Act.g a' (dOf ops j)) w' hch hd a' ?_
  refine act_ext (by rw [putAll_size,hsz]) (by rw [putAll_defers,hdf]) fun s=>?_
  by_cases hs:∃ j,j < ops.size/\dOf ops j=s
  ·obtain ⟨j,hj,rfl⟩:=hs
   obtain ⟨o1,d1,_,_,hd1,hdl1,_⟩:=head j hj;rw [putAll_eq ops _ a j _ hj (fun k hk hkj=>distinct k j hk hj hkj) (by rw [hd1]; exact hdl1)]
  ·rw [putAll_ne ops _ a s _ (fun j hj e=>hs ⟨j,hj,e⟩)]
   exact hst s (fun j hj e=>hs ⟨j,hj,e⟩)
end
end Go.Proofs.YtpofkokbmifhgaaGreatDoor
