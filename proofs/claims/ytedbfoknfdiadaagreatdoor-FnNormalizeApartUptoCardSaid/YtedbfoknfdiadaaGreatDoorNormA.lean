/- spec.Normalize: plain law that its walk asks; its boxes. No condition. -/
import Derived.Test.YtedbfoknfdiadaaGreatDoorRefT
import Derived.Test.YtedbfoknfdiadaaGreatDoorFrame
import Derived.Test.YtedbfoknfdiadaaGreatDoorBare
set_option linter.unusedVariables false
set_option linter.unusedSimpArgs false
namespace Go.Proofs.YtedbfoknfdiadaaGreatDoor
open Go.RowKit
variable {o : Nat → Prop}
set_option maxRecDepth 100000

theorem top_open {m : List (ByteArray × T)} (ht : TopAt (.map m) (T.map m).keys.length) (hn : (tget kName (.map m)).isSome = true) (hs : (tget kServices (.map m)).isSome = true) :
    (∃ p, mget kName m = some (.text p)) ∧ (∃ lv, mget kServices m = some (.map lv)) ∧ (((tget kNetworks (.map m)).getD .null = .null ∧ nets0 m = []) ∨ ∃ nl, (tget kNetworks (.map m)).getD .null = .map nl ∧ nets0 m = nl) := by
  refine ⟨?_, ?_, ?_⟩
  · obtain ⟨x, hx⟩ := Option.isSome_iff_exists.1 hn
    have hx : mget kName m = some x := hx
    rcases top_get ht hx with ⟨_, h⟩ | ⟨h, _⟩ | ⟨h, _⟩
    · obtain ⟨s, rfl⟩ := kind_text h
      exact ⟨s, hx⟩
    · exfalso
      revert h
      decide
    · exfalso
      revert h
      decide
  · obtain ⟨x, hx⟩ := Option.isSome_iff_exists.1 hs
    have hx : mget kServices m = some x := hx
    rcases top_get ht hx with ⟨h, _⟩ | ⟨_, h⟩ | ⟨h, _⟩
    · exfalso
      revert h
      decide
    · obtain ⟨l, rfl⟩ := kind_map h
      exact ⟨l, hx⟩
    · exfalso
      revert h
      decide
  · rw [show tget kNetworks (.map m) = mget kNetworks m from rfl]
    unfold nets0
    cases hg : mget kNetworks m with
    | none => exact .inl ⟨rfl, rfl⟩
    | some x =>
      rcases top_get ht hg with ⟨h, _⟩ | ⟨h, _⟩ | ⟨_, h, _⟩
      · exfalso
        revert h
        decide
      · exfalso
        revert h
        decide
      · obtain ⟨l, rfl⟩ := kind_map h
        exact .inr ⟨l, rfl, rfl⟩
theorem netsOf_len {s : List (ByteArray × T)} : (netsOf s).length ≤ s.length + 1 := by
  unfold netsOf
  split
  · omega
  · exact ins_len_le
theorem svcS_len {s : List (ByteArray × T)} : (svcS s).length ≤ s.length + 2 := by
  unfold svcS
  split
  · have := netsOf_len (s := s)
    omega
  · have h1 := netsOf_len (s := mins kDependsOn (.map (depsS s)) s)
    have h2 := ins_len_le (k := kDependsOn) (x := T.map (depsS s)) (m := s)
    omega
theorem svcS_srt {s : List (ByteArray × T)} (h : Srt s) : Srt (svcS s) := by
  unfold svcS
  split
  · exact netsOf_srt h
  · exact netsOf_srt h.srt_ins
/-- A service's networks, of the reference's making. -/
theorem svcS_net {s : List (ByteArray × T)} : mget kNetworks (svcS s) = mget kNetworks s ∨ mget kNetworks (svcS s) = some (.map dnet) := by
  have h : ∀ s' : List (ByteArray × T), mget kNetworks (netsOf s') = mget kNetworks s' ∨ mget kNetworks (netsOf s') = some (.map dnet) := fun s' => by
    unfold netsOf
    split
    · exact .inl rfl
    · exact .inr get_ins
  unfold svcS
  split
  · exact h s
  · rcases h (mins kDependsOn (.map (depsS s)) s) with e | e
    · exact .inl (e.trans (get_ins_ne (by decide)))
    · exact .inr e
theorem dnet_fine : Fine (.map dnet) := ⟨⟨by unfold dnet Srt; simp, by unfold dnet; simp [WFM, WF]; decide⟩, by decide⟩
theorem svcS_fine {s : List (ByteArray × T)} (h : Fine (.map s)) : Fine ((tget kNetworks (.map (svcS s))).getD .null) := by
  rw [show tget kNetworks (.map (svcS s)) = mget kNetworks (svcS s) from rfl]
  rcases svcS_net (s := s) with e | e
  · rw [e]
    exact h.getD kNetworks
  · rw [e]
    exact dnet_fine
theorem nets1_fine {m : List (ByteArray × T)} (h : Fine (.map m)) (hz : T.size (.map m) ≤ 16777216) : Fine (.map (nets1 m)) := by
  refine ⟨nets1_wf (by decide) h.wf, ?_⟩
  have := nets1_le (m := m)
  simp only [T.size] at hz ⊢
  omega
theorem netN_fine {m : List (ByteArray × T)} {n : Nat} (h : Fine (.map m)) (hz : T.size (.map m) ≤ 16777216) : Fine (.map (netN m n)) := by
  have h1 : WF 67108864 (.map (nets0 m)) := nets0_wf h.wf
  have h2 := nets0_le (m := m)
  simp only [T.size] at hz
  unfold netN
  split
  · refine ⟨h1.ins (by decide) trivial, ?_⟩
    have := sizeM_ins (k := kDefault) (x := .null) (m := nets0 m)
    simp only [T.size] at this ⊢
    omega
  · refine ⟨h1, ?_⟩
    simp only [T.size]
    omega
/-- The services that were looked at. -/
def SvcsTo (l : List (ByteArray × T)) (n : Nat) : Prop := ∀ q ∈ l.take n, ∃ s, q.2 = .map s ∧ SvcOK s
theorem SvcsTo.step {l : List (ByteArray × T)} {n : Nat} {k : ByteArray} {t : T} (h : SvcsTo l n) (hq : l[n]? = some (k, t)) {s : List (ByteArray × T)} (ht : t = .map s) (hs : SvcOK s) : SvcsTo l (n + 1) := by
  intro q hq'
  rw [take_snoc hq] at hq'
  rcases List.mem_append.1 hq' with h' | h'
  · exact h q h'
  · rw [List.mem_singleton.1 h']
    exact ⟨s, ht, hs⟩
def OffC (o : Nat → Prop) (a b c z : Nat) : Prop := o z ∧ z ≠ a ∧ z ≠ b ∧ z ≠ c
/-- What holds between the rounds: two boxes are put anew. -/
structure NI (o : Nat → Prop) (w : World) (LB PB NB : Nat) (P0 PP : Array Value) (x y : T) (wx : World) : Prop where
  chg : Chg [] w wx
  par : wx.heap[w.heap.size]? = some (.cells P0 25)
  res : wx.heap[w.heap.size + 1]? = some (.cells #[.int .i64 0, .int .i64 0, .string ⟨#[]⟩, .slice none 0 0, .slice none 0 0] 25)
  pbx : wx.heap[PB]? = some (.cells PP 25)
  lt : w.heap.size + 1 < LB ∧ LB < PB ∧ PB < NB
  lbx : ∃ A5 q5 A6 q6, wx.heap[LB]? = some (.cells #[.int .i64 x.kind, .int .i64 x.num, .string x.txt, .slice A5 x.keys.length q5, .slice A6 x.vals.length q6] 25) ∧ Rd (OffC o LB NB (w.heap.size + 1)) wx x (.agg #[.int .i64 x.kind, .int .i64 x.num, .string x.txt, .slice A5 x.keys.length q5, .slice A6 x.vals.length q6])
  nbx : ∃ A5 q5 A6 q6, wx.heap[NB]? = some (.cells #[.int .i64 y.kind, .int .i64 y.num, .string y.txt, .slice A5 y.keys.length q5, .slice A6 y.vals.length q6] 25) ∧ Rd (OffC o LB NB (w.heap.size + 1)) wx y (.agg #[.int .i64 y.kind, .int .i64 y.num, .string y.txt, .slice A5 y.keys.length q5, .slice A6 y.vals.length q6])
section
variable {w wx wy : World} {LB PB NB : Nat} {P0 PP : Array Value} {x y z : T}
theorem NI.go (h : NI o w LB PB NB P0 PP x y wx) (hc : Chg [] wx wy) : NI o w LB PB NB P0 PP x y wy := by
  obtain ⟨A5, q5, A6, q6, hb, hr⟩ := h.lbx
  obtain ⟨B5, p5, B6, p6, hb2, hr2⟩ := h.nbx
  have hk : ∀ {b ob}, wx.heap[b]? = some ob → wy.heap[b]? = some ob := fun hb => (hc.block _ (Array.getElem?_eq_some_iff.1 hb).1 (by simp)).trans hb
  exact ⟨h.chg.trans hc New.nil, hk h.par, hk h.res, hk h.pbx, h.lt, ⟨A5, q5, A6, q6, hk hb, hr.chg hc⟩, ⟨B5, p5, B6, p6, hk hb2, hr2.chg hc⟩⟩
theorem NI.putL (h : NI o w LB PB NB P0 PP x y wx) {A5 A6 : Option Addr} {q5 q6 : Nat} (hr : Rd (OffC o LB NB (w.heap.size + 1)) wx z (.agg #[.int .i64 z.kind, .int .i64 z.num, .string z.txt, .slice A5 z.keys.length q5, .slice A6 z.vals.length q6])) :
    ∀ W, W = (((((wx.setCell ⟨LB, 0, none⟩ (.int .i64 z.kind)).setCell ⟨LB, 1, none⟩ (.int .i64 z.num)).setCell ⟨LB, 2, none⟩ (.string z.txt)).setCell ⟨LB, 3, none⟩ (.slice A5 z.keys.length q5)).setCell ⟨LB, 4, none⟩ (.slice A6 z.vals.length q6)) → NI o w LB PB NB P0 PP z y W ∧ ∀ g, g ≠ LB → W.heap[g]? = wx.heap[g]? := by
  intro W hW
  obtain ⟨A7, q7, A8, q8, hb, _⟩ := h.lbx
  obtain ⟨B5, p5, B6, p6, hb2, hr2⟩ := h.nbx
  have hlt := h.lt
  obtain ⟨W', hW', Q, hne, hcW, _⟩ := store5 hb h.chg (by omega : w.heap.size ≤ LB) (.int .i64 z.kind) (.int .i64 z.num) (.string z.txt) (.slice A5 z.keys.length q5) (.slice A6 z.vals.length q6)
  obtain rfl : W = W' := hW.trans hW'.symm
  exact ⟨⟨hcW, (hne _ (by omega)).trans h.par, (hne _ (by omega)).trans h.res, (hne _ (by omega)).trans h.pbx, h.lt, ⟨A5, q5, A6, q6, Q, hr.to fun b _ ho => ⟨ho, hne b ho.2.1⟩⟩, ⟨B5, p5, B6, p6, (hne _ (by omega)).trans hb2, hr2.to fun b _ ho => ⟨ho, hne b ho.2.1⟩⟩⟩, hne⟩
theorem NI.putN (h : NI o w LB PB NB P0 PP x y wx) {A5 A6 : Option Addr} {q5 q6 : Nat} (hr : Rd (OffC o LB NB (w.heap.size + 1)) wx z (.agg #[.int .i64 z.kind, .int .i64 z.num, .string z.txt, .slice A5 z.keys.length q5, .slice A6 z.vals.length q6])) :
    ∀ W, W = (((((wx.setCell ⟨NB, 0, none⟩ (.int .i64 z.kind)).setCell ⟨NB, 1, none⟩ (.int .i64 z.num)).setCell ⟨NB, 2, none⟩ (.string z.txt)).setCell ⟨NB, 3, none⟩ (.slice A5 z.keys.length q5)).setCell ⟨NB, 4, none⟩ (.slice A6 z.vals.length q6)) → NI o w LB PB NB P0 PP x z W := by
  intro W hW
  obtain ⟨A7, q7, A8, q8, hb, hr1⟩ := h.lbx
  obtain ⟨B5, p5, B6, p6, hb2, hr2⟩ := h.nbx
  have hlt := h.lt
  obtain ⟨W', hW', Q, hne, hcW, _⟩ := store5 hb2 h.chg (by omega : w.heap.size ≤ NB) (.int .i64 z.kind) (.int .i64 z.num) (.string z.txt) (.slice A5 z.keys.length q5) (.slice A6 z.vals.length q6)
  obtain rfl : W = W' := hW.trans hW'.symm
  exact ⟨hcW, (hne _ (by omega)).trans h.par, (hne _ (by omega)).trans h.res, (hne _ (by omega)).trans h.pbx, h.lt, ⟨A7, q7, A8, q8, (hne _ (by omega)).trans hb, hr1.to fun b _ ho => ⟨ho, hne b ho.2.2.1⟩⟩, ⟨A5, q5, A6, q6, Q, hr.to fun b _ ho => ⟨ho, hne b ho.2.2.1⟩⟩⟩
end
/-- .. behind the loop: one box is put anew. -/
structure OI (o : Nat → Prop) (w : World) (PB OUT : Nat) (P0 PP : Array Value) (x : T) (wx : World) : Prop where
  chg : Chg [] w wx
  par : wx.heap[w.heap.size]? = some (.cells P0 25)
  res : wx.heap[w.heap.size + 1]? = some (.cells #[.int .i64 0, .int .i64 0, .string ⟨#[]⟩, .slice none 0 0, .slice none 0 0] 25)
  pbx : wx.heap[PB]? = some (.cells PP 25)
  lt : w.heap.size + 1 < PB ∧ PB < OUT
  box : ∃ A5 q5 A6 q6, wx.heap[OUT]? = some (.cells #[.int .i64 x.kind, .int .i64 x.num, .string x.txt, .slice A5 x.keys.length q5, .slice A6 x.vals.length q6] 25) ∧ Rd (OffB o OUT (w.heap.size + 1)) wx x (.agg #[.int .i64 x.kind, .int .i64 x.num, .string x.txt, .slice A5 x.keys.length q5, .slice A6 x.vals.length q6])
section
variable {w wx wy : World} {PB OUT : Nat} {P0 PP : Array Value} {x z : T}
theorem OI.go (h : OI o w PB OUT P0 PP x wx) (hc : Chg [] wx wy) : OI o w PB OUT P0 PP x wy := by
  obtain ⟨A5, q5, A6, q6, hb, hr⟩ := h.box
  have hk : ∀ {b ob}, wx.heap[b]? = some ob → wy.heap[b]? = some ob := fun hb => (hc.block _ (Array.getElem?_eq_some_iff.1 hb).1 (by simp)).trans hb
  exact ⟨h.chg.trans hc New.nil, hk h.par, hk h.res, hk h.pbx, h.lt, A5, q5, A6, q6, hk hb, hr.chg hc⟩
theorem OI.put (h : OI o w PB OUT P0 PP x wx) {A5 A6 : Option Addr} {q5 q6 : Nat} (hr : Rd (OffB o OUT (w.heap.size + 1)) wx z (.agg #[.int .i64 z.kind, .int .i64 z.num, .string z.txt, .slice A5 z.keys.length q5, .slice A6 z.vals.length q6])) :
    ∀ W, W = (((((wx.setCell ⟨OUT, 0, none⟩ (.int .i64 z.kind)).setCell ⟨OUT, 1, none⟩ (.int .i64 z.num)).setCell ⟨OUT, 2, none⟩ (.string z.txt)).setCell ⟨OUT, 3, none⟩ (.slice A5 z.keys.length q5)).setCell ⟨OUT, 4, none⟩ (.slice A6 z.vals.length q6)) → OI o w PB OUT P0 PP z W := by
  intro W hW
  obtain ⟨A7, q7, A8, q8, hb, _⟩ := h.box
  have hlt := h.lt
  obtain ⟨W', hW', Q, hne, hcW, _⟩ := store5 hb h.chg (by omega : w.heap.size ≤ OUT) (.int .i64 z.kind) (.int .i64 z.num) (.string z.txt) (.slice A5 z.keys.length q5) (.slice A6 z.vals.length q6)
  obtain rfl : W = W' := hW.trans hW'.symm
  exact ⟨hcW, (hne _ (by omega)).trans h.par, (hne _ (by omega)).trans h.res, (hne _ (by omega)).trans h.pbx, h.lt, A5, q5, A6, q6, Q, hr.to fun b _ ho => ⟨ho, hne b ho.2.1⟩⟩
end
theorem svcs_size {m : List (ByteArray × T)} {lv : List (ByteArray × T)} (h : mget kServices m = some (.map lv)) {n : Nat} {k : ByteArray} {x : T} (hq : lv[n]? = some (k, x)) : T.size x ≤ T.size (.map m) := by
  have h1 := sizeM_get h
  have h2 := T.sizeL_at (l := (T.map lv).vals) (j := n) (t := x) (by simp [T.vals, hq])
  have h3 := T.size_vals (.map lv)
  simp only [T.size] at h1 h3 ⊢
  omega
theorem map_len {s : List (ByteArray × T)} (h : T.size (.map s) ≤ 16777216) : s.length ≤ 16777216 := by
  have h1 := T.vals_len (.map s)
  simp only [T.vals, List.length_map] at h1
  omega
def NormR (o : Nat → Prop) (w : World) (t : T) (e : Ending) (w' : World) : Prop := ∃ v' b, e = .returned (.tuple #[v', .bool b]) ∧ Chg [] w w' ∧ (∃ i j s A n q B k r, v' = .agg #[.int .i64 i, .int .i64 j, .string s, .slice A n q, .slice B k r]) ∧ (b = true → ∃ m, t = .map m ∧ ModelOK m ∧ Rd o w' (.map (normS m)) v')
end Go.Proofs.YtedbfoknfdiadaaGreatDoor
