/- laws.normBare. Conditions: what it is given (BareOK), lengths. (Printed by wip/gen/mkBare.py.) -/
import Derived.Test.YtedbfoknfdiadaaGreatDoorWithout
import Derived.Test.YtedbfoknfdiadaaGreatDoorRefT
set_option linter.unusedVariables false
set_option linter.unusedSimpArgs false
namespace Go.Proofs.YtedbfoknfdiadaaGreatDoor
open Go.RowKit
variable {o : Nat → Prop}
set_option maxRecDepth 100000

/-- What holds between the rounds of a loop whose box L is put anew. -/
structure BI (o : Nat → Prop) (w : World) (L Ob : Nat) (P0 PO : Array Value) (x : T) (wx : World) : Prop where
  chg : Chg [] w wx
  par : wx.heap[w.heap.size]? = some (.cells P0 25)
  res : wx.heap[w.heap.size + 2]? = some (.cells #[.int .i64 0, .int .i64 0, .string ⟨#[]⟩, .slice none 0 0, .slice none 0 0] 25)
  old : wx.heap[Ob]? = some (.cells PO 25)
  lt : w.heap.size + 2 < L ∧ L < Ob
  box : ∃ A5 q5 A6 q6, wx.heap[L]? = some (.cells #[.int .i64 x.kind, .int .i64 x.num, .string x.txt, .slice A5 x.keys.length q5, .slice A6 x.vals.length q6] 25) ∧ Rd (OffB o L (w.heap.size + 2)) wx x (.agg #[.int .i64 x.kind, .int .i64 x.num, .string x.txt, .slice A5 x.keys.length q5, .slice A6 x.vals.length q6])
theorem BI.go {w wx wy : World} {L Ob : Nat} {P0 PO : Array Value} {x : T} (h : BI o w L Ob P0 PO x wx) (hc : Chg [] wx wy) : BI o w L Ob P0 PO x wy := by
  obtain ⟨A5, q5, A6, q6, hb, hr⟩ := h.box
  have hk : ∀ {b ob}, wx.heap[b]? = some ob → wy.heap[b]? = some ob := fun hb => (hc.block _ (Array.getElem?_eq_some_iff.1 hb).1 (by simp)).trans hb
  exact ⟨h.chg.trans hc New.nil, hk h.par, hk h.res, hk h.old, h.lt, A5, q5, A6, q6, hk hb, hr.chg hc⟩
theorem BI.put {w wx : World} {L Ob : Nat} {P0 PO : Array Value} {x y : T} (h : BI o w L Ob P0 PO x wx) {A5 A6 : Option Addr} {q5 q6 : Nat} (hr : Rd (OffB o L (w.heap.size + 2)) wx y (.agg #[.int .i64 y.kind, .int .i64 y.num, .string y.txt, .slice A5 y.keys.length q5, .slice A6 y.vals.length q6])) :
    ∀ W, W = (((((wx.setCell ⟨L, 0, none⟩ (.int .i64 y.kind)).setCell ⟨L, 1, none⟩ (.int .i64 y.num)).setCell ⟨L, 2, none⟩ (.string y.txt)).setCell ⟨L, 3, none⟩ (.slice A5 y.keys.length q5)).setCell ⟨L, 4, none⟩ (.slice A6 y.vals.length q6)) → BI o w L Ob P0 PO y W := by
  intro W hW
  obtain ⟨A7, q7, A8, q8, hb, _⟩ := h.box
  have hlt := h.lt
  obtain ⟨W', hW', Q, hne, hcW, _⟩ := store5 hb h.chg (by omega : w.heap.size ≤ L) (.int .i64 y.kind) (.int .i64 y.num) (.string y.txt) (.slice A5 y.keys.length q5) (.slice A6 y.vals.length q6)
  obtain rfl : W = W' := hW.trans hW'.symm
  exact ⟨hcW, (hne _ (by omega)).trans h.par, (hne _ (by omega)).trans h.res, (hne _ (by omega)).trans h.old, h.lt, A5, q5, A6, q6, Q, hr.to fun b _ ho => ⟨ho, hne b ho.2.1⟩⟩
/-- .. within a round: a box NB of the round's own is put anew. -/
structure IB (o : Nat → Prop) (wr : World) (NB OB : Nat) (PX PO : Array Value) (x : T) (wx : World) : Prop where
  chg : Chg [] wr wx
  xbx : wx.heap[wr.heap.size]? = some (.cells PX 25)
  own : wx.heap[OB]? = some (.cells PO 25)
  lt : wr.heap.size < NB ∧ NB < OB
  box : ∃ A5 q5 A6 q6, wx.heap[NB]? = some (.cells #[.int .i64 x.kind, .int .i64 x.num, .string x.txt, .slice A5 x.keys.length q5, .slice A6 x.vals.length q6] 25) ∧ Rd (fun b => o b ∧ b ≠ NB) wx x (.agg #[.int .i64 x.kind, .int .i64 x.num, .string x.txt, .slice A5 x.keys.length q5, .slice A6 x.vals.length q6])
theorem IB.go {wr wx wy : World} {NB OB : Nat} {PX PO : Array Value} {x : T} (h : IB o wr NB OB PX PO x wx) (hc : Chg [] wx wy) : IB o wr NB OB PX PO x wy := by
  obtain ⟨A5, q5, A6, q6, hb, hr⟩ := h.box
  have hk : ∀ {b ob}, wx.heap[b]? = some ob → wy.heap[b]? = some ob := fun hb => (hc.block _ (Array.getElem?_eq_some_iff.1 hb).1 (by simp)).trans hb
  exact ⟨h.chg.trans hc New.nil, hk h.xbx, hk h.own, h.lt, A5, q5, A6, q6, hk hb, hr.chg hc⟩
theorem IB.put {wr wx : World} {NB OB : Nat} {PX PO : Array Value} {x y : T} (h : IB o wr NB OB PX PO x wx) {A5 A6 : Option Addr} {q5 q6 : Nat} (hr : Rd (fun b => o b ∧ b ≠ NB) wx y (.agg #[.int .i64 y.kind, .int .i64 y.num, .string y.txt, .slice A5 y.keys.length q5, .slice A6 y.vals.length q6])) :
    ∀ W, W = (((((wx.setCell ⟨NB, 0, none⟩ (.int .i64 y.kind)).setCell ⟨NB, 1, none⟩ (.int .i64 y.num)).setCell ⟨NB, 2, none⟩ (.string y.txt)).setCell ⟨NB, 3, none⟩ (.slice A5 y.keys.length q5)).setCell ⟨NB, 4, none⟩ (.slice A6 y.vals.length q6)) → IB o wr NB OB PX PO y W := by
  intro W hW
  obtain ⟨A7, q7, A8, q8, hb, _⟩ := h.box
  have hlt := h.lt
  obtain ⟨W', hW', Q, hne, hcW, _⟩ := store5 hb h.chg (by omega : wr.heap.size ≤ NB) (.int .i64 y.kind) (.int .i64 y.num) (.string y.txt) (.slice A5 y.keys.length q5) (.slice A6 y.vals.length q6)
  obtain rfl : W = W' := hW.trans hW'.symm
  exact ⟨hcW, (hne _ (by omega)).trans h.xbx, (hne _ (by omega)).trans h.own, h.lt, A5, q5, A6, q6, Q, hr.to fun b _ ho => ⟨ho, hne b ho.2⟩⟩
/-- A map's rows. -/
theorem Rd.kv {w : World} {m : List (ByteArray × T)} {A B : Option Addr} {q r : Nat} (h : Rd o w (.map m) (.agg #[.int .i64 (T.map m).kind, .int .i64 (T.map m).num, .string (T.map m).txt, .slice A (T.map m).keys.length q, .slice B (T.map m).vals.length r])) : RdK o w (T.map m).keys (.slice A (T.map m).keys.length q) ∧ RdV o w (T.map m).vals (.slice B (T.map m).vals.length r) := by
  obtain ⟨ka, va, e, hk, hv⟩ := h.open_map
  simp only [Value.agg.injEq, Array.mk.injEq, List.cons.injEq, and_true] at e
  obtain ⟨_, _, _, rfl, rfl⟩ := e
  exact ⟨hk, hv⟩
theorem Rd.cast {w : World} {t t' : T} {v : Value} (h : Rd o w t v) (e : t = t') : Rd o w t' v := e ▸ h
/-- What lies low is read alike in all later worlds. -/
theorem Rd.deep {w w1 w2 : World} {t : T} {v : Value} (h : Rd (fun b => o b ∧ b < w.heap.size) w1 t v) (c1 : Chg [] w w1) (c2 : Chg [] w w2) : Rd (fun b => o b ∧ b < w.heap.size) w2 t v :=
  h.to fun b _ ho => ⟨ho, (c2.block b ho.2 (by simp)).trans (c1.block b ho.2 (by simp)).symm⟩
set_option maxHeartbeats 4000000 in
theorem normBare_any (was v lv : List (ByteArray × T)) (vv vw : Value) (w : World) (h : Rd o w (.map v) vv) (hw : Rd o w (.map was) vw) (hf : Fine (.map v)) (hfw : Fine (.map was)) (hno : ∀ b, w.heap.size ≤ b → o b)
    (hsv : mget kServices v = some (.map lv)) (hok : BareOK was v) :
    Calls Tryz.prog 17 #[vv, vw] w fun e w' => ∃ v', e = .returned v' ∧ Chg [] w w' ∧ Rd o w' (.map (bareTop was v)) v' := by
  have hsvl : svcs v = lv := svcs_of hsv
  have hfl : Fine (.map lv) := hf.get (t := .map v) hsv
  have hokl : ∀ q ∈ lv, ∃ s, q.2 = .map s ∧ Srt s ∧ ∀ t, mget kDependsOn s = some t → ∃ d, t = .map d ∧ Srt d ∧ ∀ p ∈ d, hasK p.1 (ownD was q.1) = false → ∃ r, p.2 = impP r := fun q hq => hok q (by rw [hsvl]; exact hq)
  obtain ⟨A3, q3, A4, q4, rfl, hyz⟩ := h.five
  clear hyz
  obtain ⟨C3, s3, C4, s4, rfl, hyz⟩ := hw.five
  clear hyz
  obtain ⟨ot, hot⟩ : ∃ ot, (tget kServices (.map was)).getD .null = ot := ⟨_, rfl⟩
  have hfo : Fine ot := hot ▸ hfw.getD kServices
  have HGS : Hid (∀ W, Chg [] w W → Calls Tryz.prog 19 #[.agg #[.int .i64 (T.map v).kind, .int .i64 (T.map v).num, .string (T.map v).txt, .slice A3 (T.map v).keys.length q3, .slice A4 (T.map v).vals.length q4], .string kServices] W fun e w' => ∃ v', e = .returned (.tuple #[v', .bool true]) ∧ Chg [] W w' ∧ Rd (fun b => o b ∧ b < w.heap.size) w' (.map lv) v') :=
    Lib.hid fun W hc => by
      have := get_any (.map v) _ kServices W (h.lo.chg hc) hf.wf.srt hf.len.2.2
      rw [show tget kServices (.map v) = some (.map lv) from hsv] at this
      exact this
  have HGO : Hid (∀ W, Chg [] w W → Calls Tryz.prog 19 #[.agg #[.int .i64 (T.map was).kind, .int .i64 (T.map was).num, .string (T.map was).txt, .slice C3 (T.map was).keys.length s3, .slice C4 (T.map was).vals.length s4], .string kServices] W fun e w' => ∃ v' b, e = .returned (.tuple #[v', .bool b]) ∧ Chg [] W w' ∧ Rd (fun b => o b ∧ b < w.heap.size) w' ot v') :=
    Lib.hid fun W hc => by
      refine (get_any (.map was) _ kServices W (hw.lo.chg hc) hfw.wf.srt hfw.len.2.2).mono ?_
      rintro e w' ⟨v', rfl, h1, h2⟩
      rw [hot] at h2
      exact ⟨v', _, rfl, h1, h2⟩
  have hll : lv.length ≤ 67108864 := by have := hfl.len.1; simpa [T.vals] using this
  have hvl : v.length ≤ 67108864 := by have := hf.len.1; simpa [T.vals] using this
  have HV := Lib.hid (And.intro h (And.intro hsvl (And.intro hfl (And.intro hokl (And.intro hot (And.intro hf.wf.1 hvl))))))
  clear h hw hf hfw hsv hok hsvl hfl hokl hot hvl
  go_enter Tryz.func17, Tryz.ntmps17
  go_wp2_with fail
  refine (HGS.out _ ((((Chg.refl [] w).al _).al _).al _)).mono ?_
  rintro e w4 ⟨v4, rfl, hc4, hr4⟩
  obtain ⟨A5, q5, A6, q6, rfl, hyz⟩ := hr4.five
  clear hyz
  have hs4 : w.heap.size + 3 ≤ w4.heap.size := by have := hc4.size; simpa using this
  obtain ⟨w5, hw5⟩ : ∃ w5, w5 = w4.alloc (.cells #[.int .i64 (T.map lv).kind, .int .i64 (T.map lv).num, .string (T.map lv).txt, .slice A5 (T.map lv).keys.length q5, .slice A6 (T.map lv).vals.length q6] 25) := ⟨_, rfl⟩
  have hc45 : Chg [] w4 w5 := hw5 ▸ (Chg.refl [] w4).al _
  have hs5 : w5.heap.size = w4.heap.size + 1 := by rw [hw5]; simp
  have hL5 : w5.heap[w4.heap.size]? = some (.cells #[.int .i64 (T.map lv).kind, .int .i64 (T.map lv).num, .string (T.map lv).txt, .slice A5 (T.map lv).keys.length q5, .slice A6 (T.map lv).vals.length q6] 25) := hw5 ▸ heap_alloc_new w4 _
  have hcw3 : Chg [] w w4 := ((((Chg.refl [] w).al _).al _).al _).trans hc4 New.nil
  have z0 : w4.heap[w.heap.size]? = some (.cells #[.int .i64 (T.map v).kind, .int .i64 (T.map v).num, .string (T.map v).txt, .slice A3 (T.map v).keys.length q3, .slice A4 (T.map v).vals.length q4] 25) := box5 ((heap_alloc_old _ _ _ (by simp; omega)).trans (heap_al1 w (.cells #[.int .i64 (T.map v).kind, .int .i64 (T.map v).num, .string (T.map v).txt, .slice A3 (T.map v).keys.length q3, .slice A4 (T.map v).vals.length q4] 25) (.cells #[.int .i64 (T.map was).kind, .int .i64 (T.map was).num, .string (T.map was).txt, .slice C3 (T.map was).keys.length s3, .slice C4 (T.map was).vals.length s4] 25))) _ hc4
  have z2 : w4.heap[w.heap.size + 2]? = some (.cells #[.int .i64 0, .int .i64 0, .string ⟨#[]⟩, .slice none 0 0, .slice none 0 0] 25) := box5 (heap_alloc_at _ _ _ (by simp)) _ hc4
  have z1 : w4.heap[w.heap.size + 1]? = some (.cells #[.int .i64 (T.map was).kind, .int .i64 (T.map was).num, .string (T.map was).txt, .slice C3 (T.map was).keys.length s3, .slice C4 (T.map was).vals.length s4] 25) := box5 ((heap_alloc_old _ _ _ (by simp)).trans (heap_al2 w (.cells #[.int .i64 (T.map v).kind, .int .i64 (T.map v).num, .string (T.map v).txt, .slice A3 (T.map v).keys.length q3, .slice A4 (T.map v).vals.length q4] 25) (.cells #[.int .i64 (T.map was).kind, .int .i64 (T.map was).num, .string (T.map was).txt, .slice C3 (T.map was).keys.length s3, .slice C4 (T.map was).vals.length s4] 25))) _ hc4
  have z15 := box5 z1 _ hc45
  have HA := Lib.hid (And.intro hcw3 (And.intro hc45 (And.intro hL5 (And.intro z0 (And.intro z2 (And.intro hr4 hs5))))))
  obtain ⟨a0, a1, a2, a3, a4, af⟩ := cells5 z15
  clear hc4 hc45 hL5 hcw3 z0 z1 z2 z15 hr4 hs5
  rw [hw5] at a0 a1 a2 a3 a4 af
  go_wp2_with fail
  rw [← hw5]
  clear a0 a1 a2 a3 a4 af
  refine (HGO.out _ (HA.out.1.trans HA.out.2.1 New.nil)).mono ?_
  rintro e w6 ⟨v6, bo, rfl, hc6, hr6⟩
  obtain ⟨B5, p5, B6, p6, rfl, hyz⟩ := hr6.five
  clear hyz
  obtain ⟨L, hL⟩ : ∃ L, L = w4.heap.size := ⟨_, rfl⟩
  obtain ⟨Ob, hOb⟩ : ∃ Ob, Ob = w6.heap.size := ⟨_, rfl⟩
  have hcw6 : Chg [] w w6 := (HA.out.1.trans HA.out.2.1 New.nil).trans hc6 New.nil
  have hLO : w.heap.size + 2 < L ∧ L < Ob := by
    have h1 := hc6.size
    have h2 := HA.out.2.2.2.2.2.2
    omega
  have HOT : Hid (∀ W, Chg [] w W → Rd (fun b => o b ∧ b < w.heap.size) W ot (.agg #[.int .i64 (ot).kind, .int .i64 (ot).num, .string (ot).txt, .slice B5 (ot).keys.length p5, .slice B6 (ot).vals.length p6])) := Lib.hid fun W hW => hr6.deep hcw6 hW
  have hB0 : BI o w L Ob #[.int .i64 (T.map v).kind, .int .i64 (T.map v).num, .string (T.map v).txt, .slice A3 (T.map v).keys.length q3, .slice A4 (T.map v).vals.length q4] #[.int .i64 (ot).kind, .int .i64 (ot).num, .string (ot).txt, .slice B5 (ot).keys.length p5, .slice B6 (ot).vals.length p6] (.map lv) (w6.alloc (.cells #[.int .i64 (ot).kind, .int .i64 (ot).num, .string (ot).txt, .slice B5 (ot).keys.length p5, .slice B6 (ot).vals.length p6] 25)) := by
    obtain ⟨a1, a2, a3, a4, a5, a6, a7⟩ := HA.out
    have hc := (a2.trans hc6 New.nil).trans ((Chg.refl [] w6).al (.cells #[.int .i64 (ot).kind, .int .i64 (ot).num, .string (ot).txt, .slice B5 (ot).keys.length p5, .slice B6 (ot).vals.length p6] 25)) New.nil
    refine ⟨a1.trans hc New.nil, box5 a4 _ hc, box5 a5 _ hc, hOb ▸ heap_alloc_new w6 _, hLO, A5, q5, A6, q6, ?_, ?_⟩
    · rw [hL]
      exact box5 a3 _ (hc6.trans ((Chg.refl [] w6).al _) New.nil)
    · exact (a6.to fun b hb ho => ⟨⟨ho.1, by omega, by omega⟩, rfl⟩ : Rd (OffB o L (w.heap.size + 2)) w4 (.map lv) _).chg hc
  rw [← mapTo_zero (f := bareF was) (m := lv)] at hB0
  rw [← hL]
  have HB0 := Lib.hid hB0
  clear hB0 hc6 hr6 hcw6 HA hw5 hL
  go_wp2_with fail
  rw [← hOb]
  clear hOb
  go_loopg [9] lv.length (fun g i wr => ∃ n : Nat, n ≤ lv.length ∧ g = lv.length - n ∧ i = .int .i64 n ∧ BI o w L Ob #[.int .i64 (T.map v).kind, .int .i64 (T.map v).num, .string (T.map v).txt, .slice A3 (T.map v).keys.length q3, .slice A4 (T.map v).vals.length q4] #[.int .i64 (ot).kind, .int .i64 (ot).num, .string (ot).txt, .slice B5 (ot).keys.length p5, .slice B6 (ot).vals.length p6] (T.map (mapTo (bareF was) lv n)) wr)
  case atStart => exact ⟨0, Nat.zero_le _, by omega, rfl, HB0.out⟩
  case round =>
    obtain ⟨n, hn, rfl, rfl, hBI⟩ := hrel
    have HBI := Lib.hid hBI
    obtain ⟨E7, r7, E8, r8, hdb, hdr⟩ := hBI.box
    have HDX := Lib.hid (And.intro hdb hdr)
    obtain ⟨l0, l1, l2, l3, l4, lf⟩ := cells5 hdb
    have hml : (mapTo (bareF was) lv n).length = lv.length := mapTo_length
    have hkl : (T.map (mapTo (bareF was) lv n)).keys.length = lv.length := by simp [T.keys, hml]
    have hszr : Ob < wr.heap.size := (Array.getElem?_eq_some_iff.1 hBI.old).1
    have HKL := Lib.hid hkl
    clear hBI hdb hkl HB0
    by_cases hlt : n < lv.length
    · have hn64 : n ≤ 67108864 := by omega
      obtain ⟨q, hq⟩ : ∃ q, lv[n]? = some q := ⟨_, List.getElem?_eq_getElem hlt⟩
      obtain ⟨k, t⟩ := q
      have hqn : (mapTo (bareF was) lv n)[n]? = some (k, t) := mapTo_at hq
      obtain ⟨ka7, va7, e7, hk7, hv7⟩ := hdr.open_map
      injection e7 with e7
      injection e7 with e7
      simp only [List.cons.injEq, and_true, true_and] at e7
      obtain ⟨e7a, e7b⟩ : ka7 = .slice E7 (T.map (mapTo (bareF was) lv n)).keys.length r7 ∧ va7 = .slice E8 (T.map (mapTo (bareF was) lv n)).vals.length r8 := by first | exact ⟨e7.1.symm, e7.2.symm⟩ | (obtain ⟨_, _, _, h1, h2⟩ := e7; exact ⟨h1.symm, h2.symm⟩) | (obtain ⟨h1, h2⟩ := e7.2.2.2; exact ⟨h1.symm, h2.symm⟩)
      subst e7a
      subst e7b
      obtain ⟨gk, ck, ek, hgk, yk⟩ := hk7.elem (n := n) (s := k) (by simp [hqn])
      obtain ⟨ge, ce, X5, x5, X6, x6, ee, hge, rx, ye⟩ := hv7.lo_elem (n := n) (x := t) (by simp [hqn])
      cases ek
      cases ee
      obtain ⟨s, hts, hss, hdep⟩ := HV.out.2.2.2.1 (k, t) (List.mem_of_getElem? hq)
      have hft : Fine t := HV.out.2.2.1.vals (List.mem_of_getElem? (l := (T.map lv).vals) (i := n) (by simp [T.vals, hq]))
      have YK := Lib.hid yk
      have HRX := Lib.hid rx
      have HXM := Lib.hid (And.intro hq (And.intro hts (And.intro hss hdep)))
      obtain ⟨y0, y1, y2, y3, y4⟩ := ye wr (Chg.refl _ _)
      have hlk : n < (T.map (mapTo (bareF was) lv n)).keys.length := by rw [HKL.out]; exact hlt
      have hlv : n < (T.map (mapTo (bareF was) lv n)).vals.length := by simp [T.vals, hml]; exact hlt
      clear hq hqn hk7 hv7 hdr yk ye rx hts hss hdep
      obtain ⟨W0, hW0⟩ : ∃ W0, W0 = wr.alloc (.cells #[.int .i64 (t).kind, .int .i64 (t).num, .string (t).txt, .slice X5 (t).keys.length x5, .slice X6 (t).vals.length x6] 25) := ⟨_, rfl⟩
      have hc0 : Chg [] wr W0 := hW0 ▸ (Chg.refl [] wr).al _
      have hbx0 : W0.heap[wr.heap.size]? = some (.cells #[.int .i64 (t).kind, .int .i64 (t).num, .string (t).txt, .slice X5 (t).keys.length x5, .slice X6 (t).vals.length x6] 25) := hW0 ▸ heap_alloc_new wr _
      have hs0 : W0.heap.size = wr.heap.size + 1 := by rw [hW0]; simp
      go_wp2_with fail
      rename_i KR hKR _ _ _ _
      rw [← hW0]
      clear hW0 y0 y1 y2 y3 y4 l0 l1 l2 l3 l4 lf
      refine (get_any t _ kDependsOn _ (HRX.out.chg hc0) hft.wf.srt hft.len.2.2).mono ?_
      rintro e w1 ⟨v1, rfl, hc1, hr1⟩
      obtain ⟨nt, hnt⟩ : ∃ nt, (tget kDependsOn t).getD .null = nt := ⟨_, rfl⟩
      obtain ⟨bq, hbq⟩ : ∃ bq, (tget kDependsOn t).isSome = bq := ⟨_, rfl⟩
      rw [hnt] at hr1
      rw [hbq]
      obtain ⟨N5, n5, N6, n6, rfl, hyz⟩ := hr1.five
      clear hyz
      have HNT := Lib.hid (And.intro hnt hbq)
      obtain ⟨NB, hNB⟩ : ∃ NB, NB = w1.heap.size := ⟨_, rfl⟩
      obtain ⟨W1, hW1⟩ : ∃ W1, W1 = w1.alloc (.cells #[.int .i64 (nt).kind, .int .i64 (nt).num, .string (nt).txt, .slice N5 (nt).keys.length n5, .slice N6 (nt).vals.length n6] 25) := ⟨_, rfl⟩
      have hc11 : Chg [] w1 W1 := hW1 ▸ (Chg.refl [] w1).al _
      have hcr1 : Chg [] wr W1 := (hc0.trans hc1 New.nil).trans hc11 New.nil
      have hbx1 := box5 hbx0 _ (hc1.trans hc11 New.nil)
      have hnb1 : W1.heap[NB]? = some (.cells #[.int .i64 (nt).kind, .int .i64 (nt).num, .string (nt).txt, .slice N5 (nt).keys.length n5, .slice N6 (nt).vals.length n6] 25) := hNB ▸ hW1 ▸ heap_alloc_new w1 _
      have hs1 : wr.heap.size < NB ∧ W1.heap.size = NB + 1 := by
        have h1 := hc1.size
        rw [hNB, hW1]
        refine ⟨by omega, by simp⟩
      have hnr1 : Rd (fun b => OffB o L (w.heap.size + 2) b ∧ b ≠ NB) W1 nt (.agg #[.int .i64 (nt).kind, .int .i64 (nt).num, .string (nt).txt, .slice N5 (nt).keys.length n5, .slice N6 (nt).vals.length n6]) := (hr1.to fun b hb ho => ⟨⟨ho.1, by omega⟩, rfl⟩ : Rd (fun b => OffB o L (w.heap.size + 2) b ∧ b ≠ NB) w1 nt _).chg hc11
      have HW1 := Lib.hid (And.intro hcr1 (And.intro hbx1 (And.intro hnb1 (And.intro hnr1 hs1))))
      clear hnt hbq hr1 hc1 hc0 hbx0 hc11 hcr1 hbx1 hnb1 hnr1 hs0
      go_wp2_with fail
      rw [← hW1, ← hNB]
      clear hW1 hNB
      rename_i K hK
      have HK := Lib.hid hK
      clear hK
      obtain ⟨bt, hbt⟩ : ∃ bt, (tget k ot).getD .null = bt := ⟨_, rfl⟩
      obtain ⟨bb, hbb⟩ : ∃ bb, (tget k ot).isSome = bb := ⟨_, rfl⟩
      have HBT := Lib.hid (And.intro hbt hbb)
      have hfb : Fine bt := hbt ▸ hfo.getD k
      clear hbt hbb
      refine wp_region_put (by rfl) (by kernel_rfl) [0, 5, 7, 9] 11 (by kernel_rfl)
        (fun j u V => match j with
          | 0 => u = .agg #[.int .i64 (ot).kind, .int .i64 (ot).num, .string (ot).txt, .slice B5 (ot).keys.length p5, .slice B6 (ot).vals.length p6]
          | 1 => u = .pointer (some ⟨L, 3, none⟩)
          | 2 => u = .slice (some ⟨gk, 0, none⟩) (T.map (mapTo (bareF was) lv n)).keys.length r7
          | 3 => u = .int .i64 ↑n
          | 4 => u = .pointer (some ⟨gk, n, none⟩)
          | 5 => u = .string k
          | 6 => ∃ v, u = .tuple #[v, .bool bb] ∧ Rd (fun b => o b ∧ b < w.heap.size) V bt v
          | 7 => ∃ v, u = .tuple #[v, .bool bb] ∧ Rd (fun b => o b ∧ b < w.heap.size) V bt v
          | 8 => Rd (fun b => o b ∧ b < w.heap.size) V bt u
          | 9 => u = .bool bb
          | 10 => ∃ B c0 c1 c2 c3 c4, u = .pointer (some ⟨B, 0, none⟩) ∧ W1.heap.size ≤ B ∧ V.heap[B]? = some (.cells #[c0, c1, c2, c3, c4] 25)
          | 12 => u = .bool bb
          | _ => True) ?_ 10 (by kernel_rfl) (fun u V => ∃ B E5 e5 E6 e6, u = .pointer (some ⟨B, 0, none⟩) ∧ W1.heap.size ≤ B ∧ V.heap[B]? = some (.cells #[.int .i64 (bt).kind, .int .i64 (bt).num, .string (bt).txt, .slice E5 (bt).keys.length e5, .slice E6 (bt).vals.length e6] 25) ∧ Rd (fun b => o b ∧ b < w.heap.size) V bt (.agg #[.int .i64 (bt).kind, .int .i64 (bt).num, .string (bt).txt, .slice E5 (bt).keys.length e5, .slice E6 (bt).vals.length e6])) ?_ ?_ ?_ ?_
      · intro j u V V' hc hφ
        rcases j with _ | _ | _ | _ | _ | _ | _ | _ | _ | _ | _ | _ | _ | j
        all_goals first | exact hφ | skip
        · obtain ⟨v, e, h⟩ := hφ
          exact ⟨v, e, h.chg hc⟩
        · obtain ⟨v, e, h⟩ := hφ
          exact ⟨v, e, h.chg hc⟩
        · exact Rd.chg hφ hc
        · obtain ⟨B, c0, c1, c2, c3, c4, e, hB, h⟩ := hφ
          exact ⟨B, c0, c1, c2, c3, c4, e, hB, box5 h _ hc⟩
      · rintro v V V' hc ⟨B, E5, e5, E6, e6, e, hB, h, hr⟩
        exact ⟨B, E5, e5, E6, e6, e, hB, box5 h _ hc, hr.chg hc⟩
      · intro j oo hj hjp ho a' w' hst hch hdep K2 hK2
        have hsz : W1.heap.size ≤ w'.heap.size := hch.size
        have hcr : Chg [] wr w' := HW1.out.1.trans ((Chg.refl [] W1).dr.trans hch New.nil) New.nil
        have hcrw := HBI.out.chg.trans hcr New.nil
        obtain ⟨b0, b1, b2, b3, b4, bf⟩ := cells5 (HBI.out.go hcr).old
        obtain ⟨l0, l1, l2, l3, l4, lf⟩ := cells5 (box5 HDX.out.1 _ hcr)
        have yk := YK.out _ hcr
        have hj' : j < 13 := hj
        rcases j with _ | _ | _ | _ | _ | _ | _ | _ | _ | _ | _ | _ | _ | j
        · obtain rfl : _ = oo := Option.some.inj ho
          have h7 := g_eq (t := 7) (v := .pointer (some ⟨Ob, 0, none⟩)) (hst 7 (by simp))
          unfold Oper.wp
          go_simp
          exact ⟨_, rfl, hK2 _ _ (Chg.refl _ _) rfl⟩
        · obtain rfl : _ = oo := Option.some.inj ho
          have h5 := g_eq (t := 5) (v := .pointer (some ⟨L, 0, none⟩)) (hst 5 (by simp))
          unfold Oper.wp
          go_simp
          exact ⟨_, rfl, hK2 _ _ (Chg.refl _ _) rfl⟩
        · obtain rfl : _ = oo := Option.some.inj ho
          have h47 := g_eq (t := 47) (v := .pointer (some ⟨L, 3, none⟩)) (hdep 1 (by decide) (by kernel_rfl))
          unfold Oper.wp
          go_simp
          exact ⟨_, rfl, hK2 _ _ (Chg.refl _ _) rfl⟩
        · obtain rfl : _ = oo := Option.some.inj ho
          have h9 := g_eq (t := 9) (v := .int .i64 ↑n) (hst 9 (by simp))
          unfold Oper.wp
          go_simp
          exact ⟨_, rfl, hK2 _ _ (Chg.refl _ _) rfl⟩
        · obtain rfl : _ = oo := Option.some.inj ho
          have h48 := g_eq (t := 48) (v := .slice (some ⟨gk, 0, none⟩) (T.map (mapTo (bareF was) lv n)).keys.length r7) (hdep 2 (by decide) (by kernel_rfl))
          have h49 := g_eq (t := 49) (v := .int .i64 ↑n) (hdep 3 (by decide) (by kernel_rfl))
          unfold Oper.wp
          go_simp
          exact ⟨_, rfl, hK2 _ _ (Chg.refl _ _) rfl⟩
        · obtain rfl : _ = oo := Option.some.inj ho
          have h50 := g_eq (t := 50) (v := .pointer (some ⟨gk, n, none⟩)) (hdep 4 (by decide) (by kernel_rfl))
          unfold Oper.wp
          go_simp
          exact ⟨_, rfl, hK2 _ _ (Chg.refl _ _) rfl⟩
        · obtain rfl : _ = oo := Option.some.inj ho
          have h46 := g_eq (t := 46) (v := .agg #[.int .i64 (ot).kind, .int .i64 (ot).num, .string (ot).txt, .slice B5 (ot).keys.length p5, .slice B6 (ot).vals.length p6]) (hdep 0 (by decide) (by kernel_rfl))
          have h51 := g_eq (t := 51) (v := .string k) (hdep 5 (by decide) (by kernel_rfl))
          unfold Oper.wp
          go_simp
          refine (get_any ot _ k w' (HOT.out w' hcrw) hfo.wf.srt hfo.len.2.2).mono ?_
          rintro e w3 ⟨v', rfl, hc3, hr3⟩
          rw [HBT.out.2]
          rw [HBT.out.1] at hr3
          exact ⟨_, rfl, hK2 _ _ hc3 ⟨v', rfl, hr3⟩⟩
        · obtain rfl : _ = oo := Option.some.inj ho
          obtain ⟨v, h52, hr⟩ : ∃ v, Act.g a' 52 = .tuple #[v, .bool bb] ∧ Rd (fun b => o b ∧ b < w.heap.size) w' bt v := hdep 6 (by decide) (by kernel_rfl)
          have h52 := g_eq (t := 52) h52
          unfold Oper.wp
          go_simp
          exact ⟨_, rfl, hK2 _ _ (Chg.refl _ _) ⟨_, rfl, hr⟩⟩
        · obtain rfl : _ = oo := Option.some.inj ho
          obtain ⟨v, h45, hr⟩ : ∃ v, Act.g a' 45 = .tuple #[v, .bool bb] ∧ Rd (fun b => o b ∧ b < w.heap.size) w' bt v := hdep 7 (by decide) (by kernel_rfl)
          have h45 := g_eq (t := 45) h45
          unfold Oper.wp
          go_simp
          exact ⟨_, rfl, hK2 _ _ (Chg.refl _ _) hr⟩
        · obtain rfl : _ = oo := Option.some.inj ho
          obtain ⟨v, h45, hr⟩ : ∃ v, Act.g a' 45 = .tuple #[v, .bool bb] ∧ Rd (fun b => o b ∧ b < w.heap.size) w' bt v := hdep 7 (by decide) (by kernel_rfl)
          have h45 := g_eq (t := 45) h45
          unfold Oper.wp
          go_simp
          exact ⟨_, rfl, hK2 _ _ (Chg.refl _ _) rfl⟩
        · obtain rfl : _ = oo := Option.some.inj ho
          unfold Oper.wp
          go_simp
          exact ⟨_, rfl, hK2 _ _ ((Chg.refl [] w').al _) ⟨_, _, _, _, _, _, rfl, hsz, heap_alloc_new w' _⟩⟩
        · exact absurd rfl hjp
        · obtain rfl : _ = oo := Option.some.inj ho
          have h54 := g_eq (t := 54) (v := .bool bb) (hdep 9 (by decide) (by kernel_rfl))
          unfold Oper.wp
          go_simp
          exact ⟨_, rfl, hK2 _ _ (Chg.refl _ _) rfl⟩
        · omega
      · intro oo ho a' w' hst hch hdep K2 hK2
        obtain rfl : _ = oo := Option.some.inj ho
        have hr53 : Rd (fun b => o b ∧ b < w.heap.size) w' bt (Act.g a' 53) := hdep 8 (by kernel_rfl)
        generalize h53 : Act.g a' 53 = vv at hr53
        obtain ⟨E5, e5, E6, e6, rfl, _⟩ := hr53.five
        have h53 := g_eq (t := 53) h53
        obtain ⟨B, c0, c1, c2, c3, c4, h13', hB, hbox⟩ : ∃ B c0 c1 c2 c3 c4, Act.g a' 13 = .pointer (some ⟨B, 0, none⟩) ∧ W1.heap.size ≤ B ∧ w'.heap[B]? = some (.cells #[c0, c1, c2, c3, c4] 25) := hdep 10 (by kernel_rfl)
        have h13 := g_eq (t := 13) h13'
        obtain ⟨b0, b1, b2, b3, b4, bf⟩ := cells5 hbox
        have hcrw : Chg [] W1.drew w' := hch
        have hWw : w.heap.size ≤ W1.heap.size := by
          have h1 := HW1.out.1.size
          have h2 := HBI.out.chg.size
          omega
        obtain ⟨W, hW, Q, hne, hcW, _⟩ := store5 hbox hcrw (by show W1.heap.size ≤ B; exact hB) (.int .i64 bt.kind) (.int .i64 bt.num) (.string bt.txt) (.slice E5 bt.keys.length e5) (.slice E6 bt.vals.length e6)
        unfold Oper.wp
        go_simp
        rw [← hW]
        refine hK2 W hcW ⟨B, E5, e5, E6, e6, h13', hB, Q, hr53.mono fun b hb ho => hne b (by have := ho.2; omega)⟩ ?_
        intro j u hjp hφ
        rcases j with _ | _ | _ | _ | _ | _ | _ | _ | _ | _ | _ | _ | _ | j
        all_goals first | exact hφ | skip
        · obtain ⟨v, e, h⟩ := hφ
          exact ⟨v, e, h.mono fun b hb ho => hne b (by have := ho.2; omega)⟩
        · obtain ⟨v, e, h⟩ := hφ
          exact ⟨v, e, h.mono fun b hb ho => hne b (by have := ho.2; omega)⟩
        · exact Rd.mono (fun b hb ho => hne b (by have := ho.2; omega)) hφ
        · obtain ⟨B', d0, d1, d2, d3, d4, e, hB', h⟩ := hφ
          by_cases eB : B' = B
          · subst eB
            exact ⟨B', _, _, _, _, _, e, hB', Q⟩
          · exact ⟨B', d0, d1, d2, d3, d4, e, hB', (hne B' eB).trans h⟩
      · intro u w' hch hφ hu11 hψ A2 hA2
        obtain ⟨B, E5, e5, E6, e6, hu10, hB, hBx, hrB⟩ := hψ
        have hu12 : u 12 = .bool bb := hφ 12 (by decide) (by decide)
        have hcB : Chg [] W1 w' := (Chg.refl [] W1).dr.trans hch New.nil
        have hcr := HW1.out.1.trans hcB New.nil
        have hcw2 := HBI.out.chg.trans hcr New.nil
        have hs2 : NB < w'.heap.size := by have h1 := hcB.size; have h2 := HW1.out.2.2.2.2; omega
        have HB2 := Lib.hid (And.intro hcB (And.intro hcr hcw2))
        have HBR := Lib.hid hrB
        have hBlt : B < w'.heap.size := (Array.getElem?_eq_some_iff.1 hBx).1
        obtain ⟨c0, c1, c2, c3, c4, cf⟩ := cells5 hBx
        simp [putAll, dOf, Act.put, hu10, hu12, hu11, Act.g] at hA2
        subst hA2
        clear hφ hu10 hu11 hu12 hrB hBx hch hcB hcr hcw2
        refine HK.out _ _ ?_
        clear HK
        go_wp2_with fail
        refine (get_any bt _ kDependsOn w' HBR.out hfb.wf.srt hfb.len.2.2).mono ?_
        rintro e w2 ⟨v2, rfl, hc2, hr2⟩
        obtain ⟨wt, hwt⟩ : ∃ wt, (tget kDependsOn bt).getD .null = wt := ⟨_, rfl⟩
        rw [hwt] at hr2
        generalize (tget kDependsOn bt).isSome = bw
        have hfw : Fine wt := hwt ▸ hfb.getD kDependsOn
        obtain ⟨G5, g5, G6, g6, rfl, hyz⟩ := hr2.five
        clear hyz
        obtain ⟨OB, hOB⟩ : ∃ OB, OB = w2.heap.size := ⟨_, rfl⟩
        obtain ⟨W3, hW3⟩ : ∃ W3, W3 = w2.alloc (.cells #[.int .i64 (wt).kind, .int .i64 (wt).num, .string (wt).txt, .slice G5 (wt).keys.length g5, .slice G6 (wt).vals.length g6] 25) := ⟨_, rfl⟩
        have hcw3 : Chg [] w W3 := (HB2.out.2.2.trans hc2 New.nil).trans (hW3 ▸ (Chg.refl [] w2).al _) New.nil
        have hc13 : Chg [] W1 W3 := (HB2.out.1.trans hc2 New.nil).trans (hW3 ▸ (Chg.refl [] w2).al _) New.nil
        have HWT : Hid (∀ W, Chg [] w W → Rd (fun b => o b ∧ b < w.heap.size) W wt (.agg #[.int .i64 (wt).kind, .int .i64 (wt).num, .string (wt).txt, .slice G5 (wt).keys.length g5, .slice G6 (wt).vals.length g6])) := Lib.hid fun W hW => hr2.deep (HB2.out.2.2.trans hc2 New.nil) hW
        have hown : ∀ y, (tget y wt).isSome = hasK y (ownD was k) := fun y => by
          rw [← hwt, ← HBT.out.1, ← HV.out.2.2.2.2.1]
          exact own_get
        have HOWN := Lib.hid hown
        have hIB : IB (OffB o L (w.heap.size + 2)) wr NB OB #[.int .i64 (t).kind, .int .i64 (t).num, .string (t).txt, .slice X5 (t).keys.length x5, .slice X6 (t).vals.length x6] #[.int .i64 (wt).kind, .int .i64 (wt).num, .string (wt).txt, .slice G5 (wt).keys.length g5, .slice G6 (wt).vals.length g6] nt W3 := by
          obtain ⟨a1, a2, a3, a4, a5⟩ := HW1.out
          refine ⟨a1.trans hc13 New.nil, box5 a2 _ hc13, hOB ▸ hW3 ▸ heap_alloc_new w2 _, ⟨a5.1, ?_⟩, N5, n5, N6, n6, box5 a3 _ hc13, a4.chg hc13⟩
          have h1 := hc2.size
          omega
        have HIB := Lib.hid hIB
        clear hc2 hr2 hcw3 hc13 hown hwt hIB c0 c1 c2 c3 c4 cf
        go_wp2_with fail
        rw [← hW3, ← hOB]
        clear hW3 hOB
        obtain ⟨wq, hwq⟩ : ∃ wq, wq = wr := ⟨_, rfl⟩
        subst hwq
        cases bq with
        | false =>
          have hn0 : nt = .null := by
            have h1 := HNT.out.2
            rw [← HNT.out.1]
            cases hg : tget kDependsOn t with
            | none => rfl
            | some z => rw [hg] at h1; cases h1
          subst hn0
          obtain ⟨_, _, _, _, hnb, _⟩ := HIB.out.box
          obtain ⟨b0, b1, b2, b3, b4, bf⟩ := cells5 hnb
          have hk0 : (T.null).keys.length = 0 := rfl
          clear hnb
          go_loopg [17] 0 (fun g i wx => g = 0 ∧ i = .int .i64 0 ∧ wx = W3)
          case atStart => exact ⟨rfl, rfl, rfl⟩
          case round =>
            obtain ⟨rfl, rfl, rfl⟩ := hrel
            go_wp2_with fail
            go_roundg (lv.length - (n + 1))
            case measure => omega
            case rel =>
              refine ⟨n + 1, by omega, rfl, by go_num, ?_⟩
              obtain ⟨hq, hts, _, _⟩ := HXM.out
              have hsame : bareF was k t = t := by
                rw [hts]
                refine bareF_none ?_
                have h1 := HNT.out.2
                rw [hts] at h1
                simpa [tget] using h1
              rw [mapTo_same hq hsame]
              exact HBI.out.go HIB.out.chg
        | true =>
          obtain ⟨d, hd, hnd⟩ : ∃ d, mget kDependsOn s = some (.map d) ∧ nt = .map d := by
            obtain ⟨_, hts, _, hdep⟩ := HXM.out
            have h1 := HNT.out.2
            have h0 := HNT.out.1
            rw [hts] at h1 h0
            obtain ⟨z, hz⟩ := Option.isSome_iff_exists.1 h1
            have hz : mget kDependsOn s = some z := hz
            obtain ⟨d, rfl, _⟩ := hdep z hz
            exact ⟨d, hz, by rw [← h0, show tget kDependsOn (.map s) = some (.map d) from hz]; rfl⟩
          subst hnd
          obtain ⟨hsd, himp⟩ : Srt d ∧ ∀ p ∈ d, hasK p.1 (ownD was k) = false → ∃ r, p.2 = impP r := by
            obtain ⟨_, hts, _, hdep⟩ := HXM.out
            obtain ⟨d', e, h1, h2⟩ := hdep _ hd
            cases e
            exact ⟨h1, h2⟩
          have hfd : Fine (.map d) := by
            have h1 : tget kDependsOn t = some (.map d) := by rw [HXM.out.2.1]; exact hd
            exact hft.get h1
          have hdl : d.length ≤ 67108864 := by have := hfd.len.1; simpa [T.vals] using this
          have HD := Lib.hid (And.intro hd (And.intro hsd (And.intro himp hfd)))
          have hI0 : IB (OffB o L (w.heap.size + 2)) wq NB OB #[.int .i64 (t).kind, .int .i64 (t).num, .string (t).txt, .slice X5 (t).keys.length x5, .slice X6 (t).vals.length x6] #[.int .i64 (wt).kind, .int .i64 (wt).num, .string (wt).txt, .slice G5 (wt).keys.length g5, .slice G6 (wt).vals.length g6] (T.map (mapTo (needF (ownD was k)) d 0)) W3 := by rw [mapTo_zero]; exact HIB.out
          have HI0 := Lib.hid hI0
          clear hd hsd himp hfd hI0
          go_loopg [17] d.length (fun g i wx => ∃ kk : Nat, kk ≤ d.length ∧ g = d.length - kk ∧ i = .int .i64 kk ∧ IB (OffB o L (w.heap.size + 2)) wq NB OB #[.int .i64 (t).kind, .int .i64 (t).num, .string (t).txt, .slice X5 (t).keys.length x5, .slice X6 (t).vals.length x6] #[.int .i64 (wt).kind, .int .i64 (wt).num, .string (wt).txt, .slice G5 (wt).keys.length g5, .slice G6 (wt).vals.length g6] (T.map (mapTo (needF (ownD was k)) d kk)) wx)
          case atStart => exact ⟨0, Nat.zero_le _, by omega, rfl, HI0.out⟩
          case round =>
            obtain ⟨kk, hkk, rfl, rfl, hIK⟩ := hrel
            have HIK := Lib.hid hIK
            obtain ⟨F7, f7, F8, f8, hnb, hnr⟩ := hIK.box
            have HNX := Lib.hid (And.intro hnb hnr)
            obtain ⟨b0, b1, b2, b3, b4, bf⟩ := cells5 hnb
            have hmd : (mapTo (needF (ownD was k)) d kk).length = d.length := mapTo_length
            have hkd : (T.map (mapTo (needF (ownD was k)) d kk)).keys.length = d.length := by simp [T.keys, hmd]
            have hOBx : OB < wr.heap.size := (Array.getElem?_eq_some_iff.1 hIK.own).1
            have HKD := Lib.hid hkd
            have hlt2 := hIK.lt
            clear hIK hnb hkd HI0
            by_cases hlk2 : kk < d.length
            · have hkn64 : kk ≤ 67108864 := by omega
              obtain ⟨q2, hq2⟩ : ∃ q2, d[kk]? = some q2 := ⟨_, List.getElem?_eq_getElem hlk2⟩
              obtain ⟨k2, y⟩ := q2
              have hqk : (mapTo (needF (ownD was k)) d kk)[kk]? = some (k2, y) := mapTo_at hq2
              obtain ⟨hk8, hv8⟩ := hnr.kv
              obtain ⟨gn, cn, en, hgn, yk2⟩ := hk8.elem (n := kk) (s := k2) (by simp [T.keys, hqk])
              obtain ⟨gm, cm, Z5, z5, Z6, z6, em, hgm, ry, ye2⟩ := hv8.lo_elem (n := kk) (x := y) (by simp [T.vals, hqk])
              cases en
              cases em
              obtain ⟨hb, hhb⟩ : ∃ hb, hasK k2 (ownD was k) = hb := ⟨_, rfl⟩
              have HHB := Lib.hid hhb
              have HY := Lib.hid (And.intro hq2 True.intro)
              have YK2 := Lib.hid yk2
              have YE2 := Lib.hid ye2
              have HRY := Lib.hid ry
              have hlkk : kk < (T.map (mapTo (needF (ownD was k)) d kk)).keys.length := by rw [HKD.out]; exact hlk2
              have hlkv : kk < (T.map (mapTo (needF (ownD was k)) d kk)).vals.length := by simp [T.vals, hmd]; exact hlk2
              clear hq2 hqk hk8 hv8 hhb yk2 ye2 ry hnr
              go_wp2_with fail
              rename_i K hK
              have HK := Lib.hid hK
              clear hK b0 b1 b2 b3 b4 bf
              refine wp_region_all (by rfl) (by kernel_rfl) [11, 15, 17] (by kernel_rfl)
                (fun j u V => match j with
                  | 0 => u = .agg #[.int .i64 (wt).kind, .int .i64 (wt).num, .string (wt).txt, .slice G5 (wt).keys.length g5, .slice G6 (wt).vals.length g6]
                  | 1 => u = .pointer (some ⟨NB, 3, none⟩)
                  | 2 => u = .slice (some ⟨gn, 0, none⟩) (T.map (mapTo (needF (ownD was k)) d kk)).keys.length f7
                  | 3 => u = .int .i64 ↑kk
                  | 4 => u = .pointer (some ⟨gn, kk, none⟩)
                  | 5 => u = .string k2
                  | 6 => u = .bool hb
                  | 7 => u = .bool (!hb)
                  | _ => True) ?_ ?_ ?_
              · intro j u V V' hc hφ
                rcases j with _ | _ | _ | _ | _ | _ | _ | _ | j
                all_goals exact hφ
              · intro j oo hj ho a' w' hst hch hdep K2 hK2
                have hsz : wr.heap.size ≤ w'.heap.size := hch.size
                have hcB : Chg [] wr w' := (Chg.refl [] wr).dr.trans hch New.nil
                have hcr : Chg [] wr w' := (Chg.refl [] wr).trans hcB New.nil
                have hcq : Chg [] wq w' := HIK.out.chg.trans hcr New.nil
                have hcw : Chg [] w w' := HBI.out.chg.trans hcq New.nil
                have hszr' : wr.heap.size ≤ w'.heap.size := hcr.size
                obtain ⟨b0, b1, b2, b3, b4, bf⟩ := cells5 (box5 HNX.out.1 _ hcr)
                obtain ⟨o0, o1, o2, o3, o4, of⟩ := cells5 (HIK.out.go hcr).own
                have yk := YK2.out _ hcr
                have hj' : j < 8 := hj
                rcases j with _ | _ | _ | _ | _ | _ | _ | _ | j
                · obtain rfl : _ = oo := Option.some.inj ho  -- 0: slot 70
                  have h15 := g_eq (t := 15) (v := .pointer (some ⟨OB, 0, none⟩)) (hst 15 (by simp))
                  unfold Oper.wp
                  go_simp
                  exact ⟨_, rfl, hK2 _ _ (Chg.refl _ _) rfl⟩
                · obtain rfl : _ = oo := Option.some.inj ho  -- 1: slot 71
                  have h11 := g_eq (t := 11) (v := .pointer (some ⟨NB, 0, none⟩)) (hst 11 (by simp))
                  unfold Oper.wp
                  go_simp
                  exact ⟨_, rfl, hK2 _ _ (Chg.refl _ _) rfl⟩
                · obtain rfl : _ = oo := Option.some.inj ho  -- 2: slot 72
                  have h71 := g_eq (t := 71) (v := .pointer (some ⟨NB, 3, none⟩)) (hdep 1 (by kernel_rfl))
                  unfold Oper.wp
                  go_simp
                  exact ⟨_, rfl, hK2 _ _ (Chg.refl _ _) rfl⟩
                · obtain rfl : _ = oo := Option.some.inj ho  -- 3: slot 73
                  have h17 := g_eq (t := 17) (v := .int .i64 ↑kk) (hst 17 (by simp))
                  unfold Oper.wp
                  go_simp
                  exact ⟨_, rfl, hK2 _ _ (Chg.refl _ _) rfl⟩
                · obtain rfl : _ = oo := Option.some.inj ho  -- 4: slot 74
                  have h72 := g_eq (t := 72) (v := .slice (some ⟨gn, 0, none⟩) (T.map (mapTo (needF (ownD was k)) d kk)).keys.length f7) (hdep 2 (by kernel_rfl))
                  have h73 := g_eq (t := 73) (v := .int .i64 ↑kk) (hdep 3 (by kernel_rfl))
                  unfold Oper.wp
                  go_simp
                  exact ⟨_, rfl, hK2 _ _ (Chg.refl _ _) rfl⟩
                · obtain rfl : _ = oo := Option.some.inj ho  -- 5: slot 75
                  have h74 := g_eq (t := 74) (v := .pointer (some ⟨gn, kk, none⟩)) (hdep 4 (by kernel_rfl))
                  unfold Oper.wp
                  go_simp
                  exact ⟨_, rfl, hK2 _ _ (Chg.refl _ _) rfl⟩
                · obtain rfl : _ = oo := Option.some.inj ho  -- 6: slot 76
                  have h70 := g_eq (t := 70) (v := .agg #[.int .i64 (wt).kind, .int .i64 (wt).num, .string (wt).txt, .slice G5 (wt).keys.length g5, .slice G6 (wt).vals.length g6]) (hdep 0 (by kernel_rfl))
                  have h75 := g_eq (t := 75) (v := .string k2) (hdep 5 (by kernel_rfl))
                  unfold Oper.wp
                  go_simp
                  refine (has_any wt _ k2 w' (HWT.out w' hcw) hfw.wf.srt hfw.len.2.2).mono ?_
                  rintro e w3 ⟨rfl, hc3⟩
                  rw [HOWN.out k2, HHB.out]
                  exact ⟨_, rfl, hK2 _ _ hc3 rfl⟩
                · obtain rfl : _ = oo := Option.some.inj ho  -- 7: slot 77
                  have h76 := g_eq (t := 76) (v := .bool hb) (hdep 6 (by kernel_rfl))
                  unfold Oper.wp
                  go_simp
                  exact ⟨_, rfl, hK2 _ _ (Chg.refl _ _) rfl⟩
                · omega
              · intro u wz hch hφ A2 hA2
                have l7 : 7 < 8 := by omega
                have hu : u 7 = .bool (!hb) := hφ 7 l7
                have HZ : Hid (Chg [] wr wz) := Lib.hid ((Chg.refl [] wr).dr.trans hch New.nil)
                have hwz : wr.heap.size ≤ wz.heap.size := HZ.out.size
                simp [putAll, dOf, Act.put, hu] at hA2
                subst hA2
                clear hφ l7 hu hch
                refine HK.out _ _ ?_
                clear HK
                cases hb with
                | true =>
                  go_wp2_with fail
                  go_roundg (d.length - (kk + 1))
                  case measure => omega
                  case rel =>
                    refine ⟨kk + 1, by omega, rfl, by go_num, ?_⟩
                    rw [mapTo_same HY.out.1 (by unfold needF; rw [HHB.out]; rfl)]
                    exact HIK.out.go HZ.out
                | false =>
                  obtain ⟨r, hr⟩ := HD.out.2.2.1 (k2, y) (List.mem_of_getElem? HY.out.1) HHB.out
                  have HY := Lib.hid (And.intro HY.out.1 (show y = impP r from hr))
                  clear hr
                  go_wp2_with fail
                  rename_i K hK hz
                  have HK := Lib.hid hK
                  clear hK
                  refine wp_region_tail (by rfl) (by kernel_rfl) [11, 17] (by kernel_rfl)
                    (fun j u V => match j with
                      | 0 => u = .agg #[.int .i64 (T.map (mapTo (needF (ownD was k)) d kk)).kind, .int .i64 (T.map (mapTo (needF (ownD was k)) d kk)).num, .string (T.map (mapTo (needF (ownD was k)) d kk)).txt, .slice (some ⟨gn, 0, none⟩) (T.map (mapTo (needF (ownD was k)) d kk)).keys.length f7, .slice (some ⟨gm, 0, none⟩) (T.map (mapTo (needF (ownD was k)) d kk)).vals.length f8]
                      | 1 => u = .pointer (some ⟨NB, 3, none⟩)
                      | 2 => u = .slice (some ⟨gn, 0, none⟩) (T.map (mapTo (needF (ownD was k)) d kk)).keys.length f7
                      | 3 => u = .int .i64 ↑kk
                      | 4 => u = .pointer (some ⟨gn, kk, none⟩)
                      | 5 => u = .string k2
                      | 6 => u = .pointer (some ⟨NB, 4, none⟩)
                      | 7 => u = .slice (some ⟨gm, 0, none⟩) (T.map (mapTo (needF (ownD was k)) d kk)).vals.length f8
                      | 8 => u = .int .i64 ↑kk
                      | 9 => u = .pointer (some ⟨gm, kk * 5, none⟩)
                      | 10 => u = .agg #[.int .i64 (y).kind, .int .i64 (y).num, .string (y).txt, .slice Z5 (y).keys.length z5, .slice Z6 (y).vals.length z6]
                      | 11 => Rd (fun b => OffB o L (w.heap.size + 2) b ∧ b ≠ NB) V impS u
                      | 12 => Rd (fun b => OffB o L (w.heap.size + 2) b ∧ b ≠ NB) V (T.map (mapTo (needF (ownD was k)) d (kk + 1))) u
                      | _ => True) ?_ ?_ ?_
                  · intro j u V V' hc hφ
                    rcases j with _ | _ | _ | _ | _ | _ | _ | _ | _ | _ | _ | _ | _ | j
                    all_goals first | exact hφ | exact Rd.chg hφ hc
                  · intro j oo hj ho a' w' hst hch hdep K2 hK2
                    have hsz : wz.heap.size ≤ w'.heap.size := hch.size
                    have hcB : Chg [] wz w' := (Chg.refl [] wz).dr.trans hch New.nil
                    have hcr : Chg [] wr w' := HZ.out.trans hcB New.nil
                    have hcq : Chg [] wq w' := HIK.out.chg.trans hcr New.nil
                    have hcw : Chg [] w w' := HBI.out.chg.trans hcq New.nil
                    have hszr' : wr.heap.size ≤ w'.heap.size := hcr.size
                    obtain ⟨b0, b1, b2, b3, b4, bf⟩ := cells5 (box5 HNX.out.1 _ hcr)
                    have yk := YK2.out _ hcr
                    obtain ⟨y0, y1, y2, y3, y4⟩ := YE2.out _ hcr
                    have HW : Hid (Rd (fun b => OffB o L (w.heap.size + 2) b ∧ b ≠ NB) w' (T.map (mapTo (needF (ownD was k)) d kk)) (.agg #[.int .i64 (T.map (mapTo (needF (ownD was k)) d kk)).kind, .int .i64 (T.map (mapTo (needF (ownD was k)) d kk)).num, .string (T.map (mapTo (needF (ownD was k)) d kk)).txt, .slice (some ⟨gn, 0, none⟩) (T.map (mapTo (needF (ownD was k)) d kk)).keys.length f7, .slice (some ⟨gm, 0, none⟩) (T.map (mapTo (needF (ownD was k)) d kk)).vals.length f8]) ∧ Rd (fun b => OffB o L (w.heap.size + 2) b ∧ b ≠ NB) w' (impP r) (.agg #[.int .i64 (y).kind, .int .i64 (y).num, .string (y).txt, .slice Z5 (y).keys.length z5, .slice Z6 (y).vals.length z6]) ∧ (mapTo (needF (ownD was k)) d kk).length ≤ 67108864 ∧ ∀ b, w'.heap.size ≤ b → OffB o L (w.heap.size + 2) b ∧ b ≠ NB) := Lib.hid ⟨HNX.out.2.chg hcr, ((HRY.out.chg hcr).weak fun b hb => hb.1).cast HY.out.2, by omega, fun b hb => ⟨⟨hno b (by omega), by omega, by omega⟩, by omega⟩⟩
                    have hj' : j < 13 := hj
                    rcases j with _ | _ | _ | _ | _ | _ | _ | _ | _ | _ | _ | _ | _ | j
                    · obtain rfl : _ = oo := Option.some.inj ho  -- 0: slot 78
                      have h11 := g_eq (t := 11) (v := .pointer (some ⟨NB, 0, none⟩)) (hst 11 (by simp))
                      unfold Oper.wp
                      go_simp
                      exact ⟨_, rfl, hK2 _ _ (Chg.refl _ _) rfl⟩
                    · obtain rfl : _ = oo := Option.some.inj ho  -- 1: slot 79
                      have h11 := g_eq (t := 11) (v := .pointer (some ⟨NB, 0, none⟩)) (hst 11 (by simp))
                      unfold Oper.wp
                      go_simp
                      exact ⟨_, rfl, hK2 _ _ (Chg.refl _ _) rfl⟩
                    · obtain rfl : _ = oo := Option.some.inj ho  -- 2: slot 80
                      have h79 := g_eq (t := 79) (v := .pointer (some ⟨NB, 3, none⟩)) (hdep 1 (by kernel_rfl))
                      unfold Oper.wp
                      go_simp
                      exact ⟨_, rfl, hK2 _ _ (Chg.refl _ _) rfl⟩
                    · obtain rfl : _ = oo := Option.some.inj ho  -- 3: slot 81
                      have h17 := g_eq (t := 17) (v := .int .i64 ↑kk) (hst 17 (by simp))
                      unfold Oper.wp
                      go_simp
                      exact ⟨_, rfl, hK2 _ _ (Chg.refl _ _) rfl⟩
                    · obtain rfl : _ = oo := Option.some.inj ho  -- 4: slot 82
                      have h80 := g_eq (t := 80) (v := .slice (some ⟨gn, 0, none⟩) (T.map (mapTo (needF (ownD was k)) d kk)).keys.length f7) (hdep 2 (by kernel_rfl))
                      have h81 := g_eq (t := 81) (v := .int .i64 ↑kk) (hdep 3 (by kernel_rfl))
                      unfold Oper.wp
                      go_simp
                      exact ⟨_, rfl, hK2 _ _ (Chg.refl _ _) rfl⟩
                    · obtain rfl : _ = oo := Option.some.inj ho  -- 5: slot 83
                      have h82 := g_eq (t := 82) (v := .pointer (some ⟨gn, kk, none⟩)) (hdep 4 (by kernel_rfl))
                      unfold Oper.wp
                      go_simp
                      exact ⟨_, rfl, hK2 _ _ (Chg.refl _ _) rfl⟩
                    · obtain rfl : _ = oo := Option.some.inj ho  -- 6: slot 84
                      have h11 := g_eq (t := 11) (v := .pointer (some ⟨NB, 0, none⟩)) (hst 11 (by simp))
                      unfold Oper.wp
                      go_simp
                      exact ⟨_, rfl, hK2 _ _ (Chg.refl _ _) rfl⟩
                    · obtain rfl : _ = oo := Option.some.inj ho  -- 7: slot 85
                      have h84 := g_eq (t := 84) (v := .pointer (some ⟨NB, 4, none⟩)) (hdep 6 (by kernel_rfl))
                      unfold Oper.wp
                      go_simp
                      exact ⟨_, rfl, hK2 _ _ (Chg.refl _ _) rfl⟩
                    · obtain rfl : _ = oo := Option.some.inj ho  -- 8: slot 86
                      have h17 := g_eq (t := 17) (v := .int .i64 ↑kk) (hst 17 (by simp))
                      unfold Oper.wp
                      go_simp
                      exact ⟨_, rfl, hK2 _ _ (Chg.refl _ _) rfl⟩
                    · obtain rfl : _ = oo := Option.some.inj ho  -- 9: slot 87
                      have h85 := g_eq (t := 85) (v := .slice (some ⟨gm, 0, none⟩) (T.map (mapTo (needF (ownD was k)) d kk)).vals.length f8) (hdep 7 (by kernel_rfl))
                      have h86 := g_eq (t := 86) (v := .int .i64 ↑kk) (hdep 8 (by kernel_rfl))
                      unfold Oper.wp
                      go_simp
                      exact ⟨_, rfl, hK2 _ _ (Chg.refl _ _) rfl⟩
                    · obtain rfl : _ = oo := Option.some.inj ho  -- 10: slot 88
                      have h87 := g_eq (t := 87) (v := .pointer (some ⟨gm, kk * 5, none⟩)) (hdep 9 (by kernel_rfl))
                      unfold Oper.wp
                      go_simp
                      exact ⟨_, rfl, hK2 _ _ (Chg.refl _ _) rfl⟩
                    · obtain rfl : _ = oo := Option.some.inj ho  -- 11: slot 89
                      have h88 := g_eq (t := 88) (v := .agg #[.int .i64 (y).kind, .int .i64 (y).num, .string (y).txt, .slice Z5 (y).keys.length z5, .slice Z6 (y).vals.length z6]) (hdep 10 (by kernel_rfl))
                      have h88 := g_eq (t := 88) (v := .agg #[.int .i64 (y).kind, .int .i64 (y).num, .string (y).txt, .slice Z5 (y).keys.length z5, .slice Z6 (y).vals.length z6]) (hdep 10 (by kernel_rfl))
                      unfold Oper.wp
                      go_simp
                      refine (without_any (o := (fun b => OffB o L (w.heap.size + 2) b ∧ b ≠ NB)) r _ w' HW.out.2.1 HW.out.2.2.2).mono ?_
                      rintro e w3 ⟨v', rfl, hc3, hr3⟩
                      exact ⟨_, rfl, hK2 _ _ hc3 hr3⟩
                    · obtain rfl : _ = oo := Option.some.inj ho  -- 12: slot 90
                      have h78 := g_eq (t := 78) (v := .agg #[.int .i64 (T.map (mapTo (needF (ownD was k)) d kk)).kind, .int .i64 (T.map (mapTo (needF (ownD was k)) d kk)).num, .string (T.map (mapTo (needF (ownD was k)) d kk)).txt, .slice (some ⟨gn, 0, none⟩) (T.map (mapTo (needF (ownD was k)) d kk)).keys.length f7, .slice (some ⟨gm, 0, none⟩) (T.map (mapTo (needF (ownD was k)) d kk)).vals.length f8]) (hdep 0 (by kernel_rfl))
                      have h83 := g_eq (t := 83) (v := .string k2) (hdep 5 (by kernel_rfl))
                      have h78 := g_eq (t := 78) (v := .agg #[.int .i64 (T.map (mapTo (needF (ownD was k)) d kk)).kind, .int .i64 (T.map (mapTo (needF (ownD was k)) d kk)).num, .string (T.map (mapTo (needF (ownD was k)) d kk)).txt, .slice (some ⟨gn, 0, none⟩) (T.map (mapTo (needF (ownD was k)) d kk)).keys.length f7, .slice (some ⟨gm, 0, none⟩) (T.map (mapTo (needF (ownD was k)) d kk)).vals.length f8]) (hdep 0 (by kernel_rfl))
                      have h83 := g_eq (t := 83) (v := .string k2) (hdep 5 (by kernel_rfl))
                      have hr89 : Rd (fun b => OffB o L (w.heap.size + 2) b ∧ b ≠ NB) w' impS (Act.g a' 89) := hdep 11 (by kernel_rfl)
                      generalize h89 : Act.g a' 89 = vv at hr89
                      have h89 := g_eq (t := 89) h89
                      unfold Oper.wp
                      go_simp
                      refine (with_map (o := (fun b => OffB o L (w.heap.size + 2) b ∧ b ≠ NB)) (mapTo (needF (ownD was k)) d kk) impS _ _ k2 w' HW.out.1 (mapTo_srt HD.out.2.1) hr89 HW.out.2.2.1 HW.out.2.2.2).mono ?_
                      rintro e w3 ⟨v', rfl, hc3, hr3⟩
                      rw [show impS = needF (ownD was k) k2 y by unfold needF; rw [HHB.out, HY.out.2, if_neg (by decide), without_imp], mapTo_step HD.out.2.1 HY.out.1] at hr3
                      exact ⟨_, rfl, hK2 _ _ hc3 hr3⟩
                    · omega
                  · intro oo ho u w' hch hφ A2 hA2
                    obtain rfl : _ = oo := Option.some.inj ho
                    have l12 : 12 < 13 := by omega
                    have hu12 : Rd (fun b => OffB o L (w.heap.size + 2) b ∧ b ≠ NB) w' (T.map (mapTo (needF (ownD was k)) d (kk + 1))) (u 12) := hφ 12 l12
                    obtain ⟨H5, h5, H6, h6, hu, _⟩ := hu12.five
                    rw [hu] at hu12
                    have hcB : Chg [] wz w' := (Chg.refl [] wz).dr.trans hch New.nil
                    have hcr : Chg [] wr w' := HZ.out.trans hcB New.nil
                    have HI3 := Lib.hid (HIK.out.go hcr)
                    obtain ⟨W5, hW5⟩ : ∃ W5, W5 = (((((w'.setCell ⟨NB, 0, none⟩ (.int .i64 (T.map (mapTo (needF (ownD was k)) d (kk + 1))).kind)).setCell ⟨NB, 1, none⟩ (.int .i64 (T.map (mapTo (needF (ownD was k)) d (kk + 1))).num)).setCell ⟨NB, 2, none⟩ (.string (T.map (mapTo (needF (ownD was k)) d (kk + 1))).txt)).setCell ⟨NB, 3, none⟩ (.slice H5 (T.map (mapTo (needF (ownD was k)) d (kk + 1))).keys.length h5)).setCell ⟨NB, 4, none⟩ (.slice H6 (T.map (mapTo (needF (ownD was k)) d (kk + 1))).vals.length h6)) := ⟨_, rfl⟩
                    have HI5 := Lib.hid (HI3.out.put hu12 W5 hW5)
                    have HW5 := Lib.hid hW5
                    have hbz := box5 HNX.out.1 _ hcr
                    simp [putAll, dOf, Act.put, hu] at hA2
                    subst hA2
                    clear hφ l12 ho hu hu12 hcB hcr hW5 hch
                    obtain ⟨b0, b1, b2, b3, b4, bf⟩ := cells5 hbz
                    clear hbz
                    unfold Oper.wp
                    go_simp
                    refine HK.out _ _ ?_
                    clear HK b0 b1 b2 b3 b4 bf
                    go_wp2_with fail
                    rw [← HW5.out]
                    go_roundg (d.length - (kk + 1))
                    case measure => omega
                    case rel => exact ⟨kk + 1, by omega, rfl, by go_num, HI5.out⟩
            · have hlkk : ¬ kk < (T.map (mapTo (needF (ownD was k)) d kk)).keys.length := by rw [HKD.out]; omega
              have HE2 : Hid (kk = d.length) := Lib.hid (by omega)
              have HSL : Hid (s.length ≤ 67108864) := Lib.hid (by have h := hft.len.1; rw [HXM.out.2.1] at h; simpa [T.vals] using h)
              clear hnr
              go_wp2_with fail
              clear b0 b1 b2 b3 b4 bf
              refine wp_region_tail (by rfl) (by kernel_rfl) [5, 9, 10, 11] (by kernel_rfl)
                (fun j u V => match j with
                  | 0 => u = .agg #[.int .i64 (T.map (mapTo (bareF was) lv n)).kind, .int .i64 (T.map (mapTo (bareF was) lv n)).num, .string (T.map (mapTo (bareF was) lv n)).txt, .slice (some ⟨gk, 0, none⟩) (T.map (mapTo (bareF was) lv n)).keys.length r7, .slice (some ⟨ge, 0, none⟩) (T.map (mapTo (bareF was) lv n)).vals.length r8]
                  | 1 => u = .pointer (some ⟨L, 3, none⟩)
                  | 2 => u = .slice (some ⟨gk, 0, none⟩) (T.map (mapTo (bareF was) lv n)).keys.length r7
                  | 3 => u = .int .i64 ↑n
                  | 4 => u = .pointer (some ⟨gk, n, none⟩)
                  | 5 => u = .string k
                  | 6 => u = .agg #[.int .i64 (t).kind, .int .i64 (t).num, .string (t).txt, .slice X5 (t).keys.length x5, .slice X6 (t).vals.length x6]
                  | 7 => u = .agg #[.int .i64 (T.map (mapTo (needF (ownD was k)) d kk)).kind, .int .i64 (T.map (mapTo (needF (ownD was k)) d kk)).num, .string (T.map (mapTo (needF (ownD was k)) d kk)).txt, .slice F7 (T.map (mapTo (needF (ownD was k)) d kk)).keys.length f7, .slice F8 (T.map (mapTo (needF (ownD was k)) d kk)).vals.length f8]
                  | 8 => Rd (OffB o L (w.heap.size + 2)) V (bareF was k t) u
                  | 9 => Rd (OffB o L (w.heap.size + 2)) V (T.map (mapTo (bareF was) lv (n + 1))) u
                  | _ => True) ?_ ?_ ?_
              · intro j u V V' hc hφ
                rcases j with _ | _ | _ | _ | _ | _ | _ | _ | _ | _ | j
                all_goals first | exact hφ | exact Rd.chg hφ hc
              · intro j oo hj ho a' w' hst hch hdep K2 hK2
                have hsz : wr.heap.size ≤ w'.heap.size := hch.size
                have hcB : Chg [] wr w' := (Chg.refl [] wr).dr.trans hch New.nil
                have hcr : Chg [] wr w' := (Chg.refl [] wr).trans hcB New.nil
                have hcq : Chg [] wq w' := HIK.out.chg.trans hcr New.nil
                have hcw : Chg [] w w' := HBI.out.chg.trans hcq New.nil
                have hszr' : wr.heap.size ≤ w'.heap.size := hcr.size
                obtain ⟨b0, b1, b2, b3, b4, bf⟩ := cells5 (box5 HNX.out.1 _ hcr)
                obtain ⟨l0, l1, l2, l3, l4, lf⟩ := cells5 (box5 HDX.out.1 _ hcq)
                obtain ⟨x0, x1, x2, x3, x4, xf⟩ := cells5 (HIK.out.go hcr).xbx
                have yk := YK.out _ hcq
                have HW : Hid (Rd (OffB o L (w.heap.size + 2)) w' (T.map (mapTo (bareF was) lv n)) (.agg #[.int .i64 (T.map (mapTo (bareF was) lv n)).kind, .int .i64 (T.map (mapTo (bareF was) lv n)).num, .string (T.map (mapTo (bareF was) lv n)).txt, .slice (some ⟨gk, 0, none⟩) (T.map (mapTo (bareF was) lv n)).keys.length r7, .slice (some ⟨ge, 0, none⟩) (T.map (mapTo (bareF was) lv n)).vals.length r8]) ∧ Rd (OffB o L (w.heap.size + 2)) w' (.map s) (.agg #[.int .i64 (t).kind, .int .i64 (t).num, .string (t).txt, .slice X5 (t).keys.length x5, .slice X6 (t).vals.length x6]) ∧ Rd (OffB o L (w.heap.size + 2)) w' (T.map (mapTo (needF (ownD was k)) d kk)) (.agg #[.int .i64 (T.map (mapTo (needF (ownD was k)) d kk)).kind, .int .i64 (T.map (mapTo (needF (ownD was k)) d kk)).num, .string (T.map (mapTo (needF (ownD was k)) d kk)).txt, .slice F7 (T.map (mapTo (needF (ownD was k)) d kk)).keys.length f7, .slice F8 (T.map (mapTo (needF (ownD was k)) d kk)).vals.length f8]) ∧ (mapTo (bareF was) lv n).length ≤ 67108864 ∧ ∀ b, w'.heap.size ≤ b → OffB o L (w.heap.size + 2) b) := Lib.hid ⟨HDX.out.2.chg hcq, ((HRX.out.chg hcq).weak fun b hb => hb.1).cast HXM.out.2.1, (HNX.out.2.chg hcr).weak fun b hb => hb.1, by omega, fun b hb => ⟨hno b (by omega), by omega, by omega⟩⟩
                have hj' : j < 10 := hj
                rcases j with _ | _ | _ | _ | _ | _ | _ | _ | _ | _ | j
                · obtain rfl : _ = oo := Option.some.inj ho  -- 0: slot 92
                  have h5 := g_eq (t := 5) (v := .pointer (some ⟨L, 0, none⟩)) (hst 5 (by simp))
                  unfold Oper.wp
                  go_simp
                  exact ⟨_, rfl, hK2 _ _ (Chg.refl _ _) rfl⟩
                · obtain rfl : _ = oo := Option.some.inj ho  -- 1: slot 93
                  have h5 := g_eq (t := 5) (v := .pointer (some ⟨L, 0, none⟩)) (hst 5 (by simp))
                  unfold Oper.wp
                  go_simp
                  exact ⟨_, rfl, hK2 _ _ (Chg.refl _ _) rfl⟩
                · obtain rfl : _ = oo := Option.some.inj ho  -- 2: slot 94
                  have h93 := g_eq (t := 93) (v := .pointer (some ⟨L, 3, none⟩)) (hdep 1 (by kernel_rfl))
                  unfold Oper.wp
                  go_simp
                  exact ⟨_, rfl, hK2 _ _ (Chg.refl _ _) rfl⟩
                · obtain rfl : _ = oo := Option.some.inj ho  -- 3: slot 95
                  have h9 := g_eq (t := 9) (v := .int .i64 ↑n) (hst 9 (by simp))
                  unfold Oper.wp
                  go_simp
                  exact ⟨_, rfl, hK2 _ _ (Chg.refl _ _) rfl⟩
                · obtain rfl : _ = oo := Option.some.inj ho  -- 4: slot 96
                  have h94 := g_eq (t := 94) (v := .slice (some ⟨gk, 0, none⟩) (T.map (mapTo (bareF was) lv n)).keys.length r7) (hdep 2 (by kernel_rfl))
                  have h95 := g_eq (t := 95) (v := .int .i64 ↑n) (hdep 3 (by kernel_rfl))
                  unfold Oper.wp
                  go_simp
                  exact ⟨_, rfl, hK2 _ _ (Chg.refl _ _) rfl⟩
                · obtain rfl : _ = oo := Option.some.inj ho  -- 5: slot 97
                  have h96 := g_eq (t := 96) (v := .pointer (some ⟨gk, n, none⟩)) (hdep 4 (by kernel_rfl))
                  unfold Oper.wp
                  go_simp
                  exact ⟨_, rfl, hK2 _ _ (Chg.refl _ _) rfl⟩
                · obtain rfl : _ = oo := Option.some.inj ho  -- 6: slot 98
                  have h10 := g_eq (t := 10) (v := .pointer (some ⟨wq.heap.size, 0, none⟩)) (hst 10 (by simp))
                  unfold Oper.wp
                  go_simp
                  exact ⟨_, rfl, hK2 _ _ (Chg.refl _ _) rfl⟩
                · obtain rfl : _ = oo := Option.some.inj ho  -- 7: slot 99
                  have h11 := g_eq (t := 11) (v := .pointer (some ⟨NB, 0, none⟩)) (hst 11 (by simp))
                  unfold Oper.wp
                  go_simp
                  exact ⟨_, rfl, hK2 _ _ (Chg.refl _ _) rfl⟩
                · obtain rfl : _ = oo := Option.some.inj ho  -- 8: slot 100
                  have h98 := g_eq (t := 98) (v := .agg #[.int .i64 (t).kind, .int .i64 (t).num, .string (t).txt, .slice X5 (t).keys.length x5, .slice X6 (t).vals.length x6]) (hdep 6 (by kernel_rfl))
                  have h99 := g_eq (t := 99) (v := .agg #[.int .i64 (T.map (mapTo (needF (ownD was k)) d kk)).kind, .int .i64 (T.map (mapTo (needF (ownD was k)) d kk)).num, .string (T.map (mapTo (needF (ownD was k)) d kk)).txt, .slice F7 (T.map (mapTo (needF (ownD was k)) d kk)).keys.length f7, .slice F8 (T.map (mapTo (needF (ownD was k)) d kk)).vals.length f8]) (hdep 7 (by kernel_rfl))
                  have h98 := g_eq (t := 98) (v := .agg #[.int .i64 (t).kind, .int .i64 (t).num, .string (t).txt, .slice X5 (t).keys.length x5, .slice X6 (t).vals.length x6]) (hdep 6 (by kernel_rfl))
                  have h99 := g_eq (t := 99) (v := .agg #[.int .i64 (T.map (mapTo (needF (ownD was k)) d kk)).kind, .int .i64 (T.map (mapTo (needF (ownD was k)) d kk)).num, .string (T.map (mapTo (needF (ownD was k)) d kk)).txt, .slice F7 (T.map (mapTo (needF (ownD was k)) d kk)).keys.length f7, .slice F8 (T.map (mapTo (needF (ownD was k)) d kk)).vals.length f8]) (hdep 7 (by kernel_rfl))
                  unfold Oper.wp
                  go_simp
                  refine (with_map (o := OffB o L (w.heap.size + 2)) s (T.map (mapTo (needF (ownD was k)) d kk)) _ _ kDependsOn w' HW.out.2.1 HXM.out.2.2.1 HW.out.2.2.1 HSL.out HW.out.2.2.2.2).mono ?_
                  rintro e w3 ⟨v', rfl, hc3, hr3⟩
                  rw [← bareD_eq HE2.out, ← bareF_some HD.out.1, ← HXM.out.2.1] at hr3
                  exact ⟨_, rfl, hK2 _ _ hc3 hr3⟩
                · obtain rfl : _ = oo := Option.some.inj ho  -- 9: slot 101
                  have h92 := g_eq (t := 92) (v := .agg #[.int .i64 (T.map (mapTo (bareF was) lv n)).kind, .int .i64 (T.map (mapTo (bareF was) lv n)).num, .string (T.map (mapTo (bareF was) lv n)).txt, .slice (some ⟨gk, 0, none⟩) (T.map (mapTo (bareF was) lv n)).keys.length r7, .slice (some ⟨ge, 0, none⟩) (T.map (mapTo (bareF was) lv n)).vals.length r8]) (hdep 0 (by kernel_rfl))
                  have h97 := g_eq (t := 97) (v := .string k) (hdep 5 (by kernel_rfl))
                  have h92 := g_eq (t := 92) (v := .agg #[.int .i64 (T.map (mapTo (bareF was) lv n)).kind, .int .i64 (T.map (mapTo (bareF was) lv n)).num, .string (T.map (mapTo (bareF was) lv n)).txt, .slice (some ⟨gk, 0, none⟩) (T.map (mapTo (bareF was) lv n)).keys.length r7, .slice (some ⟨ge, 0, none⟩) (T.map (mapTo (bareF was) lv n)).vals.length r8]) (hdep 0 (by kernel_rfl))
                  have h97 := g_eq (t := 97) (v := .string k) (hdep 5 (by kernel_rfl))
                  have hr100 : Rd (OffB o L (w.heap.size + 2)) w' (bareF was k t) (Act.g a' 100) := hdep 8 (by kernel_rfl)
                  generalize h100 : Act.g a' 100 = vv at hr100
                  have h100 := g_eq (t := 100) h100
                  unfold Oper.wp
                  go_simp
                  refine (with_map (o := OffB o L (w.heap.size + 2)) (mapTo (bareF was) lv n) (bareF was k t) _ _ k w' HW.out.1 (mapTo_srt HV.out.2.2.1.wf.1) hr100 HW.out.2.2.2.1 HW.out.2.2.2.2).mono ?_
                  rintro e w3 ⟨v', rfl, hc3, hr3⟩
                  rw [mapTo_step HV.out.2.2.1.wf.1 HXM.out.1] at hr3
                  exact ⟨_, rfl, hK2 _ _ hc3 hr3⟩
                · omega
              · intro oo ho u w' hch hφ A2 hA2
                obtain rfl : _ = oo := Option.some.inj ho
                have l9 : 9 < 10 := by omega
                have hu9 : Rd (OffB o L (w.heap.size + 2)) w' (T.map (mapTo (bareF was) lv (n + 1))) (u 9) := hφ 9 l9
                obtain ⟨H5, h5, H6, h6, hu, _⟩ := hu9.five
                rw [hu] at hu9
                have hcr : Chg [] wr w' := (Chg.refl [] wr).dr.trans hch New.nil
                have hcq : Chg [] wq w' := HIK.out.chg.trans hcr New.nil
                have HI3 := Lib.hid (HBI.out.go hcq)
                obtain ⟨W5, hW5⟩ : ∃ W5, W5 = (((((w'.setCell ⟨L, 0, none⟩ (.int .i64 (T.map (mapTo (bareF was) lv (n + 1))).kind)).setCell ⟨L, 1, none⟩ (.int .i64 (T.map (mapTo (bareF was) lv (n + 1))).num)).setCell ⟨L, 2, none⟩ (.string (T.map (mapTo (bareF was) lv (n + 1))).txt)).setCell ⟨L, 3, none⟩ (.slice H5 (T.map (mapTo (bareF was) lv (n + 1))).keys.length h5)).setCell ⟨L, 4, none⟩ (.slice H6 (T.map (mapTo (bareF was) lv (n + 1))).vals.length h6)) := ⟨_, rfl⟩
                have HI5 := Lib.hid (HI3.out.put hu9 W5 hW5)
                have HW5 := Lib.hid hW5
                have hbz := box5 HDX.out.1 _ hcq
                simp [putAll, dOf, Act.put, hu] at hA2
                subst hA2
                clear hφ l9 ho hu hu9 hcq hcr hW5 hch
                obtain ⟨b0, b1, b2, b3, b4, bf⟩ := cells5 hbz
                clear hbz
                unfold Oper.wp
                go_simp
                refine hKR _ _ ?_
                clear hKR b0 b1 b2 b3 b4 bf
                go_wp2_with fail
                rw [← HW5.out]
                go_roundg (lv.length - (n + 1))
                case measure => omega
                case rel => exact ⟨n + 1, by omega, rfl, by go_num, HI5.out⟩
    · have hlk : ¬ n < (T.map (mapTo (bareF was) lv n)).keys.length := by rw [HKL.out]; omega
      have HE1 : Hid (n = lv.length) := Lib.hid (by omega)
      have hchx := HBI.out.chg
      obtain ⟨a0, a1, a2, a3, a4, af⟩ := cells5 HBI.out.par
      go_wp2_with fail
      have hsw : w.heap.size ≤ wr.heap.size := hchx.size
      refine (with_map (o := OffB o L (w.heap.size + 2)) v (T.map (mapTo (bareF was) lv n)) _ _ kServices wr ((HV.out.1.to fun b hb ho => ⟨⟨ho, by omega, by omega⟩, rfl⟩ : Rd (OffB o L (w.heap.size + 2)) w (.map v) _).chg hchx) HV.out.2.2.2.2.2.1 HDX.out.2 HV.out.2.2.2.2.2.2 (fun b hb => ⟨hno b (by omega), by omega, by omega⟩)).mono ?_
      rintro e w9 ⟨v9, rfl, hc9, hr9⟩
      obtain ⟨M5, m5, M6, m6, rfl, hyz⟩ := hr9.five
      clear hyz l0 l1 l2 l3 l4 lf a0 a1 a2 a3 a4 af hdr
      have hres := box5 HBI.out.res _ hc9
      have hch9 := hchx.trans hc9 New.nil
      have HR9 := Lib.hid hr9
      clear hr9
      obtain ⟨d0, d1, d2, d3, d4, df⟩ := cells5 hres
      go_wp2
      obtain ⟨W, hW, Q, hne, hcW, _⟩ := store5 hres hch9 (by omega : w.heap.size ≤ w.heap.size + 2) (.int .i64 (T.map (mins kServices (T.map (mapTo (bareF was) lv n)) v)).kind) (.int .i64 (T.map (mins kServices (T.map (mapTo (bareF was) lv n)) v)).num) (.string (T.map (mins kServices (T.map (mapTo (bareF was) lv n)) v)).txt) (.slice M5 (T.map (mins kServices (T.map (mapTo (bareF was) lv n)) v)).keys.length m5) (.slice M6 (T.map (mins kServices (T.map (mapTo (bareF was) lv n)) v)).vals.length m6)
      rw [← hW]
      obtain ⟨e0, e1, e2, e3, e4, _⟩ := cells5 Q
      refine bodyPost_ret (v := .agg #[.int .i64 (T.map (mins kServices (T.map (mapTo (bareF was) lv n)) v)).kind, .int .i64 (T.map (mins kServices (T.map (mapTo (bareF was) lv n)) v)).num, .string (T.map (mins kServices (T.map (mapTo (bareF was) lv n)) v)).txt, .slice M5 (T.map (mins kServices (T.map (mapTo (bareF was) lv n)) v)).keys.length m5, .slice M6 (T.map (mins kServices (T.map (mapTo (bareF was) lv n)) v)).vals.length m6]) (by simp [results, Tryz.results17, go_sem, e0, e1, e2, e3, e4]) rfl ⟨_, rfl, hcW, ?_⟩
      have hbt : bareTop was v = mins kServices (T.map (mapTo (bareF was) lv n)) v := by
        have h := bareTop_eq (was := was) (v := v) (n := n) (by rw [HV.out.2.1]; exact HE1.out)
        rwa [HV.out.2.1] at h
      rw [hbt]
      exact HR9.out.to fun b _ ho => ⟨ho.1, hne b ho.2.2⟩
end Go.Proofs.YtedbfoknfdiadaaGreatDoor
