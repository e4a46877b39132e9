/- spec.normNeeds. Conditions: lengths. -/
import Derived.Test.YtedbfoknfdiadaaGreatDoorNeed
import Derived.Deep.DeepCutAuto
set_option linter.unusedVariables false
set_option linter.unusedSimpArgs false
namespace Go.Proofs.YtedbfoknfdiadaaGreatDoor
open Go.RowKit
variable {o : Nat → Prop}
set_option maxRecDepth 100000

/-- What holds at the joints of normNeeds: the box D reads as x. -/
structure NInv (o : Nat → Prop) (w : World) (D : Nat) (P5 : Array Value) (x : T) (wx : World) : Prop where
  chg : Chg [] w wx
  par : wx.heap[w.heap.size]? = some (.cells P5 25)
  res : wx.heap[w.heap.size + 1]? = some (.cells #[.int .i64 0, .int .i64 0, .string ⟨#[]⟩, .slice none 0 0, .slice none 0 0] 25)
  lt : w.heap.size + 1 < D
  box : ∃ A5 q5 A6 q6, wx.heap[D]? = some (.cells #[.int .i64 x.kind, .int .i64 x.num, .string x.txt, .slice A5 x.keys.length q5, .slice A6 x.vals.length q6] 25) ∧ Rd (OffB o D (w.heap.size + 1)) wx x (.agg #[.int .i64 x.kind, .int .i64 x.num, .string x.txt, .slice A5 x.keys.length q5, .slice A6 x.vals.length q6])
theorem NInv.go {w wx wy : World} {D : Nat} {P5 : Array Value} {x : T} (h : NInv o w D P5 x wx) (hc : Chg [] wx wy) : NInv o w D P5 x wy := by
  obtain ⟨A5, q5, A6, q6, hb, hr⟩ := h.box
  exact ⟨h.chg.trans hc New.nil, (hc.block _ (Array.getElem?_eq_some_iff.1 h.par).1 (by simp)).trans h.par, (hc.block _ (Array.getElem?_eq_some_iff.1 h.res).1 (by simp)).trans h.res, h.lt, A5, q5, A6, q6, (hc.block _ (Array.getElem?_eq_some_iff.1 hb).1 (by simp)).trans hb, hr.chg hc⟩
theorem NInv.put {w wx : World} {D : Nat} {P5 : Array Value} {x y : T} (h : NInv o w D P5 x wx) {A5 A6 : Option Addr} {q5 q6 : Nat} (hr : Rd (OffB o D (w.heap.size + 1)) wx y (.agg #[.int .i64 y.kind, .int .i64 y.num, .string y.txt, .slice A5 y.keys.length q5, .slice A6 y.vals.length q6])) :
    ∀ W, W = (((((wx.setCell ⟨D, 0, none⟩ (.int .i64 y.kind)).setCell ⟨D, 1, none⟩ (.int .i64 y.num)).setCell ⟨D, 2, none⟩ (.string y.txt)).setCell ⟨D, 3, none⟩ (.slice A5 y.keys.length q5)).setCell ⟨D, 4, none⟩ (.slice A6 y.vals.length q6)) → NInv o w D P5 y W := by
  intro W hW
  obtain ⟨A7, q7, A8, q8, hb, _⟩ := h.box
  have hlt := h.lt
  obtain ⟨W', hW', Q, hne, hcW, _⟩ := store5 hb h.chg (by omega : w.heap.size ≤ D) (.int .i64 y.kind) (.int .i64 y.num) (.string y.txt) (.slice A5 y.keys.length q5) (.slice A6 y.vals.length q6)
  obtain rfl : W = W' := hW.trans hW'.symm
  exact ⟨hcW, (hne _ (by omega)).trans h.par, (hne _ (by omega)).trans h.res, h.lt, A5, q5, A6, q6, Q, hr.to fun b _ ho => ⟨ho, hne b ho.2.1⟩⟩
def DepOK (s : List (ByteArray × T)) : Prop := ∀ t, mget kDependsOn s = some t → ∃ d, t = .map d ∧ d ≠ []
def ModeOK (s : List (ByteArray × T)) : Prop := ∀ t, mget kNetworkMode s = some t → (∃ x, t = .text x) ∧ hasK kNetworks s = false
theorem tget_m {k : ByteArray} {t : T} : tget k t = mget k t.m := by cases t <;> rfl
theorem tget_size {k : ByteArray} {t x : T} (h : tget k t = some x) : T.size x < T.size t := by
  cases t with
  | map m =>
    have hm : x ∈ (T.map m).vals := List.mem_map.2 ⟨_, get_some (h : mget k m = some x), rfl⟩
    obtain ⟨j, hj, e⟩ := List.mem_iff_getElem.1 hm
    have h1 := T.sizeL_at (l := (T.map m).vals) (j := j) (t := x) (by rw [List.getElem?_eq_getElem hj, e])
    have h2 := T.size_vals (.map m)
    omega
  | _ => cases h
/-- The attribute of round n; what is depended on behind n rounds. -/
def keyN : Nat → ByteArray
  | 0 => kLinks
  | _ => kVolumesFrom
def depN (s : List (ByteArray × T)) : Nat → List (ByteArray × T)
  | 0 => needs impS (dep0 s) (nmode s)
  | n + 1 => needs impS (depN s n) (lnk (keyN n) s)
/-- The names in a list of links. -/
def pnm (l : List T) : List ByteArray := l.map (fun y => part0 y.txt)
def LinkEl (y : T) : Prop := y.kind = 3 ∧ part0 y.txt ≠ kContainer ∧ cnt y.txt y.txt.size ≤ 1
theorem needs_snoc {f : T} {d : List (ByteArray × T)} {ks : List ByteArray} {k : ByteArray} : needs f d (ks ++ [k]) = need f (needs f d ks) k := by simp [needs]
theorem lnk_len {k : ByteArray} {t : T} : (lnk k t.m).length ≤ T.size t := by
  unfold lnk
  rw [← tget_m]
  cases hg : tget k t with
  | none => exact Nat.zero_le _
  | some x =>
    cases x with
    | list l =>
      have h1 := tget_size hg
      have h2 := T.vals_len (.list l)
      simp only [T.vals] at h2
      simp only [List.length_map]
      omega
    | _ => exact Nat.zero_le _
theorem nmode_len {s : List (ByteArray × T)} : (nmode s).length ≤ 1 := by
  unfold nmode
  split
  · split <;> simp
  · simp
theorem depN_srt {s : List (ByteArray × T)} (h : Srt (dep0 s)) : ∀ n, Srt (depN s n)
  | 0 => needs_srt h
  | n + 1 => needs_srt (depN_srt h n)
theorem depN_len {t : T} : ∀ n, (depN t.m n).length ≤ (dep0 t.m).length + 1 + n * T.size t
  | 0 => by
    have h1 := needs_len (f := impS) (d := dep0 t.m) (ks := nmode t.m)
    have h2 := nmode_len (s := t.m)
    show (needs impS (dep0 t.m) (nmode t.m)).length ≤ _
    omega
  | n + 1 => by
    have h1 := depN_len (t := t) n
    have h2 := needs_len (f := impS) (d := depN t.m n) (ks := lnk (keyN n) t.m)
    have h3 := lnk_len (k := keyN n) (t := t)
    have h4 : (n + 1) * T.size t = n * T.size t + T.size t := by rw [Nat.add_mul, Nat.one_mul]
    show (needs impS (depN t.m n) (lnk (keyN n) t.m)).length ≤ _
    omega
theorem LinkEl.text {y : T} (h : LinkEl y) : ∃ a, y = .text a ∧ part0 a ≠ kContainer ∧ cnt a a.size ≤ 1 := by
  obtain ⟨h1, h2, h3⟩ := h
  cases y with
  | text a => exact ⟨a, rfl, h2, h3⟩
  | _ => cases h1
theorem tget_kind {k : ByteArray} {t x : T} (h : tget k t = some x) : t.kind = 5 := by
  cases t <;> first | rfl | cases h
theorem isSome_kind {k : ByteArray} {t : T} (h : (tget k t).isSome = true) : t.kind = 5 := by
  cases t <;> first | rfl | cases h
theorem getD_kind {k : ByteArray} {t x y : T} {m : Nat} (h : (tget k t).getD .null = x) (hy : x.vals[m]? = some y) : t.kind = 5 := by
  cases hg : tget k t with
  | none => rw [hg] at h; subst h; simp [T.vals] at hy
  | some z => exact tget_kind hg
/-- What normNeeds answers. -/
def NeedsR (o : Nat → Prop) (w : World) (t : T) (e : Ending) (w' : World) : Prop := ∃ v' b x, e = .returned (.tuple #[v', .bool b]) ∧ Chg [] w w' ∧ Rd o w' x v' ∧ (b = true → NeedsOK t.m ∧ x = .map (depsS t.m)) ∧ (b = false → t.kind = 5)

set_option maxHeartbeats 4000000 in
theorem normNeeds_any (t : T) (v : Value) (w : World) (h : Rd o w t v) (hf : Fine t) (hz : T.size t ≤ 16777216) (hno : ∀ b, w.heap.size ≤ b → o b) :
    Calls Tryz.prog 49 #[v] w (NeedsR o w t) := by
  obtain ⟨A3, q3, A4, q4, rfl, hk, hv⟩ := h.five
  have HG : Hid (∀ k W, Chg [] w W → Calls Tryz.prog 19 #[.agg #[.int .i64 t.kind, .int .i64 t.num, .string t.txt, .slice A3 t.keys.length q3, .slice A4 t.vals.length q4], .string k] W fun e w' => ∃ v', e = .returned (.tuple #[v', .bool (tget k t).isSome]) ∧ Chg [] W w' ∧ Rd (fun b => o b ∧ b < w.heap.size) w' ((tget k t).getD .null) v') :=
    Lib.hid fun k W hc => get_any t _ k W (h.lo.chg hc) hf.wf.srt hf.len.2.2
  have HHAS : Hid (∀ k W, Chg [] w W → Calls Tryz.prog 33 #[.agg #[.int .i64 t.kind, .int .i64 t.num, .string t.txt, .slice A3 t.keys.length q3, .slice A4 t.vals.length q4], .string k] W fun e w' => e = .returned (.bool (tget k t).isSome) ∧ Chg [] W w') :=
    Lib.hid fun k W hc => has_any t _ k W (h.chg hc) hf.wf.srt hf.len.2.2
  have hd0s : Srt (dep0 t.m) ∧ (dep0 t.m).length ≤ 16777216 := by
    unfold dep0
    cases hg : mget kDependsOn t.m with
    | none => exact ⟨List.Pairwise.nil, Nat.zero_le _⟩
    | some x =>
      cases x with
      | map d =>
        have hx := hf.get (t := t) (by rw [tget_m]; exact hg)
        refine ⟨hx.wf.1, ?_⟩
        have := tget_size (by rw [tget_m]; exact hg : tget kDependsOn t = some (.map d))
        have h2 := T.vals_len (.map d)
        simp [T.vals] at h2
        show d.length ≤ _
        omega
      | _ => exact ⟨List.Pairwise.nil, Nat.zero_le _⟩
  have HD0S := Lib.hid hd0s
  clear hd0s
  go_enter Tryz.func49, Tryz.ntmps49
  go_wp2_with fail
  refine (specEmpty (o := fun _ => False) _).mono ?_
  rintro e w1 ⟨v0, rfl, hc1, hr0⟩
  obtain ⟨A5, q5, A6, q6, rfl⟩ := hr0.five_map
  have hcw := (((Chg.refl [] w).al _).al _).trans hc1 New.nil
  have z1 := box5 (heap_al1 w (.cells #[.int .i64 t.kind, .int .i64 t.num, .string t.txt, .slice A3 t.keys.length q3, .slice A4 t.vals.length q4] 25) (.cells #[.int .i64 0, .int .i64 0, .string ⟨#[]⟩, .slice none 0 0, .slice none 0 0] 25)) _ hc1
  have z2 := box5 (heap_al2 w (.cells #[.int .i64 t.kind, .int .i64 t.num, .string t.txt, .slice A3 t.keys.length q3, .slice A4 t.vals.length q4] 25) (.cells #[.int .i64 0, .int .i64 0, .string ⟨#[]⟩, .slice none 0 0, .slice none 0 0] 25)) _ hc1
  have hszr : w.heap.size + 2 ≤ w1.heap.size := by have := hc1.size; simpa using this
  clear hc1
  have hN0 : NInv o w w1.heap.size #[.int .i64 t.kind, .int .i64 t.num, .string t.txt, .slice A3 t.keys.length q3, .slice A4 t.vals.length q4] (.map []) (w1.alloc (.cells #[.int .i64 5, .int .i64 0, .string ⟨#[]⟩, .slice A5 0 q5, .slice A6 0 q6] 25)) :=
    ⟨hcw.al _, (heap_alloc_old _ _ _ (by omega)).trans z1, (heap_alloc_old _ _ _ (by omega)).trans z2, by omega, A5, q5, A6, q6, heap_alloc_new _ _, (hr0.weak fun _ h => h.elim).chg ((Chg.refl [] w1).al _)⟩
  have HN0 := Lib.hid hN0
  obtain ⟨a0, a1, a2, a3, a4, af⟩ := cells5 z1
  have b0 := cell_al a0
  have b1 := cell_al a1
  have b2 := cell_al a2
  have b3 := cell_al a3
  have b4 := cell_al a4
  clear hN0 hr0 z1 z2
  go_wp2_with fail
  refine (HG.out kDependsOn _ HN0.out.chg).mono ?_
  rintro e w2 ⟨v', rfl, hc2, hr2⟩
  obtain ⟨x, hx⟩ : ∃ x, (tget kDependsOn t).getD .null = x := ⟨_, rfl⟩
  obtain ⟨bq, hbq⟩ : ∃ bq, (tget kDependsOn t).isSome = bq := ⟨_, rfl⟩
  rw [hx] at hr2
  rw [hbq]
  obtain ⟨A7, q7, A8, q8, rfl, _⟩ := hr2.five
  have HXB := Lib.hid (And.intro hx hbq)
  clear hx hbq
  have hN1 := HN0.out.go hc2
  have HN1 := Lib.hid hN1
  have HR2 := Lib.hid hr2
  have HC2 := Lib.hid hc2
  clear hN1 hr2 hc2 a0 a1 a2 a3 a4 af b0 b1 b2 b3 b4
  go_upto_if 23 with fail
  go_cut [] (fun wx => NInv o w w1.heap.size #[.int .i64 t.kind, .int .i64 t.num, .string t.txt, .slice A3 t.keys.length q3, .slice A4 t.vals.length q4] (.map (dep0 t.m)) wx ∧ DepOK t.m)
  case first => as_aux_lemma =>
    cases bq with
    | false =>
      have hg : tget kDependsOn t = none := by
        cases hg : tget kDependsOn t with
        | none => rfl
        | some y => have := HXB.out.2; rw [hg] at this; cases this
      have hd0 : dep0 t.m = [] := by unfold dep0; rw [← tget_m, hg]
      have HGG := Lib.hid hg
      clear hg
      go_wp2_with fail
      go_meet
      rw [hd0]
      exact ⟨HN1.out.go ((Chg.refl [] w2).al _), fun t' ht' => by rw [← tget_m, HGG.out] at ht'; cases ht'⟩
    | true =>
      have hg : tget kDependsOn t = some x := by
        cases hg : tget kDependsOn t with
        | none => have := HXB.out.2; rw [hg] at this; cases this
        | some y => have := HXB.out.1; rw [hg] at this; rw [← this]; rfl
      have hr2 := HR2.out
      have hfx := hf.get hg
      have HGG := Lib.hid hg
      clear hg
      obtain ⟨_, _, _, _, he, _, hvx⟩ := hr2.five
      cases he
      obtain ⟨W, hW⟩ : ∃ W, W = w2.alloc (.cells #[.int .i64 x.kind, .int .i64 x.num, .string x.txt, .slice A7 x.keys.length q7, .slice A8 x.vals.length q8] 25) := ⟨_, rfl⟩
      have hcX : Chg [] w2 W := hW ▸ (Chg.refl [] w2).al _
      have hX5 : W.heap[w2.heap.size]? = some (.cells #[.int .i64 x.kind, .int .i64 x.num, .string x.txt, .slice A7 x.keys.length q7, .slice A8 x.vals.length q8] 25) := hW ▸ heap_alloc_new w2 _
      rw [← hW]
      clear hW
      have hN2 := HN1.out.go hcX
      have hrx : Rd (OffB o w1.heap.size (w.heap.size + 1)) W x _ := (hr2.weak fun b hb => ⟨hb.1, by omega, by omega⟩).chg hcX
      have hs2 : w1.heap.size < w2.heap.size := by
        obtain ⟨_, _, _, _, hb, _⟩ := HN1.out.box
        exact (Array.getElem?_eq_some_iff.1 hb).1
      obtain ⟨W3, hW3⟩ : ∃ W3, W3 = (((((W.setCell ⟨w1.heap.size, 0, none⟩ (.int .i64 x.kind)).setCell ⟨w1.heap.size, 1, none⟩ (.int .i64 x.num)).setCell ⟨w1.heap.size, 2, none⟩ (.string x.txt)).setCell ⟨w1.heap.size, 3, none⟩ (.slice A7 x.keys.length q7)).setCell ⟨w1.heap.size, 4, none⟩ (.slice A8 x.vals.length q8)) := ⟨_, rfl⟩
      have hN3 := hN2.put hrx W3 hW3
      have hX6 := (setCells5_ne W w1.heap.size (.int .i64 x.kind) (.int .i64 x.num) (.string x.txt) (.slice A7 x.keys.length q7) (.slice A8 x.vals.length q8) w2.heap.size (by omega)).trans hX5
      rw [← hW3] at hX6
      have hcX3 : ∀ b, b < w1.heap.size → W3.heap[b]? = w2.heap[b]? := fun b hb => by
        rw [hW3, setCells5_ne W w1.heap.size _ _ _ _ _ b (by omega)]
        exact hcX.block b (by omega) (by simp)
      obtain ⟨_, _, _, _, hbx, _⟩ := hN2.box
      obtain ⟨b0, b1, b2, b3, b4, bf⟩ := cells5 hbx
      obtain ⟨x0, x1, x2, x3, x4, xf⟩ := cells5 hX5
      have HN3 := Lib.hid (And.intro hN3 (And.intro hX6 (And.intro hcX3 hW3)))
      have HVX := Lib.hid hvx
      clear hrx hN3 hX6 hX5 hbx hvx hW3 hcX3
      go_wp2_with fail
      rw [← HN3.out.2.2.2]
      go_loopg [7] x.vals.length (fun g i wx => ∃ n : Nat, n ≤ x.vals.length ∧ g = x.vals.length - n ∧ i = .int .i64 n ∧ NInv o w w1.heap.size #[.int .i64 t.kind, .int .i64 t.num, .string t.txt, .slice A3 t.keys.length q3, .slice A4 t.vals.length q4] x wx ∧ wx.heap[w2.heap.size]? = some (.cells #[.int .i64 x.kind, .int .i64 x.num, .string x.txt, .slice A7 x.keys.length q7, .slice A8 x.vals.length q8] 25) ∧ Chg [] W3 wx)
      case atStart => exact ⟨0, Nat.zero_le _, by omega, rfl, HN3.out.1, HN3.out.2.1, Chg.refl _ _⟩
      case round =>
        obtain ⟨n, hn, rfl, rfl, hNr, hXr, hcc⟩ := hrel
        clear b0 b1 b2 b3 b4 bf x0 x1 x2 x3 x4 xf hcX hN2
        have HVX3 : Hid (RdV (fun b => o b ∧ b < w.heap.size) W3 x.vals (.slice A8 x.vals.length q8)) := Lib.hid (HVX.out.mono fun b hb ho => HN3.out.2.2.1 b (by omega))
        have hxl := hfx.len
        obtain ⟨x0, x1, x2, x3, x4, xf⟩ := cells5 hXr
        have HNR := Lib.hid hNr
        clear hNr
        by_cases hlt : n < x.vals.length
        · obtain ⟨y, hy⟩ : ∃ y, x.vals[n]? = some y := ⟨_, List.getElem?_eq_getElem hlt⟩
          obtain ⟨gy, cy, B5, p5, B6, p6, ey, hgy, ry, yc⟩ := HVX3.out.elem hy
          cases ey
          obtain ⟨y0, y1, y2, y3, y4⟩ := yc _ hcc
          have hfy := hfx.vals (List.mem_of_getElem? hy)
          clear hy yc
          go_wp2_with fail
          refine (has_any y _ _ _ (ry.chg hcc) hfy.wf.srt hfy.len.2.2).mono ?_
          rintro e w4 ⟨rfl, hc4⟩
          generalize (tget _ y).isSome = b
          have hN4 := HNR.out.go hc4
          have hX4 := box5 hXr _ hc4
          have hcc4 := hcc.trans hc4 New.nil
          cases b
          · clear hc4 x0 x1 x2 x3 x4 xf y0 y1 y2 y3 y4 hXr
            obtain ⟨E3, r3, E4, r4, hbx, hrx⟩ := (hN4).box
            have hres := (hN4).res
            have hchx := (hN4).chg
            have HRX := Lib.hid hrx
            clear hrx
            obtain ⟨b0, b1, b2, b3, b4, bf⟩ := cells5 hbx
            obtain ⟨d0, d1, d2, d3, d4, df⟩ := cells5 hres
            go_wp2
            obtain ⟨W, hW, Q, hne, hcW, _⟩ := store5 hres hchx (by omega : w.heap.size ≤ w.heap.size + 1) (.int .i64 (x).kind) (.int .i64 (x).num) (.string (x).txt) (.slice E3 (x).keys.length r3) (.slice E4 (x).vals.length r4)
            rw [← hW]
            obtain ⟨e0, e1, e2, e3, e4, _⟩ := cells5 Q
            refine bodyPost_ret (v := .tuple #[.agg #[.int .i64 (x).kind, .int .i64 (x).num, .string (x).txt, .slice E3 (x).keys.length r3, .slice E4 (x).vals.length r4], .bool false]) (by simp [results, Tryz.results49, go_sem, e0, e1, e2, e3, e4]) rfl ⟨_, _, x, rfl, hcW, HRX.out.to fun b _ ho => ⟨ho.1, hne b ho.2.2⟩, (fun h => by cases h), fun _ => tget_kind HGG.out⟩
          · go_wp2
            go_roundg (x.vals.length - (n + 1))
            case measure => omega
            case rel => exact ⟨n + 1, by omega, rfl, by go_num, hN4, hX4, hcc4⟩
        · by_cases hk5 : x.kind = 5
          · have hk5' : (x.kind != 5) = false := by rw [hk5]; rfl
            have HK5 := Lib.hid hk5
            clear hk5
            have hrx3 : Rd (OffB o w1.heap.size (w.heap.size + 1)) _ x (.agg #[.int .i64 x.kind, .int .i64 x.num, .string x.txt, .slice A7 x.keys.length q7, .slice A8 x.vals.length q8]) := (HR2.out.mono (w' := W3) fun b hb ho => HN3.out.2.2.1 b (by omega)).weak fun b hb => ⟨hb.1, by omega, by omega⟩
            have HRX3 := Lib.hid hrx3
            clear hrx3
            go_wp2_with fail
            refine (sayNeeds_any x _ _ (HRX3.out.chg hcc) hfx HK5.out).mono ?_
            rintro e w4 ⟨b, rfl, hc4, hq⟩
            have hN4 := HNR.out.go hc4
            cases b
            · clear hc4 x0 x1 x2 x3 x4 xf hXr hq
              obtain ⟨E3, r3, E4, r4, hbx, hrx⟩ := (hN4).box
              have hres := (hN4).res
              have hchx := (hN4).chg
              have HRX := Lib.hid hrx
              clear hrx
              obtain ⟨b0, b1, b2, b3, b4, bf⟩ := cells5 hbx
              obtain ⟨d0, d1, d2, d3, d4, df⟩ := cells5 hres
              go_wp2
              obtain ⟨W, hW, Q, hne, hcW, _⟩ := store5 hres hchx (by omega : w.heap.size ≤ w.heap.size + 1) (.int .i64 (x).kind) (.int .i64 (x).num) (.string (x).txt) (.slice E3 (x).keys.length r3) (.slice E4 (x).vals.length r4)
              rw [← hW]
              obtain ⟨e0, e1, e2, e3, e4, _⟩ := cells5 Q
              refine bodyPost_ret (v := .tuple #[.agg #[.int .i64 (x).kind, .int .i64 (x).num, .string (x).txt, .slice E3 (x).keys.length r3, .slice E4 (x).vals.length r4], .bool false]) (by simp [results, Tryz.results49, go_sem, e0, e1, e2, e3, e4]) rfl ⟨_, _, x, rfl, hcW, HRX.out.to fun b _ ho => ⟨ho.1, hne b ho.2.2⟩, (fun h => by cases h), fun _ => tget_kind HGG.out⟩
            · have HQ := Lib.hid (hq (by trivial))
              clear hq hc4
              have HN4 := Lib.hid hN4
              clear hN4
              go_wp2_with fail
              go_meet
              obtain ⟨d, rfl⟩ : ∃ d, x = .map d := by
                have := HK5.out
                cases x <;> first | exact ⟨_, rfl⟩ | cases this
              have hd0 : dep0 t.m = d := by unfold dep0; rw [← tget_m, HGG.out]
              rw [hd0]
              refine ⟨HN4.out, fun t' ht' => ?_⟩
              rw [← tget_m, HGG.out] at ht'
              cases ht'
              refine ⟨d, rfl, fun e => ?_⟩
              have := HQ.out
              subst e
              cases this
          · have hk5' : (x.kind != 5) = true := by simpa using hk5
            clear hk5
            obtain ⟨E3, r3, E4, r4, hbx, hrx⟩ := (HNR.out).box
            have hres := (HNR.out).res
            have hchx := (HNR.out).chg
            have HRX := Lib.hid hrx
            clear hrx
            obtain ⟨b0, b1, b2, b3, b4, bf⟩ := cells5 hbx
            obtain ⟨d0, d1, d2, d3, d4, df⟩ := cells5 hres
            go_wp2
            obtain ⟨W, hW, Q, hne, hcW, _⟩ := store5 hres hchx (by omega : w.heap.size ≤ w.heap.size + 1) (.int .i64 (x).kind) (.int .i64 (x).num) (.string (x).txt) (.slice E3 (x).keys.length r3) (.slice E4 (x).vals.length r4)
            rw [← hW]
            obtain ⟨e0, e1, e2, e3, e4, _⟩ := cells5 Q
            refine bodyPost_ret (v := .tuple #[.agg #[.int .i64 (x).kind, .int .i64 (x).num, .string (x).txt, .slice E3 (x).keys.length r3, .slice E4 (x).vals.length r4], .bool false]) (by simp [results, Tryz.results49, go_sem, e0, e1, e2, e3, e4]) rfl ⟨_, _, x, rfl, hcW, HRX.out.to fun b _ ho => ⟨ho.1, hne b ho.2.2⟩, (fun h => by cases h), fun _ => tget_kind HGG.out⟩
  case rest => as_aux_lemma =>
    obtain ⟨hN5, hdep⟩ := hcut
    have HN5 := Lib.hid hN5
    have HDEP := Lib.hid hdep
    obtain ⟨a0, a1, a2, a3, a4, af⟩ := cells5 hN5.par
    clear hN5 hdep
    go_wp2_with fail
    refine (HG.out kNetworkMode _ HN5.out.chg).mono ?_
    rintro e w5 ⟨v', rfl, hc5, hr5⟩
    obtain ⟨y, hy⟩ : ∃ y, (tget kNetworkMode t).getD .null = y := ⟨_, rfl⟩
    obtain ⟨bm, hbm⟩ : ∃ bm, (tget kNetworkMode t).isSome = bm := ⟨_, rfl⟩
    rw [hy] at hr5
    rw [hbm]
    obtain ⟨B7, p7, B8, p8, rfl, _⟩ := hr5.five
    have HYB := Lib.hid (And.intro hy hbm)
    clear hy hbm
    have HN6 := Lib.hid (HN5.out.go hc5)
    have HR5 := Lib.hid hr5
    have HC5 := Lib.hid hc5
    clear hr5 hc5 a0 a1 a2 a3 a4 af
    go_upto_if 54 with fail
    go_cut [] (fun wx => NInv o w w1.heap.size #[.int .i64 t.kind, .int .i64 t.num, .string t.txt, .slice A3 t.keys.length q3, .slice A4 t.vals.length q4] (.map (needs impS (dep0 t.m) (nmode t.m))) wx ∧ ModeOK t.m)
    case first => as_aux_lemma =>
      cases bm with
      | false =>
        have hg : tget kNetworkMode t = none := by
          cases hg : tget kNetworkMode t with
          | none => rfl
          | some y => have := HYB.out.2; rw [hg] at this; cases this
        have hd0 : nmode t.m = [] := by unfold nmode; rw [← tget_m, hg]
        have HGG := Lib.hid hg
        clear hg
        go_wp2_with fail
        go_meet
        rw [hd0]
        exact ⟨HN6.out.go ((Chg.refl [] w5).al _), fun t' ht' => by rw [← tget_m, HGG.out] at ht'; cases ht'⟩
      | true =>
        have hg : tget kNetworkMode t = some y := by
          cases hg : tget kNetworkMode t with
          | none => have := HYB.out.2; rw [hg] at this; cases this
          | some z => have := HYB.out.1; rw [hg] at this; rw [← this]; rfl
        have hfy := hf.get hg
        have HGG := Lib.hid hg
        clear hg
        obtain ⟨W, hW⟩ : ∃ W, W = w5.alloc (.cells #[.int .i64 y.kind, .int .i64 y.num, .string y.txt, .slice B7 y.keys.length p7, .slice B8 y.vals.length p8] 25) := ⟨_, rfl⟩
        have hcY : Chg [] w5 W := hW ▸ (Chg.refl [] w5).al _
        have hY5 : W.heap[w5.heap.size]? = some (.cells #[.int .i64 y.kind, .int .i64 y.num, .string y.txt, .slice B7 y.keys.length p7, .slice B8 y.vals.length p8] 25) := hW ▸ heap_alloc_new w5 _
        rw [← hW]
        clear hW
        have HN7 := Lib.hid (HN6.out.go hcY)
        obtain ⟨y0, y1, y2, y3, y4, yf⟩ := cells5 hY5
        obtain ⟨a0, a1, a2, a3, a4, af⟩ := cells5 HN7.out.par
        have hfys := hfy.txt
        go_wp2_with fail
        refine (normRest_any y.txt kServiceP _ hfys (by decide)).mono ?_
        rintro e w6 ⟨rfl, rfl⟩
        by_cases hk3 : y.kind = 3
        · have hk3' : (y.kind != 3) = false := by rw [hk3]; rfl
          have HK3 := Lib.hid hk3
          clear hk3
          obtain ⟨ip, hip⟩ : ∃ ip, isPre kServiceP y.txt = ip := ⟨_, rfl⟩
          rw [hip]
          have HIP := Lib.hid hip
          clear hip
          cases ip with
          | true =>
            simp only [if_true]
            have hex : (y.txt.extract kServiceP.size y.txt.size).size ≤ 67108864 := by simp; omega
            obtain ⟨nm, hnm⟩ : ∃ nm, nm = y.txt.extract kServiceP.size y.txt.size := ⟨_, rfl⟩
            rw [← hnm] at hex ⊢
            have HNM := Lib.hid hnm
            clear hnm
            go_wp2_with fail
            refine (sayName_any nm _ hex).mono ?_
            rintro e w7 ⟨b, rfl, hc7⟩
            have HN8 := Lib.hid (HN7.out.go hc7)
            have hY7 := box5 hY5 _ hc7
            clear hc7 a0 a1 a2 a3 a4 af y0 y1 y2 y3 y4 yf hY5
            cases b with
            | false =>
              clear hY7
              obtain ⟨E3, r3, E4, r4, hbx, hrx⟩ := (HN8.out).box
              have hres := (HN8.out).res
              have hchx := (HN8.out).chg
              have HRX := Lib.hid hrx
              clear hrx
              obtain ⟨b0, b1, b2, b3, b4, bf⟩ := cells5 hbx
              obtain ⟨d0, d1, d2, d3, d4, df⟩ := cells5 hres
              go_wp2
              obtain ⟨W, hW, Q, hne, hcW, _⟩ := store5 hres hchx (by omega : w.heap.size ≤ w.heap.size + 1) (.int .i64 ((T.map (dep0 t.m))).kind) (.int .i64 ((T.map (dep0 t.m))).num) (.string ((T.map (dep0 t.m))).txt) (.slice E3 ((T.map (dep0 t.m))).keys.length r3) (.slice E4 ((T.map (dep0 t.m))).vals.length r4)
              rw [← hW]
              obtain ⟨e0, e1, e2, e3, e4, _⟩ := cells5 Q
              refine bodyPost_ret (v := .tuple #[.agg #[.int .i64 ((T.map (dep0 t.m))).kind, .int .i64 ((T.map (dep0 t.m))).num, .string ((T.map (dep0 t.m))).txt, .slice E3 ((T.map (dep0 t.m))).keys.length r3, .slice E4 ((T.map (dep0 t.m))).vals.length r4], .bool false]) (by simp [results, Tryz.results49, go_sem, e0, e1, e2, e3, e4]) rfl ⟨_, _, (T.map (dep0 t.m)), rfl, hcW, HRX.out.to fun b _ ho => ⟨ho.1, hne b ho.2.2⟩, (fun h => by cases h), fun _ => tget_kind HGG.out⟩
            | true =>
              obtain ⟨a0, a1, a2, a3, a4, af⟩ := cells5 HN8.out.par
              clear hY7
              go_wp2_with fail
              refine (HHAS.out kNetworks _ HN8.out.chg).mono ?_
              rintro e w8 ⟨rfl, hc8⟩
              have HN9 := Lib.hid ((HN8.out).go hc8)
              obtain ⟨bn, hbn⟩ : ∃ bn, (tget kNetworks t).isSome = bn := ⟨_, rfl⟩
              rw [hbn]
              have HBN := Lib.hid hbn
              clear hbn hc8
              cases bn with
              | true =>
                clear a0 a1 a2 a3 a4 af
                obtain ⟨E3, r3, E4, r4, hbx, hrx⟩ := (HN9.out).box
                have hres := (HN9.out).res
                have hchx := (HN9.out).chg
                have HRX := Lib.hid hrx
                clear hrx
                obtain ⟨b0, b1, b2, b3, b4, bf⟩ := cells5 hbx
                obtain ⟨d0, d1, d2, d3, d4, df⟩ := cells5 hres
                go_wp2
                obtain ⟨W, hW, Q, hne, hcW, _⟩ := store5 hres hchx (by omega : w.heap.size ≤ w.heap.size + 1) (.int .i64 ((T.map (dep0 t.m))).kind) (.int .i64 ((T.map (dep0 t.m))).num) (.string ((T.map (dep0 t.m))).txt) (.slice E3 ((T.map (dep0 t.m))).keys.length r3) (.slice E4 ((T.map (dep0 t.m))).vals.length r4)
                rw [← hW]
                obtain ⟨e0, e1, e2, e3, e4, _⟩ := cells5 Q
                refine bodyPost_ret (v := .tuple #[.agg #[.int .i64 ((T.map (dep0 t.m))).kind, .int .i64 ((T.map (dep0 t.m))).num, .string ((T.map (dep0 t.m))).txt, .slice E3 ((T.map (dep0 t.m))).keys.length r3, .slice E4 ((T.map (dep0 t.m))).vals.length r4], .bool false]) (by simp [results, Tryz.results49, go_sem, e0, e1, e2, e3, e4]) rfl ⟨_, _, (T.map (dep0 t.m)), rfl, hcW, HRX.out.to fun b _ ho => ⟨ho.1, hne b ho.2.2⟩, (fun h => by cases h), fun _ => tget_kind HGG.out⟩
              | false =>
                clear a0 a1 a2 a3 a4 af
                obtain ⟨E3, r3, E4, r4, hbx, hrx⟩ := HN9.out.box
                have HRX := Lib.hid hrx
                have hbxs := (Array.getElem?_eq_some_iff.1 hbx).1
                have hlt9 := HN9.out.lt
                have hsz9 := HN9.out.chg.size
                clear hrx
                obtain ⟨b0, b1, b2, b3, b4, bf⟩ := cells5 hbx
                go_wp2_with fail
                refine (normNeed_any (o := OffB o w1.heap.size (w.heap.size + 1)) (dep0 t.m) nm _ _ HRX.out HD0S.out.1 (by have := HD0S.out.2; omega) (fun b hb => ⟨hno b (by omega), by omega, by omega⟩)).mono ?_
                rintro e w10 ⟨v', rfl, hc10, hr10⟩
                obtain ⟨E5, r5, E6, r6, rfl, _⟩ := hr10.five
                have HN10 := Lib.hid (HN9.out.go hc10)
                obtain ⟨_, _, _, _, hbx2, _⟩ := HN10.out.box
                obtain ⟨W3, hW3⟩ : ∃ W3, W3 = (((((w10.setCell ⟨w1.heap.size, 0, none⟩ (.int .i64 (T.map (need impS (dep0 t.m) nm)).kind)).setCell ⟨w1.heap.size, 1, none⟩ (.int .i64 (T.map (need impS (dep0 t.m) nm)).num)).setCell ⟨w1.heap.size, 2, none⟩ (.string (T.map (need impS (dep0 t.m) nm)).txt)).setCell ⟨w1.heap.size, 3, none⟩ (.slice E5 (T.map (need impS (dep0 t.m) nm)).keys.length r5)).setCell ⟨w1.heap.size, 4, none⟩ (.slice E6 (T.map (need impS (dep0 t.m) nm)).vals.length r6)) := ⟨_, rfl⟩
                have HN11 := Lib.hid (HN10.out.put hr10 W3 hW3)
                have HW3 := Lib.hid hW3
                clear hc10 hr10 hW3 b0 b1 b2 b3 b4 bf hbx
                obtain ⟨b0, b1, b2, b3, b4, bf⟩ := cells5 hbx2
                clear hbx2
                go_wp2_with fail
                go_meet
                have hk : hasK kNetworks t.m = false := by have := HBN.out; rw [tget_m] at this; exact this
                have hmode : ModeOK t.m := fun t' ht' => by
                  rw [← tget_m, HGG.out] at ht'
                  cases ht'
                  refine ⟨?_, hk⟩
                  have := HK3.out
                  cases y <;> first | exact ⟨_, rfl⟩ | cases this
                have hnm : nmode t.m = [nm] := by
                  have hy3 := HK3.out
                  unfold nmode
                  rw [← tget_m, HGG.out]
                  cases y with
                  | text a =>
                    have := HIP.out
                    simp only [T.txt] at this
                    simp only [this, if_true]
                    rw [HNM.out]
                    rfl
                  | _ => cases hy3
                rw [hnm, ← HW3.out]
                exact ⟨HN11.out, hmode⟩
          | false =>
            simp only [Bool.false_eq_true, if_false]
            go_wp2_with fail
            obtain ⟨W8, hW8⟩ : ∃ W8, W8 = W.alloc (.cells #[.string ⟨#[104, 111, 115, 116]⟩, .string ⟨#[110, 111, 110, 101]⟩, .string ⟨#[98, 114, 105, 100, 103, 101]⟩] 9) := ⟨_, rfl⟩
            have HN8 := Lib.hid (HN7.out.go ((Chg.refl [] W).al (.cells #[.string ⟨#[104, 111, 115, 116]⟩, .string ⟨#[110, 111, 110, 101]⟩, .string ⟨#[98, 114, 105, 100, 103, 101]⟩] 9)))
            have hl8 : W8.heap[W.heap.size]? = some (.cells #[.string ⟨#[104, 111, 115, 116]⟩, .string ⟨#[110, 111, 110, 101]⟩, .string ⟨#[98, 114, 105, 100, 103, 101]⟩] 9) := hW8 ▸ heap_alloc_new W _
            rw [← hW8] at HN8 ⊢
            clear hW8
            refine (sayIn_any (o := fun _ => True) y.txt [kHost, kNone, kBridge] _ W8 (RdK.lit [kHost, kNone, kBridge] hl8 rfl) (by decide)).mono ?_
            rintro e w7 ⟨rfl, rfl⟩
            generalize decide (y.txt ∈ [kHost, kNone, kBridge]) = b
            clear a0 a1 a2 a3 a4 af y0 y1 y2 y3 y4 yf hY5 hl8
            cases b with
            | false =>
              obtain ⟨E3, r3, E4, r4, hbx, hrx⟩ := (HN8.out).box
              have hres := (HN8.out).res
              have hchx := (HN8.out).chg
              have HRX := Lib.hid hrx
              clear hrx
              obtain ⟨b0, b1, b2, b3, b4, bf⟩ := cells5 hbx
              obtain ⟨d0, d1, d2, d3, d4, df⟩ := cells5 hres
              go_wp2
              obtain ⟨W, hW, Q, hne, hcW, _⟩ := store5 hres hchx (by omega : w.heap.size ≤ w.heap.size + 1) (.int .i64 ((T.map (dep0 t.m))).kind) (.int .i64 ((T.map (dep0 t.m))).num) (.string ((T.map (dep0 t.m))).txt) (.slice E3 ((T.map (dep0 t.m))).keys.length r3) (.slice E4 ((T.map (dep0 t.m))).vals.length r4)
              rw [← hW]
              obtain ⟨e0, e1, e2, e3, e4, _⟩ := cells5 Q
              refine bodyPost_ret (v := .tuple #[.agg #[.int .i64 ((T.map (dep0 t.m))).kind, .int .i64 ((T.map (dep0 t.m))).num, .string ((T.map (dep0 t.m))).txt, .slice E3 ((T.map (dep0 t.m))).keys.length r3, .slice E4 ((T.map (dep0 t.m))).vals.length r4], .bool false]) (by simp [results, Tryz.results49, go_sem, e0, e1, e2, e3, e4]) rfl ⟨_, _, (T.map (dep0 t.m)), rfl, hcW, HRX.out.to fun b _ ho => ⟨ho.1, hne b ho.2.2⟩, (fun h => by cases h), fun _ => tget_kind HGG.out⟩
            | true =>
              obtain ⟨a0, a1, a2, a3, a4, af⟩ := cells5 HN8.out.par
              go_wp2_with fail
              refine (HHAS.out kNetworks _ HN8.out.chg).mono ?_
              rintro e w8 ⟨rfl, hc8⟩
              have HN9 := Lib.hid ((HN8.out).go hc8)
              obtain ⟨bn, hbn⟩ : ∃ bn, (tget kNetworks t).isSome = bn := ⟨_, rfl⟩
              rw [hbn]
              have HBN := Lib.hid hbn
              clear hbn hc8
              cases bn with
              | true =>
                clear a0 a1 a2 a3 a4 af
                obtain ⟨E3, r3, E4, r4, hbx, hrx⟩ := (HN9.out).box
                have hres := (HN9.out).res
                have hchx := (HN9.out).chg
                have HRX := Lib.hid hrx
                clear hrx
                obtain ⟨b0, b1, b2, b3, b4, bf⟩ := cells5 hbx
                obtain ⟨d0, d1, d2, d3, d4, df⟩ := cells5 hres
                go_wp2
                obtain ⟨W, hW, Q, hne, hcW, _⟩ := store5 hres hchx (by omega : w.heap.size ≤ w.heap.size + 1) (.int .i64 ((T.map (dep0 t.m))).kind) (.int .i64 ((T.map (dep0 t.m))).num) (.string ((T.map (dep0 t.m))).txt) (.slice E3 ((T.map (dep0 t.m))).keys.length r3) (.slice E4 ((T.map (dep0 t.m))).vals.length r4)
                rw [← hW]
                obtain ⟨e0, e1, e2, e3, e4, _⟩ := cells5 Q
                refine bodyPost_ret (v := .tuple #[.agg #[.int .i64 ((T.map (dep0 t.m))).kind, .int .i64 ((T.map (dep0 t.m))).num, .string ((T.map (dep0 t.m))).txt, .slice E3 ((T.map (dep0 t.m))).keys.length r3, .slice E4 ((T.map (dep0 t.m))).vals.length r4], .bool false]) (by simp [results, Tryz.results49, go_sem, e0, e1, e2, e3, e4]) rfl ⟨_, _, (T.map (dep0 t.m)), rfl, hcW, HRX.out.to fun b _ ho => ⟨ho.1, hne b ho.2.2⟩, (fun h => by cases h), fun _ => tget_kind HGG.out⟩
              | false =>
                clear a0 a1 a2 a3 a4 af
                go_wp2_with fail
                go_meet
                have hk : hasK kNetworks t.m = false := by have := HBN.out; rw [tget_m] at this; exact this
                have hmode : ModeOK t.m := fun t' ht' => by
                  rw [← tget_m, HGG.out] at ht'
                  cases ht'
                  refine ⟨?_, hk⟩
                  have := HK3.out
                  cases y <;> first | exact ⟨_, rfl⟩ | cases this
                have hnm : nmode t.m = [] := by
                  have hy3 := HK3.out
                  unfold nmode
                  rw [← tget_m, HGG.out]
                  cases y with
                  | text a =>
                    have := HIP.out
                    simp only [T.txt] at this
                    simp [this]
                  | _ => cases hy3
                rw [hnm]
                exact ⟨HN9.out, hmode⟩
        · have hk3' : (y.kind != 3) = true := by simpa using hk3
          clear hk3
          generalize (if isPre kServiceP y.txt = true then y.txt.extract kServiceP.size y.txt.size else ⟨#[]⟩ : ByteArray) = nm
          generalize isPre kServiceP y.txt = ip
          clear a0 a1 a2 a3 a4 af hY5
          cases ip
          all_goals
            obtain ⟨E3, r3, E4, r4, hbx, hrx⟩ := (HN7.out).box
            have hres := (HN7.out).res
            have hchx := (HN7.out).chg
            have HRX := Lib.hid hrx
            clear hrx
            obtain ⟨b0, b1, b2, b3, b4, bf⟩ := cells5 hbx
            obtain ⟨d0, d1, d2, d3, d4, df⟩ := cells5 hres
            go_wp2
            obtain ⟨W, hW, Q, hne, hcW, _⟩ := store5 hres hchx (by omega : w.heap.size ≤ w.heap.size + 1) (.int .i64 ((T.map (dep0 t.m))).kind) (.int .i64 ((T.map (dep0 t.m))).num) (.string ((T.map (dep0 t.m))).txt) (.slice E3 ((T.map (dep0 t.m))).keys.length r3) (.slice E4 ((T.map (dep0 t.m))).vals.length r4)
            rw [← hW]
            obtain ⟨e0, e1, e2, e3, e4, _⟩ := cells5 Q
            refine bodyPost_ret (v := .tuple #[.agg #[.int .i64 ((T.map (dep0 t.m))).kind, .int .i64 ((T.map (dep0 t.m))).num, .string ((T.map (dep0 t.m))).txt, .slice E3 ((T.map (dep0 t.m))).keys.length r3, .slice E4 ((T.map (dep0 t.m))).vals.length r4], .bool false]) (by simp [results, Tryz.results49, go_sem, e0, e1, e2, e3, e4]) rfl ⟨_, _, (T.map (dep0 t.m)), rfl, hcW, HRX.out.to fun b _ ho => ⟨ho.1, hne b ho.2.2⟩, (fun h => by cases h), fun _ => tget_kind HGG.out⟩
    case rest => as_aux_lemma =>
      obtain ⟨hN12, hmode⟩ := hcut
      have HN12 := Lib.hid hN12
      have HMODE := Lib.hid hmode
      clear hN12 hmode
      go_wp2_with fail
      go_loopg [12] 2 (fun g i wx => ∃ n : Nat, n ≤ 2 ∧ g = 2 - n ∧ i = .int .i64 n ∧ NInv o w w1.heap.size #[.int .i64 t.kind, .int .i64 t.num, .string t.txt, .slice A3 t.keys.length q3, .slice A4 t.vals.length q4] (.map (depN t.m n)) wx ∧ ∀ j, j < n → LinksOK (keyN j) t.m)
      case atStart => exact ⟨0, by omega, rfl, rfl, HN12.out, fun j hj => by omega⟩
      case round => as_aux_lemma =>
        obtain ⟨n, hn, rfl, rfl, hNr, hlk⟩ := hrel
        have HNR := Lib.hid hNr
        have HLK := Lib.hid hlk
        have hszw : w.heap.size + 1 < wr.heap.size := (Array.getElem?_eq_some_iff.1 hNr.res).1
        clear hNr hlk
        by_cases hlt : n < 2
        · obtain ⟨x, hx⟩ : ∃ x, (tget (keyN n) t).getD .null = x := ⟨_, rfl⟩
          obtain ⟨bq, hbq⟩ : ∃ bq, (tget (keyN n) t).isSome = bq := ⟨_, rfl⟩
          have HXB := Lib.hid (And.intro hx hbq)
          have hkey : (#[.string ⟨#[108, 105, 110, 107, 115]⟩, .string ⟨#[118, 111, 108, 117, 109, 101, 115, 95, 102, 114, 111, 109]⟩] : Array Value)[n]? = some (.string (keyN n)) := by
            rcases n with _ | _ | n
            · rfl
            · rfl
            · omega
          have HKEY := Lib.hid hkey
          have hfx : Fine x := hx ▸ hf.getD (keyN n)
          have hxl2 : x.vals.length ≤ 16777216 := by
            rw [← hx]
            cases hg : tget (keyN n) t with
            | none => exact Nat.zero_le _
            | some z =>
              have h1 := tget_size hg
              have h2 := T.vals_len z
              simp only [Option.getD_some]
              omega
          have HXL := Lib.hid hxl2
          clear hx hbq hkey hxl2
          have hltb : decide ((n : Int) < 2) = true := by simp; omega
          go_wp2_with fail
          rename_i K hK
          have HK := Lib.hid hK
          clear hK hltb
          have hltz : (n : Int) < 2 := by omega
          refine wp_region_put (by rfl) (by kernel_rfl) [0, 1, 12] 10 (by kernel_rfl)
            (fun j u V => match j with
              | 0 => u = .agg #[.int .i64 t.kind, .int .i64 t.num, .string t.txt, .slice A3 t.keys.length q3, .slice A4 t.vals.length q4]
              | 1 => ∃ g, u = .slice (some ⟨g, 0, none⟩) 2 2 ∧ V.heap[g]? = some (.cells #[.string ⟨#[108, 105, 110, 107, 115]⟩, .string ⟨#[118, 111, 108, 117, 109, 101, 115, 95, 102, 114, 111, 109]⟩] 9)
              | 2 => u = .int .i64 ↑n
              | 3 => ∃ g, u = .pointer (some ⟨g, n, none⟩) ∧ V.heap[g]? = some (.cells #[.string ⟨#[108, 105, 110, 107, 115]⟩, .string ⟨#[118, 111, 108, 117, 109, 101, 115, 95, 102, 114, 111, 109]⟩] 9)
              | 4 => u = .string (keyN n)
              | 5 => ∃ v, u = .tuple #[v, .bool bq] ∧ Rd (fun b => o b ∧ b < w.heap.size) V x v
              | 6 => ∃ v, u = .tuple #[v, .bool bq] ∧ Rd (fun b => o b ∧ b < w.heap.size) V x v
              | 7 => Rd (fun b => o b ∧ b < w.heap.size) V x u
              | 8 => u = .bool bq
              | 9 => ∃ B c0 c1 c2 c3 c4, u = .pointer (some ⟨B, 0, none⟩) ∧ wr.heap.size ≤ B ∧ V.heap[B]? = some (.cells #[c0, c1, c2, c3, c4] 25)
              | 11 => u = .bool bq
              | _ => True) ?_ 9 (by kernel_rfl) (fun u V => ∃ B E5 r5 E6 r6, u = .pointer (some ⟨B, 0, none⟩) ∧ wr.heap.size ≤ B ∧ V.heap[B]? = some (.cells #[.int .i64 x.kind, .int .i64 x.num, .string x.txt, .slice E5 x.keys.length r5, .slice E6 x.vals.length r6] 25) ∧ Rd (fun b => o b ∧ b < w.heap.size) V x (.agg #[.int .i64 x.kind, .int .i64 x.num, .string x.txt, .slice E5 x.keys.length r5, .slice E6 x.vals.length r6])) ?_ ?_ ?_ ?_
          · intro j u V V' hc hφ
            rcases j with _ | _ | _ | _ | _ | _ | _ | _ | _ | _ | _ | _ | j
            all_goals first | exact hφ | skip
            · obtain ⟨g, e, h⟩ := hφ
              exact ⟨g, e, (hc.block g (Array.getElem?_eq_some_iff.1 h).1 (by simp)).trans h⟩
            · obtain ⟨g, e, h⟩ := hφ
              exact ⟨g, e, (hc.block g (Array.getElem?_eq_some_iff.1 h).1 (by simp)).trans h⟩
            · obtain ⟨v, e, h⟩ := hφ
              exact ⟨v, e, h.chg hc⟩
            · obtain ⟨v, e, h⟩ := hφ
              exact ⟨v, e, h.chg hc⟩
            · exact Rd.chg hφ hc
            · obtain ⟨B, c0, c1, c2, c3, c4, e, hB, h⟩ := hφ
              exact ⟨B, c0, c1, c2, c3, c4, e, hB, box5 h _ hc⟩
          · rintro v V V' hc ⟨B, E5, r5, E6, r6, e, hB, h, hr⟩
            exact ⟨B, E5, r5, E6, r6, e, hB, box5 h _ hc, hr.chg hc⟩
          · intro j oo hj hjp ho a' w' hst hch hdep K2 hK2
            have hcrw := HNR.out.chg.trans ((Chg.refl [] _).dr.trans hch New.nil) New.nil
            have hsz : wr.heap.size ≤ w'.heap.size := hch.size
            obtain ⟨b0, b1, b2, b3, b4, bf⟩ := cells5 ((hch.block w.heap.size (by show w.heap.size < wr.heap.size; omega) (by simp)).trans HNR.out.par)
            have hj' : j < 12 := hj
            rcases j with _ | _ | _ | _ | _ | _ | _ | _ | _ | _ | _ | _ | j
            · obtain rfl : _ = oo := Option.some.inj ho  -- 0: slot 97
              have h1 := g_eq (t := 1) (v := .pointer (some ⟨w.heap.size, 0, none⟩)) (hst 1 (by simp))
              unfold Oper.wp
              go_simp
              exact ⟨_, rfl, hK2 _ _ (Chg.refl _ _) rfl⟩
            · obtain rfl : _ = oo := Option.some.inj ho  -- 1: slot 98
              unfold Oper.wp
              go_simp
              exact ⟨_, rfl, hK2 _ _ ((Chg.refl [] w').al _) ⟨_, rfl, heap_alloc_new w' _⟩⟩
            · obtain rfl : _ = oo := Option.some.inj ho  -- 2: slot 99
              have h12 := g_eq (t := 12) (v := .int .i64 ↑n) (hst 12 (by simp))
              unfold Oper.wp
              go_simp
              exact ⟨_, rfl, hK2 _ _ (Chg.refl _ _) rfl⟩
            · obtain rfl : _ = oo := Option.some.inj ho  -- 3: slot 100
              have h99 := g_eq (t := 99) (v := .int .i64 ↑n) (hdep 2 (by decide) (by kernel_rfl))
              obtain ⟨g, h98, hg⟩ : ∃ g, Act.g a' 98 = .slice (some ⟨g, 0, none⟩) 2 2 ∧ w'.heap[g]? = some (.cells #[.string ⟨#[108, 105, 110, 107, 115]⟩, .string ⟨#[118, 111, 108, 117, 109, 101, 115, 95, 102, 114, 111, 109]⟩] 9) := hdep 1 (by decide) (by kernel_rfl)
              have h98 := g_eq (t := 98) h98
              unfold Oper.wp
              go_simp
              exact ⟨_, rfl, hK2 _ _ (Chg.refl _ _) ⟨_, rfl, hg⟩⟩
            · obtain rfl : _ = oo := Option.some.inj ho  -- 4: slot 101
              obtain ⟨g, h100, hg⟩ : ∃ g, Act.g a' 100 = .pointer (some ⟨g, n, none⟩) ∧ w'.heap[g]? = some (.cells #[.string ⟨#[108, 105, 110, 107, 115]⟩, .string ⟨#[118, 111, 108, 117, 109, 101, 115, 95, 102, 114, 111, 109]⟩] 9) := hdep 3 (by decide) (by kernel_rfl)
              have h100 := g_eq (t := 100) h100
              have hcell : w'.cell? ⟨g, n, none⟩ = some (.string (keyN n)) := (cell_of_row w' g n _ _ (0, 0) hg).trans (HKEY.out)
              unfold Oper.wp
              go_simp
              exact ⟨_, rfl, hK2 _ _ (Chg.refl _ _) rfl⟩
            · obtain rfl : _ = oo := Option.some.inj ho  -- 5: slot 102
              have h97 := g_eq (t := 97) (v := .agg #[.int .i64 t.kind, .int .i64 t.num, .string t.txt, .slice A3 t.keys.length q3, .slice A4 t.vals.length q4]) (hdep 0 (by decide) (by kernel_rfl))
              have h101 := g_eq (t := 101) (v := .string (keyN n)) (hdep 4 (by decide) (by kernel_rfl))
              unfold Oper.wp
              go_simp
              refine (HG.out (keyN n) w' hcrw).mono ?_
              rintro e w3 ⟨v', rfl, hc3, hr3⟩
              rw [HXB.out.2]
              rw [HXB.out.1] at hr3
              exact ⟨_, rfl, hK2 _ _ hc3 ⟨v', rfl, hr3⟩⟩
            · obtain rfl : _ = oo := Option.some.inj ho  -- 6: slot 96
              obtain ⟨v, h102, hr⟩ : ∃ v, Act.g a' 102 = .tuple #[v, .bool bq] ∧ Rd (fun b => o b ∧ b < w.heap.size) w' x v := hdep 5 (by decide) (by kernel_rfl)
              have h102 := g_eq (t := 102) h102
              unfold Oper.wp
              go_simp
              exact ⟨_, rfl, hK2 _ _ (Chg.refl _ _) ⟨_, rfl, hr⟩⟩
            · obtain rfl : _ = oo := Option.some.inj ho  -- 7: slot 103
              obtain ⟨v, h96, hr⟩ : ∃ v, Act.g a' 96 = .tuple #[v, .bool bq] ∧ Rd (fun b => o b ∧ b < w.heap.size) w' x v := hdep 6 (by decide) (by kernel_rfl)
              have h96 := g_eq (t := 96) h96
              unfold Oper.wp
              go_simp
              exact ⟨_, rfl, hK2 _ _ (Chg.refl _ _) hr⟩
            · obtain rfl : _ = oo := Option.some.inj ho  -- 8: slot 104
              obtain ⟨v, h96, hr⟩ : ∃ v, Act.g a' 96 = .tuple #[v, .bool bq] ∧ Rd (fun b => o b ∧ b < w.heap.size) w' x v := hdep 6 (by decide) (by kernel_rfl)
              have h96 := g_eq (t := 96) h96
              unfold Oper.wp
              go_simp
              exact ⟨_, rfl, hK2 _ _ (Chg.refl _ _) rfl⟩
            · obtain rfl : _ = oo := Option.some.inj ho  -- 9: slot 13
              unfold Oper.wp
              go_simp
              exact ⟨_, rfl, hK2 _ _ ((Chg.refl [] w').al _) ⟨_, _, _, _, _, _, rfl, hsz, heap_alloc_new w' _⟩⟩
            · exact absurd rfl hjp
            · obtain rfl : _ = oo := Option.some.inj ho  -- 11: slot 14
              have h104 := g_eq (t := 104) (v := .bool bq) (hdep 8 (by decide) (by kernel_rfl))
              unfold Oper.wp
              go_simp
              exact ⟨_, rfl, hK2 _ _ (Chg.refl _ _) rfl⟩
            · omega
          · intro oo ho a' w' hst hch hdep K2 hK2
            obtain rfl : _ = oo := Option.some.inj ho
            have hr103 : Rd (fun b => o b ∧ b < w.heap.size) w' x (Act.g a' 103) := hdep 7 (by kernel_rfl)
            generalize h103 : Act.g a' 103 = vv at hr103
            obtain ⟨E5, r5, E6, r6, rfl, _⟩ := hr103.five
            have h103 := g_eq (t := 103) h103
            obtain ⟨B, c0, c1, c2, c3, c4, h13', hB, hbox⟩ : ∃ B c0 c1 c2 c3 c4, Act.g a' 13 = .pointer (some ⟨B, 0, none⟩) ∧ wr.heap.size ≤ B ∧ w'.heap[B]? = some (.cells #[c0, c1, c2, c3, c4] 25) := hdep 9 (by kernel_rfl)
            have h13 := g_eq (t := 13) h13'
            obtain ⟨b0, b1, b2, b3, b4, bf⟩ := cells5 hbox
            have hcrw : Chg [] wr.drew w' := hch
            obtain ⟨W, hW, Q, hne, hcW, _⟩ := store5 hbox hcrw (by show wr.heap.size ≤ B; exact hB) (.int .i64 x.kind) (.int .i64 x.num) (.string x.txt) (.slice E5 x.keys.length r5) (.slice E6 x.vals.length r6)
            unfold Oper.wp
            go_simp
            rw [← hW]
            refine hK2 W hcW ⟨B, E5, r5, E6, r6, h13', hB, Q, hr103.mono fun b hb ho => hne b (by have := ho.2; omega)⟩ ?_
            intro j u hjp hφ
            rcases j with _ | _ | _ | _ | _ | _ | _ | _ | _ | _ | _ | _ | j
            all_goals first | exact hφ | skip
            · obtain ⟨g, e, h⟩ := hφ
              exact ⟨g, e, (hne g (fun eg => by subst eg; rw [hbox] at h; cases h)).trans h⟩
            · obtain ⟨g, e, h⟩ := hφ
              exact ⟨g, e, (hne g (fun eg => by subst eg; rw [hbox] at h; cases h)).trans h⟩
            · obtain ⟨v, e, h⟩ := hφ
              exact ⟨v, e, h.mono fun b hb ho => hne b (by have := ho.2; omega)⟩
            · obtain ⟨v, e, h⟩ := hφ
              exact ⟨v, e, h.mono fun b hb ho => hne b (by have := ho.2; omega)⟩
            · exact Rd.mono (fun b hb ho => hne b (by have := ho.2; omega)) hφ
            · obtain ⟨B', d0, d1, d2, d3, d4, e, hB', h⟩ := hφ
              by_cases eB : B' = B
              · subst eB
                exact ⟨B', _, _, _, _, _, e, hB', Q⟩
              · exact ⟨B', d0, d1, d2, d3, d4, e, hB', (hne B' eB).trans h⟩
          · intro u w' hch hφ hu10 hψ A2 hA2
            obtain ⟨B, E5, r5, E6, r6, hu9, hB, hBx, hrB⟩ := hψ
            have hu11 : u 11 = .bool bq := hφ 11 (by decide) (by decide)
            have hcB : Chg [] wr w' := (Chg.refl [] wr).dr.trans hch New.nil
            have HNB := Lib.hid (HNR.out.go hcB)
            have hDB : w1.heap.size < B := by
              obtain ⟨_, _, _, _, hb, _⟩ := HNR.out.box
              have := (Array.getElem?_eq_some_iff.1 hb).1
              omega
            have HBX := Lib.hid hBx
            have HVX : Hid (∀ W, Chg [] w W → RdV (fun b => o b ∧ b < w.heap.size) W x.vals (.slice E6 x.vals.length r6)) := by
              obtain ⟨_, _, _, _, he, _, hvx⟩ := hrB.five
              cases he
              have hcwb := HNB.out.chg
              exact Lib.hid fun W hW => hvx.mono fun b hb ho => (hW.block b ho.2 (by simp)).trans (hcwb.block b ho.2 (by simp)).symm
            simp [putAll, dOf, Act.put, hu9, hu11, hu10, Act.g] at hA2
            subst hA2
            clear hφ hu9 hu10 hu11 hrB hBx hch hcB
            refine HK.out _ _ ?_
            clear HK
            go_wp2_with fail
            go_loopg [15] x.vals.length (fun g i wx => ∃ m : Nat, m ≤ x.vals.length ∧ g = x.vals.length - m ∧ i = .int .i64 m ∧ NInv o w w1.heap.size #[.int .i64 t.kind, .int .i64 t.num, .string t.txt, .slice A3 t.keys.length q3, .slice A4 t.vals.length q4] (.map (needs impS (depN t.m n) (pnm (x.vals.take m)))) wx ∧ wx.heap[B]? = some (.cells #[.int .i64 x.kind, .int .i64 x.num, .string x.txt, .slice E5 x.keys.length r5, .slice E6 x.vals.length r6] 25) ∧ ∀ j y, j < m → x.vals[j]? = some y → LinkEl y)
            case atStart => exact ⟨0, Nat.zero_le _, by omega, rfl, HNB.out, HBX.out, fun j y hj => by omega⟩
            case round =>
              obtain ⟨m, hm, rfl, rfl, hNx, hBx, hel⟩ := hrel
              have HNX := Lib.hid hNx
              have HEL := Lib.hid hel
              have hxl := hfx.len
              obtain ⟨x0, x1, x2, x3, x4, xf⟩ := cells5 hBx
              clear hNx hel
              by_cases hlm : m < x.vals.length
              · obtain ⟨y, hy⟩ : ∃ y, x.vals[m]? = some y := ⟨_, List.getElem?_eq_getElem hlm⟩
                obtain ⟨gy, cy, B5, p5, B6, p6, ey, hgy, ry, yc⟩ := (HVX.out _ HNX.out.chg).elem hy
                cases ey
                have YC := Lib.hid yc
                obtain ⟨y0, y1, y2, y3, y4⟩ := yc _ (Chg.refl [] _)
                have hfy := hfx.vals (List.mem_of_getElem? hy)
                have HY := Lib.hid hy
                have hfyt := hfy.txt
                clear hy yc
                go_wp2_with fail
                refine (shortParts_any y.txt _ hfyt).mono ?_
                rintro e w6 ⟨v', l, rfl, hc6, hl6, hparts⟩
                have HN6 := Lib.hid (HNX.out.go hc6)
                have HB6 := Lib.hid (box5 hBx _ hc6)
                have HYC : Hid (∀ W, Chg [] w6 W → W.cell? ⟨gy, m * 5, none⟩ = some (.int .i64 y.kind)) := Lib.hid fun W hW => (YC.out W (hc6.trans hW New.nil)).1
                have hz : l[0]? = some (part0 y.txt) := hparts.zero
                obtain ⟨gl, cl, el, hgl, hlc⟩ := hl6.elem hz
                subst el
                have HL0 := Lib.hid hlc
                have HL6 := Lib.hid hl6
                have HPARTS := Lib.hid hparts
                clear hc6 hl6 hparts hz hlc y0 y1 y2 y3 y4 x0 x1 x2 x3 x4 xf hBx
                go_upto_region 27 with fail
                go_cut [170] (fun s170 wx => ∃ b : Bool, s170 = .bool b ∧ Chg [] w6 wx ∧ (b = false → LinkEl y))
                case first => as_aux_lemma =>
                  obtain ⟨x0, x1, x2, x3, x4, xf⟩ := cells5 HB6.out
                  have y0 := HYC.out _ (Chg.refl [] _)
                  by_cases hk3 : y.kind = 3
                  · have hk3' : (y.kind != 3) = false := by rw [hk3]; rfl
                    have HK3 := Lib.hid hk3
                    clear hk3
                    rcases l with _ | ⟨p0, _ | ⟨p1, _ | ⟨p2, l⟩⟩⟩
                    · have := HPARTS.out.len
                      simp at this
                    · obtain rfl : p0 = part0 y.txt := by simpa using HPARTS.out.zero
                      have hps : (part0 y.txt).size ≤ 67108864 := Nat.le_trans (HPARTS.out.size _ (by simp)) hfyt
                      have l0 := HL0.out _ (Chg.refl [] _)
                      go_wp2_with fail
                      refine (sayName_any _ _ hps).mono ?_
                      rintro e w7 ⟨b1, rfl, hc7⟩
                      clear l0 x0 x1 x2 x3 x4 xf y0
                      cases b1 with
                      | false =>
                        go_wp2_with fail
                        go_meet
                        exact ⟨true, rfl, hc7, fun h => by cases h⟩
                      | true =>
                        have l0 := HL0.out _ hc7
                        go_wp2_with fail
                        refine (sayName_any _ _ hps).mono ?_
                        rintro e w8 ⟨b2, rfl, hc8⟩
                        have hc78 := hc7.trans hc8 New.nil
                        clear l0
                        cases b2 with
                        | false =>
                          go_wp2_with fail
                          go_meet
                          exact ⟨true, rfl, hc78, fun h => by cases h⟩
                        | true =>
                          have l0 := HL0.out _ hc78
                          by_cases hct : part0 y.txt = kContainer
                          · have hct' : ((part0 y.txt).toList == [99, 111, 110, 116, 97, 105, 110, 101, 114]) = true := by rw [hct]; kernel_rfl
                            clear hct
                            go_wp2_with fail
                            go_meet
                            exact ⟨true, rfl, hc78, fun h => by cases h⟩
                          · have hct' : ((part0 y.txt).toList == [99, 111, 110, 116, 97, 105, 110, 101, 114]) = false := ne_toList hct (by kernel_rfl)
                            have HCT := Lib.hid hct
                            clear hct
                            by_cases hn1 : n = 1
                            · have hn1' : ((n : Int) == 1) = true := by simp [hn1]
                              clear hn1
                              go_wp2_with fail
                              go_meet
                              exact ⟨false, rfl, hc78, fun _ => ⟨HK3.out, HCT.out, by have := HPARTS.out.len; simp at this; omega⟩⟩
                            · have hn1' : ((n : Int) == 1) = false := by simp; omega
                              clear hn1
                              go_wp2_with fail
                              go_meet
                              exact ⟨false, rfl, hc78, fun _ => ⟨HK3.out, HCT.out, by have := HPARTS.out.len; simp at this; omega⟩⟩
                    · obtain rfl : p0 = part0 y.txt := by simpa using HPARTS.out.zero
                      have hps : (part0 y.txt).size ≤ 67108864 := Nat.le_trans (HPARTS.out.size _ (by simp)) hfyt
                      have hps1 : p1.size ≤ 67108864 := Nat.le_trans (HPARTS.out.size _ (by simp)) hfyt
                      have l0 := HL0.out _ (Chg.refl [] _)
                      obtain ⟨gl', cl', el', _, hl1⟩ := HL6.out.elem (n := 1) (s := p1) rfl
                      cases el'
                      have HL1 := Lib.hid hl1
                      clear hl1
                      go_wp2_with fail
                      refine (sayName_any _ _ hps).mono ?_
                      rintro e w7 ⟨b1, rfl, hc7⟩
                      clear l0 x0 x1 x2 x3 x4 xf y0
                      cases b1 with
                      | false =>
                        go_wp2_with fail
                        go_meet
                        exact ⟨true, rfl, hc7, fun h => by cases h⟩
                      | true =>
                        have l0 := HL0.out _ hc7
                        have l1 := HL1.out _ hc7
                        go_wp2_with fail
                        refine (sayName_any _ _ hps1).mono ?_
                        rintro e w8 ⟨b2, rfl, hc8⟩
                        have hc78 := hc7.trans hc8 New.nil
                        clear l0
                        cases b2 with
                        | false =>
                          go_wp2_with fail
                          go_meet
                          exact ⟨true, rfl, hc78, fun h => by cases h⟩
                        | true =>
                          have l0 := HL0.out _ hc78
                          by_cases hct : part0 y.txt = kContainer
                          · have hct' : ((part0 y.txt).toList == [99, 111, 110, 116, 97, 105, 110, 101, 114]) = true := by rw [hct]; kernel_rfl
                            clear hct
                            go_wp2_with fail
                            go_meet
                            exact ⟨true, rfl, hc78, fun h => by cases h⟩
                          · have hct' : ((part0 y.txt).toList == [99, 111, 110, 116, 97, 105, 110, 101, 114]) = false := ne_toList hct (by kernel_rfl)
                            have HCT := Lib.hid hct
                            clear hct
                            by_cases hn1 : n = 1
                            · have hn1' : ((n : Int) == 1) = true := by simp [hn1]
                              clear hn1
                              have l1 := HL1.out _ hc78
                              obtain ⟨W9, hW9⟩ : ∃ W9, W9 = w8.alloc (.cells #[.string ⟨#[114, 111]⟩, .string ⟨#[114, 119]⟩] 9) := ⟨_, rfl⟩
                              have hc9 : Chg [] w6 W9 := hW9 ▸ hc78.al _
                              have hl9 : W9.heap[w8.heap.size]? = some (.cells #[.string ⟨#[114, 111]⟩, .string ⟨#[114, 119]⟩] 9) := hW9 ▸ heap_alloc_new w8 _
                              go_wp2_with fail
                              rw [← hW9]
                              clear hW9
                              refine (sayIn_any (o := fun _ => True) p1 [⟨#[114, 111]⟩, ⟨#[114, 119]⟩] _ W9 (RdK.lit [⟨#[114, 111]⟩, ⟨#[114, 119]⟩] hl9 rfl) (by decide)).mono ?_
                              rintro e w10 ⟨rfl, rfl⟩
                              generalize decide (p1 ∈ ([⟨#[114, 111]⟩, ⟨#[114, 119]⟩] : List ByteArray)) = b3
                              cases b3 with
                              | false =>
                                go_wp2_with fail
                                go_meet
                                exact ⟨true, rfl, hc9, fun h => by cases h⟩
                              | true =>
                                go_wp2_with fail
                                go_meet
                                exact ⟨false, rfl, hc9, fun _ => ⟨HK3.out, HCT.out, by have := HPARTS.out.len; simp at this; omega⟩⟩
                            · have hn1' : ((n : Int) == 1) = false := by simp; omega
                              clear hn1
                              go_wp2_with fail
                              go_meet
                              exact ⟨false, rfl, hc78, fun _ => ⟨HK3.out, HCT.out, by have := HPARTS.out.len; simp at this; omega⟩⟩
                    · have hl2 : decide (2 < (p0 :: p1 :: p2 :: l).length) = true := by simp
                      go_wp2_with fail
                      go_meet
                      exact ⟨true, rfl, Chg.refl _ _, fun h => by cases h⟩
                  · have hk3' : (y.kind != 3) = true := by simpa using hk3
                    clear hk3
                    go_wp2_with fail
                    go_meet
                    exact ⟨true, rfl, Chg.refl _ _, fun h => by cases h⟩
                case rest => as_aux_lemma =>
                  obtain ⟨b, rfl, hc, hq⟩ := hcut
                  have HNW := Lib.hid (HN6.out.go hc)
                  have HBW := Lib.hid (box5 HB6.out _ hc)
                  have HQ := Lib.hid hq
                  have l0 := HL0.out _ hc
                  clear hc hq
                  cases b with
                  | true =>
                    clear l0
                    obtain ⟨E3, r3, E4, r4, hbx, hrx⟩ := (HNW.out).box
                    have hres := (HNW.out).res
                    have hchx := (HNW.out).chg
                    have HRX := Lib.hid hrx
                    clear hrx
                    obtain ⟨b0, b1, b2, b3, b4, bf⟩ := cells5 hbx
                    obtain ⟨d0, d1, d2, d3, d4, df⟩ := cells5 hres
                    go_wp2
                    obtain ⟨W, hW, Q, hne, hcW, _⟩ := store5 hres hchx (by omega : w.heap.size ≤ w.heap.size + 1) (.int .i64 ((T.map (needs impS (depN t.m n) (pnm (x.vals.take m))))).kind) (.int .i64 ((T.map (needs impS (depN t.m n) (pnm (x.vals.take m))))).num) (.string ((T.map (needs impS (depN t.m n) (pnm (x.vals.take m))))).txt) (.slice E3 ((T.map (needs impS (depN t.m n) (pnm (x.vals.take m))))).keys.length r3) (.slice E4 ((T.map (needs impS (depN t.m n) (pnm (x.vals.take m))))).vals.length r4)
                    rw [← hW]
                    obtain ⟨e0, e1, e2, e3, e4, _⟩ := cells5 Q
                    refine bodyPost_ret (v := .tuple #[.agg #[.int .i64 ((T.map (needs impS (depN t.m n) (pnm (x.vals.take m))))).kind, .int .i64 ((T.map (needs impS (depN t.m n) (pnm (x.vals.take m))))).num, .string ((T.map (needs impS (depN t.m n) (pnm (x.vals.take m))))).txt, .slice E3 ((T.map (needs impS (depN t.m n) (pnm (x.vals.take m))))).keys.length r3, .slice E4 ((T.map (needs impS (depN t.m n) (pnm (x.vals.take m))))).vals.length r4], .bool false]) (by simp [results, Tryz.results49, go_sem, e0, e1, e2, e3, e4]) rfl ⟨_, _, (T.map (needs impS (depN t.m n) (pnm (x.vals.take m)))), rfl, hcW, HRX.out.to fun b _ ho => ⟨ho.1, hne b ho.2.2⟩, (fun h => by cases h), fun _ => getD_kind HXB.out.1 HY.out⟩
                  | false =>
                    have hszw2 : w.heap.size + 1 < wc.heap.size := (Array.getElem?_eq_some_iff.1 HNW.out.res).1
                    obtain ⟨E7, r7, E8, r8, hDx, hrD⟩ := HNW.out.box
                    have HRD := Lib.hid hrD
                    have hDlt := (Array.getElem?_eq_some_iff.1 hDx).1
                    have hDw := HNW.out.lt
                    have hglw : gl < wc.heap.size := World.block_lt_of_cell? wc _ l0
                    clear hrD
                    have hlen1 : 0 < l.length := by have := HPARTS.out.len; omega
                    have hlen2 : l.length ≤ 67108865 := by
                      have := HPARTS.out.len
                      have := cnt_le y.txt y.txt.size
                      omega
                    go_wp2_with fail
                    rename_i K hK
                    have HK := Lib.hid hK
                    clear hK
                    refine wp_region_tail (by rfl) (by kernel_rfl) [4, 16] (by kernel_rfl)
                      (fun j u V => match j with
                        | 0 => u = .agg #[.int .i64 (T.map (needs impS (depN t.m n) (pnm (x.vals.take m)))).kind, .int .i64 (T.map (needs impS (depN t.m n) (pnm (x.vals.take m)))).num, .string (T.map (needs impS (depN t.m n) (pnm (x.vals.take m)))).txt, .slice E7 (T.map (needs impS (depN t.m n) (pnm (x.vals.take m)))).keys.length r7, .slice E8 (T.map (needs impS (depN t.m n) (pnm (x.vals.take m)))).vals.length r8]
                        | 1 => u = .slice (some ⟨gl, 0, none⟩) l.length cl
                        | 2 => u = .pointer (some ⟨gl, 0, none⟩)
                        | 3 => u = .string (part0 y.txt)
                        | 4 => Rd (OffB o w1.heap.size (w.heap.size + 1)) V (.map (need impS (needs impS (depN t.m n) (pnm (x.vals.take m))) (part0 y.txt))) u
                        | _ => True) ?_ ?_ ?_
                    · intro j u V V' hc hφ
                      rcases j with _ | _ | _ | _ | _ | j
                      all_goals first | exact hφ | exact Rd.chg hφ hc
                    · intro j oo hj ho a' w' hst hch hdep K2 hK2
                      have hsz : wc.heap.size ≤ w'.heap.size := hch.size
                      have hcrw := HNW.out.chg.trans ((Chg.refl [] _).dr.trans hch New.nil) New.nil
                      obtain ⟨b0, b1, b2, b3, b4, bf⟩ := cells5 ((hch.block w1.heap.size (by show w1.heap.size < wc.heap.size; exact hDlt) (by simp)).trans hDx)
                      have l0' := (World.cell?_of_block (hch.block gl (by show gl < wc.heap.size; exact hglw) (by simp))).trans l0
                      have HRDw : Hid (Rd (OffB o w1.heap.size (w.heap.size + 1)) w' (.map (needs impS (depN t.m n) (pnm (x.vals.take m)))) (.agg #[.int .i64 (T.map (needs impS (depN t.m n) (pnm (x.vals.take m)))).kind, .int .i64 (T.map (needs impS (depN t.m n) (pnm (x.vals.take m)))).num, .string (T.map (needs impS (depN t.m n) (pnm (x.vals.take m)))).txt, .slice E7 (T.map (needs impS (depN t.m n) (pnm (x.vals.take m)))).keys.length r7, .slice E8 (T.map (needs impS (depN t.m n) (pnm (x.vals.take m)))).vals.length r8]) ∧ (needs impS (depN t.m n) (pnm (x.vals.take m))).length ≤ 67108864 ∧ ∀ b, w'.heap.size ≤ b → OffB o w1.heap.size (w.heap.size + 1) b) := Lib.hid ⟨Rd.mono (w := wc) (fun b hb _ => hch.block b hb (by simp)) HRD.out, by
                          have h1 := needs_len (f := impS) (d := depN t.m n) (ks := pnm (x.vals.take m))
                          have h2 := depN_len (t := t) n
                          have h3 : (pnm (x.vals.take m)).length ≤ 16777216 := by
                            have := HXL.out
                            simp [pnm]
                            omega
                          have h4 := HD0S.out.2
                          have h5 : n < 2 := hlt
                          have h6 : n * T.size t ≤ 1 * T.size t := Nat.mul_le_mul_right _ (by omega)
                          omega, fun b hb => ⟨hno b (by omega), by omega, by omega⟩⟩
                      have hj' : j < 5 := hj
                      rcases j with _ | _ | _ | _ | _ | j
                      · obtain rfl : _ = oo := Option.some.inj ho  -- 0: slot 172
                        have h4 := g_eq (t := 4) (v := .pointer (some ⟨w1.heap.size, 0, none⟩)) (hst 4 (by simp))
                        unfold Oper.wp
                        go_simp
                        exact ⟨_, rfl, hK2 _ _ (Chg.refl _ _) rfl⟩
                      · obtain rfl : _ = oo := Option.some.inj ho  -- 1: slot 173
                        have h16 := g_eq (t := 16) (v := .slice (some ⟨gl, 0, none⟩) l.length cl) (hst 16 (by simp))
                        unfold Oper.wp
                        go_simp
                        exact ⟨_, rfl, hK2 _ _ (Chg.refl _ _) rfl⟩
                      · obtain rfl : _ = oo := Option.some.inj ho  -- 2: slot 174
                        have h173 := g_eq (t := 173) (v := .slice (some ⟨gl, 0, none⟩) l.length cl) (hdep 1 (by kernel_rfl))
                        unfold Oper.wp
                        go_simp
                        exact ⟨_, rfl, hK2 _ _ (Chg.refl _ _) rfl⟩
                      · obtain rfl : _ = oo := Option.some.inj ho  -- 3: slot 175
                        have h174 := g_eq (t := 174) (v := .pointer (some ⟨gl, 0, none⟩)) (hdep 2 (by kernel_rfl))
                        unfold Oper.wp
                        go_simp
                        exact ⟨_, rfl, hK2 _ _ (Chg.refl _ _) rfl⟩
                      · obtain rfl : _ = oo := Option.some.inj ho  -- 4: slot 176
                        have h172 := g_eq (t := 172) (v := .agg #[.int .i64 (T.map (needs impS (depN t.m n) (pnm (x.vals.take m)))).kind, .int .i64 (T.map (needs impS (depN t.m n) (pnm (x.vals.take m)))).num, .string (T.map (needs impS (depN t.m n) (pnm (x.vals.take m)))).txt, .slice E7 (T.map (needs impS (depN t.m n) (pnm (x.vals.take m)))).keys.length r7, .slice E8 (T.map (needs impS (depN t.m n) (pnm (x.vals.take m)))).vals.length r8]) (hdep 0 (by kernel_rfl))
                        have h175 := g_eq (t := 175) (v := .string (part0 y.txt)) (hdep 3 (by kernel_rfl))
                        unfold Oper.wp
                        go_simp
                        refine (normNeed_any (o := OffB o w1.heap.size (w.heap.size + 1)) (needs impS (depN t.m n) (pnm (x.vals.take m))) (part0 y.txt) _ _ HRDw.out.1 (needs_srt (depN_srt HD0S.out.1 n)) HRDw.out.2.1 HRDw.out.2.2).mono ?_
                        rintro e w10 ⟨v', rfl, hc10, hr10⟩
                        exact ⟨_, rfl, hK2 _ _ hc10 hr10⟩
                      · omega
                    · intro oo ho u w' hch hφ A2 hA2
                      obtain rfl : _ = oo := Option.some.inj ho
                      have l4 : 4 < 5 := by omega
                      have hu4 : Rd (OffB o w1.heap.size (w.heap.size + 1)) w' (.map (need impS (needs impS (depN t.m n) (pnm (x.vals.take m))) (part0 y.txt))) (u 4) := hφ 4 l4
                      rw [← needs_snoc] at hu4
                      have hpn : pnm (x.vals.take m) ++ [part0 y.txt] = pnm (x.vals.take (m + 1)) := by
                        rw [take_snoc HY.out]
                        simp [pnm]
                      rw [hpn] at hu4
                      obtain ⟨E5', r5', E6', r6', hu, _⟩ := hu4.five
                      rw [hu] at hu4
                      have hcB : Chg [] wc w' := (Chg.refl [] wc).dr.trans hch New.nil
                      have HNZ := Lib.hid (HNW.out.go hcB)
                      have HBZ := Lib.hid (box5 HBW.out _ hcB)
                      obtain ⟨W3, hW3⟩ : ∃ W3, W3 = (((((w'.setCell ⟨w1.heap.size, 0, none⟩ (.int .i64 (T.map (needs impS (depN t.m n) (pnm (x.vals.take (m + 1))))).kind)).setCell ⟨w1.heap.size, 1, none⟩ (.int .i64 (T.map (needs impS (depN t.m n) (pnm (x.vals.take (m + 1))))).num)).setCell ⟨w1.heap.size, 2, none⟩ (.string (T.map (needs impS (depN t.m n) (pnm (x.vals.take (m + 1))))).txt)).setCell ⟨w1.heap.size, 3, none⟩ (.slice E5' (T.map (needs impS (depN t.m n) (pnm (x.vals.take (m + 1))))).keys.length r5')).setCell ⟨w1.heap.size, 4, none⟩ (.slice E6' (T.map (needs impS (depN t.m n) (pnm (x.vals.take (m + 1))))).vals.length r6')) := ⟨_, rfl⟩
                      have HNZ3 := Lib.hid (HNZ.out.put hu4 W3 hW3)
                      have hBZ3 := (setCells5_ne w' w1.heap.size (.int .i64 (T.map (needs impS (depN t.m n) (pnm (x.vals.take (m + 1))))).kind) (.int .i64 (T.map (needs impS (depN t.m n) (pnm (x.vals.take (m + 1))))).num) (.string (T.map (needs impS (depN t.m n) (pnm (x.vals.take (m + 1))))).txt) (.slice E5' (T.map (needs impS (depN t.m n) (pnm (x.vals.take (m + 1))))).keys.length r5') (.slice E6' (T.map (needs impS (depN t.m n) (pnm (x.vals.take (m + 1))))).vals.length r6') B (by omega)).trans HBZ.out
                      rw [← hW3] at hBZ3
                      have HBZ3 := Lib.hid hBZ3
                      have HW3 := Lib.hid hW3
                      obtain ⟨_, _, _, _, hbz, _⟩ := HNZ.out.box
                      simp [putAll, dOf, Act.put, hu] at hA2
                      subst hA2
                      clear hφ l4 ho hu hu4 hcB hBZ3 hW3 hch
                      obtain ⟨b0, b1, b2, b3, b4, bf⟩ := cells5 hbz
                      clear hbz
                      unfold Oper.wp
                      go_simp
                      refine HK.out _ _ ?_
                      clear HK b0 b1 b2 b3 b4 bf
                      go_wp2_with fail
                      rw [← HW3.out]
                      go_roundg (x.vals.length - (m + 1))
                      case measure => omega
                      case rel =>
                        refine ⟨m + 1, by omega, rfl, by go_num, HNZ3.out, HBZ3.out, fun j z hj hz => ?_⟩
                        rcases Nat.lt_or_ge j m with h | h
                        · exact HEL.out j z h hz
                        · obtain rfl : j = m := by omega
                          rw [HY.out] at hz
                          cases hz
                          exact HQ.out (by trivial)
              · have hmE : m = x.vals.length := by omega
                have HME := Lib.hid hmE
                clear hmE
                have HREL : Hid (bq = false ∨ x.kind = 4 → NInv o w w1.heap.size #[.int .i64 t.kind, .int .i64 t.num, .string t.txt, .slice A3 t.keys.length q3, .slice A4 t.vals.length q4] (.map (depN t.m (n + 1))) wr ∧ ∀ j, j < n + 1 → LinksOK (keyN j) t.m) := Lib.hid (by
                  intro hor
                  have hN := HNX.out
                  have hel := HEL.out
                  rw [HME.out] at hN hel
                  rw [List.take_length] at hN
                  have hXB := HXB.out
                  cases hg : tget (keyN n) t with
                  | none =>
                    rw [hg] at hXB
                    have hx0 : x = .null := hXB.1.symm
                    have hlk : lnk (keyN n) t.m = [] := by unfold lnk; rw [← tget_m, hg]
                    refine ⟨?_, fun j hj => ?_⟩
                    · show NInv o w w1.heap.size _ (.map (needs impS (depN t.m n) (lnk (keyN n) t.m))) _
                      rw [hlk]
                      rw [hx0] at hN
                      exact hN
                    · rcases Nat.lt_or_ge j n with h | h
                      · exact HLK.out j h
                      · obtain rfl : j = n := by omega
                        intro t' ht'
                        rw [← tget_m, hg] at ht'
                        cases ht'
                  | some x' =>
                    rw [hg] at hXB
                    obtain rfl : x' = x := hXB.1
                    have hbt : bq = true := hXB.2.symm
                    have hk4 : x'.kind = 4 := by
                      rcases hor with h | h
                      · rw [h] at hbt; cases hbt
                      · exact h
                    obtain ⟨l4, rfl⟩ : ∃ l4, x' = .list l4 := by
                      cases x' <;> first | exact ⟨_, rfl⟩ | cases hk4
                    have hlk : lnk (keyN n) t.m = pnm l4 := by unfold lnk; rw [← tget_m, hg]; rfl
                    refine ⟨?_, fun j hj => ?_⟩
                    · show NInv o w w1.heap.size _ (.map (needs impS (depN t.m n) (lnk (keyN n) t.m))) _
                      rw [hlk]
                      exact hN
                    · rcases Nat.lt_or_ge j n with h | h
                      · exact HLK.out j h
                      · obtain rfl : j = n := by omega
                        intro t' ht'
                        rw [← tget_m, hg] at ht'
                        cases ht'
                        refine ⟨l4, rfl, fun z hz => ?_⟩
                        obtain ⟨i, hi, e⟩ := List.mem_iff_getElem.1 hz
                        exact (hel i z hi (by rw [← e]; exact List.getElem?_eq_getElem hi)).text)
                cases bq with
                | false =>
                  go_wp2_with fail
                  go_roundg (2 - (n + 1))
                  case measure => omega
                  case rel =>
                    obtain ⟨h1, h2⟩ := HREL.out (.inl (by trivial))
                    exact ⟨n + 1, by omega, rfl, by go_num, h1, h2⟩
                | true =>
                  by_cases hk4 : x.kind = 4
                  · have hk4' : (x.kind != 4) = false := by rw [hk4]; rfl
                    have HK4 := Lib.hid hk4
                    clear hk4
                    go_wp2_with fail
                    go_roundg (2 - (n + 1))
                    case measure => omega
                    case rel =>
                      obtain ⟨h1, h2⟩ := HREL.out (.inr HK4.out)
                      exact ⟨n + 1, by omega, rfl, by go_num, h1, h2⟩
                  · have hk4' : (x.kind != 4) = true := by simpa using hk4
                    clear hk4 hBx
                    obtain ⟨E3, r3, E4, r4, hbx, hrx⟩ := (HNX.out).box
                    have hres := (HNX.out).res
                    have hchx := (HNX.out).chg
                    have HRX := Lib.hid hrx
                    clear hrx
                    obtain ⟨b0, b1, b2, b3, b4, bf⟩ := cells5 hbx
                    obtain ⟨d0, d1, d2, d3, d4, df⟩ := cells5 hres
                    go_wp2
                    obtain ⟨W, hW, Q, hne, hcW, _⟩ := store5 hres hchx (by omega : w.heap.size ≤ w.heap.size + 1) (.int .i64 ((T.map (needs impS (depN t.m n) (pnm (x.vals.take m))))).kind) (.int .i64 ((T.map (needs impS (depN t.m n) (pnm (x.vals.take m))))).num) (.string ((T.map (needs impS (depN t.m n) (pnm (x.vals.take m))))).txt) (.slice E3 ((T.map (needs impS (depN t.m n) (pnm (x.vals.take m))))).keys.length r3) (.slice E4 ((T.map (needs impS (depN t.m n) (pnm (x.vals.take m))))).vals.length r4)
                    rw [← hW]
                    obtain ⟨e0, e1, e2, e3, e4, _⟩ := cells5 Q
                    refine bodyPost_ret (v := .tuple #[.agg #[.int .i64 ((T.map (needs impS (depN t.m n) (pnm (x.vals.take m))))).kind, .int .i64 ((T.map (needs impS (depN t.m n) (pnm (x.vals.take m))))).num, .string ((T.map (needs impS (depN t.m n) (pnm (x.vals.take m))))).txt, .slice E3 ((T.map (needs impS (depN t.m n) (pnm (x.vals.take m))))).keys.length r3, .slice E4 ((T.map (needs impS (depN t.m n) (pnm (x.vals.take m))))).vals.length r4], .bool false]) (by simp [results, Tryz.results49, go_sem, e0, e1, e2, e3, e4]) rfl ⟨_, _, (T.map (needs impS (depN t.m n) (pnm (x.vals.take m)))), rfl, hcW, HRX.out.to fun b _ ho => ⟨ho.1, hne b ho.2.2⟩, (fun h => by cases h), fun _ => isSome_kind HXB.out.2⟩
        · have hnE : n = 2 := by omega
          have HNE := Lib.hid hnE
          clear hnE
          obtain ⟨E3, r3, E4, r4, hbx, hrx⟩ := (HNR.out).box
          have hres := (HNR.out).res
          have hchx := (HNR.out).chg
          have HRX := Lib.hid hrx
          clear hrx
          obtain ⟨b0, b1, b2, b3, b4, bf⟩ := cells5 hbx
          obtain ⟨d0, d1, d2, d3, d4, df⟩ := cells5 hres
          go_wp2
          obtain ⟨W, hW, Q, hne, hcW, _⟩ := store5 hres hchx (by omega : w.heap.size ≤ w.heap.size + 1) (.int .i64 ((T.map (depN t.m n))).kind) (.int .i64 ((T.map (depN t.m n))).num) (.string ((T.map (depN t.m n))).txt) (.slice E3 ((T.map (depN t.m n))).keys.length r3) (.slice E4 ((T.map (depN t.m n))).vals.length r4)
          rw [← hW]
          obtain ⟨e0, e1, e2, e3, e4, _⟩ := cells5 Q
          refine bodyPost_ret (v := .tuple #[.agg #[.int .i64 ((T.map (depN t.m n))).kind, .int .i64 ((T.map (depN t.m n))).num, .string ((T.map (depN t.m n))).txt, .slice E3 ((T.map (depN t.m n))).keys.length r3, .slice E4 ((T.map (depN t.m n))).vals.length r4], .bool true]) (by simp [results, Tryz.results49, go_sem, e0, e1, e2, e3, e4]) rfl ⟨_, _, (T.map (depN t.m n)), rfl, hcW, HRX.out.to fun b _ ho => ⟨ho.1, hne b ho.2.2⟩, fun _ => ⟨⟨HDEP.out, HMODE.out, HLK.out 0 (by have := HNE.out; omega), HLK.out 1 (by have := HNE.out; omega)⟩, by rw [HNE.out]; rfl⟩, fun h => by cases h⟩
end Go.Proofs.YtedbfoknfdiadaaGreatDoor
