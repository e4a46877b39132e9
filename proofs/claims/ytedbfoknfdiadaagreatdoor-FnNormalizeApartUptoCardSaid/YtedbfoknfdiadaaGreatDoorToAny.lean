/- impl.toAny: the any that a Val stands for. Conditions: lengths. -/
import Derived.Test.YtedbfoknfdiadaaGreatDoorToMap
set_option linter.unusedVariables false
set_option linter.unusedSimpArgs false
namespace Go.Proofs.YtedbfoknfdiadaaGreatDoor
open Go.RowKit
variable {o : Nat → Prop}
set_option maxRecDepth 100000

theorem OwnL.snoc {w : World} {t : T} {v : Value} {Fv : List Nat} (hv : Own w t v Fv) : ∀ {l : List T} {cs : List Value} {F : List Nat}, OwnL w l cs F → OwnL w (l ++ [t]) (cs ++ [v]) (F ++ Fv)
  | [], cs, F, h => by
    simp only [OwnL] at h
    obtain ⟨rfl, rfl⟩ := h
    simp only [List.nil_append, OwnL]
    exact ⟨v, [], Fv, [], rfl, hv, ⟨rfl, rfl⟩, by simp⟩
  | x :: l, cs, F, h => by
    simp only [OwnL] at h
    obtain ⟨v', r, F1, F2, rfl, h1, h2, rfl⟩ := h
    simp only [List.cons_append, OwnL]
    exact ⟨v', r ++ [v], F1, F2 ++ Fv, rfl, h1, h2.snoc hv, by rw [List.append_assoc]⟩
theorem Own.shape {w : World} {t : T} {v : Value} {F : List Nat} (h : Own w t v F) : v = .nilIface ∨ ∃ ty u, v = .iface ty u := by
  cases t
  all_goals simp only [Own] at h
  case null => exact .inl h.1
  case bool => exact .inr ⟨_, _, h.1⟩
  case int => exact .inr ⟨_, _, h.1⟩
  case text => exact .inr ⟨_, _, h.1⟩
  case list => obtain ⟨_, _, _, _, h, _⟩ := h; exact .inr ⟨_, _, h⟩
  case map => obtain ⟨_, _, _, h, _⟩ := h; exact .inr ⟨_, _, h⟩
theorem take_set {cur : Array Value} {n : Nat} (h : n < cur.size) (a : Value) : (cur.setIfInBounds n a).toList.take (n + 1) = cur.toList.take n ++ [a] := by
  rw [Array.toList_setIfInBounds, List.take_add_one, List.take_set_of_le (Nat.le_refl n)]
  simp [h]
theorem iA : (Tryz.prog.info? 20).map (fun i => (i.zero, i.size, i.bytes)) = some (some .nilIface, 1, 16) := by kernel_rfl
set_option maxHeartbeats 1000000 in
theorem toAny_any {B : Nat} (nn : Nat) : ∀ (t : T) (v : Value) (w : World), T.size t ≤ nn → nn ≤ 67108864 → WF B t → Rd o w t v → Calls Tryz.prog 59 #[v] w (AnyR w t) := by
  induction nn with
  | zero => exact fun t _ _ hn => absurd hn (by have := T.size_pos t; omega)
  | succ nn ih =>
  intro t v w hn hb hw h
  cases t with
  | null =>
    obtain ⟨ka, va, rfl, hk, hv⟩ := h.open
    simp only [T.kind, T.num, T.txt]
    clear h
    go_enter Tryz.func59, Tryz.ntmps59
    go_wp2
    go_ret
    exact ⟨_, [], rfl, (Chg.refl [] w).al _, ownNull _, by simp, by simp⟩
  | bool b =>
    obtain ⟨ka, va, rfl, hk, hv⟩ := h.open
    simp only [T.kind, T.num, T.txt]
    clear h
    go_enter Tryz.func59, Tryz.ntmps59
    cases b
    all_goals
      go_wp2
      go_ret
      exact ⟨_, [], rfl, (Chg.refl [] w).al _, ownBool _ _, by simp, by simp⟩
  | int n =>
    obtain ⟨ka, va, rfl, hk, hv⟩ := h.open
    simp only [T.kind, T.num, T.txt]
    clear h
    go_enter Tryz.func59, Tryz.ntmps59
    go_wp2
    go_ret
    exact ⟨_, [], rfl, (Chg.refl [] w).al _, ownInt _ _, by simp, by simp⟩
  | text s =>
    obtain ⟨ka, va, rfl, hk, hv⟩ := h.open
    simp only [T.kind, T.num, T.txt]
    clear h
    go_enter Tryz.func59, Tryz.ntmps59
    go_wp2
    go_ret
    exact ⟨_, [], rfl, (Chg.refl [] w).al _, ownText _ _, by simp, by simp⟩
  | map m =>
    have HM : Hid (∀ W, Chg [] w W → Calls Tryz.prog 38 #[v] W fun e w' => ∃ b F, e = .returned (.map (some b)) ∧ Chg [] W w' ∧ Own w' (.map m) (.iface 63 (.map (some b))) F ∧ F.Nodup ∧ ∀ x ∈ F, W.heap.size ≤ x) :=
      Lib.hid fun W hc => toMap_step (o := o) nn (fun t v w h1 h2 h3 => ih t v w h1 (by omega) h2 h3) m v W hn (h.chg hc) hw (by omega)
    obtain ⟨A3, q3, A4, q4, rfl, hk, hv⟩ := h.five
    have k1 : ((T.map m).kind == 1) = false := rfl
    have k2 : ((T.map m).kind == 2) = false := rfl
    have k3 : ((T.map m).kind == 3) = false := rfl
    have k4 : ((T.map m).kind == 4) = false := rfl
    have k5 : ((T.map m).kind == 5) = true := rfl
    clear ih h
    go_enter Tryz.func59, Tryz.ntmps59
    go_wp2_with fail
    refine (HM.out _ ((Chg.refl [] w).al _)).mono ?_
    rintro e w1 ⟨b, F, rfl, hc, ho, hn2, hF⟩
    go_wp2
    go_ret
    exact ⟨_, F, rfl, ((Chg.refl [] w).al _).trans hc New.nil, ho, hn2, fun x hx => by have := hF x hx; simp at this; omega⟩
  | list l =>
    obtain ⟨A3, q3, A4, q4, rfl, hk, hv⟩ := h.five
    have k1 : ((T.list l).kind == 1) = false := rfl
    have k2 : ((T.list l).kind == 2) = false := rfl
    have k3 : ((T.list l).kind == 3) = false := rfl
    have k4 : ((T.list l).kind == 4) = true := rfl
    have hvl := T.vals_len (.list l)
    have hll : (T.list l).vals.length ≤ 67108864 := by omega
    obtain ⟨i0, hi, hzz⟩ := Option.map_eq_some_iff.1 iA
    simp only [Prod.mk.injEq] at hzz
    obtain ⟨hz0, hs0, hb0⟩ := hzz
    obtain ⟨w1, hmk, hown, hgr⟩ := run_make_full (P := Tryz.prog) (w := w.alloc (.cells #[.int .i64 (T.list l).kind, .int .i64 (T.list l).num, .string (T.list l).txt, .slice A3 (T.list l).keys.length q3, .slice A4 (T.list l).vals.length q4] 35)) 0 74 20 i0 .nilIface 1 uL hi hz0 hs0 .i64 .i64 (T.list l).vals.length (by rw [hb0]; omega) (by unfold maxLen; omega) (Nat.zero_le _)
    have hsz1 : (w.alloc (.cells #[.int .i64 (T.list l).kind, .int .i64 (T.list l).num, .string (T.list l).txt, .slice A3 (T.list l).keys.length q3, .slice A4 (T.list l).vals.length q4] 35)).heap.size = w.heap.size + 1 := by simp
    rw [hsz1] at hmk hown
    have hc1 := (Chg.of_grown hgr)
    have hcw : Chg [] w w1 := ((Chg.refl [] w).al _).trans (hc1.mono (by simp)) New.nil
    have z1 : w1.heap[w.heap.size]? = some (.cells #[.int .i64 (T.list l).kind, .int .i64 (T.list l).num, .string (T.list l).txt, .slice A3 (T.list l).keys.length q3, .slice A4 (T.list l).vals.length q4] 35) := (hc1.block _ (by simp) (by simp)).trans (heap_alloc_new _ _)
    obtain ⟨cur, hcur, hcs⟩ : ∃ cur, w1.heap[w.heap.size + 1]? = some (.cells cur 20) ∧ cur.size = (T.list l).vals.length := by
      rcases hown.2 with ⟨h', _⟩ | ⟨g', cap', cur, h', hb', hh, hcc, hmm, hsz, htk⟩
      · cases h'
      · cases h'
        exact ⟨cur, hh, by simpa using hsz⟩
    obtain ⟨c0, c1, c2, c3, c4, cf⟩ := cells5 z1
    have HMK := Lib.hid (And.intro hcw (And.intro z1 (And.intro hcur hcs)))
    clear hi hz0 hs0 hb0 hown hgr hc1 hcw z1 hcur hcs hsz1
    go_enter Tryz.func59, Tryz.ntmps59
    go_wp2_with fail
    go_loopg [32] (T.list l).vals.length (fun g i wr => ∃ (n : Nat) (cur : Array Value) (F : List Nat), n ≤ (T.list l).vals.length ∧ g = (T.list l).vals.length - n ∧ i = .int .i64 n ∧ Chg [] w wr ∧ wr.heap[w.heap.size]? = some (.cells #[.int .i64 (T.list l).kind, .int .i64 (T.list l).num, .string (T.list l).txt, .slice A3 (T.list l).keys.length q3, .slice A4 (T.list l).vals.length q4] 35) ∧
      wr.heap[w.heap.size + 1]? = some (.cells cur 20) ∧ cur.size = (T.list l).vals.length ∧ OwnL wr ((T.list l).vals.take n) (cur.toList.take n) F ∧ F.Nodup ∧ ∀ b ∈ F, w.heap.size + 2 ≤ b)
    case atStart =>
      obtain ⟨h1, h2, h3, h4⟩ := HMK.out
      exact ⟨0, cur, [], Nat.zero_le _, by omega, rfl, h1, h2, h3, h4, by simp [OwnL], by simp, by simp⟩
    case round =>
      obtain ⟨n, cur, F, hn', rfl, rfl, hcr, z1, hcur, hcs, hol, hnd, hFb⟩ := hrel
      have HOL := Lib.hid (And.intro hol (And.intro hnd hFb))
      obtain ⟨a0, a1, a2, a3, a4, af⟩ := cells5 z1
      have hgs : w.heap.size + 1 < wr.heap.size := (Array.getElem?_eq_some_iff.1 hcur).1
      clear hol hnd hFb hmk c0 c1 c2 c3 c4 cf
      by_cases hlt : n < (T.list l).vals.length
      · obtain ⟨x, hx⟩ : ∃ x, (T.list l).vals[n]? = some x := ⟨_, List.getElem?_eq_getElem hlt⟩
        obtain ⟨ge, ce, A5, q5, A6, q6, ee, hge, rx, ye⟩ := hv.elem hx
        cases ee
        have hxs := T.sizeL_at hx
        have hts := T.size_vals (.list l)
        have HX := Lib.hid hx
        have hwx := hw.vals x (List.mem_of_getElem? hx)
        obtain ⟨y0, y1, y2, y3, y4⟩ := ye _ hcr
        have HRX := Lib.hid rx
        clear rx ye hx
        go_wp2_with fail
        refine (ih x _ wr (by omega) (by omega) hwx (HRX.out.chg hcr)).mono ?_
        rintro e w3 ⟨a, Fv, rfl, hc3, ho3, hn3, hb3⟩
        have z3 := box5 z1 _ hc3
        have hcur3 := (hc3.block _ hgs (by simp)).trans hcur
        have hcell : w3.cell? ⟨w.heap.size + 1, n, none⟩ = cur[n]? := cell_of_row w3 _ n _ _ (0, 0) hcur3
        rw [Array.getElem?_eq_getElem (by omega)] at hcell
        have hfr : w3.frozen? ⟨w.heap.size + 1, n, none⟩ = false := frozen_of_row w3 _ n _ _ hcur3
        have ho3s := ho3.shape
        have hc3s := hc3.size
        have HO3 := Lib.hid (And.intro ho3 (And.intro hn3 hb3))
        have HC3 := Lib.hid (And.intro (hcr.trans hc3 New.nil) (And.intro z3 (And.intro hcur3 hc3)))
        clear ho3 hn3 hb3 hc3 z3 hcur3 y0 y1 y2 y3 y4 a0 a1 a2 a3 a4 af
        have hz : w3.heap.size > w.heap.size + 1 := by have := hc3s; omega
        clear hc3s
        rcases ho3s with rfl | ⟨ty, u, rfl⟩
        all_goals
          go_wp2_with fail
          obtain ⟨hcw3, z3, hcur3, hc3⟩ := HC3.out
          obtain ⟨ho3, hn3, hb3⟩ := HO3.out
          obtain ⟨hol, hnd, hFb⟩ := HOL.out
          go_roundg ((T.list l).vals.length - (n + 1))
          case measure => omega
          case rel =>
            have hne : ∀ v b, b ≠ w.heap.size + 1 → (w3.setCell ⟨w.heap.size + 1, n, none⟩ v).heap[b]? = w3.heap[b]? := fun v b hb => heap_setCell_other _ _ _ _ hb
            have hcn : n < cur.size := by omega
            refine ⟨n + 1, _, F ++ Fv, by omega, rfl, by go_num, hcw3.st (by show w.heap.size ≤ w.heap.size + 1; omega) _, (hne _ _ (by omega)).trans z3, heap_setCell_same _ _ n _ _ _ hcur3, by simpa using hcs, ?_, ?_, ?_⟩
            · rw [take_snoc HX.out, take_set hcn]
              refine OwnL.snoc (ho3.frame fun b hb => hne _ b (by have := hb3 b hb; omega)) ?_
              exact hol.frame fun b hb => (hne _ b (by have := hFb b hb; omega)).trans (hc3.block b (hol.lt b hb) (by simp))
            · exact List.nodup_append.2 ⟨hnd, hn3, fun a ha b hb e => by
                have := hol.lt a ha
                have := hb3 b hb
                omega⟩
            · intro b hb
              rcases List.mem_append.1 hb with h | h
              · exact hFb b h
              · have := hb3 b h
                omega
      · have hE : n = (T.list l).vals.length := by omega
        have HE := Lib.hid hE
        clear hE
        go_wp2_with fail
        go_ret
        obtain ⟨hol, hnd, hFb⟩ := HOL.out
        have hE := HE.out
        rw [hE, List.take_length] at hol
        have hct : cur.toList.take (T.list l).vals.length = cur.toList := by rw [← hcs, ← Array.length_toList, List.take_length]
        rw [hct] at hol
        refine ⟨_, (w.heap.size + 1) :: F, rfl, hcr, ?_, ?_, ?_⟩
        · simp only [Own]
          have hl1 : (T.list l).vals.length = l.length := rfl
          rw [hl1] at hcs hct hll
          exact ⟨w.heap.size + 1, _, cur.toList, F, rfl, ⟨by rw [Array.length_toList, Nat.mul_one]; exact hcs, .inr ⟨w.heap.size + 1, _, cur, rfl, by omega, hcur, Nat.le_refl _, (by unfold maxLen; omega), by rw [Nat.mul_one]; exact hcs, by rw [Nat.mul_one]; exact hct⟩⟩, hol, rfl⟩
        · exact List.nodup_cons.2 ⟨fun h => by have := hFb _ h; omega, hnd⟩
        · intro b hb
          rcases List.mem_cons.1 hb with rfl | h
          · omega
          · have := hFb _ h
            omega
end Go.Proofs.YtedbfoknfdiadaaGreatDoor
