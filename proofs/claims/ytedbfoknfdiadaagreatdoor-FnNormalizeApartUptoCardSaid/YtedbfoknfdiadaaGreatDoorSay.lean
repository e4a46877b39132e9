/- The spec's tests of texts and of values: what they answer is a bool; what a yes says. Conditions: lengths. The spec's tests of values: sayText, sayTexts, sayShell, sayKnown. Conditions: lengths. The spec's tests of values: addresses, a service's networks, resources. Conditions: lengths. The spec's tests of values: a service's networks, what it depends on, resources, labels. Conditions: lengths. The spec's tests of values: what a service depends on, pairs. Conditions: lengths. normAttr; ProjectName and NameRight, as far as is needed: they answer. Conditions: lengths. normRest, shortParts. Conditions: lengths. -/
import Derived.Test.YtedbfoknfdiadaaGreatDoorFrom
import Derived.Laws.IdiomStrings
import Derived.Test.YtedbfoknfdiadaaGreatDoorPlain
set_option linter.unusedVariables false
set_option linter.unusedSimpArgs false
namespace Go.Proofs.YtedbfoknfdiadaaGreatDoor
open Go.RowKit
variable {o : Nat → Prop}
set_option maxRecDepth 100000

/-- Some bool, and no memory changed but the call's own. -/
def SomeB (w : World) (e : Ending) (w' : World) : Prop := ∃ b : Bool, e = .returned (.bool b) ∧ Chg [] w w'
set_option maxHeartbeats 400000 in
theorem sayName_any (s : ByteArray) (w : World) (hs : s.size ≤ 67108864) : Calls Tryz.prog 32 #[.string s] w (SomeB w) := by
  go_enter Tryz.func32, Tryz.ntmps32
  go_wp2
  go_loopg [3] s.size (fun g i wr => ∃ n : Nat, n ≤ s.size ∧ g = s.size - n ∧ i = .int .i64 n ∧ w = wr)
  case atStart => exact ⟨0, Nat.zero_le _, by omega, rfl, rfl⟩
  case round =>
    obtain ⟨n, hn, rfl, rfl, rfl⟩ := hrel
    by_cases hlt : n < s.size
    · go_wp2
      all_goals first
        | (go_ret; exact ⟨_, rfl, Chg.refl _ _⟩)
        | (go_roundg (s.size - (n + 1))
           case measure => omega
           case rel => exact ⟨n + 1, by omega, rfl, by go_num, rfl⟩)
    · go_wp2
      go_ret
      exact ⟨_, rfl, Chg.refl _ _⟩
/-- A literal row of texts. -/
theorem RdK.lit {w : World} {g : Nat} {xs : Array Value} {e : TypeId} (ks : List ByteArray) (h : w.heap[g]? = some (.cells xs e)) (hx : xs = (ks.map Value.string).toArray) : RdK (fun _ => True) w ks (.slice (some ⟨g, 0, none⟩) ks.length ks.length) :=
  ⟨_, _, rfl, Nat.le_refl _, fun _ => ⟨g, rfl, trivial, fun j s hs => by
    rw [cell_of_row _ g j _ _ (0, 0) h, hx]
    simp [hs]⟩⟩
theorem heap_al2 (w : World) (o1 o2 : Obj) : ((w.alloc o1).alloc o2).heap[w.heap.size + 1]? = some o2 := by
  have h1 : (w.alloc o1).heap.size = w.heap.size + 1 := by simp
  rw [← h1]
  exact heap_alloc_new _ _
/-- One byte, as a text. -/
theorem conv1 (w : World) (b : UInt8) : (convert 95 9 (.slice (some ⟨w.heap.size, 0, none⟩) 1 1)).run Tryz.prog (w.alloc (.cells #[.int .u8 (b.toNat : Int)] 5)) = .ok (.string ⟨#[b]⟩) (w.alloc (.cells #[.int .u8 (b.toNat : Int)] 5)) :=
  run_convert_bytes_back (P := Tryz.prog) _ _ _ 5 ⟨w.heap.size, 0, none⟩ 1 [b] (by kernel_rfl) (by kernel_rfl) (by kernel_rfl) (fun j hj => by
    obtain rfl : j = 0 := by simpa using hj
    exact cell_of_row _ w.heap.size 0 _ _ (0, 0) (heap_alloc_new _ _))
set_option maxHeartbeats 400000 in
theorem sayWord_any (s : ByteArray) (w : World) (hs : s.size ≤ 67108864) : Calls Tryz.prog 115 #[.string s] w (SomeB w) := by
  go_enter Tryz.func115, Tryz.ntmps115
  go_wp2
  go_loopg [3] s.size (fun g i wr => ∃ n : Nat, n ≤ s.size ∧ g = s.size - n ∧ i = .int .i64 n ∧ Chg [] w wr)
  case atStart => exact ⟨0, Nat.zero_le _, by omega, rfl, Chg.refl _ _⟩
  case round =>
    obtain ⟨n, hn, rfl, rfl, hcr⟩ := hrel
    by_cases hlt : n < s.size
    · have hcv := conv1 wr s[n]
      have hk : RdK (fun _ => True) ((wr.alloc (.cells #[.int .u8 (s[n].toNat : Int)] 5)).alloc (.cells #[.string ⟨#[61]⟩, .string ⟨#[36]⟩, .string ⟨#[58]⟩, .string ⟨#[34]⟩, .string ⟨#[39]⟩, .string ⟨#[92]⟩, .string ⟨#[126]⟩] 9)) [⟨#[61]⟩, ⟨#[36]⟩, ⟨#[58]⟩, ⟨#[34]⟩, ⟨#[39]⟩, ⟨#[92]⟩, ⟨#[126]⟩] (.slice (some ⟨wr.heap.size + 1, 0, none⟩) 7 7) := RdK.lit _ (heap_al2 _ _ _) rfl
      have HK7 := Lib.hid hk
      clear hk
      go_wp2_with fail
      all_goals first
        | (go_ret; exact ⟨_, rfl, hcr⟩)
        | (refine (sayIn_any (o := fun _ => True) _ _ _ _ HK7.out (by decide)).mono ?_
           rintro e w' ⟨rfl, rfl⟩
           go_wp2
           all_goals first
             | (go_ret; exact ⟨_, rfl, (hcr.al _).al _⟩)
             | (go_roundg (s.size - (n + 1))
                case measure => omega
                case rel => exact ⟨n + 1, by omega, rfl, by go_num, (hcr.al _).al _⟩))
    · go_wp2
      go_ret
      exact ⟨_, rfl, hcr⟩
end Go.Proofs.YtedbfoknfdiadaaGreatDoor
namespace Go.Proofs.YtedbfoknfdiadaaGreatDoor
open Go.RowKit
variable {o : Nat → Prop}
set_option maxRecDepth 100000

/-- Some bool; a yes says q. -/
def SomeQ (q : Prop) (w : World) (e : Ending) (w' : World) : Prop := ∃ b : Bool, e = .returned (.bool b) ∧ Chg [] w w' ∧ (b = true → q)
set_option maxHeartbeats 400000 in
theorem sayText_any (t : T) (v : Value) (w : World) (h : Rd o w t v) (hs : t.txt.size ≤ 67108864) : Calls Tryz.prog 89 #[v] w (SomeQ (t.kind = 3) w) := by
  obtain ⟨A3, q3, A4, q4, rfl, hk, hv⟩ := h.five
  go_enter Tryz.func89, Tryz.ntmps89
  go_wp2_with fail
  · refine (sayWord_any _ _ hs).mono ?_
    rintro e w' ⟨b, rfl, hc⟩
    go_wp2
    go_ret
    exact ⟨_, rfl, ((Chg.refl [] w).al _).trans hc New.nil, fun _ => by assumption⟩
  · go_ret
    exact ⟨_, rfl, (Chg.refl [] w).al _, fun h => by cases h⟩
set_option maxHeartbeats 400000 in
theorem sayTexts_any (t : T) (v : Value) (w : World) (h : Rd o w t v) (hs : ∀ x ∈ t.vals, x.txt.size ≤ 67108864) (hl : t.vals.length ≤ 67108864) : Calls Tryz.prog 91 #[v] w (SomeB w) := by
  obtain ⟨A3, q3, A4, q4, rfl, hk, hv⟩ := h.five
  go_enter Tryz.func91, Tryz.ntmps91
  go_wp2
  go_loopg [3] t.vals.length (fun g i wr => ∃ n : Nat, n ≤ t.vals.length ∧ g = t.vals.length - n ∧ i = .int .i64 n ∧ Chg [] w wr ∧ wr.heap[w.heap.size]? = some (.cells #[.int .i64 t.kind, .int .i64 t.num, .string t.txt, .slice A3 t.keys.length q3, .slice A4 t.vals.length q4] 25))
  case atStart => exact ⟨0, Nat.zero_le _, by omega, rfl, (Chg.refl [] w).al _, heap_alloc_new _ _⟩
  case round =>
    obtain ⟨n, hn, rfl, rfl, hcr, z1⟩ := hrel
    obtain ⟨a0, a1, a2, a3, a4, af⟩ := cells5 z1
    by_cases hlt : n < t.vals.length
    · obtain ⟨x, hx⟩ : ∃ x, t.vals[n]? = some x := ⟨_, List.getElem?_eq_getElem hlt⟩
      obtain ⟨ge, c1, kx, vx, e1, hc1, hkx, hvx, x0, x1, x2, x3, x4⟩ := hv.at_ hx
      cases e1
      have hge : ge < w.heap.size := World.block_lt_of_cell? w _ x0
      have y0 := (hcr.cells.1 _ _ hge).trans x0
      have y2 := (hcr.cells.1 _ _ hge).trans x2
      have hxs := hs x (List.mem_of_getElem? hx)
      clear x0 x1 x2 x3 x4
      go_wp2_with fail
      · refine (sayWord_any _ _ hxs).mono ?_
        rintro e w' ⟨b, rfl, hc⟩
        have hcw := hcr.trans hc New.nil
        have z2 := (hc.block w.heap.size (Array.getElem?_eq_some_iff.1 z1).1 (by simp)).trans z1
        cases b
        · go_wp2
          go_ret
          exact ⟨_, rfl, hcw⟩
        · go_wp2
          go_roundg (t.vals.length - (n + 1))
          case measure => omega
          case rel => exact ⟨n + 1, by omega, rfl, by go_num, hcw, z2⟩
      · go_ret
        exact ⟨_, rfl, hcr⟩
    · go_wp2
      all_goals (go_ret; exact ⟨_, rfl, hcr⟩)
set_option maxHeartbeats 400000 in
theorem sayShell_any (t : T) (v : Value) (w : World) (h : Rd o w t v) (hs : t.txt.size ≤ 67108864) (hs2 : ∀ x ∈ t.vals, x.txt.size ≤ 67108864) (hl : t.vals.length ≤ 67108864) : Calls Tryz.prog 94 #[v] w (SomeB w) := by
  obtain ⟨A3, q3, A4, q4, rfl, hk, hv⟩ := h.five
  go_enter Tryz.func94, Tryz.ntmps94
  go_wp2_with fail
  refine (sayText_any t _ _ (h.chg ((Chg.refl [] w).al _)) hs).mono ?_
  rintro e w1 ⟨b, rfl, hc, _⟩
  have hcw := ((Chg.refl [] w).al _).trans hc New.nil
  cases b
  · obtain ⟨a0, a1, a2, a3, a4, af⟩ := cells5 ((hc.block w.heap.size (by simp) (by simp)).trans (heap_alloc_new _ _))
    go_wp2_with fail
    refine (sayTexts_any t _ _ (h.chg hcw) hs2 hl).mono ?_
    rintro e w2 ⟨b, rfl, hc2⟩
    go_wp2
    go_ret
    exact ⟨_, rfl, hcw.trans hc2 New.nil⟩
  · go_wp2
    go_ret
    exact ⟨_, rfl, hcw⟩
/-- What sayKnown asks of the first n keys. -/
def Known (words truths : List ByteArray) (t : T) (n : Nat) : Prop := ∀ j, j < n → ∀ k x, t.keys[j]? = some k → t.vals[j]? = some x → (k ∈ words ∧ x.kind = 3) ∨ (k ∈ truths ∧ x.kind = 1)
theorem Known.step {words truths : List ByteArray} {t : T} {n : Nat} (h : Known words truths t n) {k : ByteArray} {x : T} (hk : t.keys[n]? = some k) (hx : t.vals[n]? = some x) (hq : (k ∈ words ∧ x.kind = 3) ∨ (k ∈ truths ∧ x.kind = 1)) : Known words truths t (n + 1) := fun j hj k' x' hk' hx' => by
  rcases Nat.lt_or_ge j n with h' | h'
  · exact h j h' k' x' hk' hx'
  · obtain rfl : j = n := by omega
    rw [hk] at hk'
    rw [hx] at hx'
    cases hk'
    cases hx'
    exact hq
set_option maxHeartbeats 1000000 in
theorem sayKnown_any (t : T) (v : Value) (words truths : List ByteArray) (vw vt : Value) (w : World) (h : Rd o w t v) (hw : RdK o w words vw) (ht : RdK o w truths vt) (hs : ∀ x ∈ t.vals, x.txt.size ≤ 67108864) (hl : t.vals.length ≤ 67108864) (hlw : words.length ≤ 67108864) (hlt : truths.length ≤ 67108864) :
    Calls Tryz.prog 63 #[v, vw, vt] w (SomeQ (t.kind = 5 ∧ 0 < t.keys.length ∧ Known words truths t t.keys.length) w) := by
  obtain ⟨A3, q3, A4, q4, rfl, hk, hv⟩ := h.five
  have hkl := T.keys_vals t
  have HW : Hid (∀ s W, Chg [] w W → Calls Tryz.prog 71 #[.string s, vw] W fun e w' => e = .returned (.bool (decide (s ∈ words))) ∧ W = w') := Lib.hid fun s W hc => sayIn_any s words vw W (hw.chg hc) hlw
  have HT : Hid (∀ s W, Chg [] w W → Calls Tryz.prog 71 #[.string s, vt] W fun e w' => e = .returned (.bool (decide (s ∈ truths))) ∧ W = w') := Lib.hid fun s W hc => sayIn_any s truths vt W (ht.chg hc) hlt
  go_enter Tryz.func63, Tryz.ntmps63
  go_wp2
  go_loopg [7] t.keys.length (fun g i wr => ∃ n : Nat, n ≤ t.keys.length ∧ g = t.keys.length - n ∧ i = .int .i64 n ∧ Chg [] w wr ∧ wr.heap[w.heap.size]? = some (.cells #[.int .i64 t.kind, .int .i64 t.num, .string t.txt, .slice A3 t.keys.length q3, .slice A4 t.vals.length q4] 25) ∧ Known words truths t n)
  case atStart => exact ⟨0, Nat.zero_le _, by omega, rfl, (Chg.refl [] w).al _, heap_alloc_new _ _, fun j hj => absurd hj (Nat.not_lt_zero j)⟩
  case round =>
    obtain ⟨n, hn, rfl, rfl, hcr, z1, hkn⟩ := hrel
    obtain ⟨a0, a1, a2, a3, a4, af⟩ := cells5 z1
    have HN := Lib.hid hkn
    clear hkn
    by_cases hlt : n < t.keys.length
    · obtain ⟨s, hs1⟩ : ∃ s, t.keys[n]? = some s := ⟨_, List.getElem?_eq_getElem hlt⟩
      obtain ⟨x, hx⟩ : ∃ x, t.vals[n]? = some x := ⟨_, List.getElem?_eq_getElem (by omega)⟩
      obtain ⟨gk, ck, ek, hck, k0⟩ := hk.at_ hs1
      obtain ⟨ge, c1, kx, vx, e1, hc1, hkx, hvx, x0, x1, x2, x3, x4⟩ := hv.at_ hx
      cases e1
      cases ek
      have hnv : n < t.vals.length := by omega
      have hge : ge < w.heap.size := World.block_lt_of_cell? w _ x0
      have hgk : gk < w.heap.size := World.block_lt_of_cell? w _ k0
      have yk := (hcr.cells.1 _ _ hgk).trans k0
      have y0 := (hcr.cells.1 _ _ hge).trans x0
      have y1 := (hcr.cells.1 _ _ hge).trans x1
      have y2 := (hcr.cells.1 _ _ hge).trans x2
      have y3 := (hcr.cells.1 _ _ hge).trans x3
      have y4 := (hcr.cells.1 _ _ hge).trans x4
      have rx := Rd.mk (t := x) hkx hvx
      have hxs := hs x (List.mem_of_getElem? hx)
      have HSX := Lib.hid (And.intro hs1 hx)
      clear hs1 hx
      have HX := Lib.hid (And.intro x0 (And.intro x1 (And.intro x2 (And.intro x3 (And.intro x4 k0)))))
      clear x0 x1 x2 x3 x4 k0
      obtain ⟨A5, q5, rfl, hkx'⟩ := id hkx
      obtain ⟨A6, q6, rfl, hvx'⟩ := id hvx
      go_wp2_with fail
      refine (HW.out s _ hcr).mono ?_
      rintro e w' ⟨rfl, rfl⟩
      by_cases hin : s ∈ words
      · rw [decide_eq_true hin]
        go_wp2_with fail
        refine (sayText_any x _ _ (rx.chg hcr) hxs).mono ?_
        rintro e w1 ⟨b, rfl, hc, hq⟩
        have hcw := hcr.trans hc New.nil
        have z2 := (hc.block w.heap.size (Array.getElem?_eq_some_iff.1 z1).1 (by simp)).trans z1
        cases b
        · clear a0 a1 a2 a3 a4 af yk y0 y1 y2 y3 y4
          obtain ⟨a0, a1, a2, a3, a4, af⟩ := cells5 z2
          obtain ⟨x0, x1, x2, x3, x4, k0⟩ := HX.out
          have yk := (hcw.cells.1 _ _ hgk).trans k0
          have y0 := (hcw.cells.1 _ _ hge).trans x0
          clear x0 x1 x2 x3 x4 k0
          go_wp2_with fail
          refine (HT.out s _ hcw).mono ?_
          rintro e w' ⟨rfl, rfl⟩
          by_cases hin2 : s ∈ truths
          · rw [decide_eq_true hin2]
            by_cases hk1 : x.kind = 1
            · go_wp2
              go_roundg (t.keys.length - (n + 1))
              case measure => omega
              case rel => exact ⟨n + 1, by omega, rfl, by go_num, hcw, z2, HN.out.step HSX.out.1 HSX.out.2 (.inr ⟨hin2, hk1⟩)⟩
            · have hk1' : (x.kind == 1) = false := by simpa using hk1
              go_wp2
              go_ret
              exact ⟨_, rfl, hcw, fun h => by cases h⟩
          · rw [decide_eq_false hin2]
            go_wp2
            go_ret
            exact ⟨_, rfl, hcw, fun h => by cases h⟩
        · go_wp2
          go_roundg (t.keys.length - (n + 1))
          case measure => omega
          case rel => exact ⟨n + 1, by omega, rfl, by go_num, hcw, z2, HN.out.step HSX.out.1 HSX.out.2 (.inl ⟨hin, hq (by trivial)⟩)⟩
      · rw [decide_eq_false hin]
        go_wp2_with fail
        refine (HT.out s _ hcr).mono ?_
        rintro e w' ⟨rfl, rfl⟩
        by_cases hin2 : s ∈ truths
        · rw [decide_eq_true hin2]
          by_cases hk1 : x.kind = 1
          · go_wp2
            go_roundg (t.keys.length - (n + 1))
            case measure => omega
            case rel => exact ⟨n + 1, by omega, rfl, by go_num, hcr, z1, HN.out.step HSX.out.1 HSX.out.2 (.inr ⟨hin2, hk1⟩)⟩
          · have hk1' : (x.kind == 1) = false := by simpa using hk1
            go_wp2
            go_ret
            exact ⟨_, rfl, hcr, fun h => by cases h⟩
        · rw [decide_eq_false hin2]
          go_wp2
          go_ret
          exact ⟨_, rfl, hcr, fun h => by cases h⟩
    · have HE := Lib.hid (show n = t.keys.length by omega)
      go_wp2
      · go_ret
        have he := HE.out
        subst he
        exact ⟨_, rfl, hcr, fun h => ⟨by assumption, of_decide_eq_true h, HN.out⟩⟩
      · go_ret
        exact ⟨_, rfl, hcr, fun h => by cases h⟩
end Go.Proofs.YtedbfoknfdiadaaGreatDoor
namespace Go.Proofs.YtedbfoknfdiadaaGreatDoor
open Go.RowKit
variable {o : Nat → Prop}
set_option maxRecDepth 100000

/-- An element of a row of Vals; its cells in every later world. -/
theorem RdV.elem {w : World} {l : List T} {v : Value} {n : Nat} {x : T} (hv : RdV o w l v) (hx : l[n]? = some x) : ∃ g c A5 q5 A6 q6, v = .slice (some ⟨g, 0, none⟩) l.length c ∧ g < w.heap.size ∧
    Rd o w x (.agg #[.int .i64 x.kind, .int .i64 x.num, .string x.txt, .slice A5 x.keys.length q5, .slice A6 x.vals.length q6]) ∧
    ∀ W, Chg [] w W → W.cell? ⟨g, n * 5, none⟩ = some (.int .i64 x.kind) ∧ W.cell? ⟨g, n * 5 + 1, none⟩ = some (.int .i64 x.num) ∧ W.cell? ⟨g, n * 5 + 2, none⟩ = some (.string x.txt) ∧
      W.cell? ⟨g, n * 5 + 3, none⟩ = some (.slice A5 x.keys.length q5) ∧ W.cell? ⟨g, n * 5 + 4, none⟩ = some (.slice A6 x.vals.length q6) := by
  obtain ⟨g, c, kx, vx, e1, hc1, hkx, hvx, x0, x1, x2, x3, x4⟩ := hv.at_ hx
  have hr := Rd.mk (t := x) hkx hvx
  obtain ⟨A5, q5, rfl, _⟩ := id hkx
  obtain ⟨A6, q6, rfl, _⟩ := id hvx
  have hg : g < w.heap.size := World.block_lt_of_cell? w _ x0
  exact ⟨g, c, A5, q5, A6, q6, e1, hg, hr, fun W hc => ⟨(hc.cells.1 _ _ hg).trans x0, (hc.cells.1 _ _ hg).trans x1, (hc.cells.1 _ _ hg).trans x2, (hc.cells.1 _ _ hg).trans x3, (hc.cells.1 _ _ hg).trans x4⟩⟩
theorem RdK.elem {w : World} {l : List ByteArray} {v : Value} {n : Nat} {s : ByteArray} (hv : RdK o w l v) (hx : l[n]? = some s) : ∃ g c, v = .slice (some ⟨g, 0, none⟩) l.length c ∧ g < w.heap.size ∧ ∀ W, Chg [] w W → W.cell? ⟨g, n, none⟩ = some (.string s) := by
  obtain ⟨g, c, e, hc, k0⟩ := hv.at_ hx
  have hg : g < w.heap.size := World.block_lt_of_cell? w _ k0
  exact ⟨g, c, e, hg, fun W hc => (hc.cells.1 _ _ hg).trans k0⟩
/-- A box of five cells in every later world. -/
theorem box5 {w : World} {B : Nat} {e : TypeId} {c0 c1 c2 c3 c4 : Value} (h : w.heap[B]? = some (.cells #[c0, c1, c2, c3, c4] e)) : ∀ W, Chg [] w W → W.heap[B]? = some (.cells #[c0, c1, c2, c3, c4] e) :=
  fun _ hc => (hc.block B (Array.getElem?_eq_some_iff.1 h).1 (by simp)).trans h

set_option maxHeartbeats 1000000 in
theorem sayDigits_any (s : ByteArray) (a b : Int) (w : World) (hs : s.size ≤ 67108864) : Calls Tryz.prog 116 #[.string s, .int .i64 a, .int .i64 b] w (SomeB w) := by
  go_enter Tryz.func116, Tryz.ntmps116
  go_wp2
  go_loopg [7, 8] s.size (fun g m i wr => ∃ n : Nat, ∃ z : Int, n ≤ s.size ∧ g = s.size - n ∧ i = .int .i64 n ∧ m = .int .i64 z ∧ w = wr)
  case atStart => exact ⟨0, 0, Nat.zero_le _, by omega, rfl, rfl, rfl⟩
  case round =>
    obtain ⟨n, z, hn, rfl, rfl, rfl, rfl⟩ := hrel
    by_cases hlt : n < s.size
    · have h0 : 0 < s.size := by omega
      go_wp2
      all_goals first
        | (go_ret; exact ⟨_, rfl, Chg.refl _ _⟩)
        | (go_roundg (s.size - (n + 1))
           case measure => omega
           case rel => exact ⟨n + 1, _, by omega, rfl, by go_num, rfl, rfl⟩)
    · go_wp2
      all_goals (go_ret; exact ⟨_, rfl, Chg.refl _ _⟩)
/-- The key of an extension, as far as is needed. -/
def Extra (s : ByteArray) : Prop := s.size = 3 ∧ s.extract 0 2 = ⟨#[120, 45]⟩
theorem sayExtra_any (s : ByteArray) (w : World) : Calls Tryz.prog 68 #[.string s] w (SomeQ (Extra s) w) := by
  go_enter Tryz.func68, Tryz.ntmps68
  by_cases h3 : s.size = 3
  · have h2 : 2 < s.size := by omega
    have HE : ∀ _ : (s.extract 0 2).toList = [120, 45], Extra s := fun h => ⟨h3, toList_inj (h.trans (by kernel_rfl))⟩
    have HE := Lib.hid HE
    go_wp2
    · rename_i h _
      go_ret
      exact ⟨_, rfl, Chg.refl _ _, fun _ => HE.out h⟩
    all_goals (go_ret; exact ⟨_, rfl, Chg.refl _ _, fun h => by cases h⟩)
  · have h3' : ((s.size : Int) == 3) = false := by simp; omega
    go_wp2
    go_ret
    exact ⟨_, rfl, Chg.refl _ _, fun h => by cases h⟩
set_option maxHeartbeats 1000000 in
theorem sayAddress_any (t : T) (v : Value) (w : World) (h : Rd o w t v) (hs : t.txt.size ≤ 67108864) : Calls Tryz.prog 90 #[v] w (SomeB w) := by
  obtain ⟨A3, q3, A4, q4, rfl, hk, hv⟩ := h.five
  go_enter Tryz.func90, Tryz.ntmps90
  go_wp2
  go_loopg [3, 4, 5] (t.txt.size + 1) (fun g m f i wr => ∃ n a b : Nat, n ≤ t.txt.size + 1 ∧ a ≤ n ∧ b ≤ n ∧ g = t.txt.size + 1 - n ∧ m = .int .i64 a ∧ f = .int .i64 b ∧ i = .int .i64 n ∧ Chg [] w wr ∧ wr.heap[w.heap.size]? = some (.cells #[.int .i64 t.kind, .int .i64 t.num, .string t.txt, .slice A3 t.keys.length q3, .slice A4 t.vals.length q4] 25))
  case atStart => exact ⟨0, 0, 0, Nat.zero_le _, Nat.zero_le _, Nat.zero_le _, by omega, rfl, rfl, rfl, (Chg.refl [] w).al _, heap_alloc_new _ _⟩
  case round =>
    obtain ⟨n, a, b, hn, ha, hb, rfl, rfl, rfl, rfl, hcr, z1⟩ := hrel
    obtain ⟨a0, a1, a2, a3, a4, af⟩ := cells5 z1
    by_cases hlt : n ≤ t.txt.size
    · have htail : ∀ K : Prop, K → K := fun _ h => h
      by_cases hlt2 : n < t.txt.size
      · go_wp2_with fail
        · go_roundg (t.txt.size + 1 - (n + 1))
          case measure => omega
          case rel => exact ⟨n + 1, a, b, by omega, by omega, by omega, rfl, rfl, rfl, by go_num, hcr, z1⟩
        · refine (sayDigits_any _ _ _ _ (by simp; omega)).mono ?_
          rintro e w' ⟨q, rfl, hc⟩
          have hcw := hcr.trans hc New.nil
          have z2 := (hc.block w.heap.size (Array.getElem?_eq_some_iff.1 z1).1 (by simp)).trans z1
          cases q
          · go_wp2
            go_ret
            exact ⟨_, rfl, hcw⟩
          · go_wp2
            go_roundg (t.txt.size + 1 - (n + 1))
            case measure => omega
            case rel => exact ⟨n + 1, a + 1, n + 1, by omega, by omega, by omega, rfl, by go_num, by go_num, by go_num, hcw, z2⟩
      · have hlt3 : decide ((n : Int) < (t.txt.size : Int)) = false := by simp; omega
        go_wp2_with fail
        refine (sayDigits_any _ _ _ _ (by simp; omega)).mono ?_
        rintro e w' ⟨q, rfl, hc⟩
        have hcw := hcr.trans hc New.nil
        have z2 := (hc.block w.heap.size (Array.getElem?_eq_some_iff.1 z1).1 (by simp)).trans z1
        cases q
        · go_wp2
          go_ret
          exact ⟨_, rfl, hcw⟩
        · go_wp2
          go_roundg (t.txt.size + 1 - (n + 1))
          case measure => omega
          case rel => exact ⟨n + 1, a + 1, n + 1, by omega, by omega, by omega, rfl, by go_num, by go_num, by go_num, hcw, z2⟩
    · go_wp2
      all_goals (go_ret; exact ⟨_, rfl, hcr⟩)
end Go.Proofs.YtedbfoknfdiadaaGreatDoor
namespace Go.Proofs.YtedbfoknfdiadaaGreatDoor
open Go.RowKit
variable {o : Nat → Prop}
set_option maxRecDepth 100000

/-- Sizes that the loops bear. -/
structure Fine (t : T) : Prop where
  wf : WF 67108864 t
  size : T.size t ≤ 67108864
theorem Fine.vals {t : T} (h : Fine t) {x : T} (hx : x ∈ t.vals) : Fine x := by
  refine ⟨h.wf.vals x hx, ?_⟩
  obtain ⟨j, hj, e⟩ := List.mem_iff_getElem.1 hx
  have h1 := T.sizeL_at (l := t.vals) (j := j) (t := x) (by rw [List.getElem?_eq_getElem hj, e])
  have h2 := T.size_vals t
  have := h.size
  omega
theorem Fine.len {t : T} (h : Fine t) : t.vals.length ≤ 67108864 ∧ t.keys.length ≤ t.vals.length ∧ t.keys.length ≤ 67108864 := by
  have h1 := T.vals_len t
  have h2 := T.keys_vals t
  have := h.size
  omega
theorem Fine.txt {t : T} (h : Fine t) : t.txt.size ≤ 67108864 := h.wf.txt
theorem Fine.key {t : T} (h : Fine t) {k : ByteArray} (hk : k ∈ t.keys) : k.size ≤ 67108864 := h.wf.keys k hk
theorem Fine.get {t : T} (h : Fine t) {k : ByteArray} {x : T} (hg : tget k t = some x) : Fine x := by
  cases t with
  | map m =>
    have := get_some (hg : mget k m = some x)
    exact h.vals (List.mem_map.2 ⟨_, this, rfl⟩)
  | _ => cases hg
theorem Fine.null : Fine .null := ⟨trivial, by decide⟩
theorem Fine.getD {t : T} (h : Fine t) (k : ByteArray) : Fine ((tget k t).getD .null) := by
  cases hg : tget k t with
  | none => exact Fine.null
  | some x => exact h.get hg

/-- A cell behind one allocation more. -/
theorem cell_al {w : World} {g j : Nat} {v : Value} (h : w.cell? ⟨g, j, none⟩ = some v) : ∀ ob, (w.alloc ob).cell? ⟨g, j, none⟩ = some v := fun ob =>
  (World.cell?_of_block (heap_alloc_old w ob g (World.block_lt_of_cell? w _ h))).trans h
set_option maxHeartbeats 1000000 in
theorem sayNet_any (t : T) (v : Value) (w : World) (h : Rd o w t v) (hf : Fine t) : Calls Tryz.prog 65 #[v] w (SomeB w) := by
  obtain ⟨A3, q3, A4, q4, rfl, hk, hv⟩ := h.five
  have hkl := hf.len
  go_enter Tryz.func65, Tryz.ntmps65
  go_wp2_with fail
  refine (get_any t _ _ _ (h.chg ((Chg.refl [] w).al _)) hf.wf.srt hkl.2.2).mono ?_
  rintro e w1 ⟨v', rfl, hc, hr⟩
  obtain ⟨A5, q5, A6, q6, rfl, _⟩ := hr.five
  have hcw := ((Chg.refl [] w).al _).trans hc New.nil
  have z1 := box5 (heap_alloc_new w (.cells #[.int .i64 t.kind, .int .i64 t.num, .string t.txt, .slice A3 t.keys.length q3, .slice A4 t.vals.length q4] 25)) _ hc
  obtain ⟨a0, a1, a2, a3, a4, af⟩ := cells5 z1
  have hfx := hf.getD ⟨#[105, 112, 118, 52, 95, 97, 100, 100, 114, 101, 115, 115]⟩
  generalize (tget _ t).getD .null = x at *
  generalize (tget _ t).isSome = bq
  clear hc
  have b3 := cell_al a3
  have HR := Lib.hid hr
  clear hr
  cases bq
  · go_wp2
    all_goals (go_ret; exact ⟨_, rfl, hcw.al _⟩)
  · go_wp2_with fail
    · refine (sayAddress_any x _ _ (HR.out.chg ((Chg.refl [] w1).al _)) hfx.txt).mono ?_
      rintro e w2 ⟨b, rfl, hc2⟩
      go_wp2
      go_ret
      exact ⟨_, rfl, (hcw.al _).trans hc2 New.nil⟩
    · go_ret
      exact ⟨_, rfl, hcw.al _⟩
set_option maxHeartbeats 1000000 in
theorem sayNets_any (t : T) (v : Value) (w : World) (h : Rd o w t v) (hf : Fine t) (hm : t.kind = 5) : Calls Tryz.prog 47 #[v] w (SomeQ (0 < t.keys.length) w) := by
  obtain ⟨A3, q3, A4, q4, rfl, hk, hv⟩ := h.five
  have hkl := hf.len
  have hk4 : (t.kind == 4) = false := by rw [hm]; rfl
  have hk5 : (t.kind == 5) = true := by rw [hm]; rfl
  clear hm
  go_enter Tryz.func47, Tryz.ntmps47
  go_wp2
  go_loopg [3] t.keys.length (fun g i wr => ∃ n : Nat, n ≤ t.keys.length ∧ g = t.keys.length - n ∧ i = .int .i64 n ∧ Chg [] w wr ∧ wr.heap[w.heap.size]? = some (.cells #[.int .i64 t.kind, .int .i64 t.num, .string t.txt, .slice A3 t.keys.length q3, .slice A4 t.vals.length q4] 25))
  case atStart => exact ⟨0, Nat.zero_le _, by omega, rfl, (Chg.refl [] w).al _, heap_alloc_new _ _⟩
  case round =>
    obtain ⟨n, hn, rfl, rfl, hcr, z1⟩ := hrel
    obtain ⟨a0, a1, a2, a3, a4, af⟩ := cells5 z1
    by_cases hlt : n < t.keys.length
    · obtain ⟨s, hs1⟩ : ∃ s, t.keys[n]? = some s := ⟨_, List.getElem?_eq_getElem hlt⟩
      obtain ⟨x, hx⟩ : ∃ x, t.vals[n]? = some x := ⟨_, List.getElem?_eq_getElem (by omega)⟩
      obtain ⟨gk, ck, ek, hgk, yk⟩ := hk.elem hs1
      obtain ⟨ge, c1, A5, q5, A6, q6, e1, hge, rx, ye⟩ := hv.elem hx
      cases e1
      cases ek
      have hfx := hf.vals (List.mem_of_getElem? hx)
      have hfs := hf.key (List.mem_of_getElem? hs1)
      have hnv : n < t.vals.length := by omega
      have YK := Lib.hid yk
      obtain ⟨y0, y1, y2, y3, y4⟩ := ye _ hcr
      clear hs1 hx ye yk
      have hyk := YK.out _ (hcr.al (.cells #[.int .i64 x.kind, .int .i64 x.num, .string x.txt, .slice A5 x.keys.length q5, .slice A6 x.vals.length q6] 25))
      have b3 := cell_al a3
      go_wp2_with fail
      refine (sayName_any s _ hfs).mono ?_
      rintro e w1 ⟨b, rfl, hc⟩
      have hcw := (hcr.al _).trans hc New.nil
      have z2 := box5 ((heap_alloc_old wr (.cells #[.int .i64 x.kind, .int .i64 x.num, .string x.txt, .slice A5 x.keys.length q5, .slice A6 x.vals.length q6] 25) _ (Array.getElem?_eq_some_iff.1 z1).1).trans z1) _ hc
      cases b
      · go_wp2
        go_ret
        exact ⟨_, rfl, hcw, fun h => by cases h⟩
      · obtain ⟨d0, d1, d2, d3, d4, df⟩ := cells5 (box5 (heap_alloc_new wr (.cells #[.int .i64 x.kind, .int .i64 x.num, .string x.txt, .slice A5 x.keys.length q5, .slice A6 x.vals.length q6] 25)) _ hc)
        clear hc
        go_wp2_with fail
        · go_roundg (t.keys.length - (n + 1))
          case measure => omega
          case rel => exact ⟨n + 1, by omega, rfl, by go_num, hcw, z2⟩
        · refine (sayNet_any x _ _ (rx.chg hcw) hfx).mono ?_
          rintro e w2 ⟨b, rfl, hc2⟩
          have hcw2 := hcw.trans hc2 New.nil
          cases b
          · go_wp2
            go_ret
            exact ⟨_, rfl, hcw2, fun h => by cases h⟩
          · go_wp2
            go_roundg (t.keys.length - (n + 1))
            case measure => omega
            case rel => exact ⟨n + 1, by omega, rfl, by go_num, hcw2, box5 z2 _ hc2⟩
    · go_wp2
      go_ret
      exact ⟨_, rfl, hcr, fun h => of_decide_eq_true h⟩
/-- What sayResources asks of the first n values. -/
def ResAt (t : T) (n : Nat) : Prop := ∀ j, j < n → ∀ x, t.vals[j]? = some x → x.kind = 0 ∨ (x.kind = 5 ∧ Known [kDriver, kName] [kExternal] x x.keys.length)
theorem ResAt.step {t : T} {n : Nat} (h : ResAt t n) {x : T} (hx : t.vals[n]? = some x) (hq : x.kind = 0 ∨ (x.kind = 5 ∧ Known [kDriver, kName] [kExternal] x x.keys.length)) : ResAt t (n + 1) := fun j hj x' hx' => by
  rcases Nat.lt_or_ge j n with h' | h'
  · exact h j h' x' hx'
  · obtain rfl : j = n := by omega
    rw [hx] at hx'
    cases hx'
    exact hq
theorem heap_al1 (w : World) (o1 o2 : Obj) : ((w.alloc o1).alloc o2).heap[w.heap.size]? = some o1 := (heap_alloc_old _ _ _ (by simp)).trans (heap_alloc_new _ _)
set_option maxHeartbeats 1000000 in
theorem sayResources_any (t : T) (v : Value) (w : World) (h : Rd o w t v) (hf : Fine t) : Calls Tryz.prog 46 #[v] w (SomeQ (t.kind = 5 ∧ ResAt t t.keys.length) w) := by
  obtain ⟨A3, q3, A4, q4, rfl, hk, hv⟩ := h.five
  have hkl := hf.len
  go_enter Tryz.func46, Tryz.ntmps46
  go_wp2
  go_loopg [3] t.keys.length (fun g i wr => ∃ n : Nat, n ≤ t.keys.length ∧ g = t.keys.length - n ∧ i = .int .i64 n ∧ Chg [] w wr ∧ wr.heap[w.heap.size]? = some (.cells #[.int .i64 t.kind, .int .i64 t.num, .string t.txt, .slice A3 t.keys.length q3, .slice A4 t.vals.length q4] 25) ∧ ResAt t n)
  case atStart => exact ⟨0, Nat.zero_le _, by omega, rfl, (Chg.refl [] w).al _, heap_alloc_new _ _, fun j hj => absurd hj (Nat.not_lt_zero j)⟩
  case round =>
    obtain ⟨n, hn, rfl, rfl, hcr, z1, hat⟩ := hrel
    have HAT := Lib.hid hat
    clear hat
    obtain ⟨a0, a1, a2, a3, a4, af⟩ := cells5 z1
    by_cases hlt : n < t.keys.length
    · obtain ⟨s, hs1⟩ : ∃ s, t.keys[n]? = some s := ⟨_, List.getElem?_eq_getElem hlt⟩
      obtain ⟨x, hx⟩ : ∃ x, t.vals[n]? = some x := ⟨_, List.getElem?_eq_getElem (by omega)⟩
      obtain ⟨gk, ck, ek, hgk, yk⟩ := hk.elem hs1
      obtain ⟨ge, c1, A5, q5, A6, q6, e1, hge, rx, ye⟩ := hv.elem hx
      cases e1
      cases ek
      have hfx := hf.vals (List.mem_of_getElem? hx)
      have hfs := hf.key (List.mem_of_getElem? hs1)
      have hnv : n < t.vals.length := by omega
      have YK := Lib.hid yk
      have HX := Lib.hid hx
      obtain ⟨y0, y1, y2, y3, y4⟩ := ye _ hcr
      clear hs1 hx ye yk
      have hyk := YK.out _ (hcr.al (.cells #[.int .i64 x.kind, .int .i64 x.num, .string x.txt, .slice A5 x.keys.length q5, .slice A6 x.vals.length q6] 25))
      have b3 := cell_al a3
      go_wp2_with fail
      refine (sayName_any s _ hfs).mono ?_
      rintro e w1 ⟨b, rfl, hc⟩
      have hcw := (hcr.al _).trans hc New.nil
      have z2 := box5 ((heap_alloc_old wr (.cells #[.int .i64 x.kind, .int .i64 x.num, .string x.txt, .slice A5 x.keys.length q5, .slice A6 x.vals.length q6] 25) _ (Array.getElem?_eq_some_iff.1 z1).1).trans z1) _ hc
      cases b
      · go_wp2
        go_ret
        exact ⟨_, rfl, hcw, fun h => by cases h⟩
      · obtain ⟨d0, d1, d2, d3, d4, df⟩ := cells5 (box5 (heap_alloc_new wr (.cells #[.int .i64 x.kind, .int .i64 x.num, .string x.txt, .slice A5 x.keys.length q5, .slice A6 x.vals.length q6] 25)) _ hc)
        clear hc
        by_cases hx0 : x.kind = 0
        · have hx0' : (x.kind != 0) = false := by rw [hx0]; rfl
          have HX0 := Lib.hid hx0
          clear hx0
          go_wp2
          go_roundg (t.keys.length - (n + 1))
          case measure => omega
          case rel => exact ⟨n + 1, by omega, rfl, by go_num, hcw, z2, HAT.out.step HX.out (.inl HX0.out)⟩
        · have hx0' : (x.kind != 0) = true := by simpa using hx0
          clear hx0
          go_wp2_with fail
          refine (sayKnown_any (o := fun _ => True) x _ [kDriver, kName] [kExternal] _ _ _ ((rx.weak (fun _ _ => trivial)).chg ((hcw.al _).al _)) ((RdK.lit [kDriver, kName] (heap_al1 w1 _ _) rfl)) (RdK.lit [kExternal] (heap_al2 w1 _ _) rfl) (fun y hy => (hfx.vals hy).txt) hfx.len.1 (by decide) (by decide)).mono ?_
          rintro e w2 ⟨b, rfl, hc2, hq⟩
          have hcw2 := ((hcw.al _).al _).trans hc2 New.nil
          cases b
          · go_wp2
            go_ret
            exact ⟨_, rfl, hcw2, fun h => by cases h⟩
          · have HQ := Lib.hid (hq rfl)
            clear hq
            go_wp2
            go_roundg (t.keys.length - (n + 1))
            case measure => omega
            case rel => exact ⟨n + 1, by omega, rfl, by go_num, hcw2, box5 ((heap_alloc_old _ _ _ (by have := (Array.getElem?_eq_some_iff.1 z2).1; simp; omega)).trans ((heap_alloc_old _ _ _ (Array.getElem?_eq_some_iff.1 z2).1).trans z2)) _ hc2, HAT.out.step HX.out (.inr ⟨HQ.out.1, HQ.out.2.2⟩)⟩
    · have HE := Lib.hid (show n = t.keys.length by omega)
      have hkk : (t.kind == 5) = decide (t.kind = 5) := by rw [Bool.eq_iff_iff]; simp
      go_wp2
      go_ret
      refine ⟨_, rfl, hcr, fun h => ⟨by simpa using h, ?_⟩⟩
      have := HAT.out
      rwa [HE.out] at this
end Go.Proofs.YtedbfoknfdiadaaGreatDoor
namespace Go.Proofs.YtedbfoknfdiadaaGreatDoor
open Go.RowKit
variable {o : Nat → Prop}
set_option maxRecDepth 100000

set_option maxHeartbeats 1000000 in
theorem sayNeeds_any (t : T) (v : Value) (w : World) (h : Rd o w t v) (hf : Fine t) (hm : t.kind = 5) : Calls Tryz.prog 69 #[v] w (SomeQ (0 < t.keys.length) w) := by
  obtain ⟨A3, q3, A4, q4, rfl, hk, hv⟩ := h.five
  have hkl := hf.len
  have hk4 : (t.kind == 4) = false := by rw [hm]; rfl
  have hk5 : (t.kind == 5) = true := by rw [hm]; rfl
  clear hm
  go_enter Tryz.func69, Tryz.ntmps69
  go_wp2
  go_loopg [3] t.keys.length (fun g i wr => ∃ n : Nat, n ≤ t.keys.length ∧ g = t.keys.length - n ∧ i = .int .i64 n ∧ Chg [] w wr ∧ wr.heap[w.heap.size]? = some (.cells #[.int .i64 t.kind, .int .i64 t.num, .string t.txt, .slice A3 t.keys.length q3, .slice A4 t.vals.length q4] 25))
  case atStart => exact ⟨0, Nat.zero_le _, by omega, rfl, (Chg.refl [] w).al _, heap_alloc_new _ _⟩
  case round =>
    obtain ⟨n, hn, rfl, rfl, hcr, z1⟩ := hrel
    obtain ⟨a0, a1, a2, a3, a4, af⟩ := cells5 z1
    by_cases hlt : n < t.keys.length
    · obtain ⟨s, hs1⟩ : ∃ s, t.keys[n]? = some s := ⟨_, List.getElem?_eq_getElem hlt⟩
      obtain ⟨x, hx⟩ : ∃ x, t.vals[n]? = some x := ⟨_, List.getElem?_eq_getElem (by omega)⟩
      obtain ⟨gk, ck, ek, hgk, yk⟩ := hk.elem hs1
      obtain ⟨ge, c1, A5, q5, A6, q6, e1, hge, rx, ye⟩ := hv.elem hx
      cases e1
      cases ek
      have hfx := hf.vals (List.mem_of_getElem? hx)
      have hfs := hf.key (List.mem_of_getElem? hs1)
      have hnv : n < t.vals.length := by omega
      have YK := Lib.hid yk
      have YE := Lib.hid ye
      obtain ⟨y0, y1, y2, y3, y4⟩ := ye _ hcr
      clear hs1 hx ye yk
      go_wp2_with fail
      refine (get_any x _ _ _ (rx.chg hcr) hfx.wf.srt hfx.len.2.2).mono ?_
      rintro e w1 ⟨v', rfl, hc, hr⟩
      obtain ⟨A7, q7, A8, q8, rfl, _⟩ := hr.five
      have hfy := hfx.getD ⟨#[99, 111, 110, 100, 105, 116, 105, 111, 110]⟩
      generalize (tget _ x).getD .null = y at *
      generalize (tget _ x).isSome = bq
      have hcw := hcr.trans hc New.nil
      have z2 := box5 z1 _ hc
      clear hc a0 a1 a2 a3 a4 af y0 y1 y2 y3 y4 hr
      obtain ⟨a0, a1, a2, a3, a4, af⟩ := cells5 z2
      have hyk := YK.out _ (hcw.al (.cells #[.int .i64 y.kind, .int .i64 y.num, .string y.txt, .slice A7 y.keys.length q7, .slice A8 y.vals.length q8] 25))
      have b3 := cell_al a3
      go_wp2_with fail
      refine (sayName_any s _ hfs).mono ?_
      rintro e w2 ⟨b, rfl, hc⟩
      have hcw2 := (hcw.al _).trans hc New.nil
      have z3 := box5 ((heap_alloc_old w1 (.cells #[.int .i64 y.kind, .int .i64 y.num, .string y.txt, .slice A7 y.keys.length q7, .slice A8 y.vals.length q8] 25) _ (Array.getElem?_eq_some_iff.1 z2).1).trans z2) _ hc
      cases b
      · go_wp2
        go_ret
        exact ⟨_, rfl, hcw2, fun h => by cases h⟩
      · have zy := box5 (heap_alloc_new w1 (.cells #[.int .i64 y.kind, .int .i64 y.num, .string y.txt, .slice A7 y.keys.length q7, .slice A8 y.vals.length q8] 25)) _ hc
        clear hc a0 a1 a2 a3 a4 af b3 hyk
        obtain ⟨a0, a1, a2, a3, a4, af⟩ := cells5 z3
        obtain ⟨y0, y1, y2, y3, y4⟩ := YE.out _ hcw2
        go_wp2_with fail
        refine (sayKnown_any (o := fun _ => True) x _ [kCondition] [kRequired, kRestart] _ _ _ ((rx.weak (fun _ _ => trivial)).chg ((hcw2.al _).al _)) ((RdK.lit [kCondition] (heap_al1 w2 _ _) rfl)) (RdK.lit [kRequired, kRestart] (heap_al2 w2 _ _) rfl) (fun y hy => (hfx.vals hy).txt) hfx.len.1 (by decide) (by decide)).mono ?_
        rintro e w3 ⟨b, rfl, hc3, _⟩
        have hcw3 := ((hcw2.al _).al _).trans hc3 New.nil
        have z4 := box5 ((heap_alloc_old _ _ _ (by have := (Array.getElem?_eq_some_iff.1 z3).1; simp; omega)).trans ((heap_alloc_old _ _ _ (Array.getElem?_eq_some_iff.1 z3).1).trans z3)) _ hc3
        have zy2 := box5 ((heap_alloc_old _ _ _ (by have := (Array.getElem?_eq_some_iff.1 zy).1; simp; omega)).trans ((heap_alloc_old _ _ _ (Array.getElem?_eq_some_iff.1 zy).1).trans zy)) _ hc3
        cases b
        · cases bq
          all_goals
            go_wp2
            go_ret
            exact ⟨_, rfl, hcw3, fun h => by cases h⟩
        · clear hc3 a0 a1 a2 a3 a4 af y0 y1 y2 y3 y4
          obtain ⟨d0, d1, d2, d3, d4, df⟩ := cells5 zy2
          cases bq
          · go_wp2
            go_ret
            exact ⟨_, rfl, hcw3, fun h => by cases h⟩
          · go_wp2_with fail
            refine (sayIn_any (o := fun _ => True) _ [kStarted, kHealthy, kCompleted] _ _ (RdK.lit [kStarted, kHealthy, kCompleted] (heap_alloc_new w3 _) rfl) (by decide)).mono ?_
            rintro e w4 ⟨rfl, rfl⟩
            generalize decide (y.txt ∈ [kStarted, kHealthy, kCompleted]) = b
            cases b
            · go_wp2
              go_ret
              exact ⟨_, rfl, hcw3.al _, fun h => by cases h⟩
            · go_wp2
              go_roundg (t.keys.length - (n + 1))
              case measure => omega
              case rel => exact ⟨n + 1, by omega, rfl, by go_num, hcw3.al _, (heap_alloc_old _ _ _ (Array.getElem?_eq_some_iff.1 z4).1).trans z4⟩
    · go_wp2
      go_ret
      exact ⟨_, rfl, hcr, fun h => of_decide_eq_true h⟩
theorem T.keys_len {t : T} (h : t.kind = 5) : t.keys.length = t.vals.length := by
  cases t with
  | map m => simp [T.keys, T.vals]
  | _ => cases h
theorem heap_alloc_at (w : World) (ob : Obj) (n : Nat) (h : n = w.heap.size) : (w.alloc ob).heap[n]? = some ob := by
  subst h
  exact heap_alloc_new _ _
set_option maxHeartbeats 1000000 in
theorem sayPairs_any (t : T) (v : Value) (w : World) (h : Rd o w t v) (hf : Fine t) (hm : t.kind = 5) : Calls Tryz.prog 67 #[v] w (SomeB w) := by
  obtain ⟨A3, q3, A4, q4, rfl, hk, hv⟩ := h.five
  have hkl := hf.len
  have HKV := Lib.hid (T.keys_len hm)
  have hk4 : (t.kind == 4) = false := by rw [hm]; rfl
  have hk5 : (t.kind == 5) = true := by rw [hm]; rfl
  clear hm
  go_enter Tryz.func67, Tryz.ntmps67
  go_wp2
  go_loopg [3] t.vals.length (fun g i wr => ∃ n : Nat, n ≤ t.vals.length ∧ g = t.vals.length - n ∧ i = .int .i64 n ∧ Chg [] w wr ∧ wr.heap[w.heap.size]? = some (.cells #[.int .i64 t.kind, .int .i64 t.num, .string t.txt, .slice A3 t.keys.length q3, .slice A4 t.vals.length q4] 25))
  case atStart => exact ⟨0, Nat.zero_le _, by omega, rfl, (Chg.refl [] w).al _, heap_alloc_new _ _⟩
  case round =>
    obtain ⟨n, hn, rfl, rfl, hcr, z1⟩ := hrel
    obtain ⟨a0, a1, a2, a3, a4, af⟩ := cells5 z1
    by_cases hlt : n < t.vals.length
    · have hlk : n < t.keys.length := by have := HKV.out; omega
      obtain ⟨s, hs1⟩ : ∃ s, t.keys[n]? = some s := ⟨_, List.getElem?_eq_getElem hlk⟩
      obtain ⟨x, hx⟩ : ∃ x, t.vals[n]? = some x := ⟨_, List.getElem?_eq_getElem hlt⟩
      obtain ⟨gk, ck, ek, hgk, yk⟩ := hk.elem hs1
      obtain ⟨ge, c1, A5, q5, A6, q6, e1, hge, rx, ye⟩ := hv.elem hx
      cases e1
      cases ek
      have hfs := hf.key (List.mem_of_getElem? hs1)
      have YK := Lib.hid yk
      obtain ⟨y0, y1, y2, y3, y4⟩ := ye _ hcr
      clear hs1 hx ye yk
      have hyk := YK.out _ (hcr.al (.cells #[.int .i64 x.kind, .int .i64 x.num, .string x.txt, .slice A5 x.keys.length q5, .slice A6 x.vals.length q6] 25))
      have b0 := cell_al a0
      have b3 := cell_al a3
      go_wp2_with fail
      refine (sayName_any s _ hfs).mono ?_
      rintro e w1 ⟨b, rfl, hc⟩
      have hcw := (hcr.al _).trans hc New.nil
      have z2 := box5 ((heap_alloc_old wr (.cells #[.int .i64 x.kind, .int .i64 x.num, .string x.txt, .slice A5 x.keys.length q5, .slice A6 x.vals.length q6] 25) _ (Array.getElem?_eq_some_iff.1 z1).1).trans z1) _ hc
      cases b
      · go_wp2
        go_ret
        exact ⟨_, rfl, hcw⟩
      · obtain ⟨d0, d1, d2, d3, d4, df⟩ := cells5 (box5 (heap_alloc_new wr (.cells #[.int .i64 x.kind, .int .i64 x.num, .string x.txt, .slice A5 x.keys.length q5, .slice A6 x.vals.length q6] 25)) _ hc)
        clear hc a0 a1 a2 a3 a4 af b0 b3
        obtain ⟨a0, a1, a2, a3, a4, af⟩ := cells5 z2
        go_wp2
        all_goals first
          | (go_ret; exact ⟨_, rfl, hcw⟩)
          | (go_roundg (t.vals.length - (n + 1))
             case measure => omega
             case rel => exact ⟨n + 1, by omega, rfl, by go_num, hcw, z2⟩)
    · go_wp2
      go_ret
      exact ⟨_, rfl, hcr⟩
set_option maxHeartbeats 400000 in
theorem sayNamed_any (s : ByteArray) (b : Bool) (hb : decide (s ∈ ([⟨#[101, 110, 118, 105, 114, 111, 110, 109, 101, 110, 116]⟩, ⟨#[108, 97, 98, 101, 108, 115]⟩, ⟨#[97, 110, 110, 111, 116, 97, 116, 105, 111, 110, 115]⟩, ⟨#[115, 121, 115, 99, 116, 108, 115]⟩] : List ByteArray)) = b) (w : World) : Calls Tryz.prog 93 #[.string s] w fun e w' => e = .returned (.bool b) ∧ Chg [] w w' := by
  go_enter Tryz.func93, Tryz.ntmps93
  go_wp2_with fail
  refine (sayIn_any (o := fun _ => True) s [⟨#[101, 110, 118, 105, 114, 111, 110, 109, 101, 110, 116]⟩, ⟨#[108, 97, 98, 101, 108, 115]⟩, ⟨#[97, 110, 110, 111, 116, 97, 116, 105, 111, 110, 115]⟩, ⟨#[115, 121, 115, 99, 116, 108, 115]⟩] _ _ (RdK.lit [⟨#[101, 110, 118, 105, 114, 111, 110, 109, 101, 110, 116]⟩, ⟨#[108, 97, 98, 101, 108, 115]⟩, ⟨#[97, 110, 110, 111, 116, 97, 116, 105, 111, 110, 115]⟩, ⟨#[115, 121, 115, 99, 116, 108, 115]⟩] (heap_alloc_new w _) rfl) (by decide)).mono ?_
  rintro e w1 ⟨rfl, rfl⟩
  rw [hb]
  clear hb
  go_wp2
  go_ret
  exact ⟨rfl, (Chg.refl [] w).al _⟩
/-- Attributes that stay as they are. -/
def six : List ByteArray := [kImage, kUser, kHostname, kCommand, kPrivileged, kCapAdd]
set_option maxHeartbeats 1000000 in
theorem sayAttr_any (s : ByteArray) (hs : s ∈ six) (t : T) (v : Value) (w : World) (h : Rd o w t v) (hf : Fine t) : Calls Tryz.prog 66 #[.string s, v] w (SomeB w) := by
  obtain ⟨A3, q3, A4, q4, rfl, hk, hv⟩ := h.five
  have hkl := hf.len
  have HIN : Hid (∀ (l : List ByteArray) (g : Nat) (W : World) (xs : Array Value) (e : TypeId), l.length ≤ 67108864 → W.heap[g]? = some (.cells xs e) → xs = (l.map Value.string).toArray → Calls Tryz.prog 71 #[.string s, .slice (some ⟨g, 0, none⟩) l.length l.length] W fun e w' => e = .returned (.bool (decide (s ∈ l))) ∧ W = w') :=
    Lib.hid fun l g W xs e hl hg hx => sayIn_any (o := fun _ => True) s l _ W (RdK.lit l hg hx) hl
  have HS := Lib.hid hs
  clear hs
  go_enter Tryz.func66, Tryz.ntmps66
  go_wp2_with fail
  refine (HIN.out [⟨#[105, 109, 97, 103, 101]⟩, ⟨#[117, 115, 101, 114]⟩, ⟨#[104, 111, 115, 116, 110, 97, 109, 101]⟩, ⟨#[100, 111, 109, 97, 105, 110, 110, 97, 109, 101]⟩, ⟨#[119, 111, 114, 107, 105, 110, 103, 95, 100, 105, 114]⟩, ⟨#[99, 111, 110, 116, 97, 105, 110, 101, 114, 95, 110, 97, 109, 101]⟩, ⟨#[114, 101, 115, 116, 97, 114, 116]⟩, ⟨#[112, 108, 97, 116, 102, 111, 114, 109]⟩, ⟨#[115, 116, 111, 112, 95, 115, 105, 103, 110, 97, 108]⟩, ⟨#[114, 117, 110, 116, 105, 109, 101]⟩] _ _ _ _ (by decide) (heap_al2 w _ _) rfl).mono ?_
  rintro e w1 ⟨rfl, rfl⟩
  by_cases h1 : s ∈ ([⟨#[105, 109, 97, 103, 101]⟩, ⟨#[117, 115, 101, 114]⟩, ⟨#[104, 111, 115, 116, 110, 97, 109, 101]⟩, ⟨#[100, 111, 109, 97, 105, 110, 110, 97, 109, 101]⟩, ⟨#[119, 111, 114, 107, 105, 110, 103, 95, 100, 105, 114]⟩, ⟨#[99, 111, 110, 116, 97, 105, 110, 101, 114, 95, 110, 97, 109, 101]⟩, ⟨#[114, 101, 115, 116, 97, 114, 116]⟩, ⟨#[112, 108, 97, 116, 102, 111, 114, 109]⟩, ⟨#[115, 116, 111, 112, 95, 115, 105, 103, 110, 97, 108]⟩, ⟨#[114, 117, 110, 116, 105, 109, 101]⟩] : List ByteArray)
  · rw [decide_eq_true h1]
    clear h1
    go_wp2_with fail
    refine (sayText_any t _ _ (h.chg (((Chg.refl [] w).al _).al _)) hf.txt).mono ?_
    rintro e w2 ⟨b, rfl, hc, _⟩
    go_wp2
    go_ret
    exact ⟨_, rfl, (((Chg.refl [] w).al _).al _).trans hc New.nil⟩
  · rw [decide_eq_false h1]
    have H1 := Lib.hid h1
    clear h1
    go_wp2_with fail
    refine (HIN.out [⟨#[112, 114, 105, 118, 105, 108, 101, 103, 101, 100]⟩, ⟨#[114, 101, 97, 100, 95, 111, 110, 108, 121]⟩, ⟨#[105, 110, 105, 116]⟩, ⟨#[116, 116, 121]⟩, ⟨#[115, 116, 100, 105, 110, 95, 111, 112, 101, 110]⟩] _ _ _ _ (by decide) (heap_alloc_at _ _ _ (by simp)) rfl).mono ?_
    rintro e w1 ⟨rfl, rfl⟩
    by_cases h2 : s ∈ ([⟨#[112, 114, 105, 118, 105, 108, 101, 103, 101, 100]⟩, ⟨#[114, 101, 97, 100, 95, 111, 110, 108, 121]⟩, ⟨#[105, 110, 105, 116]⟩, ⟨#[116, 116, 121]⟩, ⟨#[115, 116, 100, 105, 110, 95, 111, 112, 101, 110]⟩] : List ByteArray)
    · rw [decide_eq_true h2]
      clear h2
      go_wp2
      go_ret
      exact ⟨_, rfl, (((Chg.refl [] w).al _).al _).al _⟩
    · rw [decide_eq_false h2]
      have H2 := Lib.hid h2
      clear h2
      go_wp2_with fail
      refine (HIN.out [⟨#[99, 97, 112, 95, 97, 100, 100]⟩, ⟨#[99, 97, 112, 95, 100, 114, 111, 112]⟩, ⟨#[100, 110, 115]⟩, ⟨#[100, 110, 115, 95, 115, 101, 97, 114, 99, 104]⟩, ⟨#[100, 110, 115, 95, 111, 112, 116]⟩, ⟨#[115, 101, 99, 117, 114, 105, 116, 121, 95, 111, 112, 116]⟩, ⟨#[115, 101, 99, 114, 101, 116, 115]⟩, ⟨#[99, 111, 110, 102, 105, 103, 115]⟩] _ _ _ _ (by decide) (heap_alloc_at _ _ _ (by simp)) rfl).mono ?_
      rintro e w1 ⟨rfl, rfl⟩
      by_cases h3 : s ∈ ([⟨#[99, 97, 112, 95, 97, 100, 100]⟩, ⟨#[99, 97, 112, 95, 100, 114, 111, 112]⟩, ⟨#[100, 110, 115]⟩, ⟨#[100, 110, 115, 95, 115, 101, 97, 114, 99, 104]⟩, ⟨#[100, 110, 115, 95, 111, 112, 116]⟩, ⟨#[115, 101, 99, 117, 114, 105, 116, 121, 95, 111, 112, 116]⟩, ⟨#[115, 101, 99, 114, 101, 116, 115]⟩, ⟨#[99, 111, 110, 102, 105, 103, 115]⟩] : List ByteArray)
      · rw [decide_eq_true h3]
        clear h3
        go_wp2_with fail
        refine (sayTexts_any t _ _ (h.chg ((((Chg.refl [] w).al _).al _).al _ |>.al _)) (fun x hx => (hf.vals hx).txt) hkl.1).mono ?_
        rintro e w2 ⟨b, rfl, hc⟩
        go_wp2
        go_ret
        exact ⟨_, rfl, ((((Chg.refl [] w).al _).al _).al _ |>.al _).trans hc New.nil⟩
      · rw [decide_eq_false h3]
        obtain rfl : s = kCommand := by
          have hs := HS.out
          have h1 := H1.out
          have h2 := H2.out
          simp [six] at hs
          simp at h1 h2 h3
          rcases hs with e | e | e | e | e | e
          · exact absurd e h1.1
          · exact absurd e h1.2.1
          · exact absurd e h1.2.2.1
          · exact e
          · exact absurd e h2.1
          · exact absurd e h3.1
        clear H1 H2 h3 HS
        go_wp2_with fail
        refine (sayNamed_any kCommand false (by decide) _).mono ?_
        rintro e w1 ⟨rfl, hc⟩
        have hcw := ((((Chg.refl [] w).al _).al _).al _ |>.al _).trans hc New.nil
        obtain ⟨a0, a1, a2, a3, a4, af⟩ := cells5 (box5 ((heap_alloc_old _ _ _ (by simp; omega)).trans ((heap_alloc_old _ _ _ (by simp; omega)).trans (heap_al1 w _ _))) _ hc)
        clear hc
        go_wp2_with fail
        refine (sayShell_any t _ _ (h.chg hcw) hf.txt (fun x hx => (hf.vals hx).txt) hkl.1).mono ?_
        rintro e w2 ⟨b, rfl, hc⟩
        go_wp2
        go_ret
        exact ⟨_, rfl, hcw.trans hc New.nil⟩
end Go.Proofs.YtedbfoknfdiadaaGreatDoor
namespace Go.Proofs.YtedbfoknfdiadaaGreatDoor
open Go.RowKit
variable {o : Nat → Prop}
set_option maxRecDepth 100000

theorem ne_toList {s k : ByteArray} {l : List UInt8} (h : s ≠ k) (hl : k.toList = l) : (s.toList == l) = false := by
  rw [beq_eq_false_iff_ne]
  exact fun e => h (toList_inj (e.trans hl.symm))
set_option maxHeartbeats 1000000 in
theorem normAttr_six (s : ByteArray) (hs : s ∈ six) (t : T) (v : Value) (w : World) (h : Rd o w t v) (hf : Fine t) : Calls Tryz.prog 48 #[.string s, v] w (SomeB w) := by
  obtain ⟨A3, q3, A4, q4, rfl, hk, hv⟩ := h.five
  have HSIX : Hid (∀ W, Chg [] w W → Calls Tryz.prog 66 #[.string s, .agg #[.int .i64 t.kind, .int .i64 t.num, .string t.txt, .slice A3 t.keys.length q3, .slice A4 t.vals.length q4]] W (SomeB W)) :=
    Lib.hid fun W hc => sayAttr_any s hs t _ W (h.chg hc) hf
  simp [six] at hs
  rcases hs with rfl | rfl | rfl | rfl | rfl | rfl
  all_goals
    go_enter Tryz.func48, Tryz.ntmps48
    go_wp2_with fail
    refine (HSIX.out _ ((Chg.refl [] w).al _)).mono ?_
    rintro e w1 ⟨b, rfl, hc⟩
    go_wp2
    go_ret
    exact ⟨_, rfl, ((Chg.refl [] w).al _).trans hc New.nil⟩
set_option maxHeartbeats 1000000 in
theorem normAttr_labels (t : T) (v : Value) (w : World) (h : Rd o w t v) (hf : Fine t) : Calls Tryz.prog 48 #[.string kLabels, v] w (SomeB w) := by
  obtain ⟨A3, q3, A4, q4, rfl, hk, hv⟩ := h.five
  have hkl := hf.len
  go_enter Tryz.func48, Tryz.ntmps48
  go_wp2
  go_loopg [5] t.vals.length (fun g i wr => ∃ n : Nat, n ≤ t.vals.length ∧ g = t.vals.length - n ∧ i = .int .i64 n ∧ Chg [] w wr ∧ wr.heap[w.heap.size]? = some (.cells #[.int .i64 t.kind, .int .i64 t.num, .string t.txt, .slice A3 t.keys.length q3, .slice A4 t.vals.length q4] 25))
  case atStart => exact ⟨0, Nat.zero_le _, by omega, rfl, (Chg.refl [] w).al _, heap_alloc_new _ _⟩
  case round =>
    obtain ⟨n, hn, rfl, rfl, hcr, z1⟩ := hrel
    obtain ⟨a0, a1, a2, a3, a4, af⟩ := cells5 z1
    by_cases hlt : n < t.vals.length
    · obtain ⟨x, hx⟩ : ∃ x, t.vals[n]? = some x := ⟨_, List.getElem?_eq_getElem hlt⟩
      obtain ⟨ge, c1, A5, q5, A6, q6, e1, hge, rx, ye⟩ := hv.elem hx
      cases e1
      obtain ⟨y0, y1, y2, y3, y4⟩ := ye _ hcr
      clear hx ye
      by_cases hx3 : x.kind = 3
      · have hx3' : (x.kind != 3) = false := by rw [hx3]; rfl
        clear hx3
        go_wp2
        go_roundg (t.vals.length - (n + 1))
        case measure => omega
        case rel => exact ⟨n + 1, by omega, rfl, by go_num, hcr, z1⟩
      · have hx3' : (x.kind != 3) = true := by simpa using hx3
        clear hx3
        go_wp2
        go_ret
        exact ⟨_, rfl, hcr⟩
    · by_cases hk5 : t.kind = 5
      · have hk5' : (t.kind == 5) = true := by rw [hk5]; rfl
        have HK5 := Lib.hid hk5
        clear hk5
        go_wp2_with fail
        refine (sayPairs_any t _ _ (h.chg hcr) hf HK5.out).mono ?_
        rintro e w1 ⟨b, rfl, hc⟩
        go_wp2
        go_ret
        exact ⟨_, rfl, hcr.trans hc New.nil⟩
      · have hk5' : (t.kind == 5) = false := by simpa using hk5
        clear hk5
        go_wp2
        go_ret
        exact ⟨_, rfl, hcr⟩
set_option maxHeartbeats 1000000 in
theorem normAttr_any (s : ByteArray) (t : T) (v : Value) (w : World) (h : Rd o w t v) (hf : Fine t) : Calls Tryz.prog 48 #[.string s, v] w (SomeQ (s ∈ six ∨ s = kLabels ∨ Extra s) w) := by
  by_cases hs : s ∈ six
  · exact (normAttr_six s hs t v w h hf).mono fun e w' ⟨b, h1, h2⟩ => ⟨b, h1, h2, fun _ => .inl hs⟩
  · by_cases hl : s = kLabels
    · subst hl
      exact (normAttr_labels t v w h hf).mono fun e w' ⟨b, h1, h2⟩ => ⟨b, h1, h2, fun _ => .inr (.inl rfl)⟩
    · obtain ⟨A3, q3, A4, q4, rfl, hk, hv⟩ := h.five
      simp only [six, List.mem_cons, List.not_mem_nil, or_false, not_or] at hs
      have f1 : (s.toList == [105, 109, 97, 103, 101]) = false := ne_toList hs.1 (by kernel_rfl)
      have f2 : (s.toList == [117, 115, 101, 114]) = false := ne_toList hs.2.1 (by kernel_rfl)
      have f3 : (s.toList == [104, 111, 115, 116, 110, 97, 109, 101]) = false := ne_toList hs.2.2.1 (by kernel_rfl)
      have f4 : (s.toList == [99, 111, 109, 109, 97, 110, 100]) = false := ne_toList hs.2.2.2.1 (by kernel_rfl)
      have f5 : (s.toList == [112, 114, 105, 118, 105, 108, 101, 103, 101, 100]) = false := ne_toList hs.2.2.2.2.1 (by kernel_rfl)
      have f6 : (s.toList == [99, 97, 112, 95, 97, 100, 100]) = false := ne_toList hs.2.2.2.2.2 (by kernel_rfl)
      have f7 : (s.toList == [108, 97, 98, 101, 108, 115]) = false := ne_toList hl (by kernel_rfl)
      clear hs hl
      go_enter Tryz.func48, Tryz.ntmps48
      go_wp2_with fail
      refine (sayExtra_any s _).mono ?_
      rintro e w1 ⟨b, rfl, hc, hq⟩
      have HQ := Lib.hid hq
      clear hq
      go_wp2
      go_ret
      exact ⟨_, rfl, ((Chg.refl [] w).al _).trans hc New.nil, fun h => .inr (.inr (HQ.out h))⟩
theorem conv1i (w : World) (z : Int) : (convert 95 9 (.slice (some ⟨w.heap.size, 0, none⟩) 1 1)).run Tryz.prog (w.alloc (.cells #[.int .u8 z] 5)) = .ok (.string ⟨#[UInt8.ofNat z.toNat]⟩) (w.alloc (.cells #[.int .u8 z] 5)) := by
  rw [run_convert_bytes_string _ _ _ 5 (some ⟨w.heap.size, 0, none⟩) 1 1 (by kernel_rfl) (by kernel_rfl) (by kernel_rfl)]
  have hl := run_loadCells_list (P := Tryz.prog) (w.alloc (.cells #[.int .u8 z] 5)) ⟨w.heap.size, 0, none⟩ ([z].map (Value.int .u8)) (fun j v hj => by
    obtain rfl : j = 0 := by
      have := (List.getElem?_eq_some_iff.1 hj).1
      simpa using this
    have hv : Value.int .u8 z = v := by simpa using hj
    subst hv
    exact cell_of_row _ w.heap.size 0 _ _ (0, 0) (heap_alloc_new _ _))
  rw [run_bytesToString _ _ 1 1 [z] hl]
  rfl
theorem size_snoc (r : ByteArray) (b : UInt8) : (r ++ (⟨#[b]⟩ : ByteArray)).size = r.size + 1 := by
  rw [ByteArray.size_append]
  rfl
/-- Some text and a bool. -/
def SomeSB (w : World) (e : Ending) (w' : World) : Prop := ∃ (s : ByteArray) (b : Bool), e = .returned (.tuple #[.string s, .bool b]) ∧ Chg [] w w'
set_option maxHeartbeats 1000000 in
theorem projectName_any (s : ByteArray) (w : World) (hs : s.size ≤ 67108864) : Calls Tryz.prog 62 #[.string s] w (SomeSB w) := by
  go_enter Tryz.func62, Tryz.ntmps62
  go_wp2
  go_loopg [4, 5] s.size (fun g a i wr => ∃ (n : Nat) (r : ByteArray), n ≤ s.size ∧ g = s.size - n ∧ i = .int .i64 n ∧ a = .string r ∧ r.size ≤ n ∧ Chg [] w wr)
  case atStart => exact ⟨0, ⟨#[]⟩, Nat.zero_le _, by omega, rfl, rfl, Nat.le_refl _, Chg.refl _ _⟩
  case round =>
    obtain ⟨n, r, hn, rfl, rfl, rfl, hr, hcr⟩ := hrel
    by_cases hlt : n < s.size
    · have hcv := fun z => conv1i wr z
      go_wp2
      all_goals first
        | (go_ret2; exact ⟨_, _, rfl, hcr⟩)
        | (go_roundg (s.size - (n + 1))
           case measure => omega
           case rel => first
             | exact ⟨n + 1, r, by omega, rfl, by go_num, rfl, by omega, hcr⟩
             | exact ⟨n + 1, _, by omega, rfl, by go_num, rfl, by rw [size_snoc]; omega, hcr.al _⟩)
    · go_wp2
      go_ret2
      exact ⟨_, _, rfl, hcr⟩
set_option maxHeartbeats 400000 in
theorem nameRight_any (s : ByteArray) (w : World) (hs : s.size ≤ 67108864) : Calls Tryz.prog 45 #[.string s] w (SomeB w) := by
  go_enter Tryz.func45, Tryz.ntmps45
  go_wp2_with fail
  refine (projectName_any s _ hs).mono ?_
  rintro e w1 ⟨r, b, rfl, hc⟩
  cases b
  all_goals
    go_wp2
    go_ret
    exact ⟨_, rfl, hc⟩
end Go.Proofs.YtedbfoknfdiadaaGreatDoor
namespace Go.Proofs.YtedbfoknfdiadaaGreatDoor
open Go.RowKit
variable {o : Nat → Prop}
set_option maxRecDepth 100000

set_option maxHeartbeats 400000 in
theorem normRest_any (s p : ByteArray) (w : World) (hs : s.size ≤ 67108864) (hp : p.size ≤ 67108864) : Calls Tryz.prog 70 #[.string s, .string p] w fun e w' => e = .returned (.tuple #[.string (if isPre p s then s.extract p.size s.size else ⟨#[]⟩), .bool (isPre p s)]) ∧ w = w' := by
  by_cases hle : p.size ≤ s.size
  · have hlt : decide (s.size < p.size) = false := by simp; omega
    by_cases he : s.extract 0 p.size = p
    · have hi : isPre p s = true := by simp [isPre, hle, he]
      have hne : ((s.extract 0 p.size).toList == p.toList) = true := by rw [he]; simp
      rw [hi]
      clear hi he
      go_enter Tryz.func70, Tryz.ntmps70
      go_wp2
      go_ret2
      exact ⟨rfl, rfl⟩
    · have hi : isPre p s = false := by simp [isPre, he]
      have hne : ((s.extract 0 p.size).toList == p.toList) = false := by rw [beq_eq_false_iff_ne]; exact fun e => he (toList_inj e)
      rw [hi]
      clear hi he
      go_enter Tryz.func70, Tryz.ntmps70
      go_wp2
      go_ret2
      exact ⟨rfl, rfl⟩
  · have hlt : decide (s.size < p.size) = true := by simp; omega
    have hi : isPre p s = false := by simp [isPre, hle]
    rw [hi]
    clear hi hle
    go_enter Tryz.func70, Tryz.ntmps70
    go_wp2
    go_ret2
    exact ⟨rfl, rfl⟩

theorem cnt_le (s : ByteArray) : ∀ n, cnt s n ≤ n
  | 0 => Nat.le_refl _
  | n + 1 => by
    have := cnt_le s n
    unfold cnt
    split <;> omega
theorem colon_step {s : ByteArray} {n : Nat} (h : n ≤ colon s) (hn : n < s.size) (hne : s[n] ≠ 58) : n + 1 ≤ colon s := by
  rcases Nat.lt_or_ge n (colon s) with h' | h'
  · exact h'
  · exfalso
    have e : colon s = n := by omega
    unfold colon at e
    have := List.findIdx_getElem (xs := s.data.toList) (p := fun b => b == 58) (w := by rw [e]; simpa using hn)
    simp only [e] at this
    have h58 : s.data[n]'hn = 58 := by simpa using this
    exact hne h58
theorem colon_here {s : ByteArray} {n : Nat} (h : n ≤ colon s) (hn : n < s.size) (he : s[n] = 58) : colon s = n := by
  rcases Nat.lt_or_ge n (colon s) with h' | h'
  · exfalso
    have := List.not_of_lt_findIdx (p := fun b => b == 58) (xs := s.data.toList) h'
    simp at this
    exact this he
  · omega
theorem colon_le (s : ByteArray) : colon s ≤ s.size := by
  have := List.findIdx_le_length (p := fun b => b == 58) (xs := s.data.toList)
  simpa [colon] using this
theorem cnt_succ {s : ByteArray} {n : Nat} (hn : n < s.size) : cnt s (n + 1) = cnt s n + (if s[n] = 58 then 1 else 0) := by
  have : s.data.toList[n]? = some s[n] := by
    rw [List.getElem?_eq_getElem (by simpa using hn)]
    rfl
  simp only [cnt, this, Option.some.injEq]
/-- The parts: as many as colons and one; the first one is what stands ahead of the first colon. -/
structure Parts (s : ByteArray) (l : List ByteArray) : Prop where
  len : l.length = cnt s s.size + 1
  zero : l[0]? = some (part0 s)
  size : ∀ x ∈ l, x.size ≤ s.size
set_option maxHeartbeats 1000000 in
theorem shortParts_any (s : ByteArray) (w : World) (hs : s.size ≤ 67108864) : Calls Tryz.prog 73 #[.string s, .int .u8 58] w fun e w' => ∃ v l, e = .returned v ∧ Chg [] w w' ∧ RdK (fun b => w.heap.size ≤ b) w' l v ∧ Parts s l := by
  have hcl := colon_le s
  go_enter Tryz.func73, Tryz.ntmps73
  go_wp2
  go_loopg [5, 6, 7] (s.size + 1) (fun g a f i wr => ∃ (n m : Nat) (l : List ByteArray), n ≤ s.size + 1 ∧ m ≤ n ∧ g = s.size + 1 - n ∧ i = .int .i64 n ∧ f = .int .i64 m ∧ Chg [] w wr ∧ wr.ownsRow w.heap.size 9 1 a l.length (strC l) ∧
    (n ≤ s.size → l.length = cnt s n ∧ (l = [] → m = 0 ∧ n ≤ colon s)) ∧ (n = s.size + 1 → l.length = cnt s s.size + 1) ∧ (l ≠ [] → l[0]? = some (part0 s)) ∧ (∀ x ∈ l, x.size ≤ s.size))
  case atStart => exact ⟨0, 0, [], Nat.zero_le _, Nat.zero_le _, by omega, rfl, rfl, Chg.refl _ _, World.ownsRow_nil _ _ _ _, fun _ => ⟨rfl, fun _ => ⟨rfl, Nat.zero_le _⟩⟩, fun h => by omega, fun h => absurd rfl h, fun x hx => by cases hx⟩
  case round =>
    obtain ⟨n, m, l, hn, hm, rfl, rfl, rfl, hcr, hown, h1, h2, h3, h4⟩ := hrel
    obtain ⟨RA, RC, rfl⟩ := ownsRow_slice hown
    by_cases hlt : n ≤ s.size
    · have hl := h1 hlt
      have hcn := cnt_le s n
      have H34 := Lib.hid (And.intro h3 h4)
      have HL := Lib.hid hl
      clear h1 h2 h3 h4
      -- the next part
      have hstep : ∃ R' w2, (Builtin.append_ #[22, 22] 22 #[.slice RA l.length RC, .slice (some ⟨wr.heap.size, 0, none⟩) 1 1]).run Tryz.prog (wr.alloc (.cells #[.string (s.extract m n)] 9)) = .ok R' w2 ∧ w2.ownsRow w.heap.size 9 1 R' (l ++ [s.extract m n]).length (strC (l ++ [s.extract m n])) ∧ Chg [] w w2 := by
        have hown2 := ownsRow_keep (w' := wr.alloc (.cells #[.string (s.extract m n)] 9)) hown fun g hg => heap_alloc_old _ _ _ (ownsRow_own hown hg).2
        obtain ⟨R', w2, hr, ho, hc, _⟩ := run_app (P := Tryz.prog) w.heap.size 22 22 9 _ 1 16 uKs iS rfl (by decide) _ _ _ hown2 (some ⟨wr.heap.size, 0, none⟩) 1 1 [.string (s.extract m n)] rfl (fun _ => ⟨_, rfl, fun j u hu => by
          obtain rfl : j = 0 := by
            have := (List.getElem?_eq_some_iff.1 hu).1
            simpa using this
          have hv : Value.string (s.extract m n) = u := by simpa using hu
          subst hv
          exact cell_of_row _ wr.heap.size 0 _ _ (0, 0) (heap_alloc_new _ _)⟩) (fun u hu => by
            have : u = .string (s.extract m n) := by simpa using hu
            subst this
            rfl) (by omega) (by omega) (by have := hcr.size; simp; omega)
        refine ⟨R', w2, hr, by simpa [strC] using ho, (hcr.al _).trans hc fun x hx => ?_⟩
        have := (ownsRow_own hown (g := x) (by simpa using hx)).1
        exact .inr this
      have HST := Lib.hid hstep
      have hzero : colon s = n ∨ l ≠ [] → (l ++ [s.extract m n])[0]? = some (part0 s) := by
        intro hor
        by_cases hl : l = []
        · have hm0 := (HL.out.2 hl).1
          subst hl
          subst hm0
          rcases hor with h | h
          · simp [part0, h]
          · exact absurd rfl h
        · rw [List.getElem?_append_left (List.length_pos_iff.2 hl)]
          exact H34.out.1 hl
      have hsz : ∀ x ∈ l ++ [s.extract m n], x.size ≤ s.size := by
        intro x hx
        rcases List.mem_append.1 hx with hx | hx
        · exact H34.out.2 x hx
        · have : x = s.extract m n := by simpa using hx
          subst this
          simp
          omega
      have HZ := Lib.hid (And.intro hzero hsz)
      have HOWN := Lib.hid hown
      clear hstep hown hl hcn hzero hsz
      by_cases hend : n = s.size
      · subst hend
        go_wp2_with (first | (at_builtin; refine wpList_app rfl _ _ _ rfl rfl rfl HST.out ?_) | fail)
        intro v' w2 ho hc
        go_wp2
        go_roundg (s.size + 1 - (s.size + 1))
        case measure => omega
        case rel =>
          refine ⟨s.size + 1, s.size + 1, l ++ [s.extract m s.size], Nat.le_refl _, Nat.le_refl _, rfl, by go_num, by go_num, hc, by simpa using ho, fun h => by omega, fun _ => by rw [List.length_append, HL.out.1]; rfl, fun _ => HZ.out.1 ?_, HZ.out.2⟩
          by_cases hl : l = []
          · have := (HL.out.2 hl).2
            exact .inl (by omega)
          · exact .inr hl
      · have he : ((n : Int) == s.size) = false := by simp; omega
        have hlt2 : n < s.size := by omega
        by_cases h58 : s[n] = 58
        · have h58' : ((s[n].toNat : Int) == 58) = true := by rw [h58]; rfl
          go_wp2_with (first | (at_builtin; refine wpList_app rfl _ _ _ rfl rfl rfl HST.out ?_) | fail)
          intro v' w2 ho hc
          go_wp2
          go_roundg (s.size + 1 - (n + 1))
          case measure => omega
          case rel =>
            refine ⟨n + 1, n + 1, l ++ [s.extract m n], by omega, Nat.le_refl _, rfl, by go_num, by go_num, hc, by simpa using ho, fun _ => ⟨by rw [List.length_append, HL.out.1, cnt_succ hlt2, if_pos h58]; rfl, fun h => by simp at h⟩, fun h => by omega, fun _ => HZ.out.1 ?_, HZ.out.2⟩
            by_cases hl : l = []
            · exact .inl (colon_here (HL.out.2 hl).2 hlt2 h58)
            · exact .inr hl
        · have h58' : ((s[n].toNat : Int) == 58) = false := by
            rw [beq_eq_false_iff_ne]
            intro e
            exact h58 (UInt8.toNat_inj.1 (by have : s[n].toNat = 58 := by omega
                                             rw [this]; rfl))
          go_wp2
          go_roundg (s.size + 1 - (n + 1))
          case measure => omega
          case rel => exact ⟨n + 1, m, l, by omega, by omega, rfl, by go_num, rfl, hcr, HOWN.out, fun _ => ⟨by rw [HL.out.1, cnt_succ hlt2, if_neg h58]; rfl, fun h => ⟨(HL.out.2 h).1, colon_step (HL.out.2 h).2 hlt2 h58⟩⟩, fun h => by omega, H34.out.1, H34.out.2⟩
    · have HE := Lib.hid (show n = s.size + 1 by omega)
      have H234 := Lib.hid (And.intro h2 (And.intro h3 h4))
      have HOWN := Lib.hid hown
      clear h1 h2 h3 h4 hown
      go_wp2
      go_ret
      have hl := H234.out.1 HE.out
      exact ⟨_, l, rfl, hcr, RdK.of_own (fun b hb => hb) HOWN.out, hl, H234.out.2.1 (fun e => by rw [e] at hl; simp at hl), H234.out.2.2⟩
end Go.Proofs.YtedbfoknfdiadaaGreatDoor
