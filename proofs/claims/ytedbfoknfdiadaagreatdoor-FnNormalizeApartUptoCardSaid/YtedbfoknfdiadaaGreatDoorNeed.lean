/- spec.normNeed. Conditions: lengths. -/
import Derived.Test.YtedbfoknfdiadaaGreatDoorTail
set_option linter.unusedVariables false
set_option linter.unusedSimpArgs false
namespace Go.Proofs.YtedbfoknfdiadaaGreatDoor
open Go.RowKit
variable {o : Nat → Prop}
set_option maxRecDepth 100000

/-- A Val behind an interface. -/
def IfR (o : Nat → Prop) (w : World) (t : T) (u : Value) : Prop := ∃ v, u = .iface 25 v ∧ Rd o w t v
theorem IfR.chg {w w' : World} {t : T} {u : Value} (h : IfR o w t u) (hc : Chg [] w w') : IfR o w' t u := by
  obtain ⟨v, e, h⟩ := h
  exact ⟨v, e, h.chg hc⟩
/-- The row that M gets. -/
def AnyRow (o : Nat → Prop) (w : World) (l : List (ByteArray × T)) (u : Value) : Prop := ∃ g C, u = .slice (some ⟨g, 0, none⟩) (2 * l.length) C ∧ g < w.heap.size ∧
  ∀ j k x, l[j]? = some (k, x) → w.cell? ⟨g, 2 * j, none⟩ = some (.iface 9 (.string k)) ∧ ∃ v, w.cell? ⟨g, 2 * j + 1, none⟩ = some (.iface 25 v) ∧ Rd o w x v
theorem AnyRow.chg {w w' : World} {l : List (ByteArray × T)} {u : Value} (h : AnyRow o w l u) (hc : Chg [] w w') : AnyRow o w' l u := by
  obtain ⟨g, C, e, hg, h⟩ := h
  refine ⟨g, C, e, Nat.lt_of_lt_of_le hg hc.size, fun j k x hj => ?_⟩
  obtain ⟨h1, v, h2, h3⟩ := h j k x hj
  exact ⟨(hc.cells.1 _ _ hg).trans h1, v, (hc.cells.1 _ _ hg).trans h2, h3.chg hc⟩
theorem AnyRow.two (w : World) {k1 k2 : ByteArray} {t1 t2 : T} {v1 v2 : Value} (h1 : Rd o w t1 v1) (h2 : Rd o w t2 v2) :
    AnyRow o (w.alloc (.cells #[.iface 9 (.string k1), .iface 25 v1, .iface 9 (.string k2), .iface 25 v2] 20)) [(k1, t1), (k2, t2)] (.slice (some ⟨w.heap.size, 0, none⟩) 4 4) := by
  have hc := (Chg.refl [] w).al (.cells #[.iface 9 (.string k1), .iface 25 v1, .iface 9 (.string k2), .iface 25 v2] 20)
  have hcell := fun j => cell_of_row _ w.heap.size j _ _ (0, 0) (heap_alloc_new w (.cells #[.iface 9 (.string k1), .iface 25 v1, .iface 9 (.string k2), .iface 25 v2] 20))
  refine ⟨w.heap.size, 4, rfl, by simp, fun j k x hj => ?_⟩
  match j, hj with
  | 0, hj => simp at hj; obtain ⟨rfl, rfl⟩ := hj; exact ⟨hcell 0, v1, hcell 1, h1.chg hc⟩
  | 1, hj => simp at hj; obtain ⟨rfl, rfl⟩ := hj; exact ⟨hcell 2, v2, hcell 3, h2.chg hc⟩
theorem AnyRow.one (w : World) {k1 : ByteArray} {t1 : T} {v1 : Value} (h1 : Rd o w t1 v1) :
    AnyRow o (w.alloc (.cells #[.iface 9 (.string k1), .iface 25 v1] 20)) [(k1, t1)] (.slice (some ⟨w.heap.size, 0, none⟩) 2 2) := by
  have hc := (Chg.refl [] w).al (.cells #[.iface 9 (.string k1), .iface 25 v1] 20)
  have hcell := fun j => cell_of_row _ w.heap.size j _ _ (0, 0) (heap_alloc_new w (.cells #[.iface 9 (.string k1), .iface 25 v1] 20))
  refine ⟨w.heap.size, 2, rfl, by simp, fun j k x hj => ?_⟩
  match j, hj with
  | 0, hj => simp at hj; obtain ⟨rfl, rfl⟩ := hj; exact ⟨hcell 0, v1, hcell 1, h1.chg hc⟩

theorem insAll_imp : T.map (insAll [(⟨#[99, 111, 110, 100, 105, 116, 105, 111, 110]⟩, .text kStarted), (⟨#[114, 101, 113, 117, 105, 114, 101, 100]⟩, .bool true)]) = impS := by
  have h : blt kCondition kRequired = true := by kernel_rfl
  simp [insAll, mins, impS, h]
set_option maxHeartbeats 1000000 in
theorem normNeed_any (m : List (ByteArray × T)) (k : ByteArray) (v : Value) (w : World) (h : Rd o w (.map m) v) (hsm : Srt m) (hml : m.length ≤ 67108864) (hno : ∀ b, w.heap.size ≤ b → o b) :
    Calls Tryz.prog 72 #[v, .string k] w fun e w' => ∃ v', e = .returned v' ∧ Chg [] w w' ∧ Rd o w' (.map (need impS m k)) v' := by
  obtain ⟨A3, q3, A4, q4, rfl⟩ := h.five_map
  have HH : Hid (∀ W, Chg [] w W → Calls Tryz.prog 33 #[.agg #[.int .i64 5, .int .i64 0, .string ⟨#[]⟩, .slice A3 m.length q3, .slice A4 m.length q4], .string k] W fun e w' => e = .returned (.bool (hasK k m)) ∧ Chg [] W w') :=
    Lib.hid fun W hc => has_any (.map m) _ k W (h.chg hc) (fun m' e => by cases e; exact hsm) (by simpa [T.keys] using hml)
  go_enter Tryz.func72, Tryz.ntmps72
  go_wp2_with fail
  refine (HH.out _ (((Chg.refl [] w).al _).al _)).mono ?_
  rintro e wr ⟨rfl, hc⟩
  have hcr := (((Chg.refl [] w).al _).al _).trans hc New.nil
  have z1 := box5 (heap_al1 w (.cells #[.int .i64 5, .int .i64 0, .string ⟨#[]⟩, .slice A3 m.length q3, .slice A4 m.length q4] 25) (.cells #[.int .i64 0, .int .i64 0, .string ⟨#[]⟩, .slice none 0 0, .slice none 0 0] 25)) _ hc
  have z2 := box5 (heap_al2 w (.cells #[.int .i64 5, .int .i64 0, .string ⟨#[]⟩, .slice A3 m.length q3, .slice A4 m.length q4] 25) (.cells #[.int .i64 0, .int .i64 0, .string ⟨#[]⟩, .slice none 0 0, .slice none 0 0] 25)) _ hc
  have hszr : w.heap.size + 2 ≤ wr.heap.size := by have := hc.size; simpa using this
  have hr : Rd (OffB o w.heap.size (w.heap.size + 1)) wr (.map m) (.agg #[.int .i64 5, .int .i64 0, .string ⟨#[]⟩, .slice A3 m.length q3, .slice A4 m.length q4]) := h.to fun b hb ho => ⟨⟨ho, by omega, by omega⟩, hcr.block b hb (by simp)⟩
  have HR := Lib.hid hr
  clear hr hc
  obtain ⟨a0, a1, a2, a3, a4, af⟩ := cells5 z1
  obtain ⟨d0, d1, d2, d3, d4, df⟩ := cells5 z2
  cases hk : hasK k m with
  | true =>
    have hneed : need impS m k = m := need_of_has hk
    go_wp2
    obtain ⟨W, hW, Q, hne, hcW, _⟩ := store5 z2 hcr (by omega : w.heap.size ≤ w.heap.size + 1) (.int .i64 5) (.int .i64 0) (.string ⟨#[]⟩) (.slice A3 m.length q3) (.slice A4 m.length q4)
    rw [← hW]
    obtain ⟨e0, e1, e2, e3, e4, _⟩ := cells5 Q
    refine bodyPost_ret (v := .agg #[.int .i64 5, .int .i64 0, .string ⟨#[]⟩, .slice A3 m.length q3, .slice A4 m.length q4]) (by simp [results, Tryz.results72, go_sem, e0, e1, e2, e3, e4]) rfl ⟨_, rfl, hcW, ?_⟩
    rw [hneed]
    exact HR.out.to fun b _ ho => ⟨ho.1, hne b ho.2.2⟩
  | false =>
    have hneed : need impS m k = mins k impS m := by unfold need; rw [hk]; rfl
    clear hk
    go_wp2
    rename_i K hK
    have HK := Lib.hid hK
    clear hK a0 a1 a2 a3 a4 af d0 d1 d2 d3 d4 df
    refine wp_region_tail (by rfl) (by kernel_rfl) [1, 2, 4] (by kernel_rfl)
      (fun j u V => match j with
        | 0 => u = .agg #[.int .i64 5, .int .i64 0, .string ⟨#[]⟩, .slice A3 m.length q3, .slice A4 m.length q4]
        | 1 => u = .string k
        | 2 => u = .iface 9 (.string ⟨#[99, 111, 110, 100, 105, 116, 105, 111, 110]⟩)
        | 3 => Rd (OffB o w.heap.size (w.heap.size + 1)) V (.text kStarted) u
        | 4 => IfR (OffB o w.heap.size (w.heap.size + 1)) V (.text kStarted) u
        | 5 => u = .iface 9 (.string ⟨#[114, 101, 113, 117, 105, 114, 101, 100]⟩)
        | 6 => Rd (OffB o w.heap.size (w.heap.size + 1)) V (.bool true) u
        | 7 => IfR (OffB o w.heap.size (w.heap.size + 1)) V (.bool true) u
        | 8 => AnyRow (OffB o w.heap.size (w.heap.size + 1)) V [(⟨#[99, 111, 110, 100, 105, 116, 105, 111, 110]⟩, .text kStarted), (⟨#[114, 101, 113, 117, 105, 114, 101, 100]⟩, .bool true)] u
        | 9 => Rd (OffB o w.heap.size (w.heap.size + 1)) V impS u
        | 10 => Rd (OffB o w.heap.size (w.heap.size + 1)) V (.map (mins k impS m)) u
        | _ => True) ?_ ?_ ?_
    · intro j u V V' hc hφ
      rcases j with _ | _ | _ | _ | _ | _ | _ | _ | _ | _ | _ | j
      all_goals first | exact hφ | exact Rd.chg hφ hc | exact IfR.chg hφ hc | exact AnyRow.chg hφ hc
    · intro j oo hj ho a' w' hst hch hdep K2 hK2
      have hcrw := hcr.trans ((Chg.refl [] _).dr.trans hch New.nil) New.nil
      have hsz : wr.heap.size ≤ w'.heap.size := hch.size
      obtain ⟨b0, b1, b2, b3, b4, bf⟩ := cells5 ((hch.block w.heap.size (by show w.heap.size < wr.heap.size; omega) (by simp)).trans z1)
      have hrm : Rd (OffB o w.heap.size (w.heap.size + 1)) w' (.map m) _ := Rd.mono (w := wr) (fun b hb _ => hch.block b hb (by simp)) HR.out
      have hno' : ∀ b, w'.heap.size ≤ b → OffB o w.heap.size (w.heap.size + 1) b := fun b hb => ⟨hno b (by omega), by omega, by omega⟩
      have h1 := g_eq (t := 1) (v := .string k) (hst 1 (by simp))
      have hj' : j < 11 := hj
      rcases j with _ | _ | _ | _ | _ | _ | _ | _ | _ | _ | _ | j
      · obtain rfl : _ = oo := Option.some.inj ho  -- 0: slot 9
        have h2 := g_eq (t := 2) (v := .pointer (some ⟨w.heap.size, 0, none⟩)) (hst 2 (by simp))
        unfold Oper.wp
        go_simp
        exact ⟨_, rfl, hK2 _ _ (Chg.refl _ _) rfl⟩
      · obtain rfl : _ = oo := Option.some.inj ho  -- 1: slot 10
        have h1 := g_eq (t := 1) (v := .string k) (hst 1 (by simp))
        unfold Oper.wp
        go_simp
        exact ⟨_, rfl, hK2 _ _ (Chg.refl _ _) rfl⟩
      · obtain rfl : _ = oo := Option.some.inj ho  -- 2: slot 11
        unfold Oper.wp
        go_simp
        exact ⟨_, rfl, hK2 _ _ (Chg.refl _ _) rfl⟩
      · obtain rfl : _ = oo := Option.some.inj ho  -- 3: slot 12
        unfold Oper.wp
        go_simp
        refine (specT (o := (OffB o w.heap.size (w.heap.size + 1))) kStarted w').mono ?_
        rintro e w3 ⟨v', rfl, hc3, hr3⟩
        exact ⟨_, rfl, hK2 _ _ hc3 hr3⟩
      · obtain rfl : _ = oo := Option.some.inj ho  -- 4: slot 13
        have hr12 : Rd (OffB o w.heap.size (w.heap.size + 1)) w' (.text kStarted) (Act.g a' 12) := hdep 3 (by kernel_rfl)
        generalize h12 : Act.g a' 12 = vv at hr12
        obtain ⟨A5, q5, A6, q6, rfl, _⟩ := hr12.five
        have h12 := g_eq (t := 12) h12
        unfold Oper.wp
        go_simp
        exact ⟨_, rfl, hK2 _ _ (Chg.refl _ _) ⟨_, rfl, hr12⟩⟩
      · obtain rfl : _ = oo := Option.some.inj ho  -- 5: slot 14
        unfold Oper.wp
        go_simp
        exact ⟨_, rfl, hK2 _ _ (Chg.refl _ _) rfl⟩
      · obtain rfl : _ = oo := Option.some.inj ho  -- 6: slot 15
        unfold Oper.wp
        go_simp
        refine (specB (o := (OffB o w.heap.size (w.heap.size + 1))) true w').mono ?_
        rintro e w3 ⟨v', rfl, hc3, hr3⟩
        exact ⟨_, rfl, hK2 _ _ hc3 hr3⟩
      · obtain rfl : _ = oo := Option.some.inj ho  -- 7: slot 16
        have hr15 : Rd (OffB o w.heap.size (w.heap.size + 1)) w' (.bool true) (Act.g a' 15) := hdep 6 (by kernel_rfl)
        generalize h15 : Act.g a' 15 = vv at hr15
        obtain ⟨A5, q5, A6, q6, rfl, _⟩ := hr15.five
        have h15 := g_eq (t := 15) h15
        unfold Oper.wp
        go_simp
        exact ⟨_, rfl, hK2 _ _ (Chg.refl _ _) ⟨_, rfl, hr15⟩⟩
      · obtain rfl : _ = oo := Option.some.inj ho  -- 8: slot 17
        have h11 := g_eq (t := 11) (v := .iface 9 (.string ⟨#[99, 111, 110, 100, 105, 116, 105, 111, 110]⟩)) (hdep 2 (by kernel_rfl))
        have h14 := g_eq (t := 14) (v := .iface 9 (.string ⟨#[114, 101, 113, 117, 105, 114, 101, 100]⟩)) (hdep 5 (by kernel_rfl))
        obtain ⟨v1, h13, hr1⟩ : IfR (OffB o w.heap.size (w.heap.size + 1)) w' (.text kStarted) (Act.g a' 13) := hdep 4 (by kernel_rfl)
        obtain ⟨v2, h16, hr2⟩ : IfR (OffB o w.heap.size (w.heap.size + 1)) w' (.bool true) (Act.g a' 16) := hdep 7 (by kernel_rfl)
        have h13 := g_eq (t := 13) h13
        have h16 := g_eq (t := 16) h16
        unfold Oper.wp
        go_simp
        exact ⟨_, rfl, hK2 _ _ ((Chg.refl [] w').al _) (AnyRow.two w' hr1 hr2)⟩
      · obtain rfl : _ = oo := Option.some.inj ho  -- 9: slot 18
        obtain ⟨g, C, h17, hg, hrow⟩ : AnyRow (OffB o w.heap.size (w.heap.size + 1)) w' [(⟨#[99, 111, 110, 100, 105, 116, 105, 111, 110]⟩, .text kStarted), (⟨#[114, 101, 113, 117, 105, 114, 101, 100]⟩, .bool true)] (Act.g a' 17) := hdep 8 (by kernel_rfl)
        have h17 := g_eq (t := 17) h17
        unfold Oper.wp
        go_simp
        refine (specM [(⟨#[99, 111, 110, 100, 105, 116, 105, 111, 110]⟩, .text kStarted), (⟨#[114, 101, 113, 117, 105, 114, 101, 100]⟩, .bool true)] g C w' hg hrow (by decide) hno').mono ?_
        rintro e w3 ⟨v', rfl, hc3, hr3⟩
        rw [insAll_imp] at hr3
        exact ⟨_, rfl, hK2 _ _ hc3 hr3⟩
      · obtain rfl : _ = oo := Option.some.inj ho  -- 10: slot 19
        have h9 := g_eq (t := 9) (v := .agg #[.int .i64 5, .int .i64 0, .string ⟨#[]⟩, .slice A3 m.length q3, .slice A4 m.length q4]) (hdep 0 (by kernel_rfl))
        have h10 := g_eq (t := 10) (v := .string k) (hdep 1 (by kernel_rfl))
        have hr18 : Rd (OffB o w.heap.size (w.heap.size + 1)) w' impS (Act.g a' 18) := hdep 9 (by kernel_rfl)
        generalize h18 : Act.g a' 18 = vv at hr18
        have h18 := g_eq (t := 18) h18
        unfold Oper.wp
        go_simp
        refine (with_map m impS _ _ k w' hrm hsm hr18 hml hno').mono ?_
        rintro e w3 ⟨v', rfl, hc3, hr3⟩
        exact ⟨_, rfl, hK2 _ _ hc3 hr3⟩
      · omega
    · intro oo ho u w' hch hφ A2 hA2
      obtain rfl : _ = oo := Option.some.inj ho
      have l10 : 10 < 11 := by omega
      have hu10 : Rd (OffB o w.heap.size (w.heap.size + 1)) w' (.map (mins k impS m)) (u 10) := hφ 10 l10
      obtain ⟨A7, q7, A8, q8, hu⟩ := hu10.five_map
      rw [hu] at hu10
      have hsz : wr.heap.size ≤ w'.heap.size := hch.size
      have hcrw := hcr.trans ((Chg.refl [] _).dr.trans hch New.nil) New.nil
      have z3 := (hch.block (w.heap.size + 1) (by show w.heap.size + 1 < wr.heap.size; omega) (by simp)).trans z2
      simp [putAll, dOf, Act.put, hu] at hA2
      subst hA2
      clear hφ l10 ho hu
      obtain ⟨b0, b1, b2, b3, b4, bf⟩ := cells5 z3
      unfold Oper.wp
      go_simp
      refine HK.out _ _ ?_
      clear HK b0 b1 b2 b3 b4 bf
      obtain ⟨W, hW, Q, hne, hcW, _⟩ := store5 z3 hcrw (by omega : w.heap.size ≤ w.heap.size + 1) (.int .i64 5) (.int .i64 0) (.string ⟨#[]⟩) (.slice A7 (mins k impS m).length q7) (.slice A8 (mins k impS m).length q8)
      rw [← hW]
      have HRN := Lib.hid (hu10.mono (w' := W) fun b _ ho => hne b ho.2.2)
      clear hW hne hu10
      go_wp2
      obtain ⟨e0, e1, e2, e3, e4, _⟩ := cells5 Q
      refine bodyPost_ret (v := .agg #[.int .i64 5, .int .i64 0, .string ⟨#[]⟩, .slice A7 (mins k impS m).length q7, .slice A8 (mins k impS m).length q8]) (by simp [results, Tryz.results72, go_sem, e0, e1, e2, e3, e4]) rfl ⟨_, rfl, hcW, ?_⟩
      rw [hneed]
      exact HRN.out.weak fun b ho => ho.1
end Go.Proofs.YtedbfoknfdiadaaGreatDoor
