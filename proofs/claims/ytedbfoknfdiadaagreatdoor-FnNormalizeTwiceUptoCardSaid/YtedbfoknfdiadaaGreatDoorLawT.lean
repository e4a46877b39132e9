/- laws.FnNormalizeTwice, of any reading of its arguments. Conditions: sizes. (Printed by wip/gen/mkLawT.py.) -/
import Derived.Test.YtedbfoknfdiadaaGreatDoorLawN
set_option linter.unusedVariables false
set_option linter.unusedSimpArgs false
namespace Go.Proofs.YtedbfoknfdiadaaGreatDoor
open Go.RowKit
variable {o : Nat → Prop}
set_option maxRecDepth 100000
set_option maxHeartbeats 4000000 in
theorem fnTwice_any (r : Raw) (n : Nat) (v vp : Value) (w : World) (hr : RdR w r v) (hw : WFR 1048576 r) (hz : Raw.size r ≤ 1048576) (hp : RdP o w n vp) (hn : n ≤ 1048576) :
    Calls Tryz.prog 5 #[v, vp] w fun e w' => e = .returned (.bool true) ∧ Chg [] w w' := by
  obtain ⟨A3, q3, A4, q4, rfl, hyz⟩ := hr.five
  clear hyz
  have hw2 : WFR 67108864 r := WFR.mono (by decide) hw
  have HR := Lib.hid (And.intro hr (And.intro hw (And.intro hz (And.intro hp hw2))))
  clear hr hw hz hp hw2
  go_enter Tryz.func5, Tryz.ntmps5
  go_wp2_with fail
  refine (fits1_any r _ _ (HR.out.1.chg ((Chg.refl [] w).al _)) HR.out.2.2.2.2).mono ?_
  rintro e w1 ⟨b1, rfl, hc1⟩
  have hcw1 : Chg [] w w1 := ((Chg.refl [] w).al _).trans hc1 New.nil
  have z0 : w1.heap[w.heap.size]? = some (.cells #[.int .i64 r.kind, .int .i64 r.num, .string r.txt, .slice A3 r.keys.length q3, .slice A4 r.vals.length q4] 25) := box5 (heap_alloc_new w _) _ hc1
  clear hc1
  cases b1 with
  | false =>
    go_wp2_with fail
    go_ret
    exact ⟨rfl, hcw1⟩
  | true =>
    go_wp2_with fail
    refine (fits3_any n _ w1 (HR.out.2.2.2.1.chg hcw1) (by omega)).mono ?_
    rintro e w2 ⟨b2, rfl, hc2⟩
    have hcw2 := hcw1.trans hc2 New.nil
    have z0 := box5 z0 _ hc2
    cases b2 with
    | false =>
      go_wp2_with fail
      go_ret
      exact ⟨rfl, hcw2⟩
    | true =>
      obtain ⟨a0, a1, a2, a3, a4, af⟩ := cells5 z0
      go_wp2_with fail
      refine (fit_any (B := 1048576) (by omega) 1048576 r _ w2 HR.out.2.2.1 (by omega) HR.out.2.1 (HR.out.1.chg hcw2)).mono ?_
      rintro e w3 ⟨v3, t, rfl, hc3, hr3, hwt, hzt⟩
      obtain ⟨X5, x5, X6, x6, rfl, hyz⟩ := hr3.five
      have hzt : T.size t ≤ 1048576 := Nat.le_trans hzt HR.out.2.2.1
      have hlt2 : w.heap.size < w2.heap.size := (Array.getElem?_eq_some_iff.1 z0).1
      have z0 := box5 z0 _ hc3
      have hcw3 := hcw2.trans hc3 New.nil
      have hs23 := hc3.size
      clear hyz a0 a1 a2 a3 a4 af
      obtain ⟨W3, hW3, Q, hne, hcW3, hsz3⟩ := store5 z0 hcw3 (Nat.le_refl _) (.int .i64 t.kind) (.int .i64 t.num) (.string t.txt) (.slice X5 t.keys.length x5) (.slice X6 t.vals.length x6)
      have hr4 : Rd (fun b => b ≠ w.heap.size) W3 t (.agg #[.int .i64 (t).kind, .int .i64 (t).num, .string (t).txt, .slice X5 (t).keys.length x5, .slice X6 (t).vals.length x6]) := hr3.to fun b hb ho => ⟨by omega, hne b (by omega)⟩
      have hft : Fine t := ⟨hwt.mono (by decide), by omega⟩
      obtain ⟨a0, a1, a2, a3, a4, af⟩ := cells5 z0
      obtain ⟨p0, p1, p2, p3, p4, pf⟩ := cells5 Q
      rw [hW3] at p0 p1 p2 p3 p4 pf
      have HT := Lib.hid (And.intro Q (And.intro hr4 (And.intro hft hcW3)))
      clear Q hr4 hne hcW3 hr3 hc3 hcw1 hcw2 hcw3 z0
      go_wp2_with fail
      rw [← hW3]
      clear hW3 a0 a1 a2 a3 a4 af p0 p1 p2 p3 p4 pf
      refine (normalize_any (o := (fun b => b ≠ w.heap.size)) t _ W3 HT.out.2.1 HT.out.2.2.1 (by omega) (fun b hb => by omega)).mono ?_
      rintro e w4 ⟨v4, b4, rfl, hc4, ⟨c0, c1, c2, c3, c4, c5, c6, c7, c8, rfl⟩, hq⟩
      obtain ⟨W4, hW4⟩ : ∃ W4, W4 = w4.alloc (.cells #[.int .i64 c0, .int .i64 c1, .string c2, .slice c3 c4 c5, .slice c6 c7 c8] 25) := ⟨_, rfl⟩
      have hc44 : Chg [] w4 W4 := hW4 ▸ (Chg.refl [] w4).al _
      have hcW4 : Chg [] w W4 := (HT.out.2.2.2.trans hc4 New.nil).trans hc44 New.nil
      have zC : W4.heap[w4.heap.size]? = some (.cells #[.int .i64 c0, .int .i64 c1, .string c2, .slice c3 c4 c5, .slice c6 c7 c8] 25) := hW4 ▸ heap_alloc_new w4 _
      have zP := box5 HT.out.1 _ (hc4.trans hc44 New.nil)
      have hs4 : W3.heap.size ≤ w4.heap.size ∧ w4.heap.size < W4.heap.size := ⟨hc4.size, by rw [hW4]; simp⟩
      have HQ := Lib.hid hq
      clear hq
      cases b4 with
      | false =>
        go_wp2_with fail
        rw [← hW4]
        clear hW4
        refine (normAwake_any _).mono ?_
        rintro e w5 ⟨rfl, hc5⟩
        go_wp2_with fail
        go_ret
        exact ⟨rfl, hcW4.trans hc5 New.nil⟩
      | true =>
        obtain ⟨m, rfl, hok, hrS⟩ := HQ.out rfl
        have hrS4 := hrS.chg hc44
        have hrM := (HT.out.2.1.chg hc4).chg hc44
        have hfm : Fine (.map m) := HT.out.2.2.1
        have hfn : Fine (.map (normP m)) := by
          refine ⟨normP_wf hok (by decide) (by decide) hwt, ?_⟩
          have h1 := normP_le hok
          simp only [T.size] at hzt ⊢
          omega
        have HM := Lib.hid (And.intro hok (And.intro hrS4 (And.intro hrM (And.intro hfm (And.intro hfn hcW4)))))
        obtain ⟨p0, p1, p2, p3, p4, pf⟩ := cells5 zP
        rw [hW4] at p0 p1 p2 p3 p4 pf
        obtain ⟨CB, hCB⟩ : ∃ CB, CB = w4.heap.size := ⟨_, rfl⟩
        have HZ := Lib.hid (And.intro zP (hCB ▸ zC))
        clear hok hrS hrS4 hrM hfm hfn hcW4 HQ zC zP hc4 hc44
        go_wp2_with fail
        rw [← hW4, ← hCB]
        rw [← hCB] at hs4
        clear hW4 hCB p0 p1 p2 p3 p4 pf
        refine (to_any 67108864 (.map m) _ W4 (by omega) (by omega) HM.out.2.2.1).mono ?_
        rintro e w5 ⟨v5, rfl, hc5, hr5⟩
        go_wp2_with fail
        refine (fitPairs_any n _ w5 (HR.out.2.2.2.1.chg (HM.out.2.2.2.2.2.trans hc5 New.nil)) (by omega)).mono ?_
        rintro e w6 ⟨v6, n', rfl, hn', hc6, hp6⟩
        go_wp2_with fail
        refine (pairsTo_any n' _ w6 hp6 (by omega)).mono ?_
        rintro e w7 ⟨v7, rfl, hc7, hp7⟩
        go_wp2_with fail
        refine (implNorm_any m _ _ n' w7 ((hr5.chg hc6).chg hc7) HM.out.2.2.2.1 HM.out.2.2.2.2.1 hp7 (by omega) HM.out.1).mono ?_
        rintro e w8 ⟨v8, rfl, hc8, hr8⟩
        obtain ⟨D5, d5, D6, d6, rfl, hyz⟩ := hr8.five
        have hc48 : Chg [] W4 w8 := ((hc5.trans hc6 New.nil).trans hc7 New.nil).trans hc8 New.nil
        have hs8 : W4.heap.size ≤ w8.heap.size ∧ W4.heap.size ≤ w7.heap.size := ⟨hc48.size, ((hc5.trans hc6 New.nil).trans hc7 New.nil).size⟩
        have HN8 : Hid (Rd (fun b => b ≠ w.heap.size) w8 (.map (normP m)) (.agg #[.int .i64 (T.map (normP m)).kind, .int .i64 (T.map (normP m)).num, .string (T.map (normP m)).txt, .slice D5 (T.map (normP m)).keys.length d5, .slice D6 (T.map (normP m)).vals.length d6]) ∧ Chg [] W4 w8) := Lib.hid ⟨hr8.weak fun b hb => by omega, hc48⟩
        clear hyz hr5 hp6 hp7 hr8 hc5 hc6 hc7 hc8 hc48
        obtain ⟨W8, hW8⟩ : ∃ W8, W8 = w8.alloc (.cells #[.int .i64 (T.map (normP m)).kind, .int .i64 (T.map (normP m)).num, .string (T.map (normP m)).txt, .slice D5 (T.map (normP m)).keys.length d5, .slice D6 (T.map (normP m)).vals.length d6] 35) := ⟨_, rfl⟩
        have hc88 : Chg [] w8 W8 := hW8 ▸ (Chg.refl [] w8).al _
        have zI : W8.heap[w8.heap.size]? = some (.cells #[.int .i64 (T.map (normP m)).kind, .int .i64 (T.map (normP m)).num, .string (T.map (normP m)).txt, .slice D5 (T.map (normP m)).keys.length d5, .slice D6 (T.map (normP m)).vals.length d6] 35) := hW8 ▸ heap_alloc_new w8 _
        have hsW8 : w8.heap.size < W8.heap.size := by rw [hW8]; simp
        obtain ⟨i0, i1, i2, i3, i4, iff⟩ := cells5 zI
        rw [hW8] at i0 i1 i2 i3 i4 iff
        have hrI := HN8.out.1.chg hc88
        have hcI : Chg [] w W8 := HM.out.2.2.2.2.2.trans (HN8.out.2.trans hc88 New.nil) New.nil
        obtain ⟨IB, hIB⟩ : ∃ IB, IB = w8.heap.size := ⟨_, rfl⟩
        rw [← hIB] at zI
        clear hc88
        go_wp2_with fail
        rw [← hW8, ← hIB]
        clear hW8 hIB i0 i1 i2 i3 i4 iff
        refine (from_any 67108864 (.map (normP m)) _ W8 HM.out.2.2.2.2.1.size HM.out.2.2.2.2.1.size hrI).mono ?_
        rintro e w9 ⟨v9, rfl, hc9, hr9⟩
        go_wp2_with fail
        refine (to_any 67108864 (.map (normP m)) _ w9 HM.out.2.2.2.2.1.size HM.out.2.2.2.2.1.size hr9).mono ?_
        rintro e w10 ⟨v10, rfl, hc10, hr10⟩
        go_wp2_with fail
        refine (fitPairs_any n _ w10 (HR.out.2.2.2.1.chg ((hcI.trans hc9 New.nil).trans hc10 New.nil)) (by omega)).mono ?_
        rintro e w11 ⟨v11, n2, rfl, hn2, hc11, hp11⟩
        go_wp2_with fail
        refine (pairsTo_any n2 _ w11 hp11 (by omega)).mono ?_
        rintro e w12 ⟨v12, rfl, hc12, hp12⟩
        go_wp2_with fail
        refine (implNorm_any (normP m) _ _ n2 w12 ((hr10.chg hc11).chg hc12) HM.out.2.2.2.2.1 (by rw [norm_twice HM.out.1]; exact HM.out.2.2.2.2.1) hp12 (by omega) (normP_ok HM.out.1)).mono ?_
        rintro e w13 ⟨v13, rfl, hc13, hr13⟩
        rw [norm_twice HM.out.1] at hr13
        obtain ⟨E5, e5, E6, e6, rfl, hyz⟩ := hr13.five
        clear hyz
        obtain ⟨W13, hW13⟩ : ∃ W13, W13 = w13.alloc (.cells #[.int .i64 (T.map (normP m)).kind, .int .i64 (T.map (normP m)).num, .string (T.map (normP m)).txt, .slice E5 (T.map (normP m)).keys.length e5, .slice E6 (T.map (normP m)).vals.length e6] 35) := ⟨_, rfl⟩
        have hc133 : Chg [] w13 W13 := hW13 ▸ (Chg.refl [] w13).al _
        have zJ : W13.heap[w13.heap.size]? = some (.cells #[.int .i64 (T.map (normP m)).kind, .int .i64 (T.map (normP m)).num, .string (T.map (normP m)).txt, .slice E5 (T.map (normP m)).keys.length e5, .slice E6 (T.map (normP m)).vals.length e6] 35) := hW13 ▸ heap_alloc_new w13 _
        obtain ⟨JB, hJB⟩ : ∃ JB, JB = w13.heap.size := ⟨_, rfl⟩
        have hc8W : Chg [] W8 W13 := ((((hc9.trans hc10 New.nil).trans hc11 New.nil).trans hc12 New.nil).trans hc13 New.nil).trans hc133 New.nil
        have hs12 : W8.heap.size ≤ w12.heap.size := (((hc9.trans hc10 New.nil).trans hc11 New.nil).trans hc12 New.nil).size
        have hs13 : W8.heap.size ≤ W13.heap.size := hc8W.size
        have HY := Lib.hid (And.intro (box5 zI _ hc8W) (hJB ▸ zJ))
        have HX : Hid (Chg [] w W13 ∧ Rd (fun b => b ≠ w.heap.size) W13 (.map (normP m)) (.agg #[.int .i64 (T.map (normP m)).kind, .int .i64 (T.map (normP m)).num, .string (T.map (normP m)).txt, .slice D5 (T.map (normP m)).keys.length d5, .slice D6 (T.map (normP m)).vals.length d6]) ∧ Rd (fun b => b ≠ w.heap.size) W13 (.map (normP m)) (.agg #[.int .i64 (T.map (normP m)).kind, .int .i64 (T.map (normP m)).num, .string (T.map (normP m)).txt, .slice E5 (T.map (normP m)).keys.length e5, .slice E6 (T.map (normP m)).vals.length e6])) := Lib.hid ⟨hcI.trans hc8W New.nil, hrI.chg hc8W, (hr13.weak fun b hb => by omega).chg hc133⟩
        clear hc133 zJ hc8W zI hrI hcI hr9 hr10 hp11 hp12 hr13 hc9 hc10 hc11 hc12 hc13
        go_wp2_with fail
        rw [← hW13, ← hJB]
        clear hW13 hJB
        rename_i K hK
        refine wp_region_allg (by rfl) (by kernel_rfl) [7, 8, 9, 10] [(1, true), (4, true), (11, true)] (by kernel_rfl)
          (fun j u V => match j with
            | 0 => u = .bool true
            | 1 => u = .bool true
            | 2 => u = .bool true
            | 3 => u = .bool true
            | 4 => u = .bool true
            | 5 => u = .agg #[.int .i64 (T.map (normP m)).kind, .int .i64 (T.map (normP m)).num, .string (T.map (normP m)).txt, .slice D5 (T.map (normP m)).keys.length d5, .slice D6 (T.map (normP m)).vals.length d6]
            | 6 => Rd (fun b => b ≠ w.heap.size) V (.map (normP m)) u
            | 7 => u = .agg #[.int .i64 (T.map (normP m)).kind, .int .i64 (T.map (normP m)).num, .string (T.map (normP m)).txt, .slice E5 (T.map (normP m)).keys.length e5, .slice E6 (T.map (normP m)).vals.length e6]
            | 8 => Rd (fun b => b ≠ w.heap.size) V (.map (normP m)) u
            | 9 => u = .bool true
            | 10 => u = .bool true
            | 11 => u = .bool true
            | 12 => u = .bool true
            | 13 => u = .bool true
            | 14 => u = .bool true
            | _ => True) ?_ ?_ ?_ ?_
        · intro q hq V w' hφ
          simp only [List.mem_cons, List.not_mem_nil, or_false] at hq
          rcases hq with rfl | rfl | rfl <;> exact hφ
        · intro j u V V' hc hφ
          rcases j with _ | _ | _ | _ | _ | _ | _ | _ | _ | _ | _ | _ | _ | _ | _ | j
          all_goals first | exact hφ | exact Rd.chg hφ hc
        · intro j oo hj ho a' w' hst hch hdep K2 hK2
          have hsz : W13.heap.size ≤ w'.heap.size := hch.size
          have hcB : Chg [] W13 w' := (Chg.refl [] W13).dr.trans hch New.nil
          obtain ⟨i0, i1, i2, i3, i4, iff⟩ := cells5 (box5 HY.out.1 _ hcB)
          obtain ⟨p0, p1, p2, p3, p4, pf⟩ := cells5 (box5 HY.out.2 _ hcB)
          have hj' : j < 15 := hj
          rcases j with _ | _ | _ | _ | _ | _ | _ | _ | _ | _ | _ | _ | _ | _ | _ | j
          · obtain rfl : _ = oo := Option.some.inj ho  -- 0: slot 48
            have h8 := g_eq (t := 8) (v := .bool true) (hst 8 (by simp))
            unfold Oper.wp
            go_simp
            exact ⟨_, rfl, hK2 _ _ (Chg.refl _ _) rfl⟩
          · obtain rfl : _ = oo := Option.some.inj ho  -- 1: slot 49
            have h48 := g_eq (t := 48) (v := .bool true) (hdep 0 (by kernel_rfl))
            unfold Oper.wp
            go_simp
            exact ⟨_, rfl, hK2 _ _ (Chg.refl _ _) rfl⟩
          · obtain rfl : _ = oo := Option.some.inj ho  -- 2: slot 50
            have h10 := g_eq (t := 10) (v := .bool true) (hst 10 (by simp))
            unfold Oper.wp
            go_simp
            exact ⟨_, rfl, hK2 _ _ (Chg.refl _ _) rfl⟩
          · obtain rfl : _ = oo := Option.some.inj ho  -- 3: slot 51
            have h49 := g_eq (t := 49) (v := .bool true) (hdep 1 (by kernel_rfl))
            have h50 := g_eq (t := 50) (v := .bool true) (hdep 2 (by kernel_rfl))
            have h49 := g_eq (t := 49) (v := .bool true) (hdep 1 (by kernel_rfl))
            have h50 := g_eq (t := 50) (v := .bool true) (hdep 2 (by kernel_rfl))
            unfold Oper.wp
            go_simp
            exact ⟨_, rfl, hK2 _ _ (Chg.refl _ _) rfl⟩
          · obtain rfl : _ = oo := Option.some.inj ho  -- 4: slot 52
            have h51 := g_eq (t := 51) (v := .bool true) (hdep 3 (by kernel_rfl))
            unfold Oper.wp
            go_simp
            exact ⟨_, rfl, hK2 _ _ (Chg.refl _ _) rfl⟩
          · obtain rfl : _ = oo := Option.some.inj ho  -- 5: slot 53
            have h7 := g_eq (t := 7) (v := .pointer (some ⟨IB, 0, none⟩)) (hst 7 (by simp))
            unfold Oper.wp
            go_simp
            exact ⟨_, rfl, hK2 _ _ (Chg.refl _ _) rfl⟩
          · obtain rfl : _ = oo := Option.some.inj ho  -- 6: slot 54
            have h53 := g_eq (t := 53) (v := .agg #[.int .i64 (T.map (normP m)).kind, .int .i64 (T.map (normP m)).num, .string (T.map (normP m)).txt, .slice D5 (T.map (normP m)).keys.length d5, .slice D6 (T.map (normP m)).vals.length d6]) (hdep 5 (by kernel_rfl))
            have h53 := g_eq (t := 53) (v := .agg #[.int .i64 (T.map (normP m)).kind, .int .i64 (T.map (normP m)).num, .string (T.map (normP m)).txt, .slice D5 (T.map (normP m)).keys.length d5, .slice D6 (T.map (normP m)).vals.length d6]) (hdep 5 (by kernel_rfl))
            unfold Oper.wp
            go_simp
            refine (from_any 67108864 (.map (normP m)) _ w' HM.out.2.2.2.2.1.size HM.out.2.2.2.2.1.size (HX.out.2.1.chg hcB)).mono ?_
            rintro e w3 ⟨v', rfl, hc3, hr3⟩
            exact ⟨_, rfl, hK2 _ _ hc3 (hr3.weak fun b hb => by omega)⟩
          · obtain rfl : _ = oo := Option.some.inj ho  -- 7: slot 55
            have h9 := g_eq (t := 9) (v := .pointer (some ⟨JB, 0, none⟩)) (hst 9 (by simp))
            unfold Oper.wp
            go_simp
            exact ⟨_, rfl, hK2 _ _ (Chg.refl _ _) rfl⟩
          · obtain rfl : _ = oo := Option.some.inj ho  -- 8: slot 56
            have h55 := g_eq (t := 55) (v := .agg #[.int .i64 (T.map (normP m)).kind, .int .i64 (T.map (normP m)).num, .string (T.map (normP m)).txt, .slice E5 (T.map (normP m)).keys.length e5, .slice E6 (T.map (normP m)).vals.length e6]) (hdep 7 (by kernel_rfl))
            have h55 := g_eq (t := 55) (v := .agg #[.int .i64 (T.map (normP m)).kind, .int .i64 (T.map (normP m)).num, .string (T.map (normP m)).txt, .slice E5 (T.map (normP m)).keys.length e5, .slice E6 (T.map (normP m)).vals.length e6]) (hdep 7 (by kernel_rfl))
            unfold Oper.wp
            go_simp
            refine (from_any 67108864 (.map (normP m)) _ w' HM.out.2.2.2.2.1.size HM.out.2.2.2.2.1.size (HX.out.2.2.chg hcB)).mono ?_
            rintro e w3 ⟨v', rfl, hc3, hr3⟩
            exact ⟨_, rfl, hK2 _ _ hc3 (hr3.weak fun b hb => by omega)⟩
          · obtain rfl : _ = oo := Option.some.inj ho  -- 9: slot 57
            have hr54 : Rd (fun b => b ≠ w.heap.size) w' (.map (normP m)) (Act.g a' 54) := hdep 6 (by kernel_rfl)
            generalize h54 : Act.g a' 54 = vv at hr54
            have h54 := g_eq (t := 54) h54
            have hr56 : Rd (fun b => b ≠ w.heap.size) w' (.map (normP m)) (Act.g a' 56) := hdep 8 (by kernel_rfl)
            generalize h56 : Act.g a' 56 = vx at hr56
            have h56 := g_eq (t := 56) h56
            unfold Oper.wp
            go_simp
            refine (same_eq (o := (fun b => b ≠ w.heap.size)) 67108864 (.map (normP m)) _ _ w' HM.out.2.2.2.2.1.size HM.out.2.2.2.2.1.size hr54 hr56).mono ?_
            rintro e w3 ⟨rfl, hc3⟩
            exact ⟨_, rfl, hK2 _ _ hc3 rfl⟩
          · obtain rfl : _ = oo := Option.some.inj ho  -- 10: slot 58
            have h52 := g_eq (t := 52) (v := .bool true) (hdep 4 (by kernel_rfl))
            have h57 := g_eq (t := 57) (v := .bool true) (hdep 9 (by kernel_rfl))
            unfold Oper.wp
            go_simp
            exact ⟨_, rfl, hK2 _ _ (Chg.refl _ _) rfl⟩
          · obtain rfl : _ = oo := Option.some.inj ho  -- 11: slot 59
            have h58 := g_eq (t := 58) (v := .bool true) (hdep 10 (by kernel_rfl))
            unfold Oper.wp
            go_simp
            exact ⟨_, rfl, hK2 _ _ (Chg.refl _ _) rfl⟩
          · obtain rfl : _ = oo := Option.some.inj ho  -- 12: slot 60
            unfold Oper.wp
            go_simp
            refine (normAwake_any _).mono ?_
            rintro e w3 ⟨rfl, hc3⟩
            exact ⟨_, rfl, hK2 _ _ hc3 rfl⟩
          · obtain rfl : _ = oo := Option.some.inj ho  -- 13: slot 61
            have h59 := g_eq (t := 59) (v := .bool true) (hdep 11 (by kernel_rfl))
            have h60 := g_eq (t := 60) (v := .bool true) (hdep 12 (by kernel_rfl))
            unfold Oper.wp
            go_simp
            exact ⟨_, rfl, hK2 _ _ (Chg.refl _ _) rfl⟩
          · obtain rfl : _ = oo := Option.some.inj ho  -- 14: slot 4
            have h61 := g_eq (t := 61) (v := .bool true) (hdep 13 (by kernel_rfl))
            unfold Oper.wp
            go_simp
            exact ⟨_, rfl, hK2 _ _ (Chg.refl _ _) rfl⟩
          · omega
        · intro u w' hch hφ A2 hA2
          have hu : u 14 = .bool true := hφ 14 (by decide)
          have hcB : Chg [] W13 w' := (Chg.refl [] W13).dr.trans hch New.nil
          have hcE := HX.out.1.trans hcB New.nil
          simp [putAll, dOf, Act.put, hu] at hA2
          subst hA2
          clear hφ hu hch hcB
          refine hK _ _ ?_
          go_wp2_with fail
          go_ret
          exact ⟨rfl, hcE⟩
end Go.Proofs.YtedbfoknfdiadaaGreatDoor
