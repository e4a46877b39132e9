/- laws.FnNormalize, of any reading of its arguments. Conditions: sizes. (Printed by wip/gen/mkLawN.py.) -/
import Derived.Test.YtedbfoknfdiadaaGreatDoorNorm
import Derived.Test.YtedbfoknfdiadaaGreatDoorGuard
import Derived.Test.YtedbfoknfdiadaaGreatDoorImplB
import Derived.Test.YtedbfoknfdiadaaGreatDoorAwake
import Derived.Test.YtedbfoknfdiadaaGreatDoorFit
import Derived.Test.YtedbfoknfdiadaaGreatDoorFitP
import Derived.Test.YtedbfoknfdiadaaGreatDoorPairs
set_option linter.unusedVariables false
set_option linter.unusedSimpArgs false
namespace Go.Proofs.YtedbfoknfdiadaaGreatDoor
open Go.RowKit
variable {o : Nat → Prop}
set_option maxRecDepth 100000
mutual
theorem WFR.mono {B C : Nat} (h : B ≤ C) : ∀ {r : Raw}, WFR B r → WFR C r
  | .mk _ _ _ _ _, hw => by
    simp only [WFR] at hw ⊢
    exact ⟨by omega, by omega, by omega, fun k hk => Nat.le_trans (hw.2.2.2.1 k hk) h, WFRL.mono h hw.2.2.2.2⟩
theorem WFRL.mono {B C : Nat} (h : B ≤ C) : ∀ {l : List Raw}, WFRL B l → WFRL C l
  | [], _ => by simp only [WFRL]
  | _ :: _, hw => by
    simp only [WFRL] at hw ⊢
    exact ⟨WFR.mono h hw.1, WFRL.mono h hw.2⟩
end
theorem depsS_le {s : List (ByteArray × T)} : T.sizeM (depsS s) ≤ 9 * T.sizeM s + 4 := by
  have h0 := dep0_le (s := s)
  have h1 := lnk_le (k := kLinks) (s := s)
  have h2 := lnk_le (k := kVolumesFrom) (s := s)
  have h3 := nmode_le (s := s)
  have a1 := sizeM_needs (f := impS) (d := dep0 s) (ks := nmode s)
  have a2 := sizeM_needs (f := impS) (d := needs impS (dep0 s) (nmode s)) (ks := lnk kLinks s)
  have a3 := sizeM_needs (f := impS) (d := needs impS (needs impS (dep0 s) (nmode s)) (lnk kLinks s)) (ks := lnk kVolumesFrom s)
  rw [show T.size impS = 3 from rfl] at a1 a2 a3
  unfold depsS
  omega
theorem svcS_le {s : List (ByteArray × T)} : T.sizeM (svcS s) ≤ 10 * T.sizeM s + 7 := by
  have h2 := depsS_le (s := s)
  unfold svcS
  split
  · have h1 := netsOf_le (s := s)
    omega
  · have h1 := netsOf_le (s := mins kDependsOn (.map (depsS s)) s)
    have h3 := sizeM_ins (k := kDependsOn) (x := .map (depsS s)) (m := s)
    have h : T.size (.map (depsS s)) = 1 + T.sizeM (depsS s) := rfl
    omega
theorem onS_svcS {l : List (ByteArray × T)} : T.sizeM (onS svcS l) ≤ 10 * T.sizeM l := onS_le fun s => by
  have := svcS_le (s := s)
  omega
theorem normS2_le {m : List (ByteArray × T)} : T.sizeM (normS2 m) ≤ 13 * T.sizeM m + 4 := by
  have h0 := svcs_le (m := m)
  have h1 := onS_svcS (l := svcs m)
  have h2 := sizeM_ins (k := kServices) (x := .map (onS svcS (svcs m))) (m := m)
  have h3 : T.size (.map (onS svcS (svcs m))) = 1 + T.sizeM (onS svcS (svcs m)) := rfl
  unfold normS2
  split
  · omega
  · have h4 := nets1_le (m := m)
    have h5 := named_le (p := prj m) (l := nets1 m)
    have h6 := sizeM_ins (k := kNetworks) (x := .map (named (prj m) (nets1 m))) (m := mins kServices (.map (onS svcS (svcs m))) m)
    have h7 : T.size (.map (named (prj m) (nets1 m))) = 1 + T.sizeM (named (prj m) (nets1 m)) := rfl
    omega
theorem normS_le {m : List (ByteArray × T)} : T.sizeM (normS m) ≤ 15 * T.sizeM m + 5 := by
  have h1 := normS2_le (m := m)
  unfold normS
  split
  · rename_i vs hg
    have h2 := named_le (p := prj m) (l := vs)
    have h3 := sizeM_get hg
    have h4 := sizeM_ins (k := kVolumes) (x := .map (named (prj m) vs)) (m := normS2 m)
    simp only [T.size] at h3 h4
    omega
  · omega
theorem normS_size {m : List (ByteArray × T)} (h : T.size (.map m) ≤ 1048576) : T.size (.map (normS m)) ≤ 67108864 := by
  have := normS_le (m := m)
  simp only [T.size] at h ⊢
  omega
set_option maxHeartbeats 4000000 in
theorem fnNormalize_any (r : Raw) (n : Nat) (v vp : Value) (w : World) (hr : RdR w r v) (hw : WFR 1048576 r) (hz : Raw.size r ≤ 1048576) (hp : RdP o w n vp) (hn : n ≤ 1048576) :
    Calls Tryz.prog 3 #[v, vp] w fun e w' => e = .returned (.bool true) ∧ Chg [] w w' := by
  obtain ⟨A3, q3, A4, q4, rfl, hyz⟩ := hr.five
  clear hyz
  have hw2 : WFR 67108864 r := WFR.mono (by decide) hw
  have HR := Lib.hid (And.intro hr (And.intro hw (And.intro hz (And.intro hp hw2))))
  clear hr hw hz hp hw2
  go_enter Tryz.func3, Tryz.ntmps3
  go_wp2_with fail
  refine (fits1_any r _ _ (HR.out.1.chg ((Chg.refl [] w).al _)) HR.out.2.2.2.2).mono ?_
  rintro e w1 ⟨b1, rfl, hc1⟩
  have hcw1 : Chg [] w w1 := ((Chg.refl [] w).al _).trans hc1 New.nil
  have z0 : w1.heap[w.heap.size]? = some (.cells #[.int .i64 r.kind, .int .i64 r.num, .string r.txt, .slice A3 r.keys.length q3, .slice A4 r.vals.length q4] 25) := box5 (heap_alloc_new w _) _ hc1
  clear hc1
  cases b1 with
  | false =>
    go_wp2_with fail
    go_ret
    exact ⟨rfl, hcw1⟩
  | true =>
    go_wp2_with fail
    refine (fits3_any n _ w1 (HR.out.2.2.2.1.chg hcw1) (by omega)).mono ?_
    rintro e w2 ⟨b2, rfl, hc2⟩
    have hcw2 := hcw1.trans hc2 New.nil
    have z0 := box5 z0 _ hc2
    cases b2 with
    | false =>
      go_wp2_with fail
      go_ret
      exact ⟨rfl, hcw2⟩
    | true =>
      obtain ⟨a0, a1, a2, a3, a4, af⟩ := cells5 z0
      go_wp2_with fail
      refine (fit_any (B := 1048576) (by omega) 1048576 r _ w2 HR.out.2.2.1 (by omega) HR.out.2.1 (HR.out.1.chg hcw2)).mono ?_
      rintro e w3 ⟨v3, t, rfl, hc3, hr3, hwt, hzt⟩
      obtain ⟨X5, x5, X6, x6, rfl, hyz⟩ := hr3.five
      have hzt : T.size t ≤ 1048576 := Nat.le_trans hzt HR.out.2.2.1
      have hlt2 : w.heap.size < w2.heap.size := (Array.getElem?_eq_some_iff.1 z0).1
      have z0 := box5 z0 _ hc3
      have hcw3 := hcw2.trans hc3 New.nil
      have hs23 := hc3.size
      clear hyz a0 a1 a2 a3 a4 af
      obtain ⟨W3, hW3, Q, hne, hcW3, hsz3⟩ := store5 z0 hcw3 (Nat.le_refl _) (.int .i64 t.kind) (.int .i64 t.num) (.string t.txt) (.slice X5 t.keys.length x5) (.slice X6 t.vals.length x6)
      have hr4 : Rd (fun b => b ≠ w.heap.size) W3 t (.agg #[.int .i64 (t).kind, .int .i64 (t).num, .string (t).txt, .slice X5 (t).keys.length x5, .slice X6 (t).vals.length x6]) := hr3.to fun b hb ho => ⟨by omega, hne b (by omega)⟩
      have hft : Fine t := ⟨hwt.mono (by decide), by omega⟩
      obtain ⟨a0, a1, a2, a3, a4, af⟩ := cells5 z0
      obtain ⟨p0, p1, p2, p3, p4, pf⟩ := cells5 Q
      rw [hW3] at p0 p1 p2 p3 p4 pf
      have HT := Lib.hid (And.intro Q (And.intro hr4 (And.intro hft hcW3)))
      clear Q hr4 hne hcW3 hr3 hc3 hcw1 hcw2 hcw3 z0
      go_wp2_with fail
      rw [← hW3]
      clear hW3 a0 a1 a2 a3 a4 af p0 p1 p2 p3 p4 pf
      refine (normalize_any (o := (fun b => b ≠ w.heap.size)) t _ W3 HT.out.2.1 HT.out.2.2.1 (by omega) (fun b hb => by omega)).mono ?_
      rintro e w4 ⟨v4, b4, rfl, hc4, ⟨c0, c1, c2, c3, c4, c5, c6, c7, c8, rfl⟩, hq⟩
      obtain ⟨W4, hW4⟩ : ∃ W4, W4 = w4.alloc (.cells #[.int .i64 c0, .int .i64 c1, .string c2, .slice c3 c4 c5, .slice c6 c7 c8] 25) := ⟨_, rfl⟩
      have hc44 : Chg [] w4 W4 := hW4 ▸ (Chg.refl [] w4).al _
      have hcW4 : Chg [] w W4 := (HT.out.2.2.2.trans hc4 New.nil).trans hc44 New.nil
      have zC : W4.heap[w4.heap.size]? = some (.cells #[.int .i64 c0, .int .i64 c1, .string c2, .slice c3 c4 c5, .slice c6 c7 c8] 25) := hW4 ▸ heap_alloc_new w4 _
      have zP := box5 HT.out.1 _ (hc4.trans hc44 New.nil)
      have hs4 : W3.heap.size ≤ w4.heap.size ∧ w4.heap.size < W4.heap.size := ⟨hc4.size, by rw [hW4]; simp⟩
      have HQ := Lib.hid hq
      clear hq
      cases b4 with
      | false =>
        go_wp2_with fail
        rw [← hW4]
        clear hW4
        refine (normAwake_any _).mono ?_
        rintro e w5 ⟨rfl, hc5⟩
        go_wp2_with fail
        go_ret
        exact ⟨rfl, hcW4.trans hc5 New.nil⟩
      | true =>
        obtain ⟨m, rfl, hok, hrS⟩ := HQ.out rfl
        have hrS4 := hrS.chg hc44
        have hrM := (HT.out.2.1.chg hc4).chg hc44
        have hfm : Fine (.map m) := HT.out.2.2.1
        have hfn : Fine (.map (normP m)) := by
          refine ⟨normP_wf hok (by decide) (by decide) hwt, ?_⟩
          have h1 := normP_le hok
          simp only [T.size] at hzt ⊢
          omega
        have HM := Lib.hid (And.intro hok (And.intro hrS4 (And.intro hrM (And.intro hfm (And.intro hfn hcW4)))))
        obtain ⟨p0, p1, p2, p3, p4, pf⟩ := cells5 zP
        rw [hW4] at p0 p1 p2 p3 p4 pf
        obtain ⟨CB, hCB⟩ : ∃ CB, CB = w4.heap.size := ⟨_, rfl⟩
        have HZ := Lib.hid (And.intro zP (hCB ▸ zC))
        clear hok hrS hrS4 hrM hfm hfn hcW4 HQ zC zP hc4 hc44
        go_wp2_with fail
        rw [← hW4, ← hCB]
        rw [← hCB] at hs4
        clear hW4 hCB p0 p1 p2 p3 p4 pf
        refine (to_any 67108864 (.map m) _ W4 (by omega) (by omega) HM.out.2.2.1).mono ?_
        rintro e w5 ⟨v5, rfl, hc5, hr5⟩
        go_wp2_with fail
        refine (fitPairs_any n _ w5 (HR.out.2.2.2.1.chg (HM.out.2.2.2.2.2.trans hc5 New.nil)) (by omega)).mono ?_
        rintro e w6 ⟨v6, n', rfl, hn', hc6, hp6⟩
        go_wp2_with fail
        refine (pairsTo_any n' _ w6 hp6 (by omega)).mono ?_
        rintro e w7 ⟨v7, rfl, hc7, hp7⟩
        go_wp2_with fail
        refine (implNorm_any m _ _ n' w7 ((hr5.chg hc6).chg hc7) HM.out.2.2.2.1 HM.out.2.2.2.2.1 hp7 (by omega) HM.out.1).mono ?_
        rintro e w8 ⟨v8, rfl, hc8, hr8⟩
        obtain ⟨D5, d5, D6, d6, rfl, hyz⟩ := hr8.five
        have hc48 : Chg [] W4 w8 := ((hc5.trans hc6 New.nil).trans hc7 New.nil).trans hc8 New.nil
        have hs8 : W4.heap.size ≤ w8.heap.size ∧ W4.heap.size ≤ w7.heap.size := ⟨hc48.size, ((hc5.trans hc6 New.nil).trans hc7 New.nil).size⟩
        have HN8 : Hid (Rd (fun b => b ≠ w.heap.size) w8 (.map (normP m)) (.agg #[.int .i64 (T.map (normP m)).kind, .int .i64 (T.map (normP m)).num, .string (T.map (normP m)).txt, .slice D5 (T.map (normP m)).keys.length d5, .slice D6 (T.map (normP m)).vals.length d6]) ∧ Chg [] W4 w8) := Lib.hid ⟨hr8.weak fun b hb => by omega, hc48⟩
        clear hyz hr5 hp6 hp7 hr8 hc5 hc6 hc7 hc8 hc48
        obtain ⟨lv, hlv, _⟩ := (normP_ok HM.out.1).svc
        obtain ⟨W8, hW8⟩ : ∃ W8, W8 = w8.alloc (.cells #[.int .i64 (T.map (normP m)).kind, .int .i64 (T.map (normP m)).num, .string (T.map (normP m)).txt, .slice D5 (T.map (normP m)).keys.length d5, .slice D6 (T.map (normP m)).vals.length d6] 35) := ⟨_, rfl⟩
        have hc88 : Chg [] w8 W8 := hW8 ▸ (Chg.refl [] w8).al _
        have zI : W8.heap[w8.heap.size]? = some (.cells #[.int .i64 (T.map (normP m)).kind, .int .i64 (T.map (normP m)).num, .string (T.map (normP m)).txt, .slice D5 (T.map (normP m)).keys.length d5, .slice D6 (T.map (normP m)).vals.length d6] 35) := hW8 ▸ heap_alloc_new w8 _
        obtain ⟨IB, hIB⟩ : ∃ IB, IB = w8.heap.size := ⟨_, rfl⟩
        have hc4W : Chg [] W4 W8 := HN8.out.2.trans hc88 New.nil
        have HY := Lib.hid (And.intro (hIB ▸ zI) (And.intro (box5 HZ.out.1 _ hc4W) (box5 HZ.out.2 _ hc4W)))
        have HX : Hid (Chg [] w W8 ∧ Rd (fun b => b ≠ w.heap.size) W8 (.map (normP m)) (.agg #[.int .i64 (T.map (normP m)).kind, .int .i64 (T.map (normP m)).num, .string (T.map (normP m)).txt, .slice D5 (T.map (normP m)).keys.length d5, .slice D6 (T.map (normP m)).vals.length d6]) ∧ Rd (fun b => b ≠ w.heap.size) W8 (.map m) (.agg #[.int .i64 (T.map m).kind, .int .i64 (T.map m).num, .string (T.map m).txt, .slice X5 (T.map m).keys.length x5, .slice X6 (T.map m).vals.length x6]) ∧ Rd (fun b => b ≠ w.heap.size) W8 (.map (normS m)) (.agg #[.int .i64 c0, .int .i64 c1, .string c2, .slice c3 c4 c5, .slice c6 c7 c8])) := Lib.hid ⟨HM.out.2.2.2.2.2.trans hc4W New.nil, HN8.out.1.chg hc88, HM.out.2.2.1.chg hc4W, HM.out.2.1.chg hc4W⟩
        have hsW8 : w8.heap.size < W8.heap.size := by rw [hW8]; simp
        have HNS : Hid (T.size (.map (normS m)) ≤ 67108864) := Lib.hid (normS_size hzt)
        clear hc88 zI hc4W
        go_wp2_with fail
        rw [← hW8, ← hIB]
        clear hW8 hIB
        rename_i K hK
        refine wp_region_allg (by rfl) (by kernel_rfl) [2, 5, 7, 8] [(1, true), (9, true)] (by kernel_rfl)
          (fun j u V => match j with
            | 0 => u = .bool true
            | 1 => u = .bool true
            | 2 => u = .agg #[.int .i64 (T.map (normP m)).kind, .int .i64 (T.map (normP m)).num, .string (T.map (normP m)).txt, .slice D5 (T.map (normP m)).keys.length d5, .slice D6 (T.map (normP m)).vals.length d6]
            | 3 => Rd (fun b => b ≠ w.heap.size) V (.map (normP m)) u
            | 4 => u = .agg #[.int .i64 (T.map m).kind, .int .i64 (T.map m).num, .string (T.map m).txt, .slice X5 (T.map m).keys.length x5, .slice X6 (T.map m).vals.length x6]
            | 5 => Rd (fun b => b ≠ w.heap.size) V (T.map (bareTop m (normP m))) u
            | 6 => u = .agg #[.int .i64 c0, .int .i64 c1, .string c2, .slice c3 c4 c5, .slice c6 c7 c8]
            | 7 => u = .bool true
            | 8 => u = .bool true
            | 9 => u = .bool true
            | 10 => u = .bool true
            | 11 => u = .bool true
            | 12 => u = .bool true
            | _ => True) ?_ ?_ ?_ ?_
        · intro q hq V w' hφ
          simp only [List.mem_cons, List.not_mem_nil, or_false] at hq
          rcases hq with rfl | rfl <;> exact hφ
        · intro j u V V' hc hφ
          rcases j with _ | _ | _ | _ | _ | _ | _ | _ | _ | _ | _ | _ | _ | j
          all_goals first | exact hφ | exact Rd.chg hφ hc
        · intro j oo hj ho a' w' hst hch hdep K2 hK2
          have hsz : W8.heap.size ≤ w'.heap.size := hch.size
          have hcB : Chg [] W8 w' := (Chg.refl [] W8).dr.trans hch New.nil
          obtain ⟨i0, i1, i2, i3, i4, iff⟩ := cells5 (box5 HY.out.1 _ hcB)
          obtain ⟨p0, p1, p2, p3, p4, pf⟩ := cells5 (box5 HY.out.2.1 _ hcB)
          obtain ⟨s0, s1, s2, s3, s4, sf⟩ := cells5 (box5 HY.out.2.2 _ hcB)
          have hj' : j < 13 := hj
          rcases j with _ | _ | _ | _ | _ | _ | _ | _ | _ | _ | _ | _ | _ | j
          · obtain rfl : _ = oo := Option.some.inj ho  -- 0: slot 36
            have h8 := g_eq (t := 8) (v := .bool true) (hst 8 (by simp))
            unfold Oper.wp
            go_simp
            exact ⟨_, rfl, hK2 _ _ (Chg.refl _ _) rfl⟩
          · obtain rfl : _ = oo := Option.some.inj ho  -- 1: slot 37
            have h36 := g_eq (t := 36) (v := .bool true) (hdep 0 (by kernel_rfl))
            unfold Oper.wp
            go_simp
            exact ⟨_, rfl, hK2 _ _ (Chg.refl _ _) rfl⟩
          · obtain rfl : _ = oo := Option.some.inj ho  -- 2: slot 38
            have h7 := g_eq (t := 7) (v := .pointer (some ⟨IB, 0, none⟩)) (hst 7 (by simp))
            unfold Oper.wp
            go_simp
            exact ⟨_, rfl, hK2 _ _ (Chg.refl _ _) rfl⟩
          · obtain rfl : _ = oo := Option.some.inj ho  -- 3: slot 39
            have h38 := g_eq (t := 38) (v := .agg #[.int .i64 (T.map (normP m)).kind, .int .i64 (T.map (normP m)).num, .string (T.map (normP m)).txt, .slice D5 (T.map (normP m)).keys.length d5, .slice D6 (T.map (normP m)).vals.length d6]) (hdep 2 (by kernel_rfl))
            have h38 := g_eq (t := 38) (v := .agg #[.int .i64 (T.map (normP m)).kind, .int .i64 (T.map (normP m)).num, .string (T.map (normP m)).txt, .slice D5 (T.map (normP m)).keys.length d5, .slice D6 (T.map (normP m)).vals.length d6]) (hdep 2 (by kernel_rfl))
            unfold Oper.wp
            go_simp
            refine (from_any 67108864 (.map (normP m)) _ w' HM.out.2.2.2.2.1.size HM.out.2.2.2.2.1.size (HX.out.2.1.chg hcB)).mono ?_
            rintro e w3 ⟨v', rfl, hc3, hr3⟩
            exact ⟨_, rfl, hK2 _ _ hc3 (hr3.weak fun b hb => by omega)⟩
          · obtain rfl : _ = oo := Option.some.inj ho  -- 4: slot 40
            have h2 := g_eq (t := 2) (v := .pointer (some ⟨w.heap.size, 0, none⟩)) (hst 2 (by simp))
            unfold Oper.wp
            go_simp
            exact ⟨_, rfl, hK2 _ _ (Chg.refl _ _) rfl⟩
          · obtain rfl : _ = oo := Option.some.inj ho  -- 5: slot 41
            have h40 := g_eq (t := 40) (v := .agg #[.int .i64 (T.map m).kind, .int .i64 (T.map m).num, .string (T.map m).txt, .slice X5 (T.map m).keys.length x5, .slice X6 (T.map m).vals.length x6]) (hdep 4 (by kernel_rfl))
            have h40 := g_eq (t := 40) (v := .agg #[.int .i64 (T.map m).kind, .int .i64 (T.map m).num, .string (T.map m).txt, .slice X5 (T.map m).keys.length x5, .slice X6 (T.map m).vals.length x6]) (hdep 4 (by kernel_rfl))
            have hr39 : Rd (fun b => b ≠ w.heap.size) w' (.map (normP m)) (Act.g a' 39) := hdep 3 (by kernel_rfl)
            generalize h39 : Act.g a' 39 = vv at hr39
            have h39 := g_eq (t := 39) h39
            unfold Oper.wp
            go_simp
            refine (normBare_any (o := (fun b => b ≠ w.heap.size)) m (normP m) lv vv _ w' hr39 (HX.out.2.2.1.chg hcB) HM.out.2.2.2.2.1 HM.out.2.2.2.1 (fun b hb => by omega) hlv (bare_norm HM.out.1)).mono ?_
            rintro e w3 ⟨v', rfl, hc3, hr3⟩
            exact ⟨_, rfl, hK2 _ _ hc3 hr3⟩
          · obtain rfl : _ = oo := Option.some.inj ho  -- 6: slot 42
            have h5 := g_eq (t := 5) (v := .pointer (some ⟨CB, 0, none⟩)) (hst 5 (by simp))
            unfold Oper.wp
            go_simp
            exact ⟨_, rfl, hK2 _ _ (Chg.refl _ _) rfl⟩
          · obtain rfl : _ = oo := Option.some.inj ho  -- 7: slot 43
            have h42 := g_eq (t := 42) (v := .agg #[.int .i64 c0, .int .i64 c1, .string c2, .slice c3 c4 c5, .slice c6 c7 c8]) (hdep 6 (by kernel_rfl))
            have h42 := g_eq (t := 42) (v := .agg #[.int .i64 c0, .int .i64 c1, .string c2, .slice c3 c4 c5, .slice c6 c7 c8]) (hdep 6 (by kernel_rfl))
            have hr41 : Rd (fun b => b ≠ w.heap.size) w' (T.map (bareTop m (normP m))) (Act.g a' 41) := hdep 5 (by kernel_rfl)
            generalize h41 : Act.g a' 41 = vv at hr41
            have h41 := g_eq (t := 41) h41
            rw [norm_eq HM.out.1] at hr41
            unfold Oper.wp
            go_simp
            refine (same_eq (o := (fun b => b ≠ w.heap.size)) 67108864 (.map (normS m)) _ _ w' HNS.out HNS.out hr41 (HX.out.2.2.2.chg hcB)).mono ?_
            rintro e w3 ⟨rfl, hc3⟩
            exact ⟨_, rfl, hK2 _ _ hc3 rfl⟩
          · obtain rfl : _ = oo := Option.some.inj ho  -- 8: slot 44
            have h37 := g_eq (t := 37) (v := .bool true) (hdep 1 (by kernel_rfl))
            have h37 := g_eq (t := 37) (v := .bool true) (hdep 1 (by kernel_rfl))
            have h43 := g_eq (t := 43) (v := .bool true) (hdep 7 (by kernel_rfl))
            unfold Oper.wp
            go_simp
            exact ⟨_, rfl, hK2 _ _ (Chg.refl _ _) rfl⟩
          · obtain rfl : _ = oo := Option.some.inj ho  -- 9: slot 45
            have h44 := g_eq (t := 44) (v := .bool true) (hdep 8 (by kernel_rfl))
            unfold Oper.wp
            go_simp
            exact ⟨_, rfl, hK2 _ _ (Chg.refl _ _) rfl⟩
          · obtain rfl : _ = oo := Option.some.inj ho  -- 10: slot 46
            unfold Oper.wp
            go_simp
            refine (normAwake_any _).mono ?_
            rintro e w3 ⟨rfl, hc3⟩
            exact ⟨_, rfl, hK2 _ _ hc3 rfl⟩
          · obtain rfl : _ = oo := Option.some.inj ho  -- 11: slot 47
            have h45 := g_eq (t := 45) (v := .bool true) (hdep 9 (by kernel_rfl))
            have h46 := g_eq (t := 46) (v := .bool true) (hdep 10 (by kernel_rfl))
            unfold Oper.wp
            go_simp
            exact ⟨_, rfl, hK2 _ _ (Chg.refl _ _) rfl⟩
          · obtain rfl : _ = oo := Option.some.inj ho  -- 12: slot 4
            have h47 := g_eq (t := 47) (v := .bool true) (hdep 11 (by kernel_rfl))
            unfold Oper.wp
            go_simp
            exact ⟨_, rfl, hK2 _ _ (Chg.refl _ _) rfl⟩
          · omega
        · intro u w' hch hφ A2 hA2
          have hu : u 12 = .bool true := hφ 12 (by decide)
          have hcB : Chg [] W8 w' := (Chg.refl [] W8).dr.trans hch New.nil
          have hcE := HX.out.1.trans hcB New.nil
          simp [putAll, dOf, Act.put, hu] at hA2
          subst hA2
          clear hφ hu hch hcB
          refine hK _ _ ?_
          go_wp2_with fail
          go_ret
          exact ⟨rfl, hcE⟩
end Go.Proofs.YtedbfoknfdiadaaGreatDoor
