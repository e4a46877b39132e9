/- laws.FnNormalizeRoads, of any reading of its arguments. Conditions: sizes. (Begun by wip/gen/mkRoads.py.) -/
import Derived.Test.YtedbfoknfdiadaaGreatDoorLawN
set_option linter.unusedVariables false
set_option linter.unusedSimpArgs false
namespace Go.Proofs.YtedbfoknfdiadaaGreatDoor
open Go.RowKit
variable {o : Nat → Prop}
set_option maxRecDepth 100000
theorem roads_fine {m : List (ByteArray × T)} (h : ModelOK m) (hw : WF 1048576 (.map m)) (hz : T.size (.map m) ≤ 1048576) : Fine (.map (netsP m)) ∧ Fine (T.map (nmUpto (prj (netsP m)) 4 (netsP m))) := by
  have hd := netsP_wf (by decide) hw
  have hl := netsP_le (m := m)
  simp only [T.size] at hz
  have hs0 := netsP_srt h.srt
  have hp : (prj m).size ≤ 1048576 := prj_wf hw
  refine ⟨⟨hd.mono (by decide), by simp only [T.size]; omega⟩, ?_⟩
  show Fine (.map (nmTop (prj (netsP m)) kSecrets (nmTop (prj (netsP m)) kConfigs (nmTop (prj (netsP m)) kVolumes (nmTop (prj (netsP m)) kNetworks (netsP m))))))
  rw [prj_netsP]
  have hc : mget kConfigs (nmTop (prj m) kVolumes (nmTop (prj m) kNetworks (netsP m))) = none := by
    rw [nmTop_ne (by decide), nmTop_ne (by decide), netsP_ne (by decide) (by decide)]
    exact h.cfg
  have hsx : mget kSecrets (nmTop (prj m) kVolumes (nmTop (prj m) kNetworks (netsP m))) = none := by
    rw [nmTop_ne (by decide), nmTop_ne (by decide), netsP_ne (by decide) (by decide)]
    exact h.sec
  rw [nmTop_none hc, nmTop_none hsx]
  have hdC : WF 67108864 (.map (netsP m)) := hd.mono (by decide)
  have k1 : KeysB 1048576 (netsP m) kNetworks := fun tl hg q hq => (WFM_iff.1 (hd.of_get hg).2 q hq).1
  have k2 : KeysB 1048576 (nmTop (prj m) kNetworks (netsP m)) kVolumes := fun tl hg q hq => by
    rw [nmTop_ne (by decide)] at hg
    exact (WFM_iff.1 (hd.of_get hg).2 q hq).1
  have h1 := nmTop_wf (by decide) hp (by decide) (by decide) hdC k1
  have h2 := nmTop_wf (by decide) hp (by decide) (by decide) h1 k2
  refine ⟨h2, ?_⟩
  have l1 := nmTop_le (p := prj m) (k := kNetworks) hs0
  have l2 := nmTop_le (p := prj m) (k := kVolumes) (nmTop_srt (p := prj m) (k := kNetworks) hs0)
  simp only [T.size]
  omega
set_option maxHeartbeats 4000000 in
theorem fnRoads_any (r : Raw) (n : Nat) (v vp : Value) (w : World) (hr : RdR w r v) (hw : WFR 1048576 r) (hz : Raw.size r ≤ 1048576) (hp : RdP o w n vp) (hn : n ≤ 1048576) :
    Calls Tryz.prog 6 #[v, vp] w fun e w' => e = .returned (.bool true) ∧ Chg [] w w' := by
  obtain ⟨A3, q3, A4, q4, rfl, hyz⟩ := hr.five
  clear hyz
  have hw2 : WFR 67108864 r := WFR.mono (by decide) hw
  have HR := Lib.hid (And.intro hr (And.intro hw (And.intro hz (And.intro hp hw2))))
  clear hr hw hz hp hw2
  go_enter Tryz.func6, Tryz.ntmps6
  go_wp2_with fail
  refine (fits1_any r _ _ (HR.out.1.chg ((Chg.refl [] w).al _)) HR.out.2.2.2.2).mono ?_
  rintro e w1 ⟨b1, rfl, hc1⟩
  have hcw1 : Chg [] w w1 := ((Chg.refl [] w).al _).trans hc1 New.nil
  have z0 : w1.heap[w.heap.size]? = some (.cells #[.int .i64 r.kind, .int .i64 r.num, .string r.txt, .slice A3 r.keys.length q3, .slice A4 r.vals.length q4] 25) := box5 (heap_alloc_new w _) _ hc1
  clear hc1
  cases b1 with
  | false =>
    go_wp2_with fail
    go_ret
    exact ⟨rfl, hcw1⟩
  | true =>
    go_wp2_with fail
    refine (fits3_any n _ w1 (HR.out.2.2.2.1.chg hcw1) (by omega)).mono ?_
    rintro e w2 ⟨b2, rfl, hc2⟩
    have hcw2 := hcw1.trans hc2 New.nil
    have z0 := box5 z0 _ hc2
    cases b2 with
    | false =>
      go_wp2_with fail
      go_ret
      exact ⟨rfl, hcw2⟩
    | true =>
      obtain ⟨a0, a1, a2, a3, a4, af⟩ := cells5 z0
      go_wp2_with fail
      refine (fit_any (B := 1048576) (by omega) 1048576 r _ w2 HR.out.2.2.1 (by omega) HR.out.2.1 (HR.out.1.chg hcw2)).mono ?_
      rintro e w3 ⟨v3, t, rfl, hc3, hr3, hwt, hzt⟩
      obtain ⟨X5, x5, X6, x6, rfl, hyz⟩ := hr3.five
      have hzt : T.size t ≤ 1048576 := Nat.le_trans hzt HR.out.2.2.1
      have hlt2 : w.heap.size < w2.heap.size := (Array.getElem?_eq_some_iff.1 z0).1
      have z0 := box5 z0 _ hc3
      have hcw3 := hcw2.trans hc3 New.nil
      have hs23 := hc3.size
      clear hyz a0 a1 a2 a3 a4 af
      obtain ⟨W3, hW3, Q, hne, hcW3, hsz3⟩ := store5 z0 hcw3 (Nat.le_refl _) (.int .i64 t.kind) (.int .i64 t.num) (.string t.txt) (.slice X5 t.keys.length x5) (.slice X6 t.vals.length x6)
      have hr4 : Rd (fun b => b ≠ w.heap.size) W3 t (.agg #[.int .i64 (t).kind, .int .i64 (t).num, .string (t).txt, .slice X5 (t).keys.length x5, .slice X6 (t).vals.length x6]) := hr3.to fun b hb ho => ⟨by omega, hne b (by omega)⟩
      have hft : Fine t := ⟨hwt.mono (by decide), by omega⟩
      obtain ⟨a0, a1, a2, a3, a4, af⟩ := cells5 z0
      obtain ⟨p0, p1, p2, p3, p4, pf⟩ := cells5 Q
      rw [hW3] at p0 p1 p2 p3 p4 pf
      have HT := Lib.hid (And.intro Q (And.intro hr4 (And.intro hft hcW3)))
      clear Q hr4 hne hcW3 hr3 hc3 hcw1 hcw2 hcw3 z0
      go_wp2_with fail
      rw [← hW3]
      clear hW3 a0 a1 a2 a3 a4 af p0 p1 p2 p3 p4 pf
      refine (normalize_any (o := (fun b => b ≠ w.heap.size)) t _ W3 HT.out.2.1 HT.out.2.2.1 (by omega) (fun b hb => by omega)).mono ?_
      rintro e w4 ⟨v4, b4, rfl, hc4, ⟨c0, c1, c2, c3, c4, c5, c6, c7, c8, rfl⟩, hq⟩
      obtain ⟨W4, hW4⟩ : ∃ W4, W4 = w4.alloc (.cells #[.int .i64 c0, .int .i64 c1, .string c2, .slice c3 c4 c5, .slice c6 c7 c8] 25) := ⟨_, rfl⟩
      have hc44 : Chg [] w4 W4 := hW4 ▸ (Chg.refl [] w4).al _
      have hcW4 : Chg [] w W4 := (HT.out.2.2.2.trans hc4 New.nil).trans hc44 New.nil
      have zC : W4.heap[w4.heap.size]? = some (.cells #[.int .i64 c0, .int .i64 c1, .string c2, .slice c3 c4 c5, .slice c6 c7 c8] 25) := hW4 ▸ heap_alloc_new w4 _
      have zP := box5 HT.out.1 _ (hc4.trans hc44 New.nil)
      have hs4 : W3.heap.size ≤ w4.heap.size ∧ w4.heap.size < W4.heap.size := ⟨hc4.size, by rw [hW4]; simp⟩
      have HQ := Lib.hid hq
      clear hq
      cases b4 with
      | false =>
        go_wp2_with fail
        rw [← hW4]
        clear hW4
        refine (normAwake_any _).mono ?_
        rintro e w5 ⟨rfl, hc5⟩
        go_wp2_with fail
        go_ret
        exact ⟨rfl, hcW4.trans hc5 New.nil⟩
      | true =>
        obtain ⟨m, rfl, hok, hrS⟩ := HQ.out rfl
        have hrS4 := hrS.chg hc44
        have hrM := (HT.out.2.1.chg hc4).chg hc44
        have hfm : Fine (.map m) := HT.out.2.2.1
        have hfn : Fine (.map (normP m)) := by
          refine ⟨normP_wf hok (by decide) (by decide) hwt, ?_⟩
          have h1 := normP_le hok
          simp only [T.size] at hzt ⊢
          omega
        have HM := Lib.hid (And.intro hok (And.intro hrS4 (And.intro hrM (And.intro hfm (And.intro hfn hcW4)))))
        obtain ⟨p0, p1, p2, p3, p4, pf⟩ := cells5 zP
        rw [hW4] at p0 p1 p2 p3 p4 pf
        obtain ⟨CB, hCB⟩ : ∃ CB, CB = w4.heap.size := ⟨_, rfl⟩
        have HZ := Lib.hid (And.intro zP (hCB ▸ zC))
        clear hok hrS hrS4 hrM hfm hfn hcW4 HQ zC zP hc4 hc44
        go_wp2_with fail
        rw [← hW4, ← hCB]
        rw [← hCB] at hs4
        clear hW4 hCB p0 p1 p2 p3 p4 pf
        refine (to_any 67108864 (.map m) _ W4 (by omega) (by omega) HM.out.2.2.1).mono ?_
        rintro e w5 ⟨v5, rfl, hc5, hr5⟩
        go_wp2_with fail
        refine (fitPairs_any n _ w5 (HR.out.2.2.2.1.chg (HM.out.2.2.2.2.2.trans hc5 New.nil)) (by omega)).mono ?_
        rintro e w6 ⟨v6, n', rfl, hn', hc6, hp6⟩
        go_wp2_with fail
        refine (pairsTo_any n' _ w6 hp6 (by omega)).mono ?_
        rintro e w7 ⟨v7, rfl, hc7, hp7⟩
        go_wp2_with fail
        refine (implNorm_any m _ _ n' w7 ((hr5.chg hc6).chg hc7) HM.out.2.2.2.1 HM.out.2.2.2.2.1 hp7 (by omega) HM.out.1).mono ?_
        rintro e w8 ⟨v8, rfl, hc8, hr8⟩
        obtain ⟨D5, d5, D6, d6, rfl, hyz⟩ := hr8.five
        have hc48 : Chg [] W4 w8 := ((hc5.trans hc6 New.nil).trans hc7 New.nil).trans hc8 New.nil
        have hs8 : W4.heap.size ≤ w8.heap.size ∧ W4.heap.size ≤ w7.heap.size := ⟨hc48.size, ((hc5.trans hc6 New.nil).trans hc7 New.nil).size⟩
        have HN8 : Hid (Rd (fun b => b ≠ w.heap.size) w8 (.map (normP m)) (.agg #[.int .i64 (T.map (normP m)).kind, .int .i64 (T.map (normP m)).num, .string (T.map (normP m)).txt, .slice D5 (T.map (normP m)).keys.length d5, .slice D6 (T.map (normP m)).vals.length d6]) ∧ Chg [] W4 w8) := Lib.hid ⟨hr8.weak fun b hb => by omega, hc48⟩
        clear hyz hr5 hp6 hp7 hr8 hc5 hc6 hc7 hc8 hc48
        obtain ⟨W8, hW8⟩ : ∃ W8, W8 = w8.alloc (.cells #[.int .i64 (T.map (normP m)).kind, .int .i64 (T.map (normP m)).num, .string (T.map (normP m)).txt, .slice D5 (T.map (normP m)).keys.length d5, .slice D6 (T.map (normP m)).vals.length d6] 35) := ⟨_, rfl⟩
        have hc88 : Chg [] w8 W8 := hW8 ▸ (Chg.refl [] w8).al _
        have zI : W8.heap[w8.heap.size]? = some (.cells #[.int .i64 (T.map (normP m)).kind, .int .i64 (T.map (normP m)).num, .string (T.map (normP m)).txt, .slice D5 (T.map (normP m)).keys.length d5, .slice D6 (T.map (normP m)).vals.length d6] 35) := hW8 ▸ heap_alloc_new w8 _
        have hsW8 : w8.heap.size < W8.heap.size := by rw [hW8]; simp
        have hc4W : Chg [] W4 W8 := HN8.out.2.trans hc88 New.nil
        obtain ⟨p0, p1, p2, p3, p4, pf⟩ := cells5 (box5 HZ.out.1 _ hc4W)
        rw [hW8] at p0 p1 p2 p3 p4 pf
        have hrI := HN8.out.1.chg hc88
        have hcI : Chg [] w W8 := HM.out.2.2.2.2.2.trans hc4W New.nil
        have hrM := HM.out.2.2.1.chg hc4W
        obtain ⟨IB, hIB⟩ : ∃ IB, IB = w8.heap.size := ⟨_, rfl⟩
        rw [← hIB] at zI
        clear hc88 hc4W
        go_wp2_with fail
        rw [← hW8, ← hIB]
        clear hW8 hIB p0 p1 p2 p3 p4 pf
        obtain ⟨hfN, hfU⟩ := roads_fine HM.out.1 hwt hzt
        have HF := Lib.hid (And.intro hfN hfU)
        clear hfN hfU
        refine (to_any 67108864 (.map m) _ W8 HM.out.2.2.2.1.size HM.out.2.2.2.1.size hrM).mono ?_
        rintro e w9 ⟨v9, rfl, hc9, hr9⟩
        go_wp2_with fail
        refine (implNets_any m _ w9 hr9 HM.out.2.2.2.1 HF.out.1 HM.out.1).mono ?_
        rintro e w10 ⟨v10, rfl, hc10, hr10⟩
        go_wp2_with fail
        refine (from_any 67108864 (.map (netsP m)) _ w10 HF.out.1.size HF.out.1.size hr10).mono ?_
        rintro e w11 ⟨v11, rfl, hc11, hr11⟩
        go_wp2_with fail
        refine (to_any 67108864 (.map (netsP m)) _ w11 HF.out.1.size HF.out.1.size hr11).mono ?_
        rintro e w12 ⟨v12, rfl, hc12, hr12⟩
        go_wp2_with fail
        refine (implNamed_any (netsP m) (prj (netsP m)) _ w12 hr12 HF.out.1 HF.out.2 (by rw [prj_netsP]; exact (stage_of HM.out.1 HM.out.2.2.2.1).nameQ)).mono ?_
        rintro e w13 ⟨v13, rfl, hc13, hr13⟩
        go_wp2_with fail
        refine (from_any 67108864 (T.map (nmUpto (prj (netsP m)) 4 (netsP m))) _ w13 HF.out.2.size HF.out.2.size hr13).mono ?_
        rintro e w14 ⟨v14, rfl, hc14, hr14⟩
        obtain ⟨E5, e5, E6, e6, rfl, hyz⟩ := hr14.five
        clear hyz
        obtain ⟨W14, hW14⟩ : ∃ W14, W14 = w14.alloc (.cells #[.int .i64 (T.map (nmUpto (prj (netsP m)) 4 (netsP m))).kind, .int .i64 (T.map (nmUpto (prj (netsP m)) 4 (netsP m))).num, .string (T.map (nmUpto (prj (netsP m)) 4 (netsP m))).txt, .slice E5 (T.map (nmUpto (prj (netsP m)) 4 (netsP m))).keys.length e5, .slice E6 (T.map (nmUpto (prj (netsP m)) 4 (netsP m))).vals.length e6] 25) := ⟨_, rfl⟩
        have hc145 : Chg [] w14 W14 := hW14 ▸ (Chg.refl [] w14).al _
        have zQ : W14.heap[w14.heap.size]? = some (.cells #[.int .i64 (T.map (nmUpto (prj (netsP m)) 4 (netsP m))).kind, .int .i64 (T.map (nmUpto (prj (netsP m)) 4 (netsP m))).num, .string (T.map (nmUpto (prj (netsP m)) 4 (netsP m))).txt, .slice E5 (T.map (nmUpto (prj (netsP m)) 4 (netsP m))).keys.length e5, .slice E6 (T.map (nmUpto (prj (netsP m)) 4 (netsP m))).vals.length e6] 25) := hW14 ▸ heap_alloc_new w14 _
        obtain ⟨QB, hQB⟩ : ∃ QB, QB = w14.heap.size := ⟨_, rfl⟩
        have hc8W : Chg [] W8 W14 := ((((((hc9.trans hc10 New.nil).trans hc11 New.nil).trans hc12 New.nil).trans hc13 New.nil).trans hc14 New.nil)).trans hc145 New.nil
        have hs13 : W8.heap.size ≤ w13.heap.size := ((((hc9.trans hc10 New.nil).trans hc11 New.nil).trans hc12 New.nil).trans hc13 New.nil).size
        have hs14 : W8.heap.size ≤ W14.heap.size := hc8W.size
        have HY := Lib.hid (And.intro (box5 zI _ hc8W) (hQB ▸ zQ))
        have HX : Hid (Chg [] w W14 ∧ Rd (fun b => b ≠ w.heap.size) W14 (.map (normP m)) (.agg #[.int .i64 (T.map (normP m)).kind, .int .i64 (T.map (normP m)).num, .string (T.map (normP m)).txt, .slice D5 (T.map (normP m)).keys.length d5, .slice D6 (T.map (normP m)).vals.length d6]) ∧ Rd (fun b => b ≠ w.heap.size) W14 (T.map (nmUpto (prj (netsP m)) 4 (netsP m))) (.agg #[.int .i64 (T.map (nmUpto (prj (netsP m)) 4 (netsP m))).kind, .int .i64 (T.map (nmUpto (prj (netsP m)) 4 (netsP m))).num, .string (T.map (nmUpto (prj (netsP m)) 4 (netsP m))).txt, .slice E5 (T.map (nmUpto (prj (netsP m)) 4 (netsP m))).keys.length e5, .slice E6 (T.map (nmUpto (prj (netsP m)) 4 (netsP m))).vals.length e6])) := Lib.hid ⟨hcI.trans hc8W New.nil, hrI.chg hc8W, (hr14.weak fun b hb => by omega).chg hc145⟩
        clear hc145 zQ hc8W zI hrI hcI hrM hr9 hr10 hr11 hr12 hr13 hr14 hc9 hc10 hc11 hc12 hc13 hc14
        go_wp2_with fail
        rw [← hW14, ← hQB]
        clear hW14 hQB
        go_loopg [10] 2 (fun g i wr => ∃ n : Nat, n ≤ 2 ∧ g = 2 - n ∧ i = .int .i64 n ∧ Chg [] W14 wr)
        case atStart => exact ⟨0, by omega, rfl, rfl, Chg.refl _ _⟩
        case round =>
          obtain ⟨n, hn, rfl, rfl, hcr⟩ := hrel
          obtain rfl | rfl | rfl : n = 0 ∨ n = 1 ∨ n = 2 := by omega
          · have hnr := norm_roads HM.out.1 kNetworks (.inl rfl)
            have hltb : decide (((0 : Nat) : Int) < 2) = true := by decide
            obtain ⟨W15, hW15⟩ : ∃ W15, W15 = wr.alloc (.cells #[.string ⟨#[110, 101, 116, 119, 111, 114, 107, 115]⟩, .string ⟨#[118, 111, 108, 117, 109, 101, 115]⟩] 9) := ⟨_, rfl⟩
            have hcr5 : Chg [] W14 W15 := hcr.trans (hW15 ▸ (Chg.refl [] wr).al _) New.nil
            have hs5 := hcr5.size
            obtain ⟨i0, i1, i2, i3, i4, iff⟩ := cells5 (box5 HY.out.1 _ hcr5)
            rw [hW15] at i0 i1 i2 i3 i4 iff
            go_wp2_with fail
            rw [← hW15]
            clear hW15 i0 i1 i2 i3 i4 iff
            refine (from_any 67108864 (.map (normP m)) _ W15 HM.out.2.2.2.2.1.size HM.out.2.2.2.2.1.size (HX.out.2.1.chg hcr5)).mono ?_
            rintro e w16 ⟨v16, rfl, hc16, hr16⟩
            go_wp2_with fail
            refine (get_any (.map (normP m)) _ kNetworks w16 hr16 HM.out.2.2.2.2.1.wf.srt HM.out.2.2.2.2.1.len.2.2).mono ?_
            rintro e w17 ⟨v17, rfl, hc17, hr17⟩
            obtain ⟨x, hx⟩ : ∃ x, (tget kNetworks (.map (normP m))).getD .null = x := ⟨_, rfl⟩
            obtain ⟨bx, hbx⟩ : ∃ b, (tget kNetworks (.map (normP m))).isSome = b := ⟨_, rfl⟩
            have hfx : Fine x := hx ▸ HM.out.2.2.2.2.1.getD kNetworks
            rw [hx] at hr17
            rw [hbx]
            obtain ⟨G5, g5, G6, g6, rfl, hyz⟩ := hr17.five
            clear hyz
            obtain ⟨W17, hW17⟩ : ∃ W17, W17 = w17.alloc (.cells #[.int .i64 (x).kind, .int .i64 (x).num, .string (x).txt, .slice G5 (x).keys.length g5, .slice G6 (x).vals.length g6] 25) := ⟨_, rfl⟩
            have hc177 : Chg [] w17 W17 := hW17 ▸ (Chg.refl [] w17).al _
            have zX : W17.heap[w17.heap.size]? = some (.cells #[.int .i64 (x).kind, .int .i64 (x).num, .string (x).txt, .slice G5 (x).keys.length g5, .slice G6 (x).vals.length g6] 25) := hW17 ▸ heap_alloc_new w17 _
            obtain ⟨XB, hXB⟩ : ∃ XB, XB = w17.heap.size := ⟨_, rfl⟩
            rw [← hXB] at zX
            have hcr7 : Chg [] W14 W17 := ((hcr5.trans hc16 New.nil).trans hc17 New.nil).trans hc177 New.nil
            have hr17 := hr17.chg hc177
            obtain ⟨q0, q1, q2, q3c, q4c, qf⟩ := cells5 (box5 HY.out.2 _ hcr7)
            rw [hW17] at q0 q1 q2 q3c q4c qf
            have HX7 := Lib.hid (And.intro zX (And.intro hr17 hcr7))
            have e1 : tget kNetworks (T.map (nmUpto (prj (netsP m)) 4 (netsP m))) = tget kNetworks (.map (normP m)) := hnr
            have HE := Lib.hid (And.intro e1 (And.intro hx hbx))
            clear zX hr17 hcr7 hcr5 hc177 hc16 hc17 hr16 e1 hx hbx hnr
            go_wp2_with fail
            rw [← hW17, ← hXB]
            clear hW17 hXB q0 q1 q2 q3c q4c qf
            refine (get_any (T.map (nmUpto (prj (netsP m)) 4 (netsP m))) _ kNetworks W17 (HX.out.2.2.chg HX7.out.2.2) HF.out.2.wf.srt HF.out.2.len.2.2).mono ?_
            rintro e w18 ⟨v18, rfl, hc18, hr18⟩
            rw [HE.out.1, HE.out.2.1] at hr18
            rw [HE.out.1, HE.out.2.2]
            obtain ⟨J5, j5, J6, j6, rfl, hyz⟩ := hr18.five
            clear hyz
            obtain ⟨W18, hW18⟩ : ∃ W18, W18 = w18.alloc (.cells #[.int .i64 (x).kind, .int .i64 (x).num, .string (x).txt, .slice J5 (x).keys.length j5, .slice J6 (x).vals.length j6] 25) := ⟨_, rfl⟩
            have hc188 : Chg [] w18 W18 := hW18 ▸ (Chg.refl [] w18).al _
            have zY : W18.heap[w18.heap.size]? = some (.cells #[.int .i64 (x).kind, .int .i64 (x).num, .string (x).txt, .slice J5 (x).keys.length j5, .slice J6 (x).vals.length j6] 25) := hW18 ▸ heap_alloc_new w18 _
            have hc78 : Chg [] W17 W18 := hc18.trans hc188 New.nil
            obtain ⟨i0, i1, i2, i3, i4, iff⟩ := cells5 (box5 HX7.out.1 _ hc78)
            obtain ⟨q0, q1, q2, q3c, q4c, qf⟩ := cells5 zY
            rw [hW18] at i0 i1 i2 i3 i4 iff q0 q1 q2 q3c q4c qf
            have hneb : (bx != bx) = false := by simp
            have HY8 := Lib.hid (And.intro hc78 (hr18.chg hc188))
            clear hc18 hr18 hc188 zY hc78
            go_wp2_with fail
            rw [← hW18]
            clear hW18 i0 i1 i2 i3 i4 iff q0 q1 q2 q3c q4c qf
            refine (same_eq (o := fun _ => True) 67108864 x _ _ W18 hfx.size hfx.size ((HX7.out.2.1.chg HY8.out.1).weak fun _ _ => trivial) (HY8.out.2.weak fun _ _ => trivial)).mono ?_
            rintro e w19 ⟨rfl, hc19⟩
            have hcE := (HX7.out.2.2.trans HY8.out.1 New.nil).trans hc19 New.nil
            go_wp2_with fail
            go_roundg (2 - (0 + 1))
            case measure => omega
            case rel => exact ⟨0 + 1, by omega, rfl, by go_num, hcE⟩
          · have hnr := norm_roads HM.out.1 kVolumes (.inr rfl)
            have hltb : decide (((1 : Nat) : Int) < 2) = true := by decide
            obtain ⟨W15, hW15⟩ : ∃ W15, W15 = wr.alloc (.cells #[.string ⟨#[110, 101, 116, 119, 111, 114, 107, 115]⟩, .string ⟨#[118, 111, 108, 117, 109, 101, 115]⟩] 9) := ⟨_, rfl⟩
            have hcr5 : Chg [] W14 W15 := hcr.trans (hW15 ▸ (Chg.refl [] wr).al _) New.nil
            have hs5 := hcr5.size
            obtain ⟨i0, i1, i2, i3, i4, iff⟩ := cells5 (box5 HY.out.1 _ hcr5)
            rw [hW15] at i0 i1 i2 i3 i4 iff
            go_wp2_with fail
            rw [← hW15]
            clear hW15 i0 i1 i2 i3 i4 iff
            refine (from_any 67108864 (.map (normP m)) _ W15 HM.out.2.2.2.2.1.size HM.out.2.2.2.2.1.size (HX.out.2.1.chg hcr5)).mono ?_
            rintro e w16 ⟨v16, rfl, hc16, hr16⟩
            go_wp2_with fail
            refine (get_any (.map (normP m)) _ kVolumes w16 hr16 HM.out.2.2.2.2.1.wf.srt HM.out.2.2.2.2.1.len.2.2).mono ?_
            rintro e w17 ⟨v17, rfl, hc17, hr17⟩
            obtain ⟨x, hx⟩ : ∃ x, (tget kVolumes (.map (normP m))).getD .null = x := ⟨_, rfl⟩
            obtain ⟨bx, hbx⟩ : ∃ b, (tget kVolumes (.map (normP m))).isSome = b := ⟨_, rfl⟩
            have hfx : Fine x := hx ▸ HM.out.2.2.2.2.1.getD kVolumes
            rw [hx] at hr17
            rw [hbx]
            obtain ⟨G5, g5, G6, g6, rfl, hyz⟩ := hr17.five
            clear hyz
            obtain ⟨W17, hW17⟩ : ∃ W17, W17 = w17.alloc (.cells #[.int .i64 (x).kind, .int .i64 (x).num, .string (x).txt, .slice G5 (x).keys.length g5, .slice G6 (x).vals.length g6] 25) := ⟨_, rfl⟩
            have hc177 : Chg [] w17 W17 := hW17 ▸ (Chg.refl [] w17).al _
            have zX : W17.heap[w17.heap.size]? = some (.cells #[.int .i64 (x).kind, .int .i64 (x).num, .string (x).txt, .slice G5 (x).keys.length g5, .slice G6 (x).vals.length g6] 25) := hW17 ▸ heap_alloc_new w17 _
            obtain ⟨XB, hXB⟩ : ∃ XB, XB = w17.heap.size := ⟨_, rfl⟩
            rw [← hXB] at zX
            have hcr7 : Chg [] W14 W17 := ((hcr5.trans hc16 New.nil).trans hc17 New.nil).trans hc177 New.nil
            have hr17 := hr17.chg hc177
            obtain ⟨q0, q1, q2, q3c, q4c, qf⟩ := cells5 (box5 HY.out.2 _ hcr7)
            rw [hW17] at q0 q1 q2 q3c q4c qf
            have HX7 := Lib.hid (And.intro zX (And.intro hr17 hcr7))
            have e1 : tget kVolumes (T.map (nmUpto (prj (netsP m)) 4 (netsP m))) = tget kVolumes (.map (normP m)) := hnr
            have HE := Lib.hid (And.intro e1 (And.intro hx hbx))
            clear zX hr17 hcr7 hcr5 hc177 hc16 hc17 hr16 e1 hx hbx hnr
            go_wp2_with fail
            rw [← hW17, ← hXB]
            clear hW17 hXB q0 q1 q2 q3c q4c qf
            refine (get_any (T.map (nmUpto (prj (netsP m)) 4 (netsP m))) _ kVolumes W17 (HX.out.2.2.chg HX7.out.2.2) HF.out.2.wf.srt HF.out.2.len.2.2).mono ?_
            rintro e w18 ⟨v18, rfl, hc18, hr18⟩
            rw [HE.out.1, HE.out.2.1] at hr18
            rw [HE.out.1, HE.out.2.2]
            obtain ⟨J5, j5, J6, j6, rfl, hyz⟩ := hr18.five
            clear hyz
            obtain ⟨W18, hW18⟩ : ∃ W18, W18 = w18.alloc (.cells #[.int .i64 (x).kind, .int .i64 (x).num, .string (x).txt, .slice J5 (x).keys.length j5, .slice J6 (x).vals.length j6] 25) := ⟨_, rfl⟩
            have hc188 : Chg [] w18 W18 := hW18 ▸ (Chg.refl [] w18).al _
            have zY : W18.heap[w18.heap.size]? = some (.cells #[.int .i64 (x).kind, .int .i64 (x).num, .string (x).txt, .slice J5 (x).keys.length j5, .slice J6 (x).vals.length j6] 25) := hW18 ▸ heap_alloc_new w18 _
            have hc78 : Chg [] W17 W18 := hc18.trans hc188 New.nil
            obtain ⟨i0, i1, i2, i3, i4, iff⟩ := cells5 (box5 HX7.out.1 _ hc78)
            obtain ⟨q0, q1, q2, q3c, q4c, qf⟩ := cells5 zY
            rw [hW18] at i0 i1 i2 i3 i4 iff q0 q1 q2 q3c q4c qf
            have hneb : (bx != bx) = false := by simp
            have HY8 := Lib.hid (And.intro hc78 (hr18.chg hc188))
            clear hc18 hr18 hc188 zY hc78
            go_wp2_with fail
            rw [← hW18]
            clear hW18 i0 i1 i2 i3 i4 iff q0 q1 q2 q3c q4c qf
            refine (same_eq (o := fun _ => True) 67108864 x _ _ W18 hfx.size hfx.size ((HX7.out.2.1.chg HY8.out.1).weak fun _ _ => trivial) (HY8.out.2.weak fun _ _ => trivial)).mono ?_
            rintro e w19 ⟨rfl, hc19⟩
            have hcE := (HX7.out.2.2.trans HY8.out.1 New.nil).trans hc19 New.nil
            go_wp2_with fail
            go_roundg (2 - (1 + 1))
            case measure => omega
            case rel => exact ⟨1 + 1, by omega, rfl, by go_num, hcE⟩
          · have hltb : decide (((2 : Nat) : Int) < 2) = false := by decide
            have hcE := HX.out.1.trans hcr New.nil
            go_wp2_with fail
            refine (normAwake_any _).mono ?_
            rintro e w5 ⟨rfl, hc5⟩
            go_wp2_with fail
            go_ret
            exact ⟨rfl, hcE.trans hc5 New.nil⟩
end Go.Proofs.YtedbfoknfdiadaaGreatDoor
