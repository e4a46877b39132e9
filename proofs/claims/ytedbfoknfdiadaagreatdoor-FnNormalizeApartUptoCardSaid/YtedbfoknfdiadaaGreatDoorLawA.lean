/- laws.FnNormalizeApart, of any reading of its arguments. Conditions: sizes. (Printed by wip/gen/mkApart.py.) -/
import Derived.Test.YtedbfoknfdiadaaGreatDoorLawN
import Derived.Test.YtedbfoknfdiadaaGreatDoorPut
namespace Go.Proofs.YtedbfoknfdiadaaGreatDoor
open Go.RowKit
variable {o : Nat → Prop}
set_option maxRecDepth 100000
theorem get_at {α : Type} {m : List (ByteArray × α)} (hs : Srt m) {k : ByteArray} {x : α} {n : Nat} (h : m[n]? = some (k, x)) : mget k m = some x := by
  cases hg : mget k m with
  | none => exact absurd (List.mem_map.2 ⟨_, List.mem_of_getElem? h, rfl⟩) (get_none.1 hg)
  | some y =>
    have h1 := List.mem_of_getElem? h
    have h2 := get_some hg
    obtain ⟨i, hi, e1⟩ := List.mem_iff_getElem.1 h1
    obtain ⟨j, hj, e2⟩ := List.mem_iff_getElem.1 h2
    have hij : i = j := by
      have hn := hs.nodup
      have h3 := List.pairwise_iff_getElem.1 hn
      rcases Nat.lt_trichotomy i j with h | h | h
      · exact absurd (show (m.map (·.1))[i]'(by simpa using hi) = (m.map (·.1))[j]'(by simpa using hj) by rw [List.getElem_map, List.getElem_map, e1, e2]) (h3 i j (by simpa using hi) (by simpa using hj) h)
      · exact h
      · exact absurd (show (m.map (·.1))[j]'(by simpa using hj) = (m.map (·.1))[i]'(by simpa using hi) by rw [List.getElem_map, List.getElem_map, e1, e2]) (h3 j i (by simpa using hj) (by simpa using hi) h)
    subst hij
    rw [e1] at e2
    injection e2 with _ e2
    rw [e2]
theorem sizeM_mem {p : ByteArray × T} : ∀ {m : List (ByteArray × T)}, p ∈ m → T.size p.2 ≤ T.sizeM m
  | [], h => by cases h
  | q :: m, h => by
    simp only [T.sizeM]
    rcases List.mem_cons.1 h with rfl | h
    · omega
    · have := sizeM_mem h
      omega
theorem oneSvc_fine {m : List (ByteArray × T)} (h : ModelOK m) (hw : WF 1048576 (.map m)) (hz : T.size (.map m) ≤ 1048576) {lv : List (ByteArray × T)} (hl : mget kServices m = some (.map lv)) {n : Nat} {k : ByteArray} {t : T} (hq : lv[n]? = some (k, t)) :
    WF 1048576 (.map (oneSvc k t m)) ∧ T.size (.map (oneSvc k t m)) ≤ 1048576 := by
  have hlw := hw.of_get hl
  have hq2 := WFM_iff.1 hlw.2 _ (List.mem_of_getElem? hq)
  have hk8 : kServices.size = 8 := rfl
  refine ⟨hw.ins (by omega) (by exact ⟨by simp [Srt], hq2.1, hq2.2, trivial⟩), ?_⟩
  have h1 := sizeM_put (x := .map [(k, t)]) h.srt hl
  have h2 : T.size t ≤ T.sizeM lv := sizeM_mem (List.mem_of_getElem? hq)
  simp only [T.size, T.sizeM, oneSvc] at h1 hz ⊢
  omega
set_option maxHeartbeats 4000000 in
theorem fnApart_any (r : Raw) (n : Nat) (v vp : Value) (w : World) (hr : RdR w r v) (hw : WFR 1048576 r) (hz : Raw.size r ≤ 1048576) (hp : RdP o w n vp) (hn : n ≤ 1048576) :
    Calls Tryz.prog 4 #[v, vp] w fun e w' => e = .returned (.bool true) ∧ Chg [] w w' := by
  obtain ⟨A3, q3, A4, q4, rfl, hyz⟩ := hr.five
  clear hyz
  have hw2 : WFR 67108864 r := WFR.mono (by decide) hw
  have HR := Lib.hid (And.intro hr (And.intro hw (And.intro hz (And.intro hp hw2))))
  clear hr hw hz hp hw2
  go_enter Tryz.func4, Tryz.ntmps4
  go_wp2_with fail
  refine (fits1_any r _ _ (HR.out.1.chg ((Chg.refl [] w).al _)) HR.out.2.2.2.2).mono ?_
  rintro e w1 ⟨b1, rfl, hc1⟩
  have hcw1 : Chg [] w w1 := ((Chg.refl [] w).al _).trans hc1 New.nil
  have z0 : w1.heap[w.heap.size]? = some (.cells #[.int .i64 r.kind, .int .i64 r.num, .string r.txt, .slice A3 r.keys.length q3, .slice A4 r.vals.length q4] 25) := box5 (heap_alloc_new w _) _ hc1
  clear hc1
  cases b1 with
  | false =>
    go_wp2_with fail
    go_ret
    exact ⟨rfl, hcw1⟩
  | true =>
    go_wp2_with fail
    refine (fits3_any n _ w1 (HR.out.2.2.2.1.chg hcw1) (by omega)).mono ?_
    rintro e w2 ⟨b2, rfl, hc2⟩
    have hcw2 := hcw1.trans hc2 New.nil
    have z0 := box5 z0 _ hc2
    cases b2 with
    | false =>
      go_wp2_with fail
      go_ret
      exact ⟨rfl, hcw2⟩
    | true =>
      obtain ⟨a0, a1, a2, a3, a4, af⟩ := cells5 z0
      go_wp2_with fail
      refine (fit_any (B := 1048576) (by omega) 1048576 r _ w2 HR.out.2.2.1 (by omega) HR.out.2.1 (HR.out.1.chg hcw2)).mono ?_
      rintro e w3 ⟨v3, t, rfl, hc3, hr3, hwt, hzt⟩
      obtain ⟨X5, x5, X6, x6, rfl, hyz⟩ := hr3.five
      have hzt : T.size t ≤ 1048576 := Nat.le_trans hzt HR.out.2.2.1
      have hlt2 : w.heap.size < w2.heap.size := (Array.getElem?_eq_some_iff.1 z0).1
      have z0 := box5 z0 _ hc3
      have hcw3 := hcw2.trans hc3 New.nil
      have hs23 := hc3.size
      clear hyz a0 a1 a2 a3 a4 af
      obtain ⟨W3, hW3, Q, hne, hcW3, hsz3⟩ := store5 z0 hcw3 (Nat.le_refl _) (.int .i64 t.kind) (.int .i64 t.num) (.string t.txt) (.slice X5 t.keys.length x5) (.slice X6 t.vals.length x6)
      have hr4 : Rd (fun b => b ≠ w.heap.size) W3 t (.agg #[.int .i64 (t).kind, .int .i64 (t).num, .string (t).txt, .slice X5 (t).keys.length x5, .slice X6 (t).vals.length x6]) := hr3.to fun b hb ho => ⟨by omega, hne b (by omega)⟩
      have hft : Fine t := ⟨hwt.mono (by decide), by omega⟩
      obtain ⟨a0, a1, a2, a3, a4, af⟩ := cells5 z0
      obtain ⟨p0, p1, p2, p3, p4, pf⟩ := cells5 Q
      rw [hW3] at p0 p1 p2 p3 p4 pf
      have HT := Lib.hid (And.intro Q (And.intro hr4 (And.intro hft hcW3)))
      clear Q hr4 hne hcW3 hr3 hc3 hcw1 hcw2 hcw3 z0
      go_wp2_with fail
      rw [← hW3]
      clear hW3 a0 a1 a2 a3 a4 af p0 p1 p2 p3 p4 pf
      refine (normalize_any (o := (fun b => b ≠ w.heap.size)) t _ W3 HT.out.2.1 HT.out.2.2.1 (by omega) (fun b hb => by omega)).mono ?_
      rintro e w4 ⟨v4, b4, rfl, hc4, ⟨c0, c1, c2, c3, c4, c5, c6, c7, c8, rfl⟩, hq⟩
      obtain ⟨W4, hW4⟩ : ∃ W4, W4 = w4.alloc (.cells #[.int .i64 c0, .int .i64 c1, .string c2, .slice c3 c4 c5, .slice c6 c7 c8] 25) := ⟨_, rfl⟩
      have hc44 : Chg [] w4 W4 := hW4 ▸ (Chg.refl [] w4).al _
      have hcW4 : Chg [] w W4 := (HT.out.2.2.2.trans hc4 New.nil).trans hc44 New.nil
      have zC : W4.heap[w4.heap.size]? = some (.cells #[.int .i64 c0, .int .i64 c1, .string c2, .slice c3 c4 c5, .slice c6 c7 c8] 25) := hW4 ▸ heap_alloc_new w4 _
      have zP := box5 HT.out.1 _ (hc4.trans hc44 New.nil)
      have hs4 : W3.heap.size ≤ w4.heap.size ∧ w4.heap.size < W4.heap.size := ⟨hc4.size, by rw [hW4]; simp⟩
      have HQ := Lib.hid hq
      clear hq
      cases b4 with
      | false =>
        go_wp2_with fail
        rw [← hW4]
        clear hW4
        refine (normAwake_any _).mono ?_
        rintro e w5 ⟨rfl, hc5⟩
        go_wp2_with fail
        go_ret
        exact ⟨rfl, hcW4.trans hc5 New.nil⟩
      | true =>
        obtain ⟨m, rfl, hok, hrS⟩ := HQ.out rfl
        have hrS4 := hrS.chg hc44
        have hrM := (HT.out.2.1.chg hc4).chg hc44
        have hfm : Fine (.map m) := HT.out.2.2.1
        have hfn : Fine (.map (normP m)) := by
          refine ⟨normP_wf hok (by decide) (by decide) hwt, ?_⟩
          have h1 := normP_le hok
          simp only [T.size] at hzt ⊢
          omega
        have HM := Lib.hid (And.intro hok (And.intro hrS4 (And.intro hrM (And.intro hfm (And.intro hfn hcW4)))))
        obtain ⟨p0, p1, p2, p3, p4, pf⟩ := cells5 zP
        rw [hW4] at p0 p1 p2 p3 p4 pf
        obtain ⟨CB, hCB⟩ : ∃ CB, CB = w4.heap.size := ⟨_, rfl⟩
        have HZ := Lib.hid (And.intro zP (hCB ▸ zC))
        clear hok hrS hrS4 hrM hfm hfn hcW4 HQ zC zP hc4 hc44
        go_wp2_with fail
        rw [← hW4, ← hCB]
        rw [← hCB] at hs4
        clear hW4 hCB p0 p1 p2 p3 p4 pf
        refine (to_any 67108864 (.map m) _ W4 (by omega) (by omega) HM.out.2.2.1).mono ?_
        rintro e w5 ⟨v5, rfl, hc5, hr5⟩
        go_wp2_with fail
        refine (fitPairs_any n _ w5 (HR.out.2.2.2.1.chg (HM.out.2.2.2.2.2.trans hc5 New.nil)) (by omega)).mono ?_
        rintro e w6 ⟨v6, n', rfl, hn', hc6, hp6⟩
        go_wp2_with fail
        refine (pairsTo_any n' _ w6 hp6 (by omega)).mono ?_
        rintro e w7 ⟨v7, rfl, hc7, hp7⟩
        go_wp2_with fail
        refine (implNorm_any m _ _ n' w7 ((hr5.chg hc6).chg hc7) HM.out.2.2.2.1 HM.out.2.2.2.2.1 hp7 (by omega) HM.out.1).mono ?_
        rintro e w8 ⟨v8, rfl, hc8, hr8⟩
        obtain ⟨D5, d5, D6, d6, rfl, hyz⟩ := hr8.five
        have hc48 : Chg [] W4 w8 := ((hc5.trans hc6 New.nil).trans hc7 New.nil).trans hc8 New.nil
        have hs8 : W4.heap.size ≤ w8.heap.size ∧ W4.heap.size ≤ w7.heap.size := ⟨hc48.size, ((hc5.trans hc6 New.nil).trans hc7 New.nil).size⟩
        have HN8 : Hid (Rd (fun b => b ≠ w.heap.size) w8 (.map (normP m)) (.agg #[.int .i64 (T.map (normP m)).kind, .int .i64 (T.map (normP m)).num, .string (T.map (normP m)).txt, .slice D5 (T.map (normP m)).keys.length d5, .slice D6 (T.map (normP m)).vals.length d6]) ∧ Chg [] W4 w8) := Lib.hid ⟨hr8.weak fun b hb => by omega, hc48⟩
        clear hyz hr5 hp6 hp7 hr8 hc5 hc6 hc7 hc8 hc48
        obtain ⟨lv, hlv, hsl, hokl⟩ := HM.out.1.svc
        obtain ⟨lp, hlp, hsp, hokp⟩ := (normP_ok HM.out.1).svc
        have HL := Lib.hid (And.intro hlv (And.intro hsl (And.intro hlp hsp)))
        have hfl : Fine (.map lv) := HM.out.2.2.2.1.get (t := .map m) hlv
        have hfp : Fine (.map lp) := HM.out.2.2.2.2.1.get (t := .map (normP m)) hlp
        have HFL := Lib.hid (And.intro hfl hfp)
        clear hlv hsl hokl hlp hsp hokp hfl hfp
        obtain ⟨W8, hW8⟩ : ∃ W8, W8 = w8.alloc (.cells #[.int .i64 (T.map (normP m)).kind, .int .i64 (T.map (normP m)).num, .string (T.map (normP m)).txt, .slice D5 (T.map (normP m)).keys.length d5, .slice D6 (T.map (normP m)).vals.length d6] 35) := ⟨_, rfl⟩
        have hc88 : Chg [] w8 W8 := hW8 ▸ (Chg.refl [] w8).al _
        have zI : W8.heap[w8.heap.size]? = some (.cells #[.int .i64 (T.map (normP m)).kind, .int .i64 (T.map (normP m)).num, .string (T.map (normP m)).txt, .slice D5 (T.map (normP m)).keys.length d5, .slice D6 (T.map (normP m)).vals.length d6] 35) := hW8 ▸ heap_alloc_new w8 _
        have hsW8 : w8.heap.size < W8.heap.size := by rw [hW8]; simp
        have hc4W : Chg [] W4 W8 := HN8.out.2.trans hc88 New.nil
        obtain ⟨i0, i1, i2, i3, i4, iff⟩ := cells5 zI
        rw [hW8] at i0 i1 i2 i3 i4 iff
        have zP8 := box5 HZ.out.1 _ hc4W
        have hrI := HN8.out.1.chg hc88
        have hcI : Chg [] w W8 := HM.out.2.2.2.2.2.trans hc4W New.nil
        have hrM := HM.out.2.2.1.chg hc4W
        have HI8 := Lib.hid (And.intro zP8 (And.intro hcI hrM))
        clear hc88 hc4W zI zP8 hcI hrM
        go_wp2_with fail
        rw [← hW8]
        clear hW8 i0 i1 i2 i3 i4 iff
        refine (from_any 67108864 (.map (normP m)) _ W8 HM.out.2.2.2.2.1.size HM.out.2.2.2.2.1.size hrI).mono ?_
        rintro e w9 ⟨v9, rfl, hc9, hr9⟩
        go_wp2_with fail
        refine (get_any (.map (normP m)) _ kServices w9 hr9 HM.out.2.2.2.2.1.wf.srt HM.out.2.2.2.2.1.len.2.2).mono ?_
        rintro e w10 ⟨v10, rfl, hc10, hr10⟩
        have hg10 : tget kServices (.map (normP m)) = some (.map lp) := HL.out.2.2.1
        rw [hg10] at hr10 ⊢
        simp only [Option.getD_some, Option.isSome_some] at hr10 ⊢
        clear hg10
        obtain ⟨D3, d3, D4, d4, rfl, hyz⟩ := hr10.five
        clear hyz
        obtain ⟨W10, hW10⟩ : ∃ W10, W10 = w10.alloc (.cells #[.int .i64 (T.map lp).kind, .int .i64 (T.map lp).num, .string (T.map lp).txt, .slice D3 (T.map lp).keys.length d3, .slice D4 (T.map lp).vals.length d4] 25) := ⟨_, rfl⟩
        have hcx : Chg [] w10 W10 := hW10 ▸ (Chg.refl [] w10).al _
        have hc8x : Chg [] W8 W10 := (hc9.trans hc10 New.nil).trans hcx New.nil
        have zA : W10.heap[w10.heap.size]? = some (.cells #[.int .i64 (T.map lp).kind, .int .i64 (T.map lp).num, .string (T.map lp).txt, .slice D3 (T.map lp).keys.length d3, .slice D4 (T.map lp).vals.length d4] 25) := hW10 ▸ heap_alloc_new w10 _
        obtain ⟨AB, hAB⟩ : ∃ AB, AB = w10.heap.size := ⟨_, rfl⟩
        rw [← hAB] at zA
        have hrA : Rd (fun b => b ≠ w.heap.size) W10 (.map lp) (.agg #[.int .i64 (T.map lp).kind, .int .i64 (T.map lp).num, .string (T.map lp).txt, .slice D3 (T.map lp).keys.length d3, .slice D4 (T.map lp).vals.length d4]) := (hr10.weak fun b hb => by have := HI8.out.2.1.size; omega).chg hcx
        have HA := Lib.hid (And.intro zA (And.intro hrA hc8x))
        obtain ⟨p0, p1, p2, p3, p4, pf⟩ := cells5 (box5 HI8.out.1 _ hc8x)
        rw [hW10] at p0 p1 p2 p3 p4 pf
        have hrM10 := HI8.out.2.2.chg hc8x
        clear zA hrA hc8x hcx hc9 hc10 hr9 hr10 hrI
        go_wp2_with fail
        rw [← hW10, ← hAB]
        clear hW10 hAB p0 p1 p2 p3 p4 pf
        refine (get_any (.map m) _ kServices W10 hrM10 HM.out.2.2.2.1.wf.srt HM.out.2.2.2.1.len.2.2).mono ?_
        rintro e w11 ⟨v11, rfl, hc11, hr11⟩
        have hg11 : tget kServices (.map m) = some (.map lv) := HL.out.1
        rw [hg11] at hr11 ⊢
        simp only [Option.getD_some, Option.isSome_some] at hr11 ⊢
        clear hg11 hrM10
        obtain ⟨L3, l3, L4, l4, rfl, hyz⟩ := hr11.five
        clear hyz
        obtain ⟨WL, hWL⟩ : ∃ WL, WL = w11.alloc (.cells #[.int .i64 (T.map lv).kind, .int .i64 (T.map lv).num, .string (T.map lv).txt, .slice L3 (T.map lv).keys.length l3, .slice L4 (T.map lv).vals.length l4] 25) := ⟨_, rfl⟩
        have hcx : Chg [] w11 WL := hWL ▸ (Chg.refl [] w11).al _
        have hc8x : Chg [] W8 WL := (HA.out.2.2.trans hc11 New.nil).trans hcx New.nil
        have zL : WL.heap[w11.heap.size]? = some (.cells #[.int .i64 (T.map lv).kind, .int .i64 (T.map lv).num, .string (T.map lv).txt, .slice L3 (T.map lv).keys.length l3, .slice L4 (T.map lv).vals.length l4] 25) := hWL ▸ heap_alloc_new w11 _
        obtain ⟨LB, hLB⟩ : ∃ LB, LB = w11.heap.size := ⟨_, rfl⟩
        rw [← hLB] at zL
        have hcAL := hc11.trans hcx New.nil
        have HB := Lib.hid (And.intro zL (And.intro (hr11.chg hcx) (And.intro (box5 HA.out.1 _ hcAL) (And.intro (HA.out.2.1.chg hcAL) (And.intro (box5 HI8.out.1 _ hc8x) (And.intro (HI8.out.2.2.chg hc8x) (HI8.out.2.1.trans hc8x New.nil)))))))
        clear zL hcx hc8x hcAL hc11 hr11 HA HI8
        have hmlen : m.length ≤ 67108864 := by have := HM.out.2.2.2.1.len.1; simpa [T.vals] using this
        go_wp2_with fail
        rw [← hWL, ← hLB]
        clear hWL hLB
        have hll : lv.length ≤ 67108864 := by have := HFL.out.1.len.1; simpa [T.vals] using this
        go_loopg [13] lv.length (fun g i wr => ∃ k : Nat, k ≤ lv.length ∧ g = lv.length - k ∧ i = .int .i64 k ∧ Chg [] WL wr)
        case atStart => exact ⟨0, Nat.zero_le _, by omega, rfl, Chg.refl _ _⟩
        case round => as_aux_lemma =>
          obtain ⟨k, hk, rfl, rfl, hcr⟩ := hrel
          obtain ⟨l0, l1, l2, l3c, l4c, lf⟩ := cells5 (box5 HB.out.1 _ hcr)
          have hkl : (T.map lv).keys.length = lv.length := by simp [T.keys]
          have hvl : (T.map lv).vals.length = lv.length := by simp [T.vals]
          obtain ⟨hkR, hvR⟩ := (HB.out.2.1.chg hcr).kv
          have hcW : Chg [] w wr := HB.out.2.2.2.2.2.2.trans hcr New.nil
          have HCR := Lib.hid (And.intro hcr hcW)
          clear hcr hcW
          by_cases hlt : k < lv.length
          · obtain ⟨q, hq⟩ : ∃ q, lv[k]? = some q := ⟨_, List.getElem?_eq_getElem hlt⟩
            obtain ⟨ky, t⟩ := q
            obtain ⟨gk, ck, ek, hgk, yk⟩ := hkR.elem (n := k) (s := ky) (by simp [T.keys, hq])
            obtain ⟨ge, ce, X7, x7, X8, x8, ee, hge, rx, ye⟩ := hvR.lo_elem (n := k) (x := t) (by simp [T.vals, hq])
            cases ek
            cases ee
            have hlk : k < (T.map lv).keys.length := by omega
            have hlv2 : k < (T.map lv).vals.length := by omega
            have hsvm : svcs m = lv := svcs_of HL.out.1
            have hgt : mget ky (svcs m) = some t := by rw [hsvm]; exact get_at HL.out.2.1 hq
            obtain ⟨ONE, hONE⟩ : ∃ x, x = oneSvc ky t m := ⟨_, rfl⟩
            have hok1 : ModelOK ONE := hONE ▸ oneSvc_ok HM.out.1 hgt
            have hft : Fine t := HFL.out.1.vals (List.mem_of_getElem? (l := (T.map lv).vals) (i := k) (by simp [T.vals, hq]))
            have hf1 : WF 1048576 (.map ONE) ∧ T.size (.map ONE) ≤ 1048576 := hONE ▸ oneSvc_fine HM.out.1 hwt hzt HL.out.1 hq
            have hF1 : Fine (.map ONE) := ⟨hf1.1.mono (by decide), by omega⟩
            have hF1n : Fine (.map (normP ONE)) := by
              refine ⟨normP_wf hok1 (by decide) (by decide) hf1.1, ?_⟩
              have h1 := normP_le hok1
              have h2 := hf1.2
              simp only [T.size] at h2 ⊢
              omega
            obtain ⟨la, hla, hsla, _⟩ := (normP_ok hok1).svc
            obtain ⟨hap1, hap2⟩ := norm_apart hgt
            rw [← hONE, svcs_of hla] at hap1
            rw [svcs_of HL.out.2.2.1] at hap2
            have HO := Lib.hid (And.intro hok1 (And.intro hF1 (And.intro hF1n (And.intro hla (And.intro hap1 (And.intro hap2 hft))))))
            have HYK := Lib.hid yk
            have HYE := Lib.hid (And.intro ye rx)
            have HONE := Lib.hid hONE
            have hfa : Fine (.map la) := hF1n.get (t := .map (normP ONE)) hla
            clear hq hsvm hgt hok1 hf1 hF1 hF1n hla hap1 hap2 hft yk ye rx hkR hvR hkl hvl hONE hsla
            go_wp2_with fail
            rename_i K hK
            have HK := Lib.hid hK
            clear hK
            refine wp_region_put3 (by rfl) (by kernel_rfl) [0, 1, 2, 11, 13] 25 24 (by kernel_rfl) (by kernel_rfl) (.cells #[.int .i64 0, .int .i64 0, .string ⟨#[]⟩, .slice none 0 0, .slice none 0 0] 35)
              (fun j u b V => match j with
                | 0 => u = .agg #[.int .i64 (T.map m).kind, .int .i64 (T.map m).num, .string (T.map m).txt, .slice X5 (T.map m).keys.length x5, .slice X6 (T.map m).vals.length x6]
                | 1 => u = .pointer (some ⟨LB, 3, none⟩)
                | 2 => u = .slice (some ⟨gk, 0, none⟩) (T.map lv).keys.length l3
                | 3 => u = .int .i64 ↑k
                | 4 => u = .pointer (some ⟨gk, k, none⟩)
                | 5 => u = .string ky
                | 6 => u = .iface 9 (.string ky)
                | 7 => u = .pointer (some ⟨LB, 4, none⟩)
                | 8 => u = .slice (some ⟨ge, 0, none⟩) (T.map lv).vals.length l4
                | 9 => u = .int .i64 ↑k
                | 10 => u = .pointer (some ⟨ge, k * 5, none⟩)
                | 11 => u = .agg #[.int .i64 (t).kind, .int .i64 (t).num, .string (t).txt, .slice X7 (t).keys.length x7, .slice X8 (t).vals.length x8]
                | 12 => u = .iface 25 (.agg #[.int .i64 (t).kind, .int .i64 (t).num, .string (t).txt, .slice X7 (t).keys.length x7, .slice X8 (t).vals.length x8])
                | 13 => AnyRow (fun _ => True) V [(ky, t)] u
                | 14 => Rd (fun _ => True) V (.map [(ky, t)]) u
                | 15 => Rd (fun _ => True) V (T.map ONE) u
                | 16 => Rd (fun _ => True) V (T.map ONE) u
                | 17 => u = vp
                | 18 => ∃ (o' : Nat → Prop) (n' : Nat), n' ≤ 1048576 ∧ RdP o' V n' u
                | 19 => ∃ (o' : Nat → Prop) (n' : Nat), n' ≤ 1048576 ∧ RdP o' V n' u
                | 20 => ∃ v, u = .tuple #[v, .bool true] ∧ Rd (Av (fun _ => True) b) V (T.map (normP ONE)) v
                | 21 => ∃ v, u = .tuple #[v, .bool true] ∧ Rd (Av (fun _ => True) b) V (T.map (normP ONE)) v
                | 22 => Rd (Av (fun _ => True) b) V (T.map (normP ONE)) u
                | 23 => u = .bool true
                | 26 => u = .bool true
                | _ => True) ?_ ?_
              (fun B V => ∃ E5 e5 E6 e6, V.heap[B]? = some (.cells #[.int .i64 (T.map (normP ONE)).kind, .int .i64 (T.map (normP ONE)).num, .string (T.map (normP ONE)).txt, .slice E5 (T.map (normP ONE)).keys.length e5, .slice E6 (T.map (normP ONE)).vals.length e6] 35) ∧ Rd (Av (fun _ => True) (some B)) V (T.map (normP ONE)) (.agg #[.int .i64 (T.map (normP ONE)).kind, .int .i64 (T.map (normP ONE)).num, .string (T.map (normP ONE)).txt, .slice E5 (T.map (normP ONE)).keys.length e5, .slice E6 (T.map (normP ONE)).vals.length e6])) ?_ (fun j => [21, 23, 26].contains j) ?_ ?_ ?_ ?_
            · intro j u b V V' hc hφ
              rcases j with _ | _ | _ | _ | _ | _ | _ | _ | _ | _ | _ | _ | _ | _ | _ | _ | _ | _ | _ | _ | _ | _ | _ | _ | _ | _ | _ | j
              · exact hφ
              · exact hφ
              · exact hφ
              · exact hφ
              · exact hφ
              · exact hφ
              · exact hφ
              · exact hφ
              · exact hφ
              · exact hφ
              · exact hφ
              · exact hφ
              · exact hφ
              · exact AnyRow.chg hφ hc
              · exact Rd.chg hφ hc
              · exact Rd.chg hφ hc
              · exact Rd.chg hφ hc
              · exact hφ
              · obtain ⟨o', n', h1, h2⟩ := hφ
                exact ⟨o', n', h1, h2.chg hc⟩
              · obtain ⟨o', n', h1, h2⟩ := hφ
                exact ⟨o', n', h1, h2.chg hc⟩
              · obtain ⟨v, e, h⟩ := hφ
                exact ⟨v, e, h.chg hc⟩
              · obtain ⟨v, e, h⟩ := hφ
                exact ⟨v, e, h.chg hc⟩
              · exact Rd.chg hφ hc
              · exact hφ
              · exact hφ
              · exact hφ
              · exact hφ
              · exact hφ
            · intro j u V hφ
              rcases j with _ | _ | _ | _ | _ | _ | _ | _ | _ | _ | _ | _ | _ | _ | _ | _ | _ | _ | _ | _ | _ | _ | _ | _ | _ | _ | _ | j
              · exact hφ
              · exact hφ
              · exact hφ
              · exact hφ
              · exact hφ
              · exact hφ
              · exact hφ
              · exact hφ
              · exact hφ
              · exact hφ
              · exact hφ
              · exact hφ
              · exact hφ
              · exact AnyRow.chg hφ ((Chg.refl [] _).al _)
              · exact Rd.chg hφ ((Chg.refl [] _).al _)
              · exact Rd.chg hφ ((Chg.refl [] _).al _)
              · exact Rd.chg hφ ((Chg.refl [] _).al _)
              · exact hφ
              · obtain ⟨o', n', h1, h2⟩ := hφ
                exact ⟨o', n', h1, h2.chg ((Chg.refl [] _).al _)⟩
              · obtain ⟨o', n', h1, h2⟩ := hφ
                exact ⟨o', n', h1, h2.chg ((Chg.refl [] _).al _)⟩
              · obtain ⟨v, e, h⟩ := hφ
                exact ⟨v, e, h.av_born⟩
              · obtain ⟨v, e, h⟩ := hφ
                exact ⟨v, e, h.av_born⟩
              · exact Rd.av_born hφ
              · exact hφ
              · exact hφ
              · exact hφ
              · exact hφ
              · exact hφ
            · rintro B V V' hc ⟨E5, e5, E6, e6, h, hr⟩
              exact ⟨E5, e5, E6, e6, box5 h _ hc, hr.chg hc⟩
            · intro oo ho a' w' hst K2 hK2
              obtain rfl : _ = oo := Option.some.inj ho
              unfold Oper.wp
              go_simp
              exact ⟨_, rfl, hK2⟩
            · intro j oo hj hip hijb ho a' w' b hb hst hch hdep K2 hK2
              have hcr' : Chg [] wr w' := (Chg.refl [] wr).dr.trans hch New.nil
              obtain ⟨l0, l1, l2, l3c, l4c, lf⟩ := cells5 (box5 HB.out.1 _ (HCR.out.1.trans hcr' New.nil))
              obtain ⟨p0, p1, p2, p3, p4, pf⟩ := cells5 (box5 HB.out.2.2.2.2.1 _ (HCR.out.1.trans hcr' New.nil))
              have yk := HYK.out _ hcr'
              obtain ⟨y0, y1, y2, y3, y4⟩ := HYE.out.1 _ hcr'
              have hj' : j < 27 := hj
              rcases j with _ | _ | _ | _ | _ | _ | _ | _ | _ | _ | _ | _ | _ | _ | _ | _ | _ | _ | _ | _ | _ | _ | _ | _ | _ | _ | _ | j
              · obtain rfl : _ = oo := Option.some.inj ho  -- 0: slot 71
                have h2 := g_eq (t := 2) (v := .pointer (some ⟨w.heap.size, 0, none⟩)) (hst 2 (by simp))
                unfold Oper.wp
                go_simp
                exact ⟨_, rfl, hK2 _ _ (Chg.refl _ _) rfl⟩
              · obtain rfl : _ = oo := Option.some.inj ho  -- 1: slot 72
                have h11 := g_eq (t := 11) (v := .pointer (some ⟨LB, 0, none⟩)) (hst 11 (by simp))
                unfold Oper.wp
                go_simp
                exact ⟨_, rfl, hK2 _ _ (Chg.refl _ _) rfl⟩
              · obtain rfl : _ = oo := Option.some.inj ho  -- 2: slot 73
                have h72 := g_eq (t := 72) (v := .pointer (some ⟨LB, 3, none⟩)) (hdep 1 (by decide) (by decide) (by kernel_rfl) (.inl (by kernel_rfl)))
                unfold Oper.wp
                go_simp
                exact ⟨_, rfl, hK2 _ _ (Chg.refl _ _) rfl⟩
              · obtain rfl : _ = oo := Option.some.inj ho  -- 3: slot 74
                have h13 := g_eq (t := 13) (v := .int .i64 ↑k) (hst 13 (by simp))
                unfold Oper.wp
                go_simp
                exact ⟨_, rfl, hK2 _ _ (Chg.refl _ _) rfl⟩
              · obtain rfl : _ = oo := Option.some.inj ho  -- 4: slot 75
                have h73 := g_eq (t := 73) (v := .slice (some ⟨gk, 0, none⟩) (T.map lv).keys.length l3) (hdep 2 (by decide) (by decide) (by kernel_rfl) (.inl (by kernel_rfl)))
                have h74 := g_eq (t := 74) (v := .int .i64 ↑k) (hdep 3 (by decide) (by decide) (by kernel_rfl) (.inl (by kernel_rfl)))
                unfold Oper.wp
                go_simp
                exact ⟨_, rfl, hK2 _ _ (Chg.refl _ _) rfl⟩
              · obtain rfl : _ = oo := Option.some.inj ho  -- 5: slot 76
                have h75 := g_eq (t := 75) (v := .pointer (some ⟨gk, k, none⟩)) (hdep 4 (by decide) (by decide) (by kernel_rfl) (.inl (by kernel_rfl)))
                unfold Oper.wp
                go_simp
                exact ⟨_, rfl, hK2 _ _ (Chg.refl _ _) rfl⟩
              · obtain rfl : _ = oo := Option.some.inj ho  -- 6: slot 77
                have h76 := g_eq (t := 76) (v := .string ky) (hdep 5 (by decide) (by decide) (by kernel_rfl) (.inl (by kernel_rfl)))
                unfold Oper.wp
                go_simp
                exact ⟨_, rfl, hK2 _ _ (Chg.refl _ _) rfl⟩
              · obtain rfl : _ = oo := Option.some.inj ho  -- 7: slot 78
                have h11 := g_eq (t := 11) (v := .pointer (some ⟨LB, 0, none⟩)) (hst 11 (by simp))
                unfold Oper.wp
                go_simp
                exact ⟨_, rfl, hK2 _ _ (Chg.refl _ _) rfl⟩
              · obtain rfl : _ = oo := Option.some.inj ho  -- 8: slot 79
                have h78 := g_eq (t := 78) (v := .pointer (some ⟨LB, 4, none⟩)) (hdep 7 (by decide) (by decide) (by kernel_rfl) (.inl (by kernel_rfl)))
                unfold Oper.wp
                go_simp
                exact ⟨_, rfl, hK2 _ _ (Chg.refl _ _) rfl⟩
              · obtain rfl : _ = oo := Option.some.inj ho  -- 9: slot 80
                have h13 := g_eq (t := 13) (v := .int .i64 ↑k) (hst 13 (by simp))
                unfold Oper.wp
                go_simp
                exact ⟨_, rfl, hK2 _ _ (Chg.refl _ _) rfl⟩
              · obtain rfl : _ = oo := Option.some.inj ho  -- 10: slot 81
                have h79 := g_eq (t := 79) (v := .slice (some ⟨ge, 0, none⟩) (T.map lv).vals.length l4) (hdep 8 (by decide) (by decide) (by kernel_rfl) (.inl (by kernel_rfl)))
                have h80 := g_eq (t := 80) (v := .int .i64 ↑k) (hdep 9 (by decide) (by decide) (by kernel_rfl) (.inl (by kernel_rfl)))
                unfold Oper.wp
                go_simp
                exact ⟨_, rfl, hK2 _ _ (Chg.refl _ _) rfl⟩
              · obtain rfl : _ = oo := Option.some.inj ho  -- 11: slot 82
                have h81 := g_eq (t := 81) (v := .pointer (some ⟨ge, k * 5, none⟩)) (hdep 10 (by decide) (by decide) (by kernel_rfl) (.inl (by kernel_rfl)))
                unfold Oper.wp
                go_simp
                exact ⟨_, rfl, hK2 _ _ (Chg.refl _ _) rfl⟩
              · obtain rfl : _ = oo := Option.some.inj ho  -- 12: slot 83
                have h82 := g_eq (t := 82) (v := .agg #[.int .i64 (t).kind, .int .i64 (t).num, .string (t).txt, .slice X7 (t).keys.length x7, .slice X8 (t).vals.length x8]) (hdep 11 (by decide) (by decide) (by kernel_rfl) (.inl (by kernel_rfl)))
                unfold Oper.wp
                go_simp
                exact ⟨_, rfl, hK2 _ _ (Chg.refl _ _) rfl⟩
              · obtain rfl : _ = oo := Option.some.inj ho  -- 13: slot 84
                have h77 := g_eq (t := 77) (v := .iface 9 (.string ky)) (hdep 6 (by decide) (by decide) (by kernel_rfl) (.inl (by kernel_rfl)))
                have h83 := g_eq (t := 83) (v := .iface 25 (.agg #[.int .i64 (t).kind, .int .i64 (t).num, .string (t).txt, .slice X7 (t).keys.length x7, .slice X8 (t).vals.length x8])) (hdep 12 (by decide) (by decide) (by kernel_rfl) (.inl (by kernel_rfl)))
                unfold Oper.wp
                go_simp
                exact ⟨_, rfl, hK2 _ _ ((Chg.refl [] w').al _) (AnyRow.one w' ((HYE.out.2.chg hcr').weak fun _ _ => trivial))⟩
              · obtain rfl : _ = oo := Option.some.inj ho  -- 14: slot 85
                have hr84 : AnyRow (fun _ => True) w' [(ky, t)] (Act.g a' 84) := hdep 13 (by decide) (by decide) (by kernel_rfl) (.inl (by kernel_rfl))
                generalize hg84 : Act.g a' 84 = v84 at hr84
                have h84 := g_eq (t := 84) hg84
                obtain ⟨g, C, e84, hg, hrow⟩ := hr84
                subst e84
                unfold Oper.wp
                go_simp
                refine (specM [(ky, t)] g C w' hg hrow (by simp) (fun _ _ => trivial)).mono ?_
                rintro e w3 ⟨v', rfl, hc3, hr3⟩
                exact ⟨_, rfl, hK2 _ _ hc3 hr3⟩
              · obtain rfl : _ = oo := Option.some.inj ho  -- 15: slot 86
                have h71 := g_eq (t := 71) (v := .agg #[.int .i64 (T.map m).kind, .int .i64 (T.map m).num, .string (T.map m).txt, .slice X5 (T.map m).keys.length x5, .slice X6 (T.map m).vals.length x6]) (hdep 0 (by decide) (by decide) (by kernel_rfl) (.inl (by kernel_rfl)))
                have hr85 : Rd (fun _ => True) w' (.map [(ky, t)]) (Act.g a' 85) := hdep 14 (by decide) (by decide) (by kernel_rfl) (.inl (by kernel_rfl))
                generalize hg85 : Act.g a' 85 = v85 at hr85
                have h85 := g_eq (t := 85) hg85
                have h71 := g_eq (t := 71) (v := .agg #[.int .i64 (T.map m).kind, .int .i64 (T.map m).num, .string (T.map m).txt, .slice X5 (T.map m).keys.length x5, .slice X6 (T.map m).vals.length x6]) (hdep 0 (by decide) (by decide) (by kernel_rfl) (.inl (by kernel_rfl)))
                unfold Oper.wp
                go_simp
                refine (with_map m (.map [(ky, t)]) _ _ kServices w' ((HB.out.2.2.2.2.2.1.chg (HCR.out.1.trans hcr' New.nil)).weak fun _ _ => trivial) HM.out.1.srt hr85 hmlen (fun _ _ => trivial)).mono ?_
                rintro e w3 ⟨v', rfl, hc3, hr3⟩
                exact ⟨_, rfl, hK2 _ _ hc3 (HONE.out ▸ hr3)⟩
              · obtain rfl : _ = oo := Option.some.inj ho  -- 16: slot 87
                have hr86 : Rd (fun _ => True) w' (T.map ONE) (Act.g a' 86) := hdep 15 (by decide) (by decide) (by kernel_rfl) (.inl (by kernel_rfl))
                generalize hg86 : Act.g a' 86 = v86 at hr86
                have h86 := g_eq (t := 86) hg86
                unfold Oper.wp
                go_simp
                refine (to_any 67108864 (T.map ONE) _ w' HO.out.2.1.size HO.out.2.1.size hr86).mono ?_
                rintro e w3 ⟨v', rfl, hc3, hr3⟩
                exact ⟨_, rfl, hK2 _ _ hc3 (hr3.weak fun _ _ => trivial)⟩
              · obtain rfl : _ = oo := Option.some.inj ho  -- 17: slot 88
                have h1 := g_eq (t := 1) (v := vp) (hst 1 (by simp))
                unfold Oper.wp
                go_simp
                exact ⟨_, rfl, hK2 _ _ (Chg.refl _ _) rfl⟩
              · obtain rfl : _ = oo := Option.some.inj ho  -- 18: slot 89
                have h88 := g_eq (t := 88) (v := vp) (hdep 17 (by decide) (by decide) (by kernel_rfl) (.inl (by kernel_rfl)))
                unfold Oper.wp
                go_simp
                refine (fitPairs_any n _ w' (HR.out.2.2.2.1.chg (HCR.out.2.trans hcr' New.nil)) (by omega)).mono ?_
                rintro e w3 ⟨v', n', rfl, hn', hc3, hp3⟩
                exact ⟨_, rfl, hK2 _ _ hc3 ⟨_, n', by omega, hp3⟩⟩
              · obtain rfl : _ = oo := Option.some.inj ho  -- 19: slot 90
                have hr89 : ∃ (o' : Nat → Prop) (n' : Nat), n' ≤ 1048576 ∧ RdP o' w' n' (Act.g a' 89) := hdep 18 (by decide) (by decide) (by kernel_rfl) (.inl (by kernel_rfl))
                generalize hg89 : Act.g a' 89 = v89 at hr89
                have h89 := g_eq (t := 89) hg89
                obtain ⟨o', n', hn', hp'⟩ := hr89
                unfold Oper.wp
                go_simp
                refine (pairsTo_any n' _ w' hp' (by omega)).mono ?_
                rintro e w3 ⟨v', rfl, hc3, hp3⟩
                exact ⟨_, rfl, hK2 _ _ hc3 ⟨_, n', by omega, hp3⟩⟩
              · obtain rfl : _ = oo := Option.some.inj ho  -- 20: slot 91
                have hr87 : Rd (fun _ => True) w' (T.map ONE) (Act.g a' 87) := hdep 16 (by decide) (by decide) (by kernel_rfl) (.inl (by kernel_rfl))
                generalize hg87 : Act.g a' 87 = v87 at hr87
                have h87 := g_eq (t := 87) hg87
                have hr90 : ∃ (o' : Nat → Prop) (n' : Nat), n' ≤ 1048576 ∧ RdP o' w' n' (Act.g a' 90) := hdep 19 (by decide) (by decide) (by kernel_rfl) (.inl (by kernel_rfl))
                generalize hg90 : Act.g a' 90 = v90 at hr90
                have h90 := g_eq (t := 90) hg90
                obtain ⟨o', n', hn', hp'⟩ := hr90
                unfold Oper.wp
                go_simp
                refine (implNorm_any ONE _ _ n' w' hr87 HO.out.2.1 HO.out.2.2.1 hp' (by omega) HO.out.1).mono ?_
                rintro e w3 ⟨v', rfl, hc3, hr3⟩
                exact ⟨_, rfl, hK2 _ _ hc3 ⟨_, rfl, Rd.av_new hb (fun _ _ => trivial) (hr3.weak fun x hx => (⟨hx, trivial⟩ : _ ∧ True))⟩⟩
              · obtain rfl : _ = oo := Option.some.inj ho  -- 21: slot 70
                obtain ⟨v91, hg91, hr91⟩ : ∃ v, Act.g a' 91 = .tuple #[v, .bool true] ∧ Rd (Av (fun _ => True) b) w' (T.map (normP ONE)) v := hdep 20 (by decide) (by decide) (by kernel_rfl) (.inl (by kernel_rfl))
                have h91 := g_eq (t := 91) hg91
                unfold Oper.wp
                go_simp
                exact ⟨_, rfl, hK2 _ _ (Chg.refl _ _) ⟨_, rfl, hr91⟩⟩
              · obtain rfl : _ = oo := Option.some.inj ho  -- 22: slot 92
                obtain ⟨v70, hg70, hr70⟩ : ∃ v, Act.g a' 70 = .tuple #[v, .bool true] ∧ Rd (Av (fun _ => True) b) w' (T.map (normP ONE)) v := hdep 21 (by decide) (by decide) (by kernel_rfl) (.inl (by kernel_rfl))
                have h70 := g_eq (t := 70) hg70
                unfold Oper.wp
                go_simp
                exact ⟨_, rfl, hK2 _ _ (Chg.refl _ _) hr70⟩
              · obtain rfl : _ = oo := Option.some.inj ho  -- 23: slot 93
                obtain ⟨v70, hg70, hr70⟩ : ∃ v, Act.g a' 70 = .tuple #[v, .bool true] ∧ Rd (Av (fun _ => True) b) w' (T.map (normP ONE)) v := hdep 21 (by decide) (by decide) (by kernel_rfl) (.inr (by decide))
                have h70 := g_eq (t := 70) hg70
                unfold Oper.wp
                go_simp
                exact ⟨_, rfl, hK2 _ _ (Chg.refl _ _) rfl⟩
              · exact absurd rfl hijb
              · exact absurd rfl hip
              · obtain rfl : _ = oo := Option.some.inj ho  -- 26: slot 15
                have h93 := g_eq (t := 93) (v := .bool true) (hdep 23 (by decide) (by decide) (by kernel_rfl) (.inr (by decide)))
                unfold Oper.wp
                go_simp
                exact ⟨_, rfl, hK2 _ _ (Chg.refl _ _) rfl⟩
              · omega
            · intro oo ho a' w' B hgB hB hbox hst hch hdep K2 hK2
              obtain rfl : _ = oo := Option.some.inj ho
              have hrS : Rd (Av (fun _ => True) (some B)) w' (T.map (normP ONE)) (Act.g a' 92) := hdep 22 (by decide) (by kernel_rfl)
              generalize hgS : Act.g a' 92 = vv at hrS
              obtain ⟨E5, e5, E6, e6, rfl, _⟩ := hrS.five
              have hsv := g_eq (t := 92) hgS
              have hgB' : Act.g a' 14 = .pointer (some ⟨B, 0, none⟩) := hgB
              have hsb := g_eq (t := 14) hgB'
              obtain ⟨b0, b1, b2, b3, b4, bf⟩ := cells5 hbox
              obtain ⟨W, hW, Q, hne, hcW, hszW⟩ := store5 hbox hch (by show wr.heap.size ≤ B; exact hB) (.int .i64 (T.map (normP ONE)).kind) (.int .i64 (T.map (normP ONE)).num) (.string (T.map (normP ONE)).txt) (.slice E5 (T.map (normP ONE)).keys.length e5) (.slice E6 (T.map (normP ONE)).vals.length e6)
              unfold Oper.wp
              go_simp
              rw [← hW]
              refine hK2 W hcW (by omega) ⟨E5, e5, E6, e6, Q, hrS.mono fun b hb ho => hne b (ho.2 B rfl)⟩ ?_
              intro j u hjp hjjb hk hφ
              rcases j with _ | _ | _ | _ | _ | _ | _ | _ | _ | _ | _ | _ | _ | _ | _ | _ | _ | _ | _ | _ | _ | _ | _ | _ | _ | _ | _ | j
              · exact absurd hk (by decide)
              · exact absurd hk (by decide)
              · exact absurd hk (by decide)
              · exact absurd hk (by decide)
              · exact absurd hk (by decide)
              · exact absurd hk (by decide)
              · exact absurd hk (by decide)
              · exact absurd hk (by decide)
              · exact absurd hk (by decide)
              · exact absurd hk (by decide)
              · exact absurd hk (by decide)
              · exact absurd hk (by decide)
              · exact absurd hk (by decide)
              · exact absurd hk (by decide)
              · exact absurd hk (by decide)
              · exact absurd hk (by decide)
              · exact absurd hk (by decide)
              · exact absurd hk (by decide)
              · exact absurd hk (by decide)
              · exact absurd hk (by decide)
              · exact absurd hk (by decide)
              · obtain ⟨v, e, h⟩ := hφ
                exact ⟨v, e, h.mono fun x hx ho => hne x (ho.2 B rfl)⟩
              · exact absurd hk (by decide)
              · exact hφ
              · exact absurd hk (by decide)
              · exact absurd hk (by decide)
              · exact hφ
              · exact absurd hk (by simp)
            · intro u w' B hch huB hB1 hB2 hφ hup hψ A2 hA2
              obtain ⟨E5, e5, E6, e6, hBx, hrB⟩ := hψ
              have hu21 : ∃ v, (u 21) = .tuple #[v, .bool true] ∧ Rd (Av (fun _ => True) (some B)) w' (T.map (normP ONE)) v := hφ 21 (by decide) (by decide) (by decide) (by decide)
              have hu23 : (u 23) = .bool true := hφ 23 (by decide) (by decide) (by decide) (by decide)
              have hu26 : (u 26) = .bool true := hφ 26 (by decide) (by decide) (by decide) (by decide)
              have hcB : Chg [] wr w' := (Chg.refl [] wr).dr.trans hch New.nil
              simp [putAll, dOf, Act.put, huB, hup, hu23, hu26, Act.g] at hA2
              subst hA2
              have HB13 := Lib.hid (And.intro hBx (And.intro hrB hcB))
              obtain ⟨c0, c1, c2, c3, c4, cf⟩ := cells5 hBx
              clear hφ huB hup hrB hBx hch hcB
              refine HK.out _ _ ?_
              clear HK
              go_wp2_with fail
              refine (from_any 67108864 (.map (normP ONE)) _ w' HO.out.2.2.1.size HO.out.2.2.1.size HB13.out.2.1).mono ?_
              rintro e w14 ⟨v14, rfl, hc14, hr14⟩
              go_wp2_with fail
              refine (get_any (.map (normP ONE)) _ kServices w14 hr14 HO.out.2.2.1.wf.srt HO.out.2.2.1.len.2.2).mono ?_
              rintro e w15 ⟨v15, rfl, hc15, hr15⟩
              have hg15 : tget kServices (.map (normP ONE)) = some (.map la) := HO.out.2.2.2.1
              rw [hg15] at hr15 ⊢
              simp only [Option.getD_some, Option.isSome_some] at hr15 ⊢
              clear hg15
              obtain ⟨F5, f5, F6, f6, rfl, hyz⟩ := hr15.five
              clear hyz
              obtain ⟨W15, hW15⟩ : ∃ W15, W15 = w15.alloc (.cells #[.int .i64 (T.map la).kind, .int .i64 (T.map la).num, .string (T.map la).txt, .slice F5 (T.map la).keys.length f5, .slice F6 (T.map la).vals.length f6] 25) := ⟨_, rfl⟩
              have hc155 : Chg [] w15 W15 := hW15 ▸ (Chg.refl [] w15).al _
              have zC : W15.heap[w15.heap.size]? = some (.cells #[.int .i64 (T.map la).kind, .int .i64 (T.map la).num, .string (T.map la).txt, .slice F5 (T.map la).keys.length f5, .slice F6 (T.map la).vals.length f6] 25) := hW15 ▸ heap_alloc_new w15 _
              obtain ⟨CB16, hCB⟩ : ∃ x, x = w15.heap.size := ⟨_, rfl⟩
              rw [← hCB] at zC
              have hcB5 : Chg [] wr W15 := (HB13.out.2.2.trans (hc14.trans hc15 New.nil) New.nil).trans hc155 New.nil
              have hla' := (hr15.lo.chg hc155).weak (o' := fun x => True ∧ x < W15.heap.size) fun x hx => ⟨trivial, by have := hc155.size; omega⟩
              have HB14 := Lib.hid (And.intro zC (And.intro (And.intro hla' hcB5) (HCR.out.1.trans hcB5 New.nil)))
              have HAL : Hid (Rd (fun x => x < WL.heap.size) WL (.map lp) (.agg #[.int .i64 (T.map lp).kind, .int .i64 (T.map lp).num, .string (T.map lp).txt, .slice D3 (T.map lp).keys.length d3, .slice D4 (T.map lp).vals.length d4])) := Lib.hid (HB.out.2.2.2.1.lo.weak fun x hx => hx.2)
              have hfs : Fine (T.map (svcP t.m)) := by
                have h := HFL.out.2.get (t := .map lp) (k := ky) HO.out.2.2.2.2.2.1
                exact h
              clear zC hcB5 hla' hc155 hc14 hc15 hr14 hr15 c0 c1 c2 c3 c4 cf
              go_wp2_with fail
              rw [← hW15, ← hCB]
              clear hW15 hCB
              rename_i K hK
              have HK15 := Lib.hid hK
              clear hK
              refine wp_region_put3 (by rfl) (by kernel_rfl) [0, 11, 13, 16] 11 10 (by kernel_rfl) (by kernel_rfl) (.cells #[.int .i64 0, .int .i64 0, .string ⟨#[]⟩, .slice none 0 0, .slice none 0 0] 25)
                (fun j u b V => match j with
                  | 0 => u = .agg #[.int .i64 (T.map la).kind, .int .i64 (T.map la).num, .string (T.map la).txt, .slice F5 (T.map la).keys.length f5, .slice F6 (T.map la).vals.length f6]
                  | 1 => u = .pointer (some ⟨LB, 3, none⟩)
                  | 2 => u = .slice (some ⟨gk, 0, none⟩) (T.map lv).keys.length l3
                  | 3 => u = .int .i64 ↑k
                  | 4 => u = .pointer (some ⟨gk, k, none⟩)
                  | 5 => u = .string ky
                  | 6 => ∃ v, u = .tuple #[v, .bool true] ∧ Rd (Av (fun _ => True) b) V (T.map (svcP t.m)) v
                  | 7 => ∃ v, u = .tuple #[v, .bool true] ∧ Rd (Av (fun _ => True) b) V (T.map (svcP t.m)) v
                  | 8 => Rd (Av (fun _ => True) b) V (T.map (svcP t.m)) u
                  | 9 => u = .bool true
                  | 12 => u = .bool true
                  | _ => True) ?_ ?_
                (fun B V => ∃ E5 e5 E6 e6, V.heap[B]? = some (.cells #[.int .i64 (T.map (svcP t.m)).kind, .int .i64 (T.map (svcP t.m)).num, .string (T.map (svcP t.m)).txt, .slice E5 (T.map (svcP t.m)).keys.length e5, .slice E6 (T.map (svcP t.m)).vals.length e6] 25) ∧ Rd (Av (fun _ => True) (some B)) V (T.map (svcP t.m)) (.agg #[.int .i64 (T.map (svcP t.m)).kind, .int .i64 (T.map (svcP t.m)).num, .string (T.map (svcP t.m)).txt, .slice E5 (T.map (svcP t.m)).keys.length e5, .slice E6 (T.map (svcP t.m)).vals.length e6])) ?_ (fun j => [7, 9, 12].contains j) ?_ ?_ ?_ ?_
              · intro j u b V V' hc hφ
                rcases j with _ | _ | _ | _ | _ | _ | _ | _ | _ | _ | _ | _ | _ | j
                · exact hφ
                · exact hφ
                · exact hφ
                · exact hφ
                · exact hφ
                · exact hφ
                · obtain ⟨v, e, h⟩ := hφ
                  exact ⟨v, e, h.chg hc⟩
                · obtain ⟨v, e, h⟩ := hφ
                  exact ⟨v, e, h.chg hc⟩
                · exact Rd.chg hφ hc
                · exact hφ
                · exact hφ
                · exact hφ
                · exact hφ
                · exact hφ
              · intro j u V hφ
                rcases j with _ | _ | _ | _ | _ | _ | _ | _ | _ | _ | _ | _ | _ | j
                · exact hφ
                · exact hφ
                · exact hφ
                · exact hφ
                · exact hφ
                · exact hφ
                · obtain ⟨v, e, h⟩ := hφ
                  exact ⟨v, e, h.av_born⟩
                · obtain ⟨v, e, h⟩ := hφ
                  exact ⟨v, e, h.av_born⟩
                · exact Rd.av_born hφ
                · exact hφ
                · exact hφ
                · exact hφ
                · exact hφ
                · exact hφ
              · rintro B V V' hc ⟨E5, e5, E6, e6, h, hr⟩
                exact ⟨E5, e5, E6, e6, box5 h _ hc, hr.chg hc⟩
              · intro oo ho a' w' hst K2 hK2
                obtain rfl : _ = oo := Option.some.inj ho
                unfold Oper.wp
                go_simp
                exact ⟨_, rfl, hK2⟩
              · intro j oo hj hip hijb ho a' w' b hb hst hch hdep K2 hK2
                have hcr' : Chg [] W15 w' := (Chg.refl [] W15).dr.trans hch New.nil
                have hcx := HB14.out.2.2.trans hcr' New.nil
                obtain ⟨l0, l1, l2, l3c, l4c, lf⟩ := cells5 (box5 HB.out.1 _ hcx)
                obtain ⟨p0, p1, p2, p3, p4, pf⟩ := cells5 (box5 HB14.out.1 _ hcr')
                have yk := HYK.out _ (HB14.out.2.1.2.trans hcr' New.nil)
                have hj' : j < 13 := hj
                rcases j with _ | _ | _ | _ | _ | _ | _ | _ | _ | _ | _ | _ | _ | j
                · obtain rfl : _ = oo := Option.some.inj ho  -- 0: slot 101
                  have h16 := g_eq (t := 16) (v := .pointer (some ⟨CB16, 0, none⟩)) (hst 16 (by simp))
                  unfold Oper.wp
                  go_simp
                  exact ⟨_, rfl, hK2 _ _ (Chg.refl _ _) rfl⟩
                · obtain rfl : _ = oo := Option.some.inj ho  -- 1: slot 102
                  have h11 := g_eq (t := 11) (v := .pointer (some ⟨LB, 0, none⟩)) (hst 11 (by simp))
                  unfold Oper.wp
                  go_simp
                  exact ⟨_, rfl, hK2 _ _ (Chg.refl _ _) rfl⟩
                · obtain rfl : _ = oo := Option.some.inj ho  -- 2: slot 103
                  have h102 := g_eq (t := 102) (v := .pointer (some ⟨LB, 3, none⟩)) (hdep 1 (by decide) (by decide) (by kernel_rfl) (.inl (by kernel_rfl)))
                  unfold Oper.wp
                  go_simp
                  exact ⟨_, rfl, hK2 _ _ (Chg.refl _ _) rfl⟩
                · obtain rfl : _ = oo := Option.some.inj ho  -- 3: slot 104
                  have h13 := g_eq (t := 13) (v := .int .i64 ↑k) (hst 13 (by simp))
                  unfold Oper.wp
                  go_simp
                  exact ⟨_, rfl, hK2 _ _ (Chg.refl _ _) rfl⟩
                · obtain rfl : _ = oo := Option.some.inj ho  -- 4: slot 105
                  have h103 := g_eq (t := 103) (v := .slice (some ⟨gk, 0, none⟩) (T.map lv).keys.length l3) (hdep 2 (by decide) (by decide) (by kernel_rfl) (.inl (by kernel_rfl)))
                  have h104 := g_eq (t := 104) (v := .int .i64 ↑k) (hdep 3 (by decide) (by decide) (by kernel_rfl) (.inl (by kernel_rfl)))
                  unfold Oper.wp
                  go_simp
                  exact ⟨_, rfl, hK2 _ _ (Chg.refl _ _) rfl⟩
                · obtain rfl : _ = oo := Option.some.inj ho  -- 5: slot 106
                  have h105 := g_eq (t := 105) (v := .pointer (some ⟨gk, k, none⟩)) (hdep 4 (by decide) (by decide) (by kernel_rfl) (.inl (by kernel_rfl)))
                  unfold Oper.wp
                  go_simp
                  exact ⟨_, rfl, hK2 _ _ (Chg.refl _ _) rfl⟩
                · obtain rfl : _ = oo := Option.some.inj ho  -- 6: slot 107
                  have h101 := g_eq (t := 101) (v := .agg #[.int .i64 (T.map la).kind, .int .i64 (T.map la).num, .string (T.map la).txt, .slice F5 (T.map la).keys.length f5, .slice F6 (T.map la).vals.length f6]) (hdep 0 (by decide) (by decide) (by kernel_rfl) (.inl (by kernel_rfl)))
                  have h106 := g_eq (t := 106) (v := .string ky) (hdep 5 (by decide) (by decide) (by kernel_rfl) (.inl (by kernel_rfl)))
                  have h101 := g_eq (t := 101) (v := .agg #[.int .i64 (T.map la).kind, .int .i64 (T.map la).num, .string (T.map la).txt, .slice F5 (T.map la).keys.length f5, .slice F6 (T.map la).vals.length f6]) (hdep 0 (by decide) (by decide) (by kernel_rfl) (.inl (by kernel_rfl)))
                  unfold Oper.wp
                  go_simp
                  refine (get_any (.map la) _ ky w' (HB14.out.2.1.1.chg hcr') hfa.wf.srt hfa.len.2.2).mono ?_
                  rintro e w3 ⟨v', rfl, hc3, hr3⟩
                  rw [show tget ky (.map la) = some (T.map (svcP t.m)) from HO.out.2.2.2.2.1] at hr3 ⊢
                  exact ⟨_, rfl, hK2 _ _ hc3 ⟨_, rfl, Rd.av_low hb hr3⟩⟩
                · obtain rfl : _ = oo := Option.some.inj ho  -- 7: slot 100
                  obtain ⟨v107, hg107, hr107⟩ : ∃ v, Act.g a' 107 = .tuple #[v, .bool true] ∧ Rd (Av (fun _ => True) b) w' (T.map (svcP t.m)) v := hdep 6 (by decide) (by decide) (by kernel_rfl) (.inl (by kernel_rfl))
                  have h107 := g_eq (t := 107) hg107
                  unfold Oper.wp
                  go_simp
                  exact ⟨_, rfl, hK2 _ _ (Chg.refl _ _) ⟨_, rfl, hr107⟩⟩
                · obtain rfl : _ = oo := Option.some.inj ho  -- 8: slot 108
                  obtain ⟨v100, hg100, hr100⟩ : ∃ v, Act.g a' 100 = .tuple #[v, .bool true] ∧ Rd (Av (fun _ => True) b) w' (T.map (svcP t.m)) v := hdep 7 (by decide) (by decide) (by kernel_rfl) (.inl (by kernel_rfl))
                  have h100 := g_eq (t := 100) hg100
                  unfold Oper.wp
                  go_simp
                  exact ⟨_, rfl, hK2 _ _ (Chg.refl _ _) hr100⟩
                · obtain rfl : _ = oo := Option.some.inj ho  -- 9: slot 109
                  obtain ⟨v100, hg100, hr100⟩ : ∃ v, Act.g a' 100 = .tuple #[v, .bool true] ∧ Rd (Av (fun _ => True) b) w' (T.map (svcP t.m)) v := hdep 7 (by decide) (by decide) (by kernel_rfl) (.inr (by decide))
                  have h100 := g_eq (t := 100) hg100
                  unfold Oper.wp
                  go_simp
                  exact ⟨_, rfl, hK2 _ _ (Chg.refl _ _) rfl⟩
                · exact absurd rfl hijb
                · exact absurd rfl hip
                · obtain rfl : _ = oo := Option.some.inj ho  -- 12: slot 19
                  have h109 := g_eq (t := 109) (v := .bool true) (hdep 9 (by decide) (by decide) (by kernel_rfl) (.inr (by decide)))
                  unfold Oper.wp
                  go_simp
                  exact ⟨_, rfl, hK2 _ _ (Chg.refl _ _) rfl⟩
                · omega
              · intro oo ho a' w' B hgB hB hbox hst hch hdep K2 hK2
                obtain rfl : _ = oo := Option.some.inj ho
                have hrS : Rd (Av (fun _ => True) (some B)) w' (T.map (svcP t.m)) (Act.g a' 108) := hdep 8 (by decide) (by kernel_rfl)
                generalize hgS : Act.g a' 108 = vv at hrS
                obtain ⟨E5, e5, E6, e6, rfl, _⟩ := hrS.five
                have hsv := g_eq (t := 108) hgS
                have hgB' : Act.g a' 18 = .pointer (some ⟨B, 0, none⟩) := hgB
                have hsb := g_eq (t := 18) hgB'
                obtain ⟨b0, b1, b2, b3, b4, bf⟩ := cells5 hbox
                obtain ⟨W, hW, Q, hne, hcW, hszW⟩ := store5 hbox hch (by show W15.heap.size ≤ B; exact hB) (.int .i64 (T.map (svcP t.m)).kind) (.int .i64 (T.map (svcP t.m)).num) (.string (T.map (svcP t.m)).txt) (.slice E5 (T.map (svcP t.m)).keys.length e5) (.slice E6 (T.map (svcP t.m)).vals.length e6)
                unfold Oper.wp
                go_simp
                rw [← hW]
                refine hK2 W hcW (by omega) ⟨E5, e5, E6, e6, Q, hrS.mono fun b hb ho => hne b (ho.2 B rfl)⟩ ?_
                intro j u hjp hjjb hk hφ
                rcases j with _ | _ | _ | _ | _ | _ | _ | _ | _ | _ | _ | _ | _ | j
                · exact absurd hk (by decide)
                · exact absurd hk (by decide)
                · exact absurd hk (by decide)
                · exact absurd hk (by decide)
                · exact absurd hk (by decide)
                · exact absurd hk (by decide)
                · exact absurd hk (by decide)
                · obtain ⟨v, e, h⟩ := hφ
                  exact ⟨v, e, h.mono fun x hx ho => hne x (ho.2 B rfl)⟩
                · exact absurd hk (by decide)
                · exact hφ
                · exact absurd hk (by decide)
                · exact absurd hk (by decide)
                · exact hφ
                · exact absurd hk (by simp)
              · intro u w' B hch huB hB1 hB2 hφ hup hψ A2 hA2
                obtain ⟨E5, e5, E6, e6, hBx, hrB⟩ := hψ
                have hu7 : ∃ v, (u 7) = .tuple #[v, .bool true] ∧ Rd (Av (fun _ => True) (some B)) w' (T.map (svcP t.m)) v := hφ 7 (by decide) (by decide) (by decide) (by decide)
                have hu9 : (u 9) = .bool true := hφ 9 (by decide) (by decide) (by decide) (by decide)
                have hu12 : (u 12) = .bool true := hφ 12 (by decide) (by decide) (by decide) (by decide)
                have hcB : Chg [] W15 w' := (Chg.refl [] W15).dr.trans hch New.nil
                simp [putAll, dOf, Act.put, huB, hup, hu9, hu12, Act.g] at hA2
                subst hA2
                have hbs : W15.heap.size ≤ w'.heap.size ∧ WL.heap.size ≤ w'.heap.size := ⟨hcB.size, (HB14.out.2.2.trans hcB New.nil).size⟩
                have HB15 := Lib.hid (And.intro hBx (And.intro hrB (HB14.out.2.2.trans hcB New.nil)))
                have HBW := Lib.hid hcB
                have HBS := Lib.hid hbs.2
                obtain ⟨W16, hW16⟩ : ∃ W16, W16 = w' := ⟨_, rfl⟩
                rw [← hW16] at HB15 HBW HBS
                clear hφ huB hup hrB hBx hch hcB hbs
                refine HK15.out _ _ ?_
                clear HK15
                rw [← hW16]
                clear hW16
                go_wp2_with fail
                rename_i K hK
                have HK16 := Lib.hid hK
                clear hK
                refine wp_region_put3 (by rfl) (by kernel_rfl) [0, 9, 11, 13] 11 10 (by kernel_rfl) (by kernel_rfl) (.cells #[.int .i64 0, .int .i64 0, .string ⟨#[]⟩, .slice none 0 0, .slice none 0 0] 25)
                  (fun j u b V => match j with
                    | 0 => u = .agg #[.int .i64 (T.map lp).kind, .int .i64 (T.map lp).num, .string (T.map lp).txt, .slice D3 (T.map lp).keys.length d3, .slice D4 (T.map lp).vals.length d4]
                    | 1 => u = .pointer (some ⟨LB, 3, none⟩)
                    | 2 => u = .slice (some ⟨gk, 0, none⟩) (T.map lv).keys.length l3
                    | 3 => u = .int .i64 ↑k
                    | 4 => u = .pointer (some ⟨gk, k, none⟩)
                    | 5 => u = .string ky
                    | 6 => ∃ v, u = .tuple #[v, .bool true] ∧ Rd (Av (fun _ => True) b) V (T.map (svcP t.m)) v
                    | 7 => ∃ v, u = .tuple #[v, .bool true] ∧ Rd (Av (fun _ => True) b) V (T.map (svcP t.m)) v
                    | 8 => Rd (Av (fun _ => True) b) V (T.map (svcP t.m)) u
                    | 9 => u = .bool true
                    | 12 => u = .bool true
                    | _ => True) ?_ ?_
                  (fun B V => ∃ E5 e5 E6 e6, V.heap[B]? = some (.cells #[.int .i64 (T.map (svcP t.m)).kind, .int .i64 (T.map (svcP t.m)).num, .string (T.map (svcP t.m)).txt, .slice E5 (T.map (svcP t.m)).keys.length e5, .slice E6 (T.map (svcP t.m)).vals.length e6] 25) ∧ Rd (Av (fun _ => True) (some B)) V (T.map (svcP t.m)) (.agg #[.int .i64 (T.map (svcP t.m)).kind, .int .i64 (T.map (svcP t.m)).num, .string (T.map (svcP t.m)).txt, .slice E5 (T.map (svcP t.m)).keys.length e5, .slice E6 (T.map (svcP t.m)).vals.length e6])) ?_ (fun j => [7, 9, 12].contains j) ?_ ?_ ?_ ?_
                · intro j u b V V' hc hφ
                  rcases j with _ | _ | _ | _ | _ | _ | _ | _ | _ | _ | _ | _ | _ | j
                  · exact hφ
                  · exact hφ
                  · exact hφ
                  · exact hφ
                  · exact hφ
                  · exact hφ
                  · obtain ⟨v, e, h⟩ := hφ
                    exact ⟨v, e, h.chg hc⟩
                  · obtain ⟨v, e, h⟩ := hφ
                    exact ⟨v, e, h.chg hc⟩
                  · exact Rd.chg hφ hc
                  · exact hφ
                  · exact hφ
                  · exact hφ
                  · exact hφ
                  · exact hφ
                · intro j u V hφ
                  rcases j with _ | _ | _ | _ | _ | _ | _ | _ | _ | _ | _ | _ | _ | j
                  · exact hφ
                  · exact hφ
                  · exact hφ
                  · exact hφ
                  · exact hφ
                  · exact hφ
                  · obtain ⟨v, e, h⟩ := hφ
                    exact ⟨v, e, h.av_born⟩
                  · obtain ⟨v, e, h⟩ := hφ
                    exact ⟨v, e, h.av_born⟩
                  · exact Rd.av_born hφ
                  · exact hφ
                  · exact hφ
                  · exact hφ
                  · exact hφ
                  · exact hφ
                · rintro B V V' hc ⟨E5, e5, E6, e6, h, hr⟩
                  exact ⟨E5, e5, E6, e6, box5 h _ hc, hr.chg hc⟩
                · intro oo ho a' w' hst K2 hK2
                  obtain rfl : _ = oo := Option.some.inj ho
                  unfold Oper.wp
                  go_simp
                  exact ⟨_, rfl, hK2⟩
                · intro j oo hj hip hijb ho a' w' b hb hst hch hdep K2 hK2
                  have hcr' : Chg [] W16 w' := (Chg.refl [] W16).dr.trans hch New.nil
                  have hcx := HB15.out.2.2.trans hcr' New.nil
                  obtain ⟨l0, l1, l2, l3c, l4c, lf⟩ := cells5 (box5 HB.out.1 _ hcx)
                  obtain ⟨p0, p1, p2, p3, p4, pf⟩ := cells5 (box5 HB.out.2.2.1 _ hcx)
                  have yk := HYK.out _ ((HB14.out.2.1.2.trans HBW.out New.nil).trans hcr' New.nil)
                  have hj' : j < 13 := hj
                  rcases j with _ | _ | _ | _ | _ | _ | _ | _ | _ | _ | _ | _ | _ | j
                  · obtain rfl : _ = oo := Option.some.inj ho  -- 0: slot 111
                    have h9 := g_eq (t := 9) (v := .pointer (some ⟨AB, 0, none⟩)) (hst 9 (by simp))
                    unfold Oper.wp
                    go_simp
                    exact ⟨_, rfl, hK2 _ _ (Chg.refl _ _) rfl⟩
                  · obtain rfl : _ = oo := Option.some.inj ho  -- 1: slot 112
                    have h11 := g_eq (t := 11) (v := .pointer (some ⟨LB, 0, none⟩)) (hst 11 (by simp))
                    unfold Oper.wp
                    go_simp
                    exact ⟨_, rfl, hK2 _ _ (Chg.refl _ _) rfl⟩
                  · obtain rfl : _ = oo := Option.some.inj ho  -- 2: slot 113
                    have h112 := g_eq (t := 112) (v := .pointer (some ⟨LB, 3, none⟩)) (hdep 1 (by decide) (by decide) (by kernel_rfl) (.inl (by kernel_rfl)))
                    unfold Oper.wp
                    go_simp
                    exact ⟨_, rfl, hK2 _ _ (Chg.refl _ _) rfl⟩
                  · obtain rfl : _ = oo := Option.some.inj ho  -- 3: slot 114
                    have h13 := g_eq (t := 13) (v := .int .i64 ↑k) (hst 13 (by simp))
                    unfold Oper.wp
                    go_simp
                    exact ⟨_, rfl, hK2 _ _ (Chg.refl _ _) rfl⟩
                  · obtain rfl : _ = oo := Option.some.inj ho  -- 4: slot 115
                    have h113 := g_eq (t := 113) (v := .slice (some ⟨gk, 0, none⟩) (T.map lv).keys.length l3) (hdep 2 (by decide) (by decide) (by kernel_rfl) (.inl (by kernel_rfl)))
                    have h114 := g_eq (t := 114) (v := .int .i64 ↑k) (hdep 3 (by decide) (by decide) (by kernel_rfl) (.inl (by kernel_rfl)))
                    unfold Oper.wp
                    go_simp
                    exact ⟨_, rfl, hK2 _ _ (Chg.refl _ _) rfl⟩
                  · obtain rfl : _ = oo := Option.some.inj ho  -- 5: slot 116
                    have h115 := g_eq (t := 115) (v := .pointer (some ⟨gk, k, none⟩)) (hdep 4 (by decide) (by decide) (by kernel_rfl) (.inl (by kernel_rfl)))
                    unfold Oper.wp
                    go_simp
                    exact ⟨_, rfl, hK2 _ _ (Chg.refl _ _) rfl⟩
                  · obtain rfl : _ = oo := Option.some.inj ho  -- 6: slot 117
                    have h111 := g_eq (t := 111) (v := .agg #[.int .i64 (T.map lp).kind, .int .i64 (T.map lp).num, .string (T.map lp).txt, .slice D3 (T.map lp).keys.length d3, .slice D4 (T.map lp).vals.length d4]) (hdep 0 (by decide) (by decide) (by kernel_rfl) (.inl (by kernel_rfl)))
                    have h116 := g_eq (t := 116) (v := .string ky) (hdep 5 (by decide) (by decide) (by kernel_rfl) (.inl (by kernel_rfl)))
                    have h111 := g_eq (t := 111) (v := .agg #[.int .i64 (T.map lp).kind, .int .i64 (T.map lp).num, .string (T.map lp).txt, .slice D3 (T.map lp).keys.length d3, .slice D4 (T.map lp).vals.length d4]) (hdep 0 (by decide) (by decide) (by kernel_rfl) (.inl (by kernel_rfl)))
                    unfold Oper.wp
                    go_simp
                    refine (get_any (.map lp) _ ky w' (HAL.out.chg hcx) HFL.out.2.wf.srt HFL.out.2.len.2.2).mono ?_
                    rintro e w3 ⟨v', rfl, hc3, hr3⟩
                    rw [show tget ky (.map lp) = some (T.map (svcP t.m)) from HO.out.2.2.2.2.2.1] at hr3 ⊢
                    exact ⟨_, rfl, hK2 _ _ hc3 ⟨_, rfl, Rd.av_low hb (hr3.weak fun x hx => (⟨trivial, by have := HBS.out; omega⟩ : True ∧ _))⟩⟩
                  · obtain rfl : _ = oo := Option.some.inj ho  -- 7: slot 110
                    obtain ⟨v117, hg117, hr117⟩ : ∃ v, Act.g a' 117 = .tuple #[v, .bool true] ∧ Rd (Av (fun _ => True) b) w' (T.map (svcP t.m)) v := hdep 6 (by decide) (by decide) (by kernel_rfl) (.inl (by kernel_rfl))
                    have h117 := g_eq (t := 117) hg117
                    unfold Oper.wp
                    go_simp
                    exact ⟨_, rfl, hK2 _ _ (Chg.refl _ _) ⟨_, rfl, hr117⟩⟩
                  · obtain rfl : _ = oo := Option.some.inj ho  -- 8: slot 118
                    obtain ⟨v110, hg110, hr110⟩ : ∃ v, Act.g a' 110 = .tuple #[v, .bool true] ∧ Rd (Av (fun _ => True) b) w' (T.map (svcP t.m)) v := hdep 7 (by decide) (by decide) (by kernel_rfl) (.inl (by kernel_rfl))
                    have h110 := g_eq (t := 110) hg110
                    unfold Oper.wp
                    go_simp
                    exact ⟨_, rfl, hK2 _ _ (Chg.refl _ _) hr110⟩
                  · obtain rfl : _ = oo := Option.some.inj ho  -- 9: slot 119
                    obtain ⟨v110, hg110, hr110⟩ : ∃ v, Act.g a' 110 = .tuple #[v, .bool true] ∧ Rd (Av (fun _ => True) b) w' (T.map (svcP t.m)) v := hdep 7 (by decide) (by decide) (by kernel_rfl) (.inr (by decide))
                    have h110 := g_eq (t := 110) hg110
                    unfold Oper.wp
                    go_simp
                    exact ⟨_, rfl, hK2 _ _ (Chg.refl _ _) rfl⟩
                  · exact absurd rfl hijb
                  · exact absurd rfl hip
                  · obtain rfl : _ = oo := Option.some.inj ho  -- 12: slot 21
                    have h119 := g_eq (t := 119) (v := .bool true) (hdep 9 (by decide) (by decide) (by kernel_rfl) (.inr (by decide)))
                    unfold Oper.wp
                    go_simp
                    exact ⟨_, rfl, hK2 _ _ (Chg.refl _ _) rfl⟩
                  · omega
                · intro oo ho a' w' B hgB hB hbox hst hch hdep K2 hK2
                  obtain rfl : _ = oo := Option.some.inj ho
                  have hrS : Rd (Av (fun _ => True) (some B)) w' (T.map (svcP t.m)) (Act.g a' 118) := hdep 8 (by decide) (by kernel_rfl)
                  generalize hgS : Act.g a' 118 = vv at hrS
                  obtain ⟨E5, e5, E6, e6, rfl, _⟩ := hrS.five
                  have hsv := g_eq (t := 118) hgS
                  have hgB' : Act.g a' 20 = .pointer (some ⟨B, 0, none⟩) := hgB
                  have hsb := g_eq (t := 20) hgB'
                  obtain ⟨b0, b1, b2, b3, b4, bf⟩ := cells5 hbox
                  obtain ⟨W, hW, Q, hne, hcW, hszW⟩ := store5 hbox hch (by show W16.heap.size ≤ B; exact hB) (.int .i64 (T.map (svcP t.m)).kind) (.int .i64 (T.map (svcP t.m)).num) (.string (T.map (svcP t.m)).txt) (.slice E5 (T.map (svcP t.m)).keys.length e5) (.slice E6 (T.map (svcP t.m)).vals.length e6)
                  unfold Oper.wp
                  go_simp
                  rw [← hW]
                  refine hK2 W hcW (by omega) ⟨E5, e5, E6, e6, Q, hrS.mono fun b hb ho => hne b (ho.2 B rfl)⟩ ?_
                  intro j u hjp hjjb hk hφ
                  rcases j with _ | _ | _ | _ | _ | _ | _ | _ | _ | _ | _ | _ | _ | j
                  · exact absurd hk (by decide)
                  · exact absurd hk (by decide)
                  · exact absurd hk (by decide)
                  · exact absurd hk (by decide)
                  · exact absurd hk (by decide)
                  · exact absurd hk (by decide)
                  · exact absurd hk (by decide)
                  · obtain ⟨v, e, h⟩ := hφ
                    exact ⟨v, e, h.mono fun x hx ho => hne x (ho.2 B rfl)⟩
                  · exact absurd hk (by decide)
                  · exact hφ
                  · exact absurd hk (by decide)
                  · exact absurd hk (by decide)
                  · exact hφ
                  · exact absurd hk (by simp)
                · intro u w' B hch huB hB1 hB2 hφ hup hψ A2 hA2
                  obtain ⟨E5, e5, E6, e6, hBx, hrB⟩ := hψ
                  have hu7 : ∃ v, (u 7) = .tuple #[v, .bool true] ∧ Rd (Av (fun _ => True) (some B)) w' (T.map (svcP t.m)) v := hφ 7 (by decide) (by decide) (by decide) (by decide)
                  have hu9 : (u 9) = .bool true := hφ 9 (by decide) (by decide) (by decide) (by decide)
                  have hu12 : (u 12) = .bool true := hφ 12 (by decide) (by decide) (by decide) (by decide)
                  have hcB : Chg [] W16 w' := (Chg.refl [] W16).dr.trans hch New.nil
                  simp [putAll, dOf, Act.put, huB, hup, hu9, hu12, Act.g] at hA2
                  subst hA2
                  have HB16 := Lib.hid (And.intro hBx (And.intro hrB hcB))
                  obtain ⟨c0, c1, c2, c3, c4, cf⟩ := cells5 (box5 HB15.out.1 _ hcB)
                  obtain ⟨d0, d1, d2, d3, d4, df⟩ := cells5 hBx
                  clear hφ huB hup hrB hBx hch hcB
                  refine HK16.out _ _ ?_
                  clear HK16
                  go_wp2_with fail
                  refine (same_eq (o := fun _ => True) 67108864 (T.map (svcP t.m)) _ _ w' hfs.size hfs.size ((HB15.out.2.1.chg HB16.out.2.2).weak fun _ _ => trivial) (HB16.out.2.1.weak fun _ _ => trivial)).mono ?_
                  rintro e w19 ⟨rfl, hc19⟩
                  have hcE := (HB15.out.2.2.trans HB16.out.2.2 New.nil).trans hc19 New.nil
                  go_wp2_with fail
                  go_roundg (lv.length - (k + 1))
                  case measure => omega
                  case rel => exact ⟨k + 1, by omega, rfl, by go_num, hcE⟩
          · have hge1 : ¬ k < (T.map lv).keys.length := by omega
            have hcE := HCR.out.2
            clear hkl hvl hkR hvR
            go_wp2_with fail
            refine (normAwake_any _).mono ?_
            rintro e w5 ⟨rfl, hc5⟩
            go_wp2_with fail
            go_ret
            exact ⟨rfl, hcE.trans hc5 New.nil⟩
end Go.Proofs.YtedbfoknfdiadaaGreatDoor
