/- spec.Normalize: a yes gives a model of the reference and its normal form. Conditions: lengths. (Printed by wip/gen/mkNorm.py.) -/
import Derived.Test.YtedbfoknfdiadaaGreatDoorNormA
set_option linter.unusedVariables false
set_option linter.unusedSimpArgs false
namespace Go.Proofs.YtedbfoknfdiadaaGreatDoor
open Go.RowKit
variable {o : Nat → Prop}
set_option maxRecDepth 100000

abbrev bsN0 : List (Option Nat) := [none, none, none, none, none, none, none, none, none, none, none, none, none, none, none, none, none, none, some 18, some 19, some 20, some 21, some 22, some 23, some 24, some 25, some 26, some 27, some 28, some 29, some 30, some 31, some 32, some 33, some 34, some 35, some 36, some 37, some 38, some 39, some 40]
abbrev bsNL : List (Option Nat) := [none, none, none, some 3, none, none, none, none, none, none, some 10, some 11, some 12, some 13, some 14, none, none, none, none, none, none, none, none, none, none, none, none, none, none, none, none, none, none, none, none, none, none, none, none, none, none, some 41, some 42, some 43, some 44, some 45, some 46, some 47, some 48, some 49, some 50, some 51, some 52, some 53, some 54, some 55, some 56, some 57, some 58, some 59, some 60, some 61, some 62, some 63, some 64, some 65, some 66, some 67, some 68, some 69, some 70, some 71, some 72, some 73, some 74, some 75, some 76, some 77, some 78, some 79, some 80, some 81, some 82, some 83, some 84, some 85, some 86, some 87, some 88, some 89, some 90, some 91]
abbrev bsN1 : List (Option Nat) := [none, none, none, none, none, none, none, none, none, none, none, none, none, none, none, none, none, none, some 18, some 19, some 20, some 21, some 22, some 23, some 24, some 25, some 26, some 27, some 28, some 29, some 30, some 31, some 32, some 33, some 34, some 35, some 36, some 37, some 38, some 39, some 40, some 41, some 42, some 43, some 44, some 45, some 46, some 47, some 48, some 49, some 50, some 51, some 52, some 53, some 54, some 55, some 56, some 57, some 58, some 59, some 60, some 61, some 62, some 63, some 64, some 65, some 66, some 67, some 68, some 69, some 70, some 71, some 72, some 73, some 74, some 75, some 76, some 77, some 78, some 79, some 80, some 81, some 82, some 83, some 84, some 85, some 86, some 87, some 88, some 89, some 90, some 91, some 92, some 93, some 94, some 95, some 96, some 97, some 98, some 99, some 100, some 101, some 102, some 103, some 104, some 105, some 106, some 107, some 108, some 109, some 110, some 111, some 112, some 113, some 114, some 115, some 116, some 117]
set_option maxHeartbeats 8000000 in
theorem normalize_any (t : T) (v : Value) (w : World) (h : Rd o w t v) (hf : Fine t) (hz : T.size t ≤ 16777216) (hno : ∀ b, w.heap.size ≤ b → o b) :
    Calls Tryz.prog 10 #[v] w (NormR o w t) := by
  obtain ⟨A3, q3, A4, q4, rfl, hyz⟩ := h.five
  clear hyz
  have HV := Lib.hid (And.intro h (And.intro hf (And.intro hz hno)))
  clear h hf hz hno
  go_enter Tryz.func10, Tryz.ntmps10
  go_wp2_with fail
  refine (normKeys_any t _ _ (HV.out.1.chg (((Chg.refl [] w).al _).al _)) HV.out.2.1).mono ?_
  rintro e w1 ⟨b, rfl, hc1, hq⟩
  have hcw1 : Chg [] w w1 := (((Chg.refl [] w).al _).al _).trans hc1 New.nil
  have z0 : w1.heap[w.heap.size]? = some (.cells #[.int .i64 (t).kind, .int .i64 (t).num, .string (t).txt, .slice A3 (t).keys.length q3, .slice A4 (t).vals.length q4] 25) := box5 (heap_al1 w (.cells #[.int .i64 (t).kind, .int .i64 (t).num, .string (t).txt, .slice A3 (t).keys.length q3, .slice A4 (t).vals.length q4] 25) (.cells #[.int .i64 0, .int .i64 0, .string ⟨#[]⟩, .slice none 0 0, .slice none 0 0] 25)) _ hc1
  have z1 : w1.heap[w.heap.size + 1]? = some (.cells #[.int .i64 0, .int .i64 0, .string ⟨#[]⟩, .slice none 0 0, .slice none 0 0] 25) := box5 (heap_al2 w (.cells #[.int .i64 (t).kind, .int .i64 (t).num, .string (t).txt, .slice A3 (t).keys.length q3, .slice A4 (t).vals.length q4] 25) (.cells #[.int .i64 0, .int .i64 0, .string ⟨#[]⟩, .slice none 0 0, .slice none 0 0] 25)) _ hc1
  have hsw1 : w.heap.size + 2 ≤ w1.heap.size := by have := hc1.size; simpa using this
  have HQ := Lib.hid hq
  clear hq hc1
  obtain ⟨a0, a1, a2, a3, a4, af⟩ := cells5 z0
  cases b with
  | false =>
    obtain ⟨d0, d1, d2, d3, d4, df⟩ := cells5 z1
    go_wp2
    obtain ⟨W, hW, Q, hne, hcW, _⟩ := store5 z1 hcw1 (by omega : w.heap.size ≤ w.heap.size + 1) (.int .i64 (t).kind) (.int .i64 (t).num) (.string (t).txt) (.slice A3 (t).keys.length q3) (.slice A4 (t).vals.length q4)
    rw [← hW]
    obtain ⟨e0, e1, e2, e3, e4, _⟩ := cells5 Q
    exact bodyPost_ret (v := .tuple #[.agg #[.int .i64 (t).kind, .int .i64 (t).num, .string (t).txt, .slice A3 (t).keys.length q3, .slice A4 (t).vals.length q4], .bool false]) (by simp [results, Tryz.results10, go_sem, e0, e1, e2, e3, e4]) rfl ⟨_, false, rfl, hcW, ⟨_, _, _, _, _, _, _, _, _, rfl⟩, fun h => by cases h⟩
  | true =>
    obtain ⟨h5, htop, hnm, hsv⟩ := HQ.out rfl
    obtain ⟨m, rfl⟩ := kind_map h5
    obtain ⟨⟨p, hp⟩, ⟨lv, hlv⟩, hnet⟩ := top_open htop hnm hsv
    have HT := Lib.hid (And.intro htop (And.intro hnm (And.intro hsv (And.intro hp hlv))))
    have HG : Hid (∀ k W, Chg [] w W → Calls Tryz.prog 19 #[.agg #[.int .i64 (T.map m).kind, .int .i64 (T.map m).num, .string (T.map m).txt, .slice A3 (T.map m).keys.length q3, .slice A4 (T.map m).vals.length q4], .string k] W fun e w' => ∃ v', e = .returned (.tuple #[v', .bool (tget k (.map m)).isSome]) ∧ Chg [] W w' ∧ Rd (fun b => o b ∧ b < w.heap.size) w' ((tget k (.map m)).getD .null) v') :=
      Lib.hid fun k W hc => get_any (.map m) _ k W (HV.out.1.lo.chg hc) HV.out.2.1.wf.srt HV.out.2.1.len.2.2
    clear htop hnm hsv h5 HQ
    go_wp2_with fail
    refine (HG.out kServices _ hcw1).mono ?_
    rintro e w2 ⟨v2, rfl, hcw2, hr2⟩
    rw [show tget kServices (.map m) = some (.map lv) from hlv] at hr2
    obtain ⟨A5, q5, A6, q6, rfl, hyz⟩ := hr2.five
    have hr2 : Rd (fun b => o b ∧ b < w.heap.size) w2 (.map lv) (.agg #[.int .i64 (T.map lv).kind, .int .i64 (T.map lv).num, .string (T.map lv).txt, .slice A5 (T.map lv).keys.length q5, .slice A6 (T.map lv).vals.length q6]) := hr2
    clear hyz a0 a1 a2 a3 a4 af
    obtain ⟨W2, hW2⟩ : ∃ W2, W2 = w2.alloc (.cells #[.int .i64 (T.map lv).kind, .int .i64 (T.map lv).num, .string (T.map lv).txt, .slice A5 (T.map lv).keys.length q5, .slice A6 (T.map lv).vals.length q6] 25) := ⟨_, rfl⟩
    have hcW2 : Chg [] w2 W2 := hW2 ▸ (Chg.refl [] w2).al _
    have hcwW2 : Chg [] w W2 := (hcw1.trans hcw2 New.nil).trans hcW2 New.nil
    have z0 := box5 z0 _ (hcw2.trans hcW2 New.nil)
    have z1 := box5 z1 _ (hcw2.trans hcW2 New.nil)
    have zLB : W2.heap[w2.heap.size]? = some (.cells #[.int .i64 (T.map lv).kind, .int .i64 (T.map lv).num, .string (T.map lv).txt, .slice A5 (T.map lv).keys.length q5, .slice A6 (T.map lv).vals.length q6] 25) := hW2 ▸ heap_alloc_new w2 _
    have hsLB : w2.heap.size < W2.heap.size := by rw [hW2]; simp
    have hwLB : w1.heap.size ≤ w2.heap.size := hcw2.size
    obtain ⟨LB, hLB⟩ : ∃ LB, LB = w2.heap.size := ⟨_, rfl⟩
    obtain ⟨a0, a1, a2, a3, a4, af⟩ := cells5 z0
    rw [hW2] at a0 a1 a2 a3 a4 af
    generalize (tget kServices (.map m)).isSome = g1
    go_wp2_with fail
    rw [← hW2, ← hLB]
    rw [← hLB] at zLB hsLB hwLB
    clear hLB hW2
    clear a0 a1 a2 a3 a4 af
    refine (HG.out kName _ hcwW2).mono ?_
    rintro e w3 ⟨v3, rfl, hcw3, hr3⟩
    rw [show tget kName (.map m) = some (.text p) from hp] at hr3
    have hr3 : Rd (fun b => o b ∧ b < w.heap.size) w3 (.text p) v3 := hr3
    obtain ⟨B5, p5, B6, p6, rfl, hyz⟩ := hr3.five
    clear hyz hr3
    obtain ⟨W3, hW3⟩ : ∃ W3, W3 = w3.alloc (.cells #[.int .i64 (T.text p).kind, .int .i64 (T.text p).num, .string (T.text p).txt, .slice B5 (T.text p).keys.length p5, .slice B6 (T.text p).vals.length p6] 25) := ⟨_, rfl⟩
    have hcW3 : Chg [] w3 W3 := hW3 ▸ (Chg.refl [] w3).al _
    have hcwW3 : Chg [] w W3 := (hcwW2.trans hcw3 New.nil).trans hcW3 New.nil
    have z0 := box5 z0 _ (hcw3.trans hcW3 New.nil)
    have z1 := box5 z1 _ (hcw3.trans hcW3 New.nil)
    have zPB : W3.heap[w3.heap.size]? = some (.cells #[.int .i64 (T.text p).kind, .int .i64 (T.text p).num, .string (T.text p).txt, .slice B5 (T.text p).keys.length p5, .slice B6 (T.text p).vals.length p6] 25) := hW3 ▸ heap_alloc_new w3 _
    have hsPB : w3.heap.size < W3.heap.size := by rw [hW3]; simp
    have hwPB : W2.heap.size ≤ w3.heap.size := hcw3.size
    obtain ⟨PB, hPB⟩ : ∃ PB, PB = w3.heap.size := ⟨_, rfl⟩
    have zLB := box5 zLB _ (hcw3.trans hcW3 New.nil)
    obtain ⟨a0, a1, a2, a3, a4, af⟩ := cells5 z0
    rw [hW3] at a0 a1 a2 a3 a4 af
    generalize (tget kName (.map m)).isSome = g2
    go_wp2_with fail
    rw [← hW3, ← hPB]
    rw [← hPB] at zPB hsPB hwPB
    clear hPB hW3
    clear a0 a1 a2 a3 a4 af
    refine (HG.out kNetworks _ hcwW3).mono ?_
    rintro e w4 ⟨v4, rfl, hcw4, hr4⟩
    obtain ⟨nt, hnt⟩ : ∃ nt, nt = (tget kNetworks (.map m)).getD .null := ⟨_, rfl⟩
    rw [← hnt] at hr4 hnet
    obtain ⟨C5, e5, C6, e6, rfl, hyz⟩ := hr4.five
    clear hyz hnt
    obtain ⟨W4, hW4⟩ : ∃ W4, W4 = w4.alloc (.cells #[.int .i64 (nt).kind, .int .i64 (nt).num, .string (nt).txt, .slice C5 (nt).keys.length e5, .slice C6 (nt).vals.length e6] 25) := ⟨_, rfl⟩
    have hcW4 : Chg [] w4 W4 := hW4 ▸ (Chg.refl [] w4).al _
    have hcwW4 : Chg [] w W4 := (hcwW3.trans hcw4 New.nil).trans hcW4 New.nil
    have z0 := box5 z0 _ (hcw4.trans hcW4 New.nil)
    have z1 := box5 z1 _ (hcw4.trans hcW4 New.nil)
    have zNB : W4.heap[w4.heap.size]? = some (.cells #[.int .i64 (nt).kind, .int .i64 (nt).num, .string (nt).txt, .slice C5 (nt).keys.length e5, .slice C6 (nt).vals.length e6] 25) := hW4 ▸ heap_alloc_new w4 _
    have hsNB : w4.heap.size < W4.heap.size := by rw [hW4]; simp
    have hwNB : W3.heap.size ≤ w4.heap.size := hcw4.size
    obtain ⟨NB, hNB⟩ : ∃ NB, NB = w4.heap.size := ⟨_, rfl⟩
    have zLB := box5 zLB _ (hcw4.trans hcW4 New.nil)
    have zPB := box5 zPB _ (hcw4.trans hcW4 New.nil)
    obtain ⟨n0, n1, n2, n3, n4, nf⟩ := cells5 zNB
    rw [hW4] at n0 n1 n2 n3 n4 nf
    generalize (tget kNetworks (.map m)).isSome = g3
    go_upto_if 39 with fail
    rw [← hW4, ← hNB]
    rw [← hNB] at zNB hsNB hwNB
    clear hNB hW4
    clear n0 n1 n2 n3 n4 nf
    have hlt : w.heap.size + 1 < LB ∧ LB < PB ∧ PB < NB := by omega
    have hNI : NI o w LB PB NB #[.int .i64 (T.map m).kind, .int .i64 (T.map m).num, .string (T.map m).txt, .slice A3 (T.map m).keys.length q3, .slice A4 (T.map m).vals.length q4] #[.int .i64 (T.text p).kind, .int .i64 (T.text p).num, .string (T.text p).txt, .slice B5 (T.text p).keys.length p5, .slice B6 (T.text p).vals.length p6] (T.map lv) (nt) W4 := by
      refine ⟨hcwW4, z0, z1, zPB, hlt, ⟨A5, q5, A6, q6, zLB, ?_⟩, ⟨C5, e5, C6, e6, zNB, ?_⟩⟩
      · exact ((hr2.to fun b hb ho => ⟨⟨ho.1, by omega, by omega, by omega⟩, rfl⟩ : Rd (OffC o LB NB (w.heap.size + 1)) w2 (.map lv) _).chg hcW2).chg ((hcw3.trans hcW3 New.nil).trans (hcw4.trans hcW4 New.nil) New.nil)
      · exact (hr4.to fun b hb ho => ⟨⟨ho.1, by omega, by omega, by omega⟩, rfl⟩ : Rd (OffC o LB NB (w.heap.size + 1)) w4 nt _).chg hcW4
    have hsz4 : NB < W4.heap.size := by omega
    have HNI := Lib.hid hNI
    clear hNI z0 z1 zLB zPB zNB hr2 hr4 hcW2 hcW3 hcW4 hcw1 hcw2 hcw3 hcw4 hcwW2 hcwW3 hcwW4 hsLB hsPB hsNB hwLB hwPB hwNB hsw1 hp hlv
    refine wp_cut_fr bsN0 (by decide) (fun f wx => NI o w LB PB NB #[.int .i64 (T.map m).kind, .int .i64 (T.map m).num, .string (T.map m).txt, .slice A3 (T.map m).keys.length q3, .slice A4 (T.map m).vals.length q4] #[.int .i64 (T.text p).kind, .int .i64 (T.text p).num, .string (T.text p).txt, .slice B5 (T.text p).keys.length p5, .slice B6 (T.text p).vals.length p6] (T.map lv) (T.map (nets0 m)) wx) ?first ?rest
    case first =>
      intro J1 K1 hJ1 hK1
      have HJ1 := Lib.hid hJ1
      clear hJ1
      rcases hnet with ⟨rfl, h0⟩ | ⟨nl, rfl, h0⟩
      · have hz4 := HNI.out.chg.size
        have H0 := Lib.hid h0
        clear h0
        go_wp2_with fail
        refine (specEmpty (o := OffC o LB NB (w.heap.size + 1)) _).mono ?_
        rintro e w6 ⟨v6, rfl, hc6, hr6⟩
        obtain ⟨D5, d5, D6, d6, rfl, hyz⟩ := hr6.five
        clear hyz
        have HN6 := Lib.hid (HNI.out.go hc6)
        have HR6 := Lib.hid hr6
        clear hc6 hr6
        obtain ⟨_, _, _, _, hb, _⟩ := HN6.out.nbx
        obtain ⟨n0, n1, n2, n3, n4, nf⟩ := cells5 hb
        clear hb
        go_wp2_with fail
        exact Met.intro (HJ1.out _ _ (Ag.mk (by simp only [agL, bsN0, true_and, and_true] <;> rfl)) (by rw [H0.out]; exact HN6.out.putN HR6.out _ rfl))
      · have H0 := Lib.hid h0
        clear h0
        go_wp2_with fail
        exact Met.intro (HJ1.out _ _ (Ag.mk (by simp only [agL, bsN0, true_and, and_true] <;> rfl)) (by rw [H0.out]; exact HNI.out))
    case rest =>
      intro f1 wc hNc
      dsimp only [fr_mk, frL, bsN0]
      have hN0 : NI o w LB PB NB #[.int .i64 (T.map m).kind, .int .i64 (T.map m).num, .string (T.map m).txt, .slice A3 (T.map m).keys.length q3, .slice A4 (T.map m).vals.length q4] #[.int .i64 (T.text p).kind, .int .i64 (T.text p).num, .string (T.text p).txt, .slice B5 (T.text p).keys.length p5, .slice B6 (T.text p).vals.length p6] (T.map (mapTo svcF lv 0)) (T.map (netN m 0)) wc := by rw [mapTo_zero, netN_zero]; exact hNc
      have HN0 := Lib.hid hN0
      clear hN0 hNc HNI hnet hsz4
      have hfl : Fine (.map lv) := HV.out.2.1.get (t := .map m) HT.out.2.2.2.2
      have hsvl : svcs m = lv := svcs_of HT.out.2.2.2.2
      have hll : lv.length ≤ 67108864 := by have := hfl.len.1; simpa [T.vals] using this
      have HL := Lib.hid (And.intro hfl hsvl)
      clear hfl hsvl
      go_wp2_with fail
      refine wp_loop_fr bsNL (by decide) (fun g f wx => ∃ n : Nat, n ≤ lv.length ∧ g = lv.length - n ∧ f 10 = .int .i64 n ∧ NI o w LB PB NB #[.int .i64 (T.map m).kind, .int .i64 (T.map m).num, .string (T.map m).txt, .slice A3 (T.map m).keys.length q3, .slice A4 (T.map m).vals.length q4] #[.int .i64 (T.text p).kind, .int .i64 (T.text p).num, .string (T.text p).txt, .slice B5 (T.text p).keys.length p5, .slice B6 (T.text p).vals.length p6] (T.map (mapTo svcF lv n)) (T.map (netN m n)) wx ∧ SvcsTo lv n) lv.length ⟨0, Nat.zero_le _, by omega, rfl, HN0.out, by intro q hq; simp at hq⟩ ?_
      intro gk f2 wr hrel J2 K2 hJ2 hK2
      obtain ⟨n, hn, rfl, h10, hNr, hST⟩ := hrel
      dsimp only [fr_mk, frL, bsNL]
      rw [h10]
      have HJ2 := Lib.hid hJ2
      have HNR := Lib.hid hNr
      have HST := Lib.hid hST
      clear hJ2 h10 HN0 hST
      obtain ⟨E7, r7, E8, r8, hdb, hdr⟩ := hNr.lbx
      have HDX := Lib.hid (And.intro hdb hdr)
      obtain ⟨l0, l1, l2, l3, l4, lf⟩ := cells5 hdb
      have hml : (mapTo svcF lv n).length = lv.length := mapTo_length
      have hkl : (T.map (mapTo svcF lv n)).keys.length = lv.length := by simp [T.keys, hml]
      have HKL := Lib.hid hkl
      have hNBr : NB < wr.heap.size := by obtain ⟨_, _, _, _, hb, _⟩ := hNr.nbx; exact (Array.getElem?_eq_some_iff.1 hb).1
      clear hNr hdb hkl
      by_cases hlt2 : n < lv.length
      · have hn64 : n ≤ 67108864 := by omega
        obtain ⟨q, hq⟩ : ∃ q, lv[n]? = some q := ⟨_, List.getElem?_eq_getElem hlt2⟩
        obtain ⟨k, x⟩ := q
        have hqn : (mapTo svcF lv n)[n]? = some (k, x) := mapTo_at hq
        obtain ⟨hk8, hv8⟩ := hdr.kv
        obtain ⟨gk, ck, ek, hgk, yk⟩ := hk8.elem (n := n) (s := k) (by simp [T.keys, hqn])
        obtain ⟨ge, ce, X5, x5, X6, x6, ee, hge, rx, ye⟩ := hv8.lo_elem (n := n) (x := x) (by simp [T.vals, hqn])
        cases ek
        cases ee
        have hfx : Fine x := HL.out.1.vals (List.mem_of_getElem? (l := (T.map lv).vals) (i := n) (by simp [T.vals, hq]))
        have hks : k.size ≤ 67108864 := HL.out.1.key (k := k) (List.mem_of_getElem? (l := (T.map lv).keys) (i := n) (by simp [T.keys, hq]))
        have hzx : T.size x ≤ 16777216 := Nat.le_trans (svcs_size HT.out.2.2.2.2 hq) HV.out.2.2.1
        have YK := Lib.hid yk
        have HRX := Lib.hid rx
        have HXM := Lib.hid hq
        obtain ⟨y0, y1, y2, y3, y4⟩ := ye wr (Chg.refl _ _)
        have hlk : n < (T.map (mapTo svcF lv n)).keys.length := by rw [HKL.out]; exact hlt2
        have hlv' : n < (T.map (mapTo svcF lv n)).vals.length := by simp [T.vals, hml]; exact hlt2
        have hsr : w.heap.size ≤ wr.heap.size := HNR.out.chg.size
        clear hq hqn hk8 hv8 hdr yk ye rx
        go_wp2_with fail
        clear l0 l1 l2 l3 l4 lf y0 y1 y2 y3 y4
        refine (normService_any (o := OffC o LB NB (w.heap.size + 1)) x _ wr (HRX.out.weak fun b hb => hb.1) hfx hzx (fun b hb => ⟨HV.out.2.2.2 b (by omega), by omega, by omega, by omega⟩)).mono ?_
        rintro e w2 ⟨v2, b1, rfl, hc2, ⟨c0, c1, c2, c3, c4, c5, c6, c7, c8, rfl⟩, hsv⟩
        obtain ⟨W2, hW2⟩ : ∃ W2, W2 = w2.alloc (.cells #[.int .i64 c0, .int .i64 c1, .string c2, .slice c3 c4 c5, .slice c6 c7 c8] 25) := ⟨_, rfl⟩
        have hc22 : Chg [] w2 W2 := hW2 ▸ (Chg.refl [] w2).al _
        have hcr2 : Chg [] wr W2 := hc2.trans hc22 New.nil
        have zX : W2.heap[w2.heap.size]? = some (.cells #[.int .i64 c0, .int .i64 c1, .string c2, .slice c3 c4 c5, .slice c6 c7 c8] 25) := hW2 ▸ heap_alloc_new w2 _
        have hsX : wr.heap.size ≤ w2.heap.size ∧ w2.heap.size < W2.heap.size := ⟨hc2.size, by rw [hW2]; simp⟩
        have zr := (HNR.out.go hcr2).res
        have hchr := (HNR.out.go hcr2).chg
        cases b1 with
        | false =>
          clear hsv
          obtain ⟨a0, a1, a2, a3, a4, af⟩ := cells5 (HNR.out.go hcr2).par
          obtain ⟨d0, d1, d2, d3, d4, df⟩ := cells5 zr
          rw [hW2] at a0 a1 a2 a3 a4 af d0 d1 d2 d3 d4 df
          go_wp2
          rw [← hW2]
          obtain ⟨W, hW, Q, hne, hcW, _⟩ := store5 zr hchr (by omega : w.heap.size ≤ w.heap.size + 1) (.int .i64 (T.map m).kind) (.int .i64 (T.map m).num) (.string (T.map m).txt) (.slice A3 (T.map m).keys.length q3) (.slice A4 (T.map m).vals.length q4)
          rw [← hW]
          obtain ⟨e0, e1, e2, e3, e4, _⟩ := cells5 Q
          exact bodyPost_ret (v := .tuple #[.agg #[.int .i64 (T.map m).kind, .int .i64 (T.map m).num, .string (T.map m).txt, .slice A3 (T.map m).keys.length q3, .slice A4 (T.map m).vals.length q4], .bool false]) (by simp [results, Tryz.results10, go_sem, e0, e1, e2, e3, e4]) rfl ⟨_, false, rfl, hcW, ⟨_, _, _, _, _, _, _, _, _, rfl⟩, fun h => by cases h⟩
        | true =>
          obtain ⟨h5, hneeds, hkeys, hrs⟩ := hsv rfl
          obtain ⟨s, rfl⟩ := kind_map h5
          have HSOK : Hid (SvcOK s) := Lib.hid (svcOK_of hfx.wf hkeys hneeds)
          have HFX := Lib.hid hfx
          have HZS := Lib.hid hzx
          obtain ⟨l0, l1, l2, l3, l4, lf⟩ := cells5 (box5 HDX.out.1 _ hcr2)
          have yk := YK.out _ hcr2
          rw [hW2] at l0 l1 l2 l3 l4 lf yk
          clear h5 hneeds hkeys hsv
          go_wp2_with fail
          rw [← hW2]
          obtain ⟨XB, hXB⟩ : ∃ XB, XB = w2.heap.size := ⟨_, rfl⟩
          rw [← hXB] at zX hsX ⊢
          clear l0 l1 l2 l3 l4 lf yk
          refine (sayName_any k _ hks).mono ?_
          rintro e w3 ⟨b2, rfl, hc3⟩
          have HC3 : Hid (Chg [] wr w3) := Lib.hid (hcr2.trans hc3 New.nil)
          have HZX := Lib.hid (And.intro (box5 zX _ hc3) ((hrs.chg hc22).chg hc3))
          have hsW3 : W2.heap.size ≤ w3.heap.size := hc3.size
          clear zX hrs hc22 hcr2 hc2 hc3 hW2 hXB zr hchr hfx hzx
          cases b2 with
          | false =>
            have zr := (HNR.out.go HC3.out).res
            have hchr := (HNR.out.go HC3.out).chg
            obtain ⟨a0, a1, a2, a3, a4, af⟩ := cells5 (HNR.out.go HC3.out).par
            obtain ⟨d0, d1, d2, d3, d4, df⟩ := cells5 zr
            go_wp2
            obtain ⟨W, hW, Q, hne, hcW, _⟩ := store5 zr hchr (by omega : w.heap.size ≤ w.heap.size + 1) (.int .i64 (T.map m).kind) (.int .i64 (T.map m).num) (.string (T.map m).txt) (.slice A3 (T.map m).keys.length q3) (.slice A4 (T.map m).vals.length q4)
            rw [← hW]
            obtain ⟨e0, e1, e2, e3, e4, _⟩ := cells5 Q
            exact bodyPost_ret (v := .tuple #[.agg #[.int .i64 (T.map m).kind, .int .i64 (T.map m).num, .string (T.map m).txt, .slice A3 (T.map m).keys.length q3, .slice A4 (T.map m).vals.length q4], .bool false]) (by simp [results, Tryz.results10, go_sem, e0, e1, e2, e3, e4]) rfl ⟨_, false, rfl, hcW, ⟨_, _, _, _, _, _, _, _, _, rfl⟩, fun h => by cases h⟩
          | true =>
            go_wp2_with fail
            rename_i K hK
            have HK := Lib.hid hK
            clear hK
            refine wp_region_tail (by rfl) (by kernel_rfl) [4, 10, 11] (by kernel_rfl)
              (fun j u V => match j with
                | 0 => u = .agg #[.int .i64 (T.map (mapTo svcF lv n)).kind, .int .i64 (T.map (mapTo svcF lv n)).num, .string (T.map (mapTo svcF lv n)).txt, .slice (some ⟨gk, 0, none⟩) (T.map (mapTo svcF lv n)).keys.length r7, .slice (some ⟨ge, 0, none⟩) (T.map (mapTo svcF lv n)).vals.length r8]
                | 1 => u = .pointer (some ⟨LB, 3, none⟩)
                | 2 => u = .slice (some ⟨gk, 0, none⟩) (T.map (mapTo svcF lv n)).keys.length r7
                | 3 => u = .int .i64 ↑n
                | 4 => u = .pointer (some ⟨gk, n, none⟩)
                | 5 => u = .string k
                | 6 => u = .agg #[.int .i64 c0, .int .i64 c1, .string c2, .slice c3 c4 c5, .slice c6 c7 c8]
                | 7 => Rd (OffC o LB NB (w.heap.size + 1)) V (T.map (mapTo svcF lv (n + 1))) u
                | _ => True) ?_ ?_ ?_
            · intro j u V V' hc hφ
              rcases j with _ | _ | _ | _ | _ | _ | _ | _ | j
              all_goals first | exact hφ | exact Rd.chg hφ hc
            · intro j oo hj ho a' w' hst hch hdep K2 hK2
              have hsz : w3.heap.size ≤ w'.heap.size := hch.size
              have hcB : Chg [] w3 w' := (Chg.refl [] w3).dr.trans hch New.nil
              have hcr : Chg [] wr w' := HC3.out.trans hcB New.nil
              have hsz3 : wr.heap.size ≤ w'.heap.size := hcr.size
              have hcw : w.heap.size ≤ wr.heap.size := HNR.out.chg.size
              obtain ⟨l0, l1, l2, l3, l4, lf⟩ := cells5 (box5 HDX.out.1 _ hcr)
              obtain ⟨x0, x1, x2, x3, x4, xf⟩ := cells5 (box5 HZX.out.1 _ hcB)
              have yk := YK.out _ hcr
              have HW : Hid (Rd (OffC o LB NB (w.heap.size + 1)) w' (T.map (mapTo svcF lv n)) (.agg #[.int .i64 (T.map (mapTo svcF lv n)).kind, .int .i64 (T.map (mapTo svcF lv n)).num, .string (T.map (mapTo svcF lv n)).txt, .slice (some ⟨gk, 0, none⟩) (T.map (mapTo svcF lv n)).keys.length r7, .slice (some ⟨ge, 0, none⟩) (T.map (mapTo svcF lv n)).vals.length r8]) ∧ Rd (OffC o LB NB (w.heap.size + 1)) w' (svcF k (.map s)) (.agg #[.int .i64 c0, .int .i64 c1, .string c2, .slice c3 c4 c5, .slice c6 c7 c8]) ∧ (mapTo svcF lv n).length ≤ 67108864 ∧ ∀ b, w'.heap.size ≤ b → OffC o LB NB (w.heap.size + 1) b) := Lib.hid ⟨HDX.out.2.chg hcr, HZX.out.2.chg hcB, by omega, fun b hb => ⟨HV.out.2.2.2 b (by omega), by omega, by omega, by omega⟩⟩
              have hj' : j < 8 := hj
              rcases j with _ | _ | _ | _ | _ | _ | _ | _ | j
              · obtain rfl : _ = oo := Option.some.inj ho  -- 0: slot 69
                have h4 := g_eq (t := 4) (v := .pointer (some ⟨LB, 0, none⟩)) (hst 4 (by simp))
                unfold Oper.wp
                go_simp
                exact ⟨_, rfl, hK2 _ _ (Chg.refl _ _) rfl⟩
              · obtain rfl : _ = oo := Option.some.inj ho  -- 1: slot 70
                have h4 := g_eq (t := 4) (v := .pointer (some ⟨LB, 0, none⟩)) (hst 4 (by simp))
                unfold Oper.wp
                go_simp
                exact ⟨_, rfl, hK2 _ _ (Chg.refl _ _) rfl⟩
              · obtain rfl : _ = oo := Option.some.inj ho  -- 2: slot 71
                have h70 := g_eq (t := 70) (v := .pointer (some ⟨LB, 3, none⟩)) (hdep 1 (by kernel_rfl))
                unfold Oper.wp
                go_simp
                exact ⟨_, rfl, hK2 _ _ (Chg.refl _ _) rfl⟩
              · obtain rfl : _ = oo := Option.some.inj ho  -- 3: slot 72
                have h10 := g_eq (t := 10) (v := .int .i64 ↑n) (hst 10 (by simp))
                unfold Oper.wp
                go_simp
                exact ⟨_, rfl, hK2 _ _ (Chg.refl _ _) rfl⟩
              · obtain rfl : _ = oo := Option.some.inj ho  -- 4: slot 73
                have h71 := g_eq (t := 71) (v := .slice (some ⟨gk, 0, none⟩) (T.map (mapTo svcF lv n)).keys.length r7) (hdep 2 (by kernel_rfl))
                have h72 := g_eq (t := 72) (v := .int .i64 ↑n) (hdep 3 (by kernel_rfl))
                unfold Oper.wp
                go_simp
                exact ⟨_, rfl, hK2 _ _ (Chg.refl _ _) rfl⟩
              · obtain rfl : _ = oo := Option.some.inj ho  -- 5: slot 74
                have h73 := g_eq (t := 73) (v := .pointer (some ⟨gk, n, none⟩)) (hdep 4 (by kernel_rfl))
                unfold Oper.wp
                go_simp
                exact ⟨_, rfl, hK2 _ _ (Chg.refl _ _) rfl⟩
              · obtain rfl : _ = oo := Option.some.inj ho  -- 6: slot 75
                have h11 := g_eq (t := 11) (v := .pointer (some ⟨XB, 0, none⟩)) (hst 11 (by simp))
                unfold Oper.wp
                go_simp
                exact ⟨_, rfl, hK2 _ _ (Chg.refl _ _) rfl⟩
              · obtain rfl : _ = oo := Option.some.inj ho  -- 7: slot 76
                have h69 := g_eq (t := 69) (v := .agg #[.int .i64 (T.map (mapTo svcF lv n)).kind, .int .i64 (T.map (mapTo svcF lv n)).num, .string (T.map (mapTo svcF lv n)).txt, .slice (some ⟨gk, 0, none⟩) (T.map (mapTo svcF lv n)).keys.length r7, .slice (some ⟨ge, 0, none⟩) (T.map (mapTo svcF lv n)).vals.length r8]) (hdep 0 (by kernel_rfl))
                have h74 := g_eq (t := 74) (v := .string k) (hdep 5 (by kernel_rfl))
                have h75 := g_eq (t := 75) (v := .agg #[.int .i64 c0, .int .i64 c1, .string c2, .slice c3 c4 c5, .slice c6 c7 c8]) (hdep 6 (by kernel_rfl))
                have h69 := g_eq (t := 69) (v := .agg #[.int .i64 (T.map (mapTo svcF lv n)).kind, .int .i64 (T.map (mapTo svcF lv n)).num, .string (T.map (mapTo svcF lv n)).txt, .slice (some ⟨gk, 0, none⟩) (T.map (mapTo svcF lv n)).keys.length r7, .slice (some ⟨ge, 0, none⟩) (T.map (mapTo svcF lv n)).vals.length r8]) (hdep 0 (by kernel_rfl))
                have h74 := g_eq (t := 74) (v := .string k) (hdep 5 (by kernel_rfl))
                have h75 := g_eq (t := 75) (v := .agg #[.int .i64 c0, .int .i64 c1, .string c2, .slice c3 c4 c5, .slice c6 c7 c8]) (hdep 6 (by kernel_rfl))
                unfold Oper.wp
                go_simp
                refine (with_map (o := OffC o LB NB (w.heap.size + 1)) (mapTo svcF lv n) (svcF k (.map s)) _ _ k w' HW.out.1 (mapTo_srt HL.out.1.wf.1) HW.out.2.1 HW.out.2.2.1 HW.out.2.2.2).mono ?_
                rintro e w4 ⟨v', rfl, hc4, hr4⟩
                rw [mapTo_step HL.out.1.wf.1 HXM.out] at hr4
                exact ⟨_, rfl, hK2 _ _ hc4 hr4⟩
              · omega
            · intro oo ho u w' hch hφ A2 hA2
              obtain rfl : _ = oo := Option.some.inj ho
              have l7 : 7 < 8 := by omega
              have hu7 : Rd (OffC o LB NB (w.heap.size + 1)) w' (T.map (mapTo svcF lv (n + 1))) (u 7) := hφ 7 l7
              obtain ⟨H5, h5, H6, h6, hu, _⟩ := hu7.five
              rw [hu] at hu7
              have hcB : Chg [] w3 w' := (Chg.refl [] w3).dr.trans hch New.nil
              have hcr : Chg [] wr w' := HC3.out.trans hcB New.nil
              have hszw : w3.heap.size ≤ w'.heap.size := hcB.size
              have HN4 := Lib.hid (HNR.out.go hcr)
              obtain ⟨W5, hW5⟩ : ∃ W5, W5 = (((((w'.setCell ⟨LB, 0, none⟩ (.int .i64 (T.map (mapTo svcF lv (n + 1))).kind)).setCell ⟨LB, 1, none⟩ (.int .i64 (T.map (mapTo svcF lv (n + 1))).num)).setCell ⟨LB, 2, none⟩ (.string (T.map (mapTo svcF lv (n + 1))).txt)).setCell ⟨LB, 3, none⟩ (.slice H5 (T.map (mapTo svcF lv (n + 1))).keys.length h5)).setCell ⟨LB, 4, none⟩ (.slice H6 (T.map (mapTo svcF lv (n + 1))).vals.length h6)) := ⟨_, rfl⟩
              obtain ⟨hn5, hne⟩ := HN4.out.putL hu7 W5 hW5
              have HN5 := Lib.hid hn5
              have HR5 : Hid (Rd (OffC o LB NB (w.heap.size + 1)) W5 (.map (svcS s)) (.agg #[.int .i64 c0, .int .i64 c1, .string c2, .slice c3 c4 c5, .slice c6 c7 c8])) := Lib.hid ((HZX.out.2.chg hcB).to fun b _ ho => ⟨ho, hne b ho.2.1⟩)
              have zx5 := (hne XB (by omega)).trans (box5 HZX.out.1 _ hcB)
              have hs5 : W5.heap.size = w'.heap.size := by rw [hW5]; simp
              have hbz := box5 HDX.out.1 _ hcr
              obtain ⟨x0, x1, x2, x3, x4, xf⟩ := cells5 zx5
              rw [hW5] at x0 x1 x2 x3 x4 xf
              simp [putAll, dOf, Act.put, hu] at hA2
              subst hA2
              clear hφ l7 ho hu hu7 hcB hcr hch hn5 hne zx5
              obtain ⟨b0, b1, b2, b3, b4, bf⟩ := cells5 hbz
              clear hbz
              unfold Oper.wp
              go_simp
              refine HK.out _ _ ?_
              clear HK b0 b1 b2 b3 b4 bf
              go_wp2_with fail
              rw [← hW5]
              clear hW5 x0 x1 x2 x3 x4 xf
              have hsl := map_len HZS.out
              have hln := svcS_len (s := s)
              refine (get_any (o := OffC o LB NB (w.heap.size + 1)) (.map (svcS s)) _ kNetworks W5 HR5.out (fun m' e => by cases e; exact svcS_srt HSOK.out.srt) (by simp [T.keys]; omega)).mono ?_
              rintro e w6 ⟨v6, rfl, hc6, hr6⟩
              obtain ⟨ot, hot⟩ : ∃ ot, ot = (tget kNetworks (.map (svcS s))).getD .null := ⟨_, rfl⟩
              rw [← hot] at hr6
              have hfo : Fine ot := hot ▸ svcS_fine HFX.out
              obtain ⟨O5, o5, O6, o6, rfl, hyz⟩ := hr6.five
              clear hyz
              generalize (tget kNetworks (.map (svcS s))).isSome = g5
              obtain ⟨y0, y1, y2, y3, y4, yf⟩ := cells5 (show (w6.alloc (.cells #[.int .i64 (ot).kind, .int .i64 (ot).num, .string (ot).txt, .slice O5 (ot).keys.length o5, .slice O6 (ot).vals.length o6] 25)).heap[w6.heap.size]? = some _ from heap_alloc_new w6 _)
              have hca : Chg [] W5 (w6.alloc (.cells #[.int .i64 (ot).kind, .int .i64 (ot).num, .string (ot).txt, .slice O5 (ot).keys.length o5, .slice O6 (ot).vals.length o6] 25)) := hc6.trans ((Chg.refl [] w6).al _) New.nil
              have hra := hr6.chg ((Chg.refl [] w6).al (.cells #[.int .i64 (ot).kind, .int .i64 (ot).num, .string (ot).txt, .slice O5 (ot).keys.length o5, .slice O6 (ot).vals.length o6] 25))
              have HO := Lib.hid (And.intro hra (And.intro hca hot))
              clear hc6 hr6 hca hra hot
              go_wp2_with fail
              clear y0 y1 y2 y3 y4 yf
              refine (has_any (o := OffC o LB NB (w.heap.size + 1)) ot _ kDefault _ HO.out.1 hfo.wf.srt hfo.len.2.2).mono ?_
              rintro e w7 ⟨rfl, hc7⟩
              obtain ⟨bd, hbd⟩ : ∃ bd, (tget kDefault ot).isSome = bd := ⟨_, rfl⟩
              rw [hbd]
              have HBD : Hid (hasDef (svcS s) = bd) := Lib.hid (by rw [← hbd, HO.out.2.2]; exact hasDef_get.symm)
              have HN7 := Lib.hid (HN5.out.go (HO.out.2.1.trans hc7 New.nil))
              have HSV2 : Hid ((svcs m)[n]? = some (k, .map s)) := Lib.hid (by rw [HL.out.2]; exact HXM.out)
              clear hbd hc7
              cases bd with
              | false =>
                have HE : Hid (netN m (n + 1) = netN m n) := Lib.hid (by rw [netN_step HSV2.out]; show (if hasDef (svcS s) && _ then _ else _) = _; rw [HBD.out]; rfl)
                go_wp2_with fail
                exact Handed.intro (lv.length - (n + 1)) (by omega) (HJ2.out _ _ _ (Ag.mk (by simp only [agL, bsNL, true_and, and_true] <;> rfl)) ⟨n + 1, by omega, rfl, by show Value.int _ _ = _; go_num, by rw [HE.out]; exact HN7.out, HST.out.step HXM.out rfl HSOK.out⟩)
              | true =>
                obtain ⟨G5, g5', G6, g6', hnb, hnr⟩ := HN7.out.nbx
                have HNB := Lib.hid (And.intro hnb hnr)
                obtain ⟨n0, n1, n2, n3, n4, nf⟩ := cells5 hnb
                clear hnb hnr
                have hfn : Fine (T.map (netN m n)) := netN_fine HV.out.2.1 HV.out.2.2.1
                go_wp2_with fail
                refine (has_any (o := OffC o LB NB (w.heap.size + 1)) (T.map (netN m n)) _ kDefault _ HNB.out.2 hfn.wf.srt hfn.len.2.2).mono ?_
                rintro e w8 ⟨rfl, hc8⟩
                obtain ⟨bn, hbn⟩ : ∃ bn, (tget kDefault (T.map (netN m n))).isSome = bn := ⟨_, rfl⟩
                rw [hbn]
                have HBN : Hid (hasK kDefault (netN m n) = bn) := Lib.hid hbn
                have HN8 := Lib.hid (HN7.out.go hc8)
                have HNB8 := Lib.hid (And.intro (box5 HNB.out.1 _ hc8) (HNB.out.2.chg hc8))
                clear hbn hc8 n0 n1 n2 n3 n4 nf
                cases bn with
                | true =>
                  have HE : Hid (netN m (n + 1) = netN m n) := Lib.hid (by rw [netN_step HSV2.out, HBN.out]; simp)
                  go_wp2_with fail
                  exact Handed.intro (lv.length - (n + 1)) (by omega) (HJ2.out _ _ _ (Ag.mk (by simp only [agL, bsNL, true_and, and_true] <;> rfl)) ⟨n + 1, by omega, rfl, by show Value.int _ _ = _; go_num, by rw [HE.out]; exact HN8.out, HST.out.step HXM.out rfl HSOK.out⟩)
                | false =>
                  have HE : Hid (netN m (n + 1) = mins kDefault .null (netN m n)) := Lib.hid (by rw [netN_step HSV2.out]; show (if hasDef (svcS s) && _ then _ else _) = _; rw [HBD.out, HBN.out]; rfl)
                  obtain ⟨n0, n1, n2, n3, n4, nf⟩ := cells5 HNB8.out.1
                  go_wp2_with fail
                  refine (with_map (o := OffC o LB NB (w.heap.size + 1)) (netN m n) .null _ _ kDefault w8 HNB8.out.2 hfn.wf.1 (Rd.zero _) (by have := hfn.len.1; simpa [T.vals] using this) (fun b hb => ⟨HV.out.2.2.2 b (by have := HN8.out.chg.size; omega), ?_, ?_, ?_⟩)).mono ?_
                  · have h1 := (Array.getElem?_eq_some_iff.1 HNB8.out.1).1; omega
                  · have h1 := (Array.getElem?_eq_some_iff.1 HNB8.out.1).1; omega
                  · have h1 := (Array.getElem?_eq_some_iff.1 HNB8.out.1).1; omega
                  rintro e w9 ⟨v9, rfl, hc9, hr9⟩
                  rw [← HE.out] at hr9
                  obtain ⟨I5, i5, I6, i6, rfl, hyz⟩ := hr9.five
                  clear hyz n0 n1 n2 n3 n4 nf
                  have HN9 := Lib.hid (HN8.out.go hc9)
                  have HR9 := Lib.hid hr9
                  obtain ⟨n0, n1, n2, n3, n4, nf⟩ := cells5 (box5 HNB8.out.1 _ hc9)
                  clear hc9 hr9
                  go_wp2_with fail
                  exact Handed.intro (lv.length - (n + 1)) (by omega) (HJ2.out _ _ _ (Ag.mk (by simp only [agL, bsNL, true_and, and_true] <;> rfl)) ⟨n + 1, by omega, rfl, by show Value.int _ _ = _; go_num, HN9.out.putN HR9.out _ rfl, HST.out.step HXM.out rfl HSOK.out⟩)
      · have hlk : ¬ n < (T.map (mapTo svcF lv n)).keys.length := by rw [HKL.out]; omega
        have hE : n = lv.length := by omega
        have HNN : Hid (netN m n = nets1 m) := Lib.hid (netN_all (by rw [HL.out.2]; exact hE))
        have HMOD : Hid (ModelOK m) := Lib.hid (modelOK_of HV.out.2.1.wf HT.out.1 HT.out.2.1 HT.out.2.2.1 (by
          rw [HL.out.2]
          have h1 := HST.out
          unfold SvcsTo at h1
          rwa [hE, List.take_length] at h1))
        have HOE : Hid (mapTo svcF lv n = onS svcS (svcs m)) := Lib.hid (by rw [HL.out.2]; exact svcF_all hE)
        have HPJ : Hid (prj m = p) := Lib.hid (by unfold prj; rw [HT.out.2.2.2.1])
        have hpz : p.size ≤ 67108864 := by
          have h1 : Fine (.text p) := HV.out.2.1.get (t := .map m) HT.out.2.2.2.1
          exact h1.wf
        have hmlen : m.length ≤ 16777216 := map_len HV.out.2.2.1
        have hsm : Hid (Srt m) := Lib.hid HV.out.2.1.wf.1
        have hsr : w.heap.size ≤ wr.heap.size := HNR.out.chg.size
        obtain ⟨a0, a1, a2, a3, a4, af⟩ := cells5 HNR.out.par
        clear hE hdr
        go_wp2_with fail
        clear l0 l1 l2 l3 l4 lf a0 a1 a2 a3 a4 af
        refine (with_map (o := OffC o LB NB (w.heap.size + 1)) m (T.map (mapTo svcF lv n)) _ _ kServices wr ((HV.out.1.to fun b hb ho => ⟨⟨ho, by omega, by omega, by omega⟩, rfl⟩ : Rd (OffC o LB NB (w.heap.size + 1)) w (.map m) _).chg HNR.out.chg) hsm.out HDX.out.2 (by omega) (fun b hb => ⟨HV.out.2.2.2 b (by omega), by omega, by omega, by omega⟩)).mono ?_
        rintro e w9 ⟨v9, rfl, hc9, hr9⟩
        obtain ⟨ou, hou⟩ : ∃ ou, ou = mins kServices (T.map (mapTo svcF lv n)) m := ⟨_, rfl⟩
        rw [← hou] at hr9
        obtain ⟨M5, m5, M6, m6, rfl, hyz⟩ := hr9.five
        clear hyz
        have HOU : Hid (ou = mins kServices (.map (onS svcS (svcs m))) m ∧ Srt ou ∧ ou.length ≤ 67108864) := Lib.hid ⟨by rw [← HOE.out]; exact hou, by rw [hou]; exact hsm.out.srt_ins, by rw [hou]; have := ins_len_le (k := kServices) (x := T.map (mapTo svcF lv n)) (m := m); omega⟩
        clear hou
        obtain ⟨W9, hW9⟩ : ∃ W9, W9 = w9.alloc (.cells #[.int .i64 (T.map ou).kind, .int .i64 (T.map ou).num, .string (T.map ou).txt, .slice M5 (T.map ou).keys.length m5, .slice M6 (T.map ou).vals.length m6] 25) := ⟨_, rfl⟩
        have hc99 : Chg [] w9 W9 := hW9 ▸ (Chg.refl [] w9).al _
        have hcr9 : Chg [] wr W9 := hc9.trans hc99 New.nil
        have zO : W9.heap[w9.heap.size]? = some (.cells #[.int .i64 (T.map ou).kind, .int .i64 (T.map ou).num, .string (T.map ou).txt, .slice M5 (T.map ou).keys.length m5, .slice M6 (T.map ou).vals.length m6] 25) := hW9 ▸ heap_alloc_new w9 _
        have hsO : wr.heap.size ≤ w9.heap.size ∧ w9.heap.size < W9.heap.size := ⟨hc9.size, by rw [hW9]; simp⟩
        obtain ⟨Y5, y5, Y6, y6, hnb, hnr⟩ := (HNR.out.go hcr9).nbx
        obtain ⟨n0, n1, n2, n3, n4, nf⟩ := cells5 hnb
        obtain ⟨OUT, hOUT⟩ : ∃ OUT, OUT = w9.heap.size := ⟨_, rfl⟩
        have HOUT := Lib.hid hOUT
        rw [← hOUT] at zO hsO
        have hOI : OI o w PB OUT #[.int .i64 (T.map m).kind, .int .i64 (T.map m).num, .string (T.map m).txt, .slice A3 (T.map m).keys.length q3, .slice A4 (T.map m).vals.length q4] #[.int .i64 (T.text p).kind, .int .i64 (T.text p).num, .string (T.text p).txt, .slice B5 (T.text p).keys.length p5, .slice B6 (T.text p).vals.length p6] (T.map ou) W9 := by
          have h1 := HNR.out.go hcr9
          refine ⟨h1.chg, h1.par, h1.res, h1.pbx, ⟨by omega, by omega⟩, M5, m5, M6, m6, zO, ?_⟩
          exact (hr9.to fun b hb ho => ⟨⟨ho.1, by omega, ho.2.2.2⟩, rfl⟩ : Rd (OffB o OUT (w.heap.size + 1)) w9 (T.map ou) _).chg hc99
        have hnx : Rd (OffB o OUT (w.heap.size + 1)) W9 (T.map (netN m n)) (.agg #[.int .i64 (T.map (netN m n)).kind, .int .i64 (T.map (netN m n)).num, .string (T.map (netN m n)).txt, .slice Y5 (T.map (netN m n)).keys.length y5, .slice Y6 (T.map (netN m n)).vals.length y6]) := by
          obtain ⟨Z5, z5, Z6, z6, hb, hr⟩ := HNR.out.nbx
          have h1 := (box5 hb _ hcr9).symm.trans hnb
          simp only [Option.some.injEq, Obj.cells.injEq, Array.mk.injEq, List.cons.injEq, Value.slice.injEq, and_true, true_and] at h1
          obtain ⟨⟨rfl, rfl⟩, rfl, rfl⟩ := h1
          exact (hr.to fun b hb ho => ⟨⟨ho.1, by omega, ho.2.2.2⟩, rfl⟩ : Rd (OffB o OUT (w.heap.size + 1)) wr (T.map (netN m n)) _).chg hcr9
        have HOI := Lib.hid hOI
        have HNX := Lib.hid (And.intro hnb hnx)
        have HOB : Hid (W9.heap[OUT]? = some (.cells #[.int .i64 (T.map ou).kind, .int .i64 (T.map ou).num, .string (T.map ou).txt, .slice M5 (T.map ou).keys.length m5, .slice M6 (T.map ou).vals.length m6] 25) ∧ Rd (OffB o OUT (w.heap.size + 1)) W9 (T.map ou) (.agg #[.int .i64 (T.map ou).kind, .int .i64 (T.map ou).num, .string (T.map ou).txt, .slice M5 (T.map ou).keys.length m5, .slice M6 (T.map ou).vals.length m6])) := Lib.hid ⟨zO, (hr9.to fun b hb ho => ⟨⟨ho.1, by omega, ho.2.2.2⟩, rfl⟩ : Rd (OffB o OUT (w.heap.size + 1)) w9 (T.map ou) _).chg hc99⟩
        rw [hW9] at n0 n1 n2 n3 n4 nf
        clear hOI hnx hnb hnr zO hr9 hc9 hc99 hcr9 hOUT
        go_upto_if 98 with fail
        rw [← hW9, ← HOUT.out]
        clear hW9 HOUT n0 n1 n2 n3 n4 nf
        have hsw9 : w.heap.size ≤ W9.heap.size := HOI.out.chg.size
        have hltO := HOI.out.lt
        have hfn : Fine (T.map (netN m n)) := netN_fine HV.out.2.1 HV.out.2.2.1
        have HRES : Hid (∀ q ∈ netN m n, ResOK q.2) := Lib.hid (by rw [HNN.out]; exact (nets1_ok HMOD.out).2)
        refine wp_cut_fr bsN1 (by decide) (fun f wx => OI o w PB OUT #[.int .i64 (T.map m).kind, .int .i64 (T.map m).num, .string (T.map m).txt, .slice A3 (T.map m).keys.length q3, .slice A4 (T.map m).vals.length q4] #[.int .i64 (T.text p).kind, .int .i64 (T.text p).num, .string (T.text p).txt, .slice B5 (T.text p).keys.length p5, .slice B6 (T.text p).vals.length p6] (T.map (normS2 m)) wx) ?first ?rest
        case first =>
          intro J3 K3 hJ3 hK3
          have HJ3 := Lib.hid hJ3
          clear hJ3
          by_cases hne1 : netN m n = []
          · have hlen : (T.map (netN m n)).keys.length = 0 := by rw [hne1]; rfl
            have H2 : Hid (normS2 m = ou) := Lib.hid (by
              unfold normS2
              rw [if_pos (HNN.out ▸ hne1), HOU.out.1])
            clear hne1
            go_wp2_with fail
            exact Met.intro (HJ3.out _ _ (Ag.mk (by simp only [agL, bsN1, true_and, and_true] <;> rfl)) (by rw [H2.out]; exact HOI.out))
          · have hlen : 0 < (T.map (netN m n)).keys.length := by have := List.length_pos_iff.2 hne1; simpa [T.keys] using this
            go_wp2_with fail
            refine wp_region_tail (by rfl) (by kernel_rfl) [6, 8, 15] (by kernel_rfl)
              (fun j u V => match j with
                | 0 => u = .agg #[.int .i64 (T.map ou).kind, .int .i64 (T.map ou).num, .string (T.map ou).txt, .slice M5 (T.map ou).keys.length m5, .slice M6 (T.map ou).vals.length m6]
                | 1 => u = .agg #[.int .i64 (T.map (netN m n)).kind, .int .i64 (T.map (netN m n)).num, .string (T.map (netN m n)).txt, .slice Y5 (T.map (netN m n)).keys.length y5, .slice Y6 (T.map (netN m n)).vals.length y6]
                | 2 => u = .pointer (some ⟨PB, 2, none⟩)
                | 3 => u = .string (T.text p).txt
                | 4 => Rd (OffB o OUT (w.heap.size + 1)) V (.map (named p (netN m n))) u
                | 5 => Rd (OffB o OUT (w.heap.size + 1)) V (.map (mins kNetworks (.map (named p (netN m n))) ou)) u
                | _ => True) ?_ ?_ ?_
            · intro j u V V' hc hφ
              rcases j with _ | _ | _ | _ | _ | _ | j
              all_goals first | exact hφ | exact Rd.chg hφ hc
            · intro j oo hj ho a' w' hst hch hdep K2 hK2
              have hsz : W9.heap.size ≤ w'.heap.size := hch.size
              have hcB : Chg [] W9 w' := (Chg.refl [] W9).dr.trans hch New.nil
              obtain ⟨b0, b1, b2, b3, b4, bf⟩ := cells5 (box5 HOB.out.1 _ hcB)
              obtain ⟨n0, n1, n2, n3, n4, nf⟩ := cells5 (box5 HNX.out.1 _ hcB)
              obtain ⟨p0, p1, p2, p3, p4, pf⟩ := cells5 (HOI.out.go hcB).pbx
              have HW : Hid (Rd (OffB o OUT (w.heap.size + 1)) w' (T.map ou) (.agg #[.int .i64 (T.map ou).kind, .int .i64 (T.map ou).num, .string (T.map ou).txt, .slice M5 (T.map ou).keys.length m5, .slice M6 (T.map ou).vals.length m6]) ∧ Rd (OffB o OUT (w.heap.size + 1)) w' (T.map (netN m n)) (.agg #[.int .i64 (T.map (netN m n)).kind, .int .i64 (T.map (netN m n)).num, .string (T.map (netN m n)).txt, .slice Y5 (T.map (netN m n)).keys.length y5, .slice Y6 (T.map (netN m n)).vals.length y6]) ∧ True ∧ ∀ b, w'.heap.size ≤ b → OffB o OUT (w.heap.size + 1) b) := Lib.hid ⟨HOB.out.2.chg hcB, HNX.out.2.chg hcB, trivial, fun b hb => ⟨HV.out.2.2.2 b (by omega), by omega, by omega⟩⟩
              have hj' : j < 6 := hj
              rcases j with _ | _ | _ | _ | _ | _ | j
              · obtain rfl : _ = oo := Option.some.inj ho  -- 0: slot 99
                have h15 := g_eq (t := 15) (v := .pointer (some ⟨OUT, 0, none⟩)) (hst 15 (by simp))
                unfold Oper.wp
                go_simp
                exact ⟨_, rfl, hK2 _ _ (Chg.refl _ _) rfl⟩
              · obtain rfl : _ = oo := Option.some.inj ho  -- 1: slot 100
                have h8 := g_eq (t := 8) (v := .pointer (some ⟨NB, 0, none⟩)) (hst 8 (by simp))
                unfold Oper.wp
                go_simp
                exact ⟨_, rfl, hK2 _ _ (Chg.refl _ _) rfl⟩
              · obtain rfl : _ = oo := Option.some.inj ho  -- 2: slot 101
                have h6 := g_eq (t := 6) (v := .pointer (some ⟨PB, 0, none⟩)) (hst 6 (by simp))
                unfold Oper.wp
                go_simp
                exact ⟨_, rfl, hK2 _ _ (Chg.refl _ _) rfl⟩
              · obtain rfl : _ = oo := Option.some.inj ho  -- 3: slot 102
                have h101 := g_eq (t := 101) (v := .pointer (some ⟨PB, 2, none⟩)) (hdep 2 (by kernel_rfl))
                unfold Oper.wp
                go_simp
                exact ⟨_, rfl, hK2 _ _ (Chg.refl _ _) rfl⟩
              · obtain rfl : _ = oo := Option.some.inj ho  -- 4: slot 103
                have h100 := g_eq (t := 100) (v := .agg #[.int .i64 (T.map (netN m n)).kind, .int .i64 (T.map (netN m n)).num, .string (T.map (netN m n)).txt, .slice Y5 (T.map (netN m n)).keys.length y5, .slice Y6 (T.map (netN m n)).vals.length y6]) (hdep 1 (by kernel_rfl))
                have h102 := g_eq (t := 102) (v := .string (T.text p).txt) (hdep 3 (by kernel_rfl))
                have h100 := g_eq (t := 100) (v := .agg #[.int .i64 (T.map (netN m n)).kind, .int .i64 (T.map (netN m n)).num, .string (T.map (netN m n)).txt, .slice Y5 (T.map (netN m n)).keys.length y5, .slice Y6 (T.map (netN m n)).vals.length y6]) (hdep 1 (by kernel_rfl))
                have h102 := g_eq (t := 102) (v := .string (T.text p).txt) (hdep 3 (by kernel_rfl))
                unfold Oper.wp
                go_simp
                refine (normNamed_any (o := OffB o OUT (w.heap.size + 1)) (netN m n) p _ w' HW.out.2.1 hfn hpz HRES.out HW.out.2.2.2).mono ?_
                rintro e w4 ⟨v', rfl, hc4, hr4⟩
                exact ⟨_, rfl, hK2 _ _ hc4 hr4⟩
              · obtain rfl : _ = oo := Option.some.inj ho  -- 5: slot 104
                have h99 := g_eq (t := 99) (v := .agg #[.int .i64 (T.map ou).kind, .int .i64 (T.map ou).num, .string (T.map ou).txt, .slice M5 (T.map ou).keys.length m5, .slice M6 (T.map ou).vals.length m6]) (hdep 0 (by kernel_rfl))
                have h99 := g_eq (t := 99) (v := .agg #[.int .i64 (T.map ou).kind, .int .i64 (T.map ou).num, .string (T.map ou).txt, .slice M5 (T.map ou).keys.length m5, .slice M6 (T.map ou).vals.length m6]) (hdep 0 (by kernel_rfl))
                have hr103 : Rd (OffB o OUT (w.heap.size + 1)) w' (.map (named p (netN m n))) (Act.g a' 103) := hdep 4 (by kernel_rfl)
                generalize h103 : Act.g a' 103 = vv at hr103
                have h103 := g_eq (t := 103) h103
                unfold Oper.wp
                go_simp
                refine (with_map (o := OffB o OUT (w.heap.size + 1)) ou (.map (named p (netN m n))) _ _ kNetworks w' HW.out.1 HOU.out.2.1 hr103 HOU.out.2.2 HW.out.2.2.2).mono ?_
                rintro e w4 ⟨v', rfl, hc4, hr4⟩
                exact ⟨_, rfl, hK2 _ _ hc4 hr4⟩
              · omega
            · intro oo ho u w' hch hφ A2 hA2
              obtain rfl : _ = oo := Option.some.inj ho
              have l5' : 5 < 6 := by omega
              have hu5 : Rd (OffB o OUT (w.heap.size + 1)) w' (T.map (mins kNetworks (.map (named p (netN m n))) ou)) (u 5) := hφ 5 l5'
              obtain ⟨H5, h5, H6, h6, hu, _⟩ := hu5.five
              rw [hu] at hu5
              have hcB : Chg [] W9 w' := (Chg.refl [] W9).dr.trans hch New.nil
              have HO4 := Lib.hid (HOI.out.go hcB)
              obtain ⟨W5, hW5⟩ : ∃ W5, W5 = (((((w'.setCell ⟨OUT, 0, none⟩ (.int .i64 (T.map (mins kNetworks (.map (named p (netN m n))) ou)).kind)).setCell ⟨OUT, 1, none⟩ (.int .i64 (T.map (mins kNetworks (.map (named p (netN m n))) ou)).num)).setCell ⟨OUT, 2, none⟩ (.string (T.map (mins kNetworks (.map (named p (netN m n))) ou)).txt)).setCell ⟨OUT, 3, none⟩ (.slice H5 (T.map (mins kNetworks (.map (named p (netN m n))) ou)).keys.length h5)).setCell ⟨OUT, 4, none⟩ (.slice H6 (T.map (mins kNetworks (.map (named p (netN m n))) ou)).vals.length h6)) := ⟨_, rfl⟩
              have HO5 := Lib.hid (HO4.out.put hu5 W5 hW5)
              have HW5 := Lib.hid hW5
              have hbz := box5 HOB.out.1 _ hcB
              simp [putAll, dOf, Act.put, hu] at hA2
              subst hA2
              clear hφ l5' ho hu hu5 hcB hch hW5
              obtain ⟨b0, b1, b2, b3, b4, bf⟩ := cells5 hbz
              clear hbz
              unfold Oper.wp
              go_simp
              clear b0 b1 b2 b3 b4 bf
              refine hK3 _ _ ?_
              rw [← HW5.out]
              refine Met.intro (HJ3.out _ _ (Ag.mk (by simp only [agL, bsN1, true_and, and_true] <;> rfl)) ?_)
              have h2 : normS2 m = mins kNetworks (.map (named p (netN m n))) ou := by
                unfold normS2
                rw [HNN.out] at hne1 ⊢
                rw [if_neg hne1, HPJ.out, HOU.out.1]
              rw [h2]
              exact HO5.out
        case rest =>
          intro f3 wc hOc
          dsimp only [fr_mk, frL, bsN1]
          have HOC := Lib.hid hOc
          clear hOc HOI HNX HOB
          obtain ⟨a0, a1, a2, a3, a4, af⟩ := cells5 HOC.out.par
          go_wp2_with fail
          clear a0 a1 a2 a3 a4 af
          refine (HG.out kVolumes _ HOC.out.chg).mono ?_
          rintro e w7 ⟨v7, rfl, hc7, hr7⟩
          obtain ⟨vt, hvt⟩ : ∃ vt, vt = (tget kVolumes (.map m)).getD .null := ⟨_, rfl⟩
          rw [← hvt] at hr7
          obtain ⟨Y5, y5, Y6, y6, rfl, hyz⟩ := hr7.five
          clear hyz
          obtain ⟨W7, hW7⟩ : ∃ W7, W7 = w7.alloc (.cells #[.int .i64 (vt).kind, .int .i64 (vt).num, .string (vt).txt, .slice Y5 (vt).keys.length y5, .slice Y6 (vt).vals.length y6] 25) := ⟨_, rfl⟩
          have hc77 : Chg [] w7 W7 := hW7 ▸ (Chg.refl [] w7).al _
          have zV : W7.heap[w7.heap.size]? = some (.cells #[.int .i64 (vt).kind, .int .i64 (vt).num, .string (vt).txt, .slice Y5 (vt).keys.length y5, .slice Y6 (vt).vals.length y6] 25) := hW7 ▸ heap_alloc_new w7 _
          have hO7 := HOC.out.go (hc7.trans hc77 New.nil)
          have hsw7 : w.heap.size ≤ W7.heap.size := hO7.chg.size
          have hsO7 : OUT < wc.heap.size := by obtain ⟨_, _, _, _, hb, _⟩ := HOC.out.box; exact (Array.getElem?_eq_some_iff.1 hb).1
          have hs7 : wc.heap.size ≤ w7.heap.size ∧ w7.heap.size < W7.heap.size := ⟨hc7.size, by rw [hW7]; simp⟩
          have HO7 := Lib.hid hO7
          cases hgv : mget kVolumes m with
          | none =>
            have hgi : (tget kVolumes (.map m)).isSome = false := by rw [show tget kVolumes (.map m) = mget kVolumes m from rfl, hgv]; rfl
            rw [hgi]
            have HGV := Lib.hid hgv
            clear hgv hgi hvt zV hr7 hO7
            obtain ⟨R5, r5, R6, r6, hrb, hrr⟩ := (HO7.out).box
            have zr := (HO7.out).res
            have hchr := (HO7.out).chg
            have HRR := Lib.hid hrr
            obtain ⟨b0, b1, b2, b3, b4, bf⟩ := cells5 hrb
            obtain ⟨d0, d1, d2, d3, d4, df⟩ := cells5 zr
            clear hrr hrb
            rw [hW7] at b0 b1 b2 b3 b4 bf d0 d1 d2 d3 d4 df
            go_wp2
            rw [← hW7]
            obtain ⟨W, hW, Q, hne, hcW, _⟩ := store5 zr hchr (by omega : w.heap.size ≤ w.heap.size + 1) (.int .i64 (T.map (normS2 m)).kind) (.int .i64 (T.map (normS2 m)).num) (.string (T.map (normS2 m)).txt) (.slice R5 (T.map (normS2 m)).keys.length r5) (.slice R6 (T.map (normS2 m)).vals.length r6)
            rw [← hW]
            obtain ⟨e0, e1, e2, e3, e4, _⟩ := cells5 Q
            refine bodyPost_ret (v := .tuple #[.agg #[.int .i64 (T.map (normS2 m)).kind, .int .i64 (T.map (normS2 m)).num, .string (T.map (normS2 m)).txt, .slice R5 (T.map (normS2 m)).keys.length r5, .slice R6 (T.map (normS2 m)).vals.length r6], .bool true]) (by simp [results, Tryz.results10, go_sem, e0, e1, e2, e3, e4]) rfl ⟨_, true, rfl, hcW, ⟨_, _, _, _, _, _, _, _, _, rfl⟩, fun _ => ⟨m, rfl, HMOD.out, ?_⟩⟩
            rw [show normS m = (normS2 m) by rw [norm_out HMOD.out, HGV.out]]
            exact HRR.out.to fun b _ ho => ⟨ho.1, hne b ho.2.2⟩
          | some tv =>
            obtain ⟨vs, rfl, hsv, hres⟩ := HMOD.out.vol tv hgv
            have hgi : (tget kVolumes (.map m)).isSome = true := by rw [show tget kVolumes (.map m) = mget kVolumes m from rfl, hgv]; rfl
            rw [hgi]
            have hvt2 : vt = .map vs := by rw [hvt, show tget kVolumes (.map m) = mget kVolumes m from rfl, hgv]; rfl
            subst hvt2
            have hfv : Fine (.map vs) := HV.out.2.1.get (t := .map m) hgv
            have HGV := Lib.hid hgv
            obtain ⟨VB, hVB⟩ : ∃ VB, VB = w7.heap.size := ⟨_, rfl⟩
            have HVBE := Lib.hid hVB
            rw [← hVB] at zV hs7
            have HVB : Hid (W7.heap[VB]? = some (.cells #[.int .i64 (T.map vs).kind, .int .i64 (T.map vs).num, .string (T.map vs).txt, .slice Y5 (T.map vs).keys.length y5, .slice Y6 (T.map vs).vals.length y6] 25) ∧ Rd (OffB o OUT (w.heap.size + 1)) W7 (T.map vs) (.agg #[.int .i64 (T.map vs).kind, .int .i64 (T.map vs).num, .string (T.map vs).txt, .slice Y5 (T.map vs).keys.length y5, .slice Y6 (T.map vs).vals.length y6])) := Lib.hid ⟨zV, (hr7.to fun b hb ho => ⟨⟨ho.1, by omega, by omega⟩, rfl⟩ : Rd (OffB o OUT (w.heap.size + 1)) w7 (T.map vs) _).chg hc77⟩
            obtain ⟨R5, r5, R6, r6, hob, hor⟩ := hO7.box
            have HOB := Lib.hid (And.intro hob hor)
            have HS2 : Hid (Srt (normS2 m) ∧ (normS2 m).length ≤ 67108864) := Lib.hid (by
              unfold normS2
              have h1 := ins_len_le (k := kServices) (x := T.map (onS svcS (svcs m))) (m := m)
              have h2 := ins_len_le (k := kNetworks) (x := T.map (named (prj m) (nets1 m))) (m := mins kServices (.map (onS svcS (svcs m))) m)
              split
              · exact ⟨hsm.out.srt_ins, by omega⟩
              · exact ⟨hsm.out.srt_ins.srt_ins, by omega⟩)
            clear hgv hgi hvt zV hr7 hO7 hob hor hVB
            go_wp2_with fail
            rw [← hW7, ← HVBE.out]
            clear hW7 HVBE
            rename_i K hK
            have HK := Lib.hid hK
            clear hK
            refine wp_region_tail (by rfl) (by kernel_rfl) [6, 15, 16] (by kernel_rfl)
              (fun j u V => match j with
                | 0 => u = .agg #[.int .i64 (T.map (normS2 m)).kind, .int .i64 (T.map (normS2 m)).num, .string (T.map (normS2 m)).txt, .slice R5 (T.map (normS2 m)).keys.length r5, .slice R6 (T.map (normS2 m)).vals.length r6]
                | 1 => u = .agg #[.int .i64 (T.map vs).kind, .int .i64 (T.map vs).num, .string (T.map vs).txt, .slice Y5 (T.map vs).keys.length y5, .slice Y6 (T.map vs).vals.length y6]
                | 2 => u = .pointer (some ⟨PB, 2, none⟩)
                | 3 => u = .string (T.text p).txt
                | 4 => Rd (OffB o OUT (w.heap.size + 1)) V (.map (named p vs)) u
                | 5 => Rd (OffB o OUT (w.heap.size + 1)) V (.map (mins kVolumes (.map (named p vs)) (normS2 m))) u
                | _ => True) ?_ ?_ ?_
            · intro j u V V' hc hφ
              rcases j with _ | _ | _ | _ | _ | _ | j
              all_goals first | exact hφ | exact Rd.chg hφ hc
            · intro j oo hj ho a' w' hst hch hdep K2 hK2
              have hsz : W7.heap.size ≤ w'.heap.size := hch.size
              have hcB : Chg [] W7 w' := (Chg.refl [] W7).dr.trans hch New.nil
              obtain ⟨b0, b1, b2, b3, b4, bf⟩ := cells5 (box5 HOB.out.1 _ hcB)
              obtain ⟨n0, n1, n2, n3, n4, nf⟩ := cells5 (box5 HVB.out.1 _ hcB)
              obtain ⟨p0, p1, p2, p3, p4, pf⟩ := cells5 (HO7.out.go hcB).pbx
              have HW : Hid (Rd (OffB o OUT (w.heap.size + 1)) w' (T.map (normS2 m)) (.agg #[.int .i64 (T.map (normS2 m)).kind, .int .i64 (T.map (normS2 m)).num, .string (T.map (normS2 m)).txt, .slice R5 (T.map (normS2 m)).keys.length r5, .slice R6 (T.map (normS2 m)).vals.length r6]) ∧ Rd (OffB o OUT (w.heap.size + 1)) w' (T.map vs) (.agg #[.int .i64 (T.map vs).kind, .int .i64 (T.map vs).num, .string (T.map vs).txt, .slice Y5 (T.map vs).keys.length y5, .slice Y6 (T.map vs).vals.length y6]) ∧ True ∧ ∀ b, w'.heap.size ≤ b → OffB o OUT (w.heap.size + 1) b) := Lib.hid ⟨HOB.out.2.chg hcB, HVB.out.2.chg hcB, trivial, fun b hb => ⟨HV.out.2.2.2 b (by omega), by omega, by omega⟩⟩
              have hj' : j < 6 := hj
              rcases j with _ | _ | _ | _ | _ | _ | j
              · obtain rfl : _ = oo := Option.some.inj ho  -- 0: slot 111
                have h15 := g_eq (t := 15) (v := .pointer (some ⟨OUT, 0, none⟩)) (hst 15 (by simp))
                unfold Oper.wp
                go_simp
                exact ⟨_, rfl, hK2 _ _ (Chg.refl _ _) rfl⟩
              · obtain rfl : _ = oo := Option.some.inj ho  -- 1: slot 112
                have h16 := g_eq (t := 16) (v := .pointer (some ⟨VB, 0, none⟩)) (hst 16 (by simp))
                unfold Oper.wp
                go_simp
                exact ⟨_, rfl, hK2 _ _ (Chg.refl _ _) rfl⟩
              · obtain rfl : _ = oo := Option.some.inj ho  -- 2: slot 113
                have h6 := g_eq (t := 6) (v := .pointer (some ⟨PB, 0, none⟩)) (hst 6 (by simp))
                unfold Oper.wp
                go_simp
                exact ⟨_, rfl, hK2 _ _ (Chg.refl _ _) rfl⟩
              · obtain rfl : _ = oo := Option.some.inj ho  -- 3: slot 114
                have h113 := g_eq (t := 113) (v := .pointer (some ⟨PB, 2, none⟩)) (hdep 2 (by kernel_rfl))
                unfold Oper.wp
                go_simp
                exact ⟨_, rfl, hK2 _ _ (Chg.refl _ _) rfl⟩
              · obtain rfl : _ = oo := Option.some.inj ho  -- 4: slot 115
                have h112 := g_eq (t := 112) (v := .agg #[.int .i64 (T.map vs).kind, .int .i64 (T.map vs).num, .string (T.map vs).txt, .slice Y5 (T.map vs).keys.length y5, .slice Y6 (T.map vs).vals.length y6]) (hdep 1 (by kernel_rfl))
                have h114 := g_eq (t := 114) (v := .string (T.text p).txt) (hdep 3 (by kernel_rfl))
                have h112 := g_eq (t := 112) (v := .agg #[.int .i64 (T.map vs).kind, .int .i64 (T.map vs).num, .string (T.map vs).txt, .slice Y5 (T.map vs).keys.length y5, .slice Y6 (T.map vs).vals.length y6]) (hdep 1 (by kernel_rfl))
                have h114 := g_eq (t := 114) (v := .string (T.text p).txt) (hdep 3 (by kernel_rfl))
                unfold Oper.wp
                go_simp
                refine (normNamed_any (o := OffB o OUT (w.heap.size + 1)) vs p _ w' HW.out.2.1 hfv hpz hres HW.out.2.2.2).mono ?_
                rintro e w4 ⟨v', rfl, hc4, hr4⟩
                exact ⟨_, rfl, hK2 _ _ hc4 hr4⟩
              · obtain rfl : _ = oo := Option.some.inj ho  -- 5: slot 116
                have h111 := g_eq (t := 111) (v := .agg #[.int .i64 (T.map (normS2 m)).kind, .int .i64 (T.map (normS2 m)).num, .string (T.map (normS2 m)).txt, .slice R5 (T.map (normS2 m)).keys.length r5, .slice R6 (T.map (normS2 m)).vals.length r6]) (hdep 0 (by kernel_rfl))
                have h111 := g_eq (t := 111) (v := .agg #[.int .i64 (T.map (normS2 m)).kind, .int .i64 (T.map (normS2 m)).num, .string (T.map (normS2 m)).txt, .slice R5 (T.map (normS2 m)).keys.length r5, .slice R6 (T.map (normS2 m)).vals.length r6]) (hdep 0 (by kernel_rfl))
                have hr115 : Rd (OffB o OUT (w.heap.size + 1)) w' (.map (named p vs)) (Act.g a' 115) := hdep 4 (by kernel_rfl)
                generalize h115 : Act.g a' 115 = vv at hr115
                have h115 := g_eq (t := 115) h115
                unfold Oper.wp
                go_simp
                refine (with_map (o := OffB o OUT (w.heap.size + 1)) (normS2 m) (.map (named p vs)) _ _ kVolumes w' HW.out.1 HS2.out.1 hr115 HS2.out.2 HW.out.2.2.2).mono ?_
                rintro e w4 ⟨v', rfl, hc4, hr4⟩
                exact ⟨_, rfl, hK2 _ _ hc4 hr4⟩
              · omega
            · intro oo ho u w' hch hφ A2 hA2
              obtain rfl : _ = oo := Option.some.inj ho
              have l5' : 5 < 6 := by omega
              have hu5 : Rd (OffB o OUT (w.heap.size + 1)) w' (T.map (mins kVolumes (.map (named p vs)) (normS2 m))) (u 5) := hφ 5 l5'
              obtain ⟨H5, h5, H6, h6, hu, _⟩ := hu5.five
              rw [hu] at hu5
              have hcB : Chg [] W7 w' := (Chg.refl [] W7).dr.trans hch New.nil
              have HO4 := Lib.hid (HO7.out.go hcB)
              obtain ⟨W5, hW5⟩ : ∃ W5, W5 = (((((w'.setCell ⟨OUT, 0, none⟩ (.int .i64 (T.map (mins kVolumes (.map (named p vs)) (normS2 m))).kind)).setCell ⟨OUT, 1, none⟩ (.int .i64 (T.map (mins kVolumes (.map (named p vs)) (normS2 m))).num)).setCell ⟨OUT, 2, none⟩ (.string (T.map (mins kVolumes (.map (named p vs)) (normS2 m))).txt)).setCell ⟨OUT, 3, none⟩ (.slice H5 (T.map (mins kVolumes (.map (named p vs)) (normS2 m))).keys.length h5)).setCell ⟨OUT, 4, none⟩ (.slice H6 (T.map (mins kVolumes (.map (named p vs)) (normS2 m))).vals.length h6)) := ⟨_, rfl⟩
              have HO5 := Lib.hid (HO4.out.put hu5 W5 hW5)
              have hbz := box5 HOB.out.1 _ hcB
              simp [putAll, dOf, Act.put, hu] at hA2
              subst hA2
              clear hφ l5' ho hu hu5 hcB hch
              obtain ⟨b0, b1, b2, b3, b4, bf⟩ := cells5 hbz
              clear hbz
              unfold Oper.wp
              go_simp
              refine HK.out _ _ ?_
              clear HK
              clear b0 b1 b2 b3 b4 bf
              obtain ⟨R5, r5, R6, r6, hrb, hrr⟩ := (HO5.out).box
              have zr := (HO5.out).res
              have hchr := (HO5.out).chg
              have HRR := Lib.hid hrr
              obtain ⟨b0, b1, b2, b3, b4, bf⟩ := cells5 hrb
              obtain ⟨d0, d1, d2, d3, d4, df⟩ := cells5 zr
              clear hrr hrb
              rw [hW5] at b0 b1 b2 b3 b4 bf d0 d1 d2 d3 d4 df
              go_wp2
              rw [← hW5]
              obtain ⟨W, hW, Q, hne, hcW, _⟩ := store5 zr hchr (by omega : w.heap.size ≤ w.heap.size + 1) (.int .i64 (T.map (mins kVolumes (.map (named p vs)) (normS2 m))).kind) (.int .i64 (T.map (mins kVolumes (.map (named p vs)) (normS2 m))).num) (.string (T.map (mins kVolumes (.map (named p vs)) (normS2 m))).txt) (.slice R5 (T.map (mins kVolumes (.map (named p vs)) (normS2 m))).keys.length r5) (.slice R6 (T.map (mins kVolumes (.map (named p vs)) (normS2 m))).vals.length r6)
              rw [← hW]
              obtain ⟨e0, e1, e2, e3, e4, _⟩ := cells5 Q
              refine bodyPost_ret (v := .tuple #[.agg #[.int .i64 (T.map (mins kVolumes (.map (named p vs)) (normS2 m))).kind, .int .i64 (T.map (mins kVolumes (.map (named p vs)) (normS2 m))).num, .string (T.map (mins kVolumes (.map (named p vs)) (normS2 m))).txt, .slice R5 (T.map (mins kVolumes (.map (named p vs)) (normS2 m))).keys.length r5, .slice R6 (T.map (mins kVolumes (.map (named p vs)) (normS2 m))).vals.length r6], .bool true]) (by simp [results, Tryz.results10, go_sem, e0, e1, e2, e3, e4]) rfl ⟨_, true, rfl, hcW, ⟨_, _, _, _, _, _, _, _, _, rfl⟩, fun _ => ⟨m, rfl, HMOD.out, ?_⟩⟩
              rw [show normS m = (mins kVolumes (.map (named p vs)) (normS2 m)) by rw [norm_out HMOD.out, HGV.out]; show mins kVolumes (.map (named (prj m) vs)) (normS2 m) = _; rw [HPJ.out]]
              exact HRR.out.to fun b _ ho => ⟨ho.1, hne b ho.2.2⟩
end Go.Proofs.YtedbfoknfdiadaaGreatDoor
