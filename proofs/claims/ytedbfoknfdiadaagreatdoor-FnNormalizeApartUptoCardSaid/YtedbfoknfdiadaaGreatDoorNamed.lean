/- spec.normNamed. Conditions: lengths. -/
import Derived.Test.YtedbfoknfdiadaaGreatDoorUpto
import Derived.Deep.DeepCutAuto
set_option linter.unusedVariables false
set_option linter.unusedSimpArgs false
namespace Go.Proofs.YtedbfoknfdiadaaGreatDoor
open Go.RowKit
variable {o : Nat → Prop}
set_option maxRecDepth 100000

theorem nmName_ext {p k : ByteArray} {x : T} (hok : ResOK x) : (if ((tget kExternal x).getD .null).num = 1 then k else p ++ kUnder ++ k) = nmName p k x.m := by
  unfold nmName
  rw [← tget_m]
  cases hg : tget kExternal x with
  | none => rfl
  | some y =>
    cases x with
    | map r =>
      obtain ⟨b, rfl⟩ := hok.2.2 y hg
      cases b <;> rfl
    | _ => cases hg
set_option maxHeartbeats 2000000 in
theorem normNamed_any (m : List (ByteArray × T)) (p : ByteArray) (v : Value) (w : World) (h : Rd o w (.map m) v) (hf : Fine (.map m)) (hp : p.size ≤ 67108864) (hok : ∀ q ∈ m, ResOK q.2) (hno : ∀ b, w.heap.size ≤ b → o b) :
    Calls Tryz.prog 34 #[v, .string p] w fun e w' => ∃ v', e = .returned v' ∧ Chg [] w w' ∧ Rd o w' (.map (named p m)) v' := by
  obtain ⟨A3, q3, A4, q4, rfl, hk, hv⟩ := h.five
  have hml : Hid (m.length ≤ 67108864) := Lib.hid (by have := hf.len.1; simpa [T.vals] using this)
  have hsm : Hid (Srt m) := Lib.hid hf.wf.1
  have hkl : (T.map m).keys.length = m.length := by simp [T.keys]
  have HKL := Lib.hid hkl
  clear hkl
  go_enter Tryz.func34, Tryz.ntmps34
  go_wp2_with fail
  go_loopg [6] m.length (fun g i wx => ∃ n : Nat, n ≤ m.length ∧ g = m.length - n ∧ i = .int .i64 n ∧ NInv o w (w.heap.size + 2) #[.int .i64 (T.map m).kind, .int .i64 (T.map m).num, .string (T.map m).txt, .slice A3 (T.map m).keys.length q3, .slice A4 (T.map m).vals.length q4] (T.map (mapTo (nmRes p) m n)) wx)
  case atStart =>
    have z1 := heap_al1 w (.cells #[.int .i64 (T.map m).kind, .int .i64 (T.map m).num, .string (T.map m).txt, .slice A3 (T.map m).keys.length q3, .slice A4 (T.map m).vals.length q4] 25) (.cells #[.int .i64 0, .int .i64 0, .string ⟨#[]⟩, .slice none 0 0, .slice none 0 0] 25)
    have z2 := heap_al2 w (.cells #[.int .i64 (T.map m).kind, .int .i64 (T.map m).num, .string (T.map m).txt, .slice A3 (T.map m).keys.length q3, .slice A4 (T.map m).vals.length q4] 25) (.cells #[.int .i64 0, .int .i64 0, .string ⟨#[]⟩, .slice none 0 0, .slice none 0 0] 25)
    refine ⟨0, Nat.zero_le _, by omega, rfl, (((Chg.refl [] w).al _).al _).al _, (heap_alloc_old _ _ _ (by simp; omega)).trans z1, (heap_alloc_old _ _ _ (by simp)).trans z2, by omega, A3, q3, A4, q4, ?_⟩
    rw [mapTo_zero]
    exact ⟨heap_alloc_at _ _ _ (by simp), (h.to fun b hb ho => ⟨⟨ho, by omega, by omega⟩, rfl⟩).chg ((((Chg.refl [] w).al _).al _).al _)⟩
  case round =>
    obtain ⟨n, hn, rfl, rfl, hNr⟩ := hrel
    have HNR := Lib.hid hNr
    obtain ⟨a0, a1, a2, a3, a4, af⟩ := cells5 hNr.par
    clear hNr
    by_cases hlt : n < m.length
    · have hn64 : n ≤ 67108864 := by have := hml.out; omega
      have hlk2 : n < (T.map m).keys.length := by rw [HKL.out]; exact hlt
      have hlv : n < (T.map m).vals.length := by simp [T.vals]; exact hlt
      obtain ⟨q, hq⟩ : ∃ q, m[n]? = some q := ⟨_, List.getElem?_eq_getElem hlt⟩
      obtain ⟨k, x⟩ := q
      obtain ⟨gk, ck, ek, hgk, yk⟩ := hk.elem (n := n) (s := k) (by simp [T.keys, hq])
      obtain ⟨ge, ce, A5, q5, A6, q6, ee, hge, rx, ye⟩ := hv.lo_elem (n := n) (x := x) (by simp [T.vals, hq])
      cases ek
      cases ee
      have hokx : ResOK x := hok _ (List.mem_of_getElem? hq)
      have hfx : Fine x := hf.vals (List.mem_of_getElem? (l := (T.map m).vals) (i := n) (by simp [T.vals, hq]))
      have hfk : k.size ≤ 67108864 := hf.key (List.mem_of_getElem? (l := (T.map m).keys) (i := n) (by simp [T.keys, hq]))
      have YK := Lib.hid yk
      have HRX := Lib.hid rx
      have HXM := Lib.hid hq
      obtain ⟨y0, y1, y2, y3, y4⟩ := ye _ HNR.out.chg
      clear yk ye hq rx
      obtain ⟨W0, hW0⟩ : ∃ W0, W0 = wr.alloc (.cells #[.int .i64 x.kind, .int .i64 x.num, .string x.txt, .slice A5 x.keys.length q5, .slice A6 x.vals.length q6] 25) := ⟨_, rfl⟩
      have hc0 : Chg [] wr W0 := hW0 ▸ (Chg.refl [] wr).al _
      have hbx0 : W0.heap[wr.heap.size]? = some (.cells #[.int .i64 x.kind, .int .i64 x.num, .string x.txt, .slice A5 x.keys.length q5, .slice A6 x.vals.length q6] 25) := hW0 ▸ heap_alloc_new wr _
      have hszr : w.heap.size + 2 < wr.heap.size := by
        obtain ⟨_, _, _, _, hb, _⟩ := HNR.out.box
        exact (Array.getElem?_eq_some_iff.1 hb).1
      go_wp2_with fail
      rw [← hW0]
      clear hW0
      refine (has_any x _ _ _ (HRX.out.chg (HNR.out.chg.trans hc0 New.nil)) hfx.wf.srt hfx.len.2.2).mono ?_
      rintro e w3 ⟨rfl, hc3⟩
      obtain ⟨bn, hbn⟩ : ∃ bn, (tget ⟨#[110, 97, 109, 101]⟩ x).isSome = bn := ⟨_, rfl⟩
      rw [hbn]
      have HBN := Lib.hid hbn
      have HN3 := Lib.hid (HNR.out.go (hc0.trans hc3 New.nil))
      have HB3 := Lib.hid (box5 hbx0 _ hc3)
      clear hbn hc0 hbx0 hc3 a0 a1 a2 a3 a4 af y0 y1 y2 y3 y4
      cases bn with
      | true =>
        go_wp2_with fail
        go_roundg (m.length - (n + 1))
        case measure => omega
        case rel =>
          have hsame : nmRes p k x = x := by
            have hb := HBN.out
            cases x with
            | map r =>
              cases hg : mget kName r with
              | none => rw [show tget ⟨#[110, 97, 109, 101]⟩ (T.map r) = mget kName r from rfl, hg] at hb; cases hb
              | some z => simp [nmRes, hg]
            | _ => cases hb
          refine ⟨n + 1, by omega, rfl, by go_num, ?_⟩
          rw [mapTo_same HXM.out hsame]
          exact HN3.out
      | false =>
        obtain ⟨x0, x1, x2, x3, x4, xf⟩ := cells5 HB3.out
        obtain ⟨a0, a1, a2, a3, a4, af⟩ := cells5 HN3.out.par
        have yk := YK.out _ HN3.out.chg
        go_wp2_with fail
        refine (get_any x _ kExternal _ (HRX.out.chg HN3.out.chg) hfx.wf.srt hfx.len.2.2).mono ?_
        rintro e w4 ⟨v', rfl, hc4, hr4⟩
        obtain ⟨y, hy⟩ : ∃ y, (tget kExternal x).getD .null = y := ⟨_, rfl⟩
        rw [hy] at hr4
        generalize (tget kExternal x).isSome = be
        obtain ⟨B5, p5, B6, p6, rfl, hyz⟩ := hr4.five
        clear hyz
        have HY := Lib.hid hy
        have HN4 := Lib.hid (HN3.out.go hc4)
        have HB4 := Lib.hid (box5 HB3.out _ hc4)
        clear hy hr4 hc4 a0 a1 a2 a3 a4 af x0 x1 x2 x3 x4 xf yk
        go_upto_if 41 with fail
        go_cut [8] (fun s8 wx => s8 = .string (nmName p k x.m) ∧ NInv o w (w.heap.size + 2) #[.int .i64 (T.map m).kind, .int .i64 (T.map m).num, .string (T.map m).txt, .slice (some ⟨gk, 0, none⟩) (T.map m).keys.length q3, .slice (some ⟨ge, 0, none⟩) (T.map m).vals.length q4] (T.map (mapTo (nmRes p) m n)) wx ∧ wx.heap[wr.heap.size]? = some (.cells #[.int .i64 x.kind, .int .i64 x.num, .string x.txt, .slice A5 x.keys.length q5, .slice A6 x.vals.length q6] 25))
        case first =>
          obtain ⟨W2, hW2⟩ : ∃ W2, W2 = w4.alloc (.cells #[.int .i64 y.kind, .int .i64 y.num, .string y.txt, .slice B5 y.keys.length p5, .slice B6 y.vals.length p6] 25) := ⟨_, rfl⟩
          have hc2 : Chg [] w4 W2 := hW2 ▸ (Chg.refl [] w4).al _
          have hy2 : W2.heap[w4.heap.size]? = some (.cells #[.int .i64 y.kind, .int .i64 y.num, .string y.txt, .slice B5 y.keys.length p5, .slice B6 y.vals.length p6] 25) := hW2 ▸ heap_alloc_new w4 _
          rw [← hW2]
          clear hW2
          have HN5 := Lib.hid (HN4.out.go hc2)
          have HB5 := Lib.hid (box5 HB4.out _ hc2)
          obtain ⟨y0, y1, y2, y3, y4, yf⟩ := cells5 hy2
          obtain ⟨a0, a1, a2, a3, a4, af⟩ := cells5 HN5.out.par
          have yk := YK.out _ HN5.out.chg
          clear hc2 hy2
          by_cases hy1 : y.num = 1
          · have hy1' : (y.num == 1) = true := by simp [hy1]
            have HY1 := Lib.hid hy1
            clear hy1
            go_wp2_with fail
            go_meet
            exact ⟨by rw [← nmName_ext hokx, HY.out, if_pos HY1.out], HN5.out, HB5.out⟩
          · have hy1' : (y.num == 1) = false := by simpa using hy1
            have HY1 := Lib.hid hy1
            clear hy1
            go_wp2_with fail
            go_meet
            exact ⟨by rw [← nmName_ext hokx, HY.out, if_neg HY1.out], HN5.out, HB5.out⟩
        case rest =>
          obtain ⟨rfl, hNC, hBX⟩ := hcut
          have HNC := Lib.hid hNC
          have HBX := Lib.hid hBX
          obtain ⟨nm, hnm⟩ : ∃ nm, nm = nmName p k x.m := ⟨_, rfl⟩
          have hx0 : mget kName x.m = none := by
            have hb := HBN.out
            rw [← tget_m]
            simpa using hb
          have HX : Hid (nmRes p k x = .map (mins kName (.text nm) x.m) ∧ (x = .null ∨ ∃ r, x = .map r ∧ Srt r) ∧ x.vals.length ≤ 67108864) := Lib.hid ⟨by
            rw [hnm]
            cases x with
            | map r => simp only [nmRes]; rw [show mget kName r = none from hx0]; rfl
            | null => rfl
            | bool _ => exact hokx.elim
            | int _ => exact hokx.elim
            | text _ => exact hokx.elim
            | list _ => exact hokx.elim, by
            cases x with
            | map r => exact .inr ⟨r, rfl, hokx.1⟩
            | null => exact .inl rfl
            | bool _ => exact hokx.elim
            | int _ => exact hokx.elim
            | text _ => exact hokx.elim
            | list _ => exact hokx.elim, hfx.len.1⟩
          rw [← hnm]
          clear hnm hx0
          have hszc : wr.heap.size < wc.heap.size := (Array.getElem?_eq_some_iff.1 hBX).1
          have hDX := hNC.box
          clear hNC hBX
          obtain ⟨E7, r7, E8, r8, hdb, hdr⟩ := hDX
          have HDX := Lib.hid (And.intro hdb hdr)
          clear hdb hdr
          go_wp2_with fail
          rename_i K hK
          have HK := Lib.hid hK
          clear hK
          refine wp_region_tail (by rfl) (by kernel_rfl) [2, 5, 6, 7, 8] (by kernel_rfl)
            (fun j u V => match j with
              | 0 => u = .agg #[.int .i64 (T.map (mapTo (nmRes p) m n)).kind, .int .i64 (T.map (mapTo (nmRes p) m n)).num, .string (T.map (mapTo (nmRes p) m n)).txt, .slice E7 (T.map (mapTo (nmRes p) m n)).keys.length r7, .slice E8 (T.map (mapTo (nmRes p) m n)).vals.length r8]
              | 1 => u = .pointer (some ⟨w.heap.size, 3, none⟩)
              | 2 => u = .slice (some ⟨gk, 0, none⟩) (T.map m).keys.length q3
              | 3 => u = .int .i64 ↑n
              | 4 => u = .pointer (some ⟨gk, n, none⟩)
              | 5 => u = .string k
              | 6 => u = .agg #[.int .i64 x.kind, .int .i64 x.num, .string x.txt, .slice A5 x.keys.length q5, .slice A6 x.vals.length q6]
              | 7 => u = .string nm
              | 8 => Rd (OffB o (w.heap.size + 2) (w.heap.size + 1)) V (.text nm) u
              | 9 => Rd (OffB o (w.heap.size + 2) (w.heap.size + 1)) V (T.map (mins kName (.text nm) x.m)) u
              | 10 => Rd (OffB o (w.heap.size + 2) (w.heap.size + 1)) V (T.map (mapTo (nmRes p) m (n + 1))) u
              | _ => True) ?_ ?_ ?_
          · intro j u V V' hc hφ
            rcases j with _ | _ | _ | _ | _ | _ | _ | _ | _ | _ | _ | j
            all_goals first | exact hφ | exact Rd.chg hφ hc
          · intro j oo hj ho a' w' hst hch hdep K2 hK2
            have hsz : wc.heap.size ≤ w'.heap.size := hch.size
            have hcB : Chg [] wc w' := (Chg.refl [] wc).dr.trans hch New.nil
            have hcrw := HNC.out.chg.trans hcB New.nil
            have hNw := HNC.out.go hcB
            obtain ⟨b0, b1, b2, b3, b4, bf⟩ := cells5 (box5 HDX.out.1 _ hcB)
            obtain ⟨a0, a1, a2, a3, a4, af⟩ := cells5 hNw.par
            obtain ⟨x0, x1, x2, x3, x4, xf⟩ := cells5 (box5 HBX.out _ hcB)
            have yk := YK.out _ hcrw
            have HW : Hid (Rd (OffB o (w.heap.size + 2) (w.heap.size + 1)) w' (T.map (mapTo (nmRes p) m n)) (.agg #[.int .i64 (T.map (mapTo (nmRes p) m n)).kind, .int .i64 (T.map (mapTo (nmRes p) m n)).num, .string (T.map (mapTo (nmRes p) m n)).txt, .slice E7 (T.map (mapTo (nmRes p) m n)).keys.length r7, .slice E8 (T.map (mapTo (nmRes p) m n)).vals.length r8]) ∧ Rd (OffB o (w.heap.size + 2) (w.heap.size + 1)) w' x (.agg #[.int .i64 x.kind, .int .i64 x.num, .string x.txt, .slice A5 x.keys.length q5, .slice A6 x.vals.length q6]) ∧ (mapTo (nmRes p) m n).length ≤ 67108864 ∧ ∀ b, w'.heap.size ≤ b → OffB o (w.heap.size + 2) (w.heap.size + 1) b) := Lib.hid ⟨HDX.out.2.chg hcB, (HRX.out.chg hcrw).weak fun b hb => ⟨hb.1, by omega, by omega⟩, by rw [mapTo_length]; exact hml.out, fun b hb => ⟨hno b (by omega), by omega, by omega⟩⟩
            clear hNw
            have hj' : j < 11 := hj
            rcases j with _ | _ | _ | _ | _ | _ | _ | _ | _ | _ | _ | j
            · obtain rfl : _ = oo := Option.some.inj ho  -- 0: slot 47
              have h5 := g_eq (t := 5) (v := .pointer (some ⟨w.heap.size + 2, 0, none⟩)) (hst 5 (by simp))
              unfold Oper.wp
              go_simp
              exact ⟨_, rfl, hK2 _ _ (Chg.refl _ _) rfl⟩
            · obtain rfl : _ = oo := Option.some.inj ho  -- 1: slot 48
              have h2 := g_eq (t := 2) (v := .pointer (some ⟨w.heap.size, 0, none⟩)) (hst 2 (by simp))
              unfold Oper.wp
              go_simp
              exact ⟨_, rfl, hK2 _ _ (Chg.refl _ _) rfl⟩
            · obtain rfl : _ = oo := Option.some.inj ho  -- 2: slot 49
              have h48 := g_eq (t := 48) (v := .pointer (some ⟨w.heap.size, 3, none⟩)) (hdep 1 (by kernel_rfl))
              unfold Oper.wp
              go_simp
              exact ⟨_, rfl, hK2 _ _ (Chg.refl _ _) rfl⟩
            · obtain rfl : _ = oo := Option.some.inj ho  -- 3: slot 50
              have h6 := g_eq (t := 6) (v := .int .i64 ↑n) (hst 6 (by simp))
              unfold Oper.wp
              go_simp
              exact ⟨_, rfl, hK2 _ _ (Chg.refl _ _) rfl⟩
            · obtain rfl : _ = oo := Option.some.inj ho  -- 4: slot 51
              have h49 := g_eq (t := 49) (v := .slice (some ⟨gk, 0, none⟩) (T.map m).keys.length q3) (hdep 2 (by kernel_rfl))
              have h50 := g_eq (t := 50) (v := .int .i64 ↑n) (hdep 3 (by kernel_rfl))
              unfold Oper.wp
              go_simp
              exact ⟨_, rfl, hK2 _ _ (Chg.refl _ _) rfl⟩
            · obtain rfl : _ = oo := Option.some.inj ho  -- 5: slot 52
              have h51 := g_eq (t := 51) (v := .pointer (some ⟨gk, n, none⟩)) (hdep 4 (by kernel_rfl))
              unfold Oper.wp
              go_simp
              exact ⟨_, rfl, hK2 _ _ (Chg.refl _ _) rfl⟩
            · obtain rfl : _ = oo := Option.some.inj ho  -- 6: slot 53
              have h7 := g_eq (t := 7) (v := .pointer (some ⟨wr.heap.size, 0, none⟩)) (hst 7 (by simp))
              unfold Oper.wp
              go_simp
              exact ⟨_, rfl, hK2 _ _ (Chg.refl _ _) rfl⟩
            · obtain rfl : _ = oo := Option.some.inj ho  -- 7: slot 54
              have h8 := g_eq (t := 8) (v := .string nm) (hst 8 (by simp))
              unfold Oper.wp
              go_simp
              exact ⟨_, rfl, hK2 _ _ (Chg.refl _ _) rfl⟩
            · obtain rfl : _ = oo := Option.some.inj ho  -- 8: slot 55
              have h54 := g_eq (t := 54) (v := .string nm) (hdep 7 (by kernel_rfl))
              unfold Oper.wp
              go_simp
              refine (specT (o := (OffB o (w.heap.size + 2) (w.heap.size + 1))) nm w').mono ?_
              rintro e w3 ⟨v', rfl, hc3, hr3⟩
              exact ⟨_, rfl, hK2 _ _ hc3 hr3⟩
            · obtain rfl : _ = oo := Option.some.inj ho  -- 9: slot 56
              have h53 := g_eq (t := 53) (v := .agg #[.int .i64 x.kind, .int .i64 x.num, .string x.txt, .slice A5 x.keys.length q5, .slice A6 x.vals.length q6]) (hdep 6 (by kernel_rfl))
              have hr55 : Rd (OffB o (w.heap.size + 2) (w.heap.size + 1)) w' (.text nm) (Act.g a' 55) := hdep 8 (by kernel_rfl)
              generalize h55 : Act.g a' 55 = vv at hr55
              have h55 := g_eq (t := 55) h55
              unfold Oper.wp
              go_simp
              refine (with_mn (o := (OffB o (w.heap.size + 2) (w.heap.size + 1))) x (.text nm) _ _ ⟨#[110, 97, 109, 101]⟩ w' HW.out.2.1 HX.out.2.1 hr55 HX.out.2.2 HW.out.2.2.2).mono ?_
              rintro e w3 ⟨v', rfl, hc3, hr3⟩
              exact ⟨_, rfl, hK2 _ _ hc3 hr3⟩
            · obtain rfl : _ = oo := Option.some.inj ho  -- 10: slot 57
              have h47 := g_eq (t := 47) (v := .agg #[.int .i64 (T.map (mapTo (nmRes p) m n)).kind, .int .i64 (T.map (mapTo (nmRes p) m n)).num, .string (T.map (mapTo (nmRes p) m n)).txt, .slice E7 (T.map (mapTo (nmRes p) m n)).keys.length r7, .slice E8 (T.map (mapTo (nmRes p) m n)).vals.length r8]) (hdep 0 (by kernel_rfl))
              have h52 := g_eq (t := 52) (v := .string k) (hdep 5 (by kernel_rfl))
              have hr56 : Rd (OffB o (w.heap.size + 2) (w.heap.size + 1)) w' (T.map (mins kName (.text nm) x.m)) (Act.g a' 56) := hdep 9 (by kernel_rfl)
              generalize h56 : Act.g a' 56 = vv at hr56
              have h56 := g_eq (t := 56) h56
              unfold Oper.wp
              go_simp
              refine (with_map (o := (OffB o (w.heap.size + 2) (w.heap.size + 1))) (mapTo (nmRes p) m n) (T.map (mins kName (.text nm) x.m)) _ _ k w' HW.out.1 (mapTo_srt hsm.out) hr56 HW.out.2.2.1 HW.out.2.2.2).mono ?_
              rintro e w3 ⟨v', rfl, hc3, hr3⟩
              have he : mins k (T.map (mins kName (.text nm) x.m)) (mapTo (nmRes p) m n) = mapTo (nmRes p) m (n + 1) := by
                rw [← mapTo_step hsm.out HXM.out, HX.out.1]
              rw [he] at hr3
              exact ⟨_, rfl, hK2 _ _ hc3 hr3⟩
            · omega
          · intro oo ho u w' hch hφ A2 hA2
            obtain rfl : _ = oo := Option.some.inj ho
            have l10 : 10 < 11 := by omega
            have hu10 : Rd (OffB o (w.heap.size + 2) (w.heap.size + 1)) w' (T.map (mapTo (nmRes p) m (n + 1))) (u 10) := hφ 10 l10
            obtain ⟨E5, r5, E6, r6, hu, _⟩ := hu10.five
            rw [hu] at hu10
            have hcB : Chg [] wc w' := (Chg.refl [] wc).dr.trans hch New.nil
            have HNZ := Lib.hid (HNC.out.go hcB)
            obtain ⟨W3, hW3⟩ : ∃ W3, W3 = (((((w'.setCell ⟨w.heap.size + 2, 0, none⟩ (.int .i64 (T.map (mapTo (nmRes p) m (n + 1))).kind)).setCell ⟨w.heap.size + 2, 1, none⟩ (.int .i64 (T.map (mapTo (nmRes p) m (n + 1))).num)).setCell ⟨w.heap.size + 2, 2, none⟩ (.string (T.map (mapTo (nmRes p) m (n + 1))).txt)).setCell ⟨w.heap.size + 2, 3, none⟩ (.slice E5 (T.map (mapTo (nmRes p) m (n + 1))).keys.length r5)).setCell ⟨w.heap.size + 2, 4, none⟩ (.slice E6 (T.map (mapTo (nmRes p) m (n + 1))).vals.length r6)) := ⟨_, rfl⟩
            have HNZ3 := Lib.hid (HNZ.out.put hu10 W3 hW3)
            have HW3 := Lib.hid hW3
            have hbz := box5 HDX.out.1 _ hcB
            simp [putAll, dOf, Act.put, hu] at hA2
            subst hA2
            clear hφ l10 ho hu hu10 hcB hW3 hch
            obtain ⟨b0, b1, b2, b3, b4, bf⟩ := cells5 hbz
            clear hbz
            unfold Oper.wp
            go_simp
            refine HK.out _ _ ?_
            clear HK b0 b1 b2 b3 b4 bf
            go_wp2_with fail
            rw [← HW3.out]
            go_roundg (m.length - (n + 1))
            case measure => omega
            case rel => exact ⟨n + 1, by omega, rfl, by go_num, HNZ3.out⟩
    · have hlk : ¬ n < (T.map m).keys.length := by rw [HKL.out]; omega
      have hE : n = m.length := by omega
      have HE := Lib.hid hE
      clear hE
      obtain ⟨E3, r3, E4, r4, hbx, hrx⟩ := (HNR.out).box
      have hres := (HNR.out).res
      have hchx := (HNR.out).chg
      have HRX := Lib.hid hrx
      clear hrx
      obtain ⟨b0, b1, b2, b3, b4, bf⟩ := cells5 hbx
      obtain ⟨d0, d1, d2, d3, d4, df⟩ := cells5 hres
      go_wp2
      obtain ⟨W, hW, Q, hne, hcW, _⟩ := store5 hres hchx (by omega : w.heap.size ≤ w.heap.size + 1) (.int .i64 ((T.map (mapTo (nmRes p) m n))).kind) (.int .i64 ((T.map (mapTo (nmRes p) m n))).num) (.string ((T.map (mapTo (nmRes p) m n))).txt) (.slice E3 ((T.map (mapTo (nmRes p) m n))).keys.length r3) (.slice E4 ((T.map (mapTo (nmRes p) m n))).vals.length r4)
      rw [← hW]
      obtain ⟨e0, e1, e2, e3, e4, _⟩ := cells5 Q
      refine bodyPost_ret (v := .agg #[.int .i64 ((T.map (mapTo (nmRes p) m n))).kind, .int .i64 ((T.map (mapTo (nmRes p) m n))).num, .string ((T.map (mapTo (nmRes p) m n))).txt, .slice E3 ((T.map (mapTo (nmRes p) m n))).keys.length r3, .slice E4 ((T.map (mapTo (nmRes p) m n))).vals.length r4]) (by simp [results, Tryz.results34, go_sem, e0, e1, e2, e3, e4]) rfl ⟨_, rfl, hcW, ?_⟩
      have hm := mapTo_all (f := nmRes p) (m := m)
      rw [← HE.out] at hm
      rw [show named p m = mapTo (nmRes p) m n from hm.symm]
      exact HRX.out.to fun b _ ho => ⟨ho.1, hne b ho.2.2⟩
end Go.Proofs.YtedbfoknfdiadaaGreatDoor
