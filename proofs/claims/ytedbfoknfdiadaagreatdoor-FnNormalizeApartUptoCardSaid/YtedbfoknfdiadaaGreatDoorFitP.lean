/- spec.FitPairs: an environment by its names. Conditions: lengths. -/
import Derived.Test.YtedbfoknfdiadaaGreatDoorPairs
set_option linter.unusedVariables false
set_option linter.unusedSimpArgs false
namespace Go.Proofs.YtedbfoknfdiadaaGreatDoor
open Go.RowKit
variable {o : Nat → Prop}
set_option maxRecDepth 100000

theorem uPS : Tryz.prog.underlying 26 = some (.slice 52) := by kernel_rfl
theorem iPS : (Tryz.prog.info? 52).map (fun i => (i.zero, i.size, i.bytes)) = some (some (.agg #[.string ⟨#[]⟩, .string ⟨#[]⟩]), 2, 32) := by kernel_rfl
/-- Texts of the row. -/
theorem PRow.at_ {w : World} {base n j : Nat} {e : TypeId} {R : Value} (h : PRow w base e R n) (hj : j < n) : ∃ g c s s', R = .slice (some ⟨g, 0, none⟩) n c ∧ n ≤ c ∧ base ≤ g ∧ g < w.heap.size ∧ w.cell? ⟨g, j * 2, none⟩ = some (.string s) ∧ w.cell? ⟨g, j * 2 + 1, none⟩ = some (.string s') ∧ ∀ i, w.frozen? ⟨g, i, none⟩ = false := by
  obtain ⟨xs, h, hx⟩ := h
  rcases h.2 with ⟨rfl, h0⟩ | ⟨g, cap, cur, rfl, hb, hg, hnc, _⟩
  · omega
  · have hlen := h.1
    have key : ∀ i, i < n * 2 → ∃ s, w.cell? ⟨g, i, none⟩ = some (.string s) := fun i hi => by
      have h1 := h.cellAt i hi
      obtain ⟨x, hx1⟩ : ∃ x, xs[i]? = some x := ⟨_, List.getElem?_eq_getElem (by omega)⟩
      obtain ⟨s, hs⟩ := hx x (List.mem_of_getElem? hx1)
      subst hs
      exact ⟨s, h1.trans hx1⟩
    obtain ⟨s, h1⟩ := key (j * 2) (by omega)
    obtain ⟨s', h2⟩ := key (j * 2 + 1) (by omega)
    exact ⟨g, cap, s, s', rfl, hnc, hb, (Array.getElem?_eq_some_iff.1 hg).1, h1, h2, fun i => frozen_of_row w g i _ e hg⟩
theorem PRow.none_inv {w : World} {base n c : Nat} {e : TypeId} (h : PRow w base e (.slice none n c) n) : n = 0 ∧ c = 0 := by
  obtain ⟨xs, h, _⟩ := h
  rcases h.2 with ⟨h1, h0⟩ | ⟨g, cap, cur, h1, _⟩
  · injection h1 with _ h2 h3
    exact ⟨h2, h3⟩
  · injection h1 with h1
    cases h1
theorem PRow.some_inv {w : World} {base n c : Nat} {e : TypeId} {a : Addr} (h : PRow w base e (.slice (some a) n c) n) : ∃ g, a = ⟨g, 0, none⟩ ∧ n ≤ c ∧ base ≤ g ∧ g < w.heap.size := by
  have h' := h
  obtain ⟨xs, h, _⟩ := h
  rcases h.2 with ⟨h1, h0⟩ | ⟨g, cap, cur, h1, hb, hg, hnc, _⟩
  · injection h1 with h1
    cases h1
  · injection h1 with h1 h2 h3
    injection h1 with h1
    subst h3
    exact ⟨g, h1, hnc, hb, (Array.getElem?_eq_some_iff.1 hg).1⟩
/-- A text stored into the row. -/
theorem PRow.put {w : World} {base n c g j : Nat} {e : TypeId} {s : ByteArray} (h : PRow w base e (.slice (some ⟨g, 0, none⟩) n c) n) (hj : j < n * 2) : PRow (w.setCell ⟨g, j, none⟩ (.string s)) base e (.slice (some ⟨g, 0, none⟩) n c) n := by
  obtain ⟨xs, h, hx⟩ := h
  have hl := h.1
  rcases h.2 with ⟨h1, h0⟩ | ⟨g', cap, cur, h1, hb, hg, hnc, hcm, hcs, htk⟩
  · cases h1
  · injection h1 with h1 h2 h3
    injection h1 with h1
    injection h1 with h1
    subst h1; subst h3
    refine ⟨xs.set j (.string s), ⟨by simpa using hl, .inr ⟨g, c, _, rfl, hb, heap_setCell_same _ g j _ _ (.string s) hg, hnc, hcm, by simpa using hcs, ?_⟩⟩, fun x hx' => ?_⟩
    · rw [Array.toList_setIfInBounds, ← htk, List.take_set]
    · rcases List.mem_or_eq_of_mem_set hx' with h | h
      · exact hx x h
      · exact ⟨s, h⟩
set_option maxHeartbeats 2000000 in
theorem fitPairs_any (N : Nat) (v : Value) (w : World) (h : RdP o w N v) (hN : N ≤ 16777216) : Calls Tryz.prog 15 #[v] w fun e w' => ∃ v' n, e = .returned v' ∧ n ≤ N ∧ Chg [] w w' ∧ RdP (fun b => w.heap.size ≤ b) w' n v' := by
  obtain ⟨A, c, rfl, hnc, hg⟩ := h
  have HG := Lib.hid hg
  clear hg
  go_enter Tryz.func15, Tryz.ntmps15
  go_wp2_with fail
  go_loopg [3, 4] N (fun g s3 i wr => ∃ (k n : Nat) (R : Value), k ≤ N ∧ n ≤ k ∧ g = N - k ∧ R = s3 ∧ i = .int .i64 k ∧ Chg [] w wr ∧ PRow wr w.heap.size 52 R n)
  case atStart => exact ⟨0, 0, _, Nat.zero_le _, Nat.le_refl _, by omega, rfl, rfl, Chg.refl _ _, PRow.nil _ _ _⟩
  case round =>
    obtain ⟨i, n, R, hi, hni, rfl, rfl, rfl, hcr, hR⟩ := hrel
    by_cases hlt : i < N
    · have hn64 : n ≤ 67108864 := by omega
      have hi64 : i ≤ 67108864 := by omega
      obtain ⟨g, off, rfl, _, hgc⟩ := HG.out (by omega)
      obtain ⟨s, s', h1, h2⟩ := hgc i hlt
      have hgl := World.block_lt_of_cell? w _ h1
      have hgl : g < w.heap.size := hgl
      obtain ⟨RA, RC, rfl⟩ := hR.slice
      have HX0 := Lib.hid (And.intro hcr (And.intro hR (And.intro h1 h2)))
      clear h1 h2 hgc hcr hR
      go_wp2
      go_loopg [5] n (fun g j wx => ∃ k : Nat, k ≤ n ∧ g = n - k ∧ j = .int .i64 k ∧ Chg [] wr wx)
      case atStart => exact ⟨0, Nat.zero_le _, by omega, rfl, Chg.refl _ _⟩
      case round =>
        obtain ⟨k, hk, rfl, rfl, hcx⟩ := hrel
        have HX : Hid (Chg [] w wr ∧ PRow wr w.heap.size 52 (.slice RA n RC) n ∧ w.cell? ⟨g, off + i * 2, none⟩ = some (.string s) ∧ w.cell? ⟨g, off + i * 2 + 1, none⟩ = some (.string s')) := Lib.hid ⟨HX0.out.1.trans hcx New.nil, HX0.out.2.1.keep fun y hy => hcx.block y (HX0.out.2.1.own hy).2 (by simp), HX0.out.2.2.1, HX0.out.2.2.2⟩
        have HCX := Lib.hid hcx
        have hgx : g < wr.heap.size := by have := HX.out.1.size; omega
        have hwr : w.heap.size ≤ wr.heap.size := HX.out.1.size
        have y1 := (HX.out.1.cells.1 _ (off + i * 2) hgl).trans HX.out.2.2.1
        clear hcx HX0
        by_cases hkn : k < n
        · obtain ⟨g2, c2, t, t', e, hnc2, hb2, hgl2, r1, r2, _⟩ := HX.out.2.1.at_ hkn
          cases e
          have hfz : ∀ j, wr.frozen? ⟨g2, j, none⟩ = false := (HX.out.2.1.at_ hkn).elim fun _ h => by
            obtain ⟨_, _, _, e, _, _, _, _, _, hf⟩ := h
            cases e
            exact hf
          have hkle : k ≤ n := hk
          have hbg := hb2
          have hkc : k ≤ RC := by omega
          have HRP := Lib.hid HX.out.2.1
          have y2 := (HX.out.1.cells.1 _ (off + i * 2 + 1) hgl).trans HX.out.2.2.2
          cases hb : Op.bytesLess t.toList s.toList with
          | true =>
            go_wp2
            go_quiet (fail)
            go_wp2_with fail
            go_roundg (n - (k + 1))
            case measure => omega
            case rel => exact ⟨k + 1, by omega, rfl, by go_num, HCX.out.drN _⟩
          | false =>
            cases he : (t.toList == s.toList) with
            | true =>
              go_wp2
              go_quiet (fail)
              go_wp2_with fail
              go_quiet (fail)
              go_wp2_with fail
              go_roundg (N - (i + 1))
              case measure => omega
              case rel =>
                refine ⟨i + 1, n, _, by omega, by omega, by omega, rfl, by go_num, ?_, ?_⟩
                · exact Chg.st (p := ⟨g2, k * 2 + 1, none⟩) (HX.out.1.drN _) hb2 _
                · exact PRow.put (HRP.out.keep fun _ _ => rfl) (by omega)
            | false =>
              go_wp2
              go_quiet (fail)
              go_wp2_with fail
              go_quiet (fail)
              go_wp2_with fail
              clear r1 r2 hb he y1 y2 hfz

              refine wp_region_pair (by rfl) (by kernel_rfl) [0, 3, 4, 5] (by kernel_rfl) 12 (by decide) [g2]
                (fun j u V => match j with
                  | 0 => u = .slice (some ⟨g2, 0, none⟩) n RC
                  | 1 => u = .int .i64 ↑k
                  | 2 => u = .slice (some ⟨g2, 0, none⟩) k RC
                  | 3 => u = .slice (some ⟨g, off, none⟩) N c
                  | 4 => u = .int .i64 ↑i
                  | 5 => u = .pointer (some ⟨g, off + i * 2, none⟩)
                  | 6 => u = .agg #[.string s, .string s']
                  | 7 => ∃ h, u = .slice (some ⟨h, 0, none⟩) 1 1 ∧ V.ownsRow wr.heap.size 52 2 u 1 [.string s, .string s']
                  | 8 => u = .slice (some ⟨g2, 0, none⟩) n RC
                  | 9 => u = .int .i64 ↑k
                  | 10 => u = .slice (if RC = k then some ⟨g2, 0, none⟩ else some ⟨g2, k * 2, none⟩) (n - k) (RC - k)
                  | 11 => ∃ h c, u = .slice (some ⟨h, 0, none⟩) (1 + (n - k)) c ∧ PRow V wr.heap.size 52 u (1 + (n - k))
                  | 12 => PRow V w.heap.size 52 u (n + 1) ∧ ∃ h c, u = .slice (some ⟨h, 0, none⟩) (n + 1) c ∧ w.heap.size ≤ h ∧ h < V.heap.size
                  | _ => True) ?_ ?_ ?_ ?_ ?_
              · intro j u V V' hc hφ
                rcases j with _ | _ | _ | _ | _ | _ | _ | _ | _ | _ | _ | _ | _ | j
                all_goals first | exact hφ | skip
                · obtain ⟨h, rfl, hr⟩ := hφ
                  exact ⟨h, rfl, ownsRow_frame hr (hc.block _ (ownsRow_lt hr) (by simp))⟩
                · obtain ⟨h, c, rfl, hp⟩ := hφ
                  exact ⟨h, c, rfl, hp.keep fun y hy => hc.block y (hp.own hy).2 (by simp)⟩
                · obtain ⟨hp, h, c, rfl, h1, h2⟩ := hφ
                  exact ⟨hp.keep fun y hy => hc.block y (hp.own hy).2 (by simp), h, c, rfl, h1, Nat.lt_of_lt_of_le h2 hc.size⟩
              · intro j u V V' hjp hc hφ
                rcases j with _ | _ | _ | _ | _ | _ | _ | _ | _ | _ | _ | _ | _ | j
                all_goals first | exact hφ | skip
                · obtain ⟨h, rfl, hr⟩ := hφ
                  have h1 := hr.lt h rfl
                  exact ⟨h, rfl, ownsRow_frame hr (hc.block _ h1.2 (by simp; omega))⟩
                · obtain ⟨h, c, rfl, hp⟩ := hφ
                  exact ⟨h, c, rfl, hp.keep fun y hy => by
                    have h1 := hp.own hy
                    exact hc.block y h1.2 (by simp; omega)⟩
                · exact absurd rfl hjp
              · intro j oo hj hjp ho a' w' hst hch hpre hdep
                have hsz : wr.heap.size ≤ w'.heap.size := hch.size
                have hgo : w'.heap[g]? = w.heap[g]? := (hch.block g (by show g < wr.heap.size; omega) (by simp; omega)).trans (HX.out.1.block g hgl (by simp))
                have y1 := (World.cell?_of_block (a := ⟨g, off + i * 2, none⟩) hgo).trans HX.out.2.2.1
                have y2 := (World.cell?_of_block (a := ⟨g, off + i * 2 + 1, none⟩) hgo).trans HX.out.2.2.2
                clear hgo
                have hj' : j < 13 := hj
                rcases j with _ | _ | _ | _ | _ | _ | _ | _ | _ | _ | _ | _ | _ | j
                · obtain rfl : _ = oo := Option.some.inj ho  -- 0: slot 57
                  have h3 := g_eq (t := 3) (v := .slice (some ⟨g2, 0, none⟩) n RC) (hst 3 (by simp))
                  exact ⟨.slice (some ⟨g2, 0, none⟩) n RC, w', by go_simp, Chg.refl _ _, rfl⟩
                · obtain rfl : _ = oo := Option.some.inj ho  -- 1: slot 58
                  have h5 := g_eq (t := 5) (v := .int .i64 ↑k) (hst 5 (by simp))
                  exact ⟨.int .i64 ↑k, w', by go_simp, Chg.refl _ _, rfl⟩
                · obtain rfl : _ = oo := Option.some.inj ho  -- 2: slot 59
                  have h57 := g_eq (t := 57) (v := .slice (some ⟨g2, 0, none⟩) n RC) (hdep 0 (by kernel_rfl))
                  have h58 := g_eq (t := 58) (v := .int .i64 ↑k) (hdep 1 (by kernel_rfl))
                  exact ⟨.slice (some ⟨g2, 0, none⟩) k RC, w', by go_simp, Chg.refl _ _, rfl⟩
                · obtain rfl : _ = oo := Option.some.inj ho  -- 3: slot 60
                  have h0 := g_eq (t := 0) (v := .slice (some ⟨g, off, none⟩) N c) (hst 0 (by simp))
                  exact ⟨.slice (some ⟨g, off, none⟩) N c, w', by go_simp, Chg.refl _ _, rfl⟩
                · obtain rfl : _ = oo := Option.some.inj ho  -- 4: slot 61
                  have h4 := g_eq (t := 4) (v := .int .i64 ↑i) (hst 4 (by simp))
                  exact ⟨.int .i64 ↑i, w', by go_simp, Chg.refl _ _, rfl⟩
                · obtain rfl : _ = oo := Option.some.inj ho  -- 5: slot 62
                  have h60 := g_eq (t := 60) (v := .slice (some ⟨g, off, none⟩) N c) (hdep 3 (by kernel_rfl))
                  have h61 := g_eq (t := 61) (v := .int .i64 ↑i) (hdep 4 (by kernel_rfl))
                  exact ⟨.pointer (some ⟨g, off + i * 2, none⟩), w', by go_simp, Chg.refl _ _, rfl⟩
                · obtain rfl : _ = oo := Option.some.inj ho  -- 6: slot 63
                  have h62 := g_eq (t := 62) (v := .pointer (some ⟨g, off + i * 2, none⟩)) (hdep 5 (by kernel_rfl))
                  exact ⟨.agg #[.string s, .string s'], w', by go_simp, Chg.refl _ _, rfl⟩
                · obtain rfl : _ = oo := Option.some.inj ho  -- 7: slot 64
                  have h63 := g_eq (t := 63) (v := .agg #[.string s, .string s']) (hdep 6 (by kernel_rfl))
                  have h63 := g_eq (t := 63) (v := .agg #[.string s, .string s']) (hdep 6 (by kernel_rfl))
                  refine ⟨.slice (some ⟨w'.heap.size, 0, none⟩) 1 1, w'.alloc (.cells #[.string s, .string s'] 52), by go_simp, (Chg.refl [] w').al _, _, rfl, ?_⟩
                  exact World.ownsRow_lit w' #[.string s, .string s'] 1 hsz (by decide) rfl
                · obtain rfl : _ = oo := Option.some.inj ho  -- 8: slot 65
                  have h3 := g_eq (t := 3) (v := .slice (some ⟨g2, 0, none⟩) n RC) (hst 3 (by simp))
                  exact ⟨.slice (some ⟨g2, 0, none⟩) n RC, w', by go_simp, Chg.refl _ _, rfl⟩
                · obtain rfl : _ = oo := Option.some.inj ho  -- 9: slot 66
                  have h5 := g_eq (t := 5) (v := .int .i64 ↑k) (hst 5 (by simp))
                  exact ⟨.int .i64 ↑k, w', by go_simp, Chg.refl _ _, rfl⟩
                · obtain rfl : _ = oo := Option.some.inj ho  -- 10: slot 67
                  have h65 := g_eq (t := 65) (v := .slice (some ⟨g2, 0, none⟩) n RC) (hdep 8 (by kernel_rfl))
                  have h66 := g_eq (t := 66) (v := .int .i64 ↑k) (hdep 9 (by kernel_rfl))
                  exact ⟨.slice (if RC = k then some ⟨g2, 0, none⟩ else some ⟨g2, k * 2, none⟩) (n - k) (RC - k), w', by go_simp, Chg.refl _ _, rfl⟩
                · obtain rfl : _ = oo := Option.some.inj ho  -- 11: slot 68
                  have h67 := g_eq (t := 67) (v := .slice (if RC = k then some ⟨g2, 0, none⟩ else some ⟨g2, k * 2, none⟩) (n - k) (RC - k)) (hdep 10 (by kernel_rfl))
                  obtain ⟨h, h64, hown⟩ : ∃ h, Act.g a' 64 = .slice (some ⟨h, 0, none⟩) 1 1 ∧ w'.ownsRow wr.heap.size 52 2 (Act.g a' 64) 1 [.string s, .string s'] := hdep 7 (by kernel_rfl)
                  rw [h64] at hown
                  have h64 := g_eq (t := 64) h64
                  have h67 := g_eq (t := 67) (v := .slice (if RC = k then some ⟨g2, 0, none⟩ else some ⟨g2, k * 2, none⟩) (n - k) (RC - k)) (hdep 10 (by kernel_rfl))
                  obtain ⟨xs, hrow, hxs⟩ := HRP.out
                  have hr1 := ownsRow_frame hrow ((hpre (by kernel_rfl)).block g2 (by show g2 < wr.heap.size; omega) (by simp))
                  have hsuf := ownsRow_suffix hr1 hkle
                  obtain ⟨v', w2, hr, hown2, hc2, g', c', rfl, hlt, hor⟩ := run_append_full (P := Tryz.prog) (w := w') wr.heap.size 26 26 52 _ 2 32 uPS iPS rfl h 1 [.string s, .string s'] hown _ (n - k) (RC - k) (xs.drop (k * 2)) (by rw [List.length_drop, hr1.1]; omega)
                    hsuf (by omega) (by omega)
                  have hp2 : PRow w2 wr.heap.size 52 (.slice (some ⟨g', 0, none⟩) (1 + (n - k)) c') (1 + (n - k)) := ⟨_, hown2, fun x hx => by
                    rcases List.mem_append.1 hx with hx | hx
                    · simp only [List.mem_cons, List.not_mem_nil, or_false] at hx
                      rcases hx with rfl | rfl
                      · exact ⟨s, rfl⟩
                      · exact ⟨s', rfl⟩
                    · exact hxs x (List.mem_of_mem_drop hx)⟩
                  exact ⟨_, w2, by simp [execOp, resolve, invoke, builtin, Act.eval, h64, h67, hr, Result.andThen], hc2, g', c', rfl, hp2⟩
                · exact absurd rfl hjp
                · omega
              · intro oo ho a' w' hst hch hdep
                obtain rfl : _ = oo := Option.some.inj ho
                have hsz : wr.heap.size ≤ w'.heap.size := hch.size
                have h59 := g_eq (t := 59) (v := .slice (some ⟨g2, 0, none⟩) k RC) (hdep 2 (by kernel_rfl))
                obtain ⟨h, c0, h68, hp⟩ : ∃ h c, Act.g a' 68 = .slice (some ⟨h, 0, none⟩) (1 + (n - k)) c ∧ PRow w' wr.heap.size 52 (Act.g a' 68) (1 + (n - k)) := hdep 11 (by kernel_rfl)
                rw [h68] at hp
                have h68 := g_eq (t := 68) h68
                obtain ⟨ys, hys, hyx⟩ := hp
                obtain ⟨xs, hrow, hxs⟩ := HRP.out
                have hrp := ownsRow_prefix (ownsRow_frame hrow (hch.block g2 (by show g2 < wr.heap.size; omega) (by simp))) hkle
                obtain ⟨v', w2, hr, hown2, hc2, hor⟩ := run_app (P := Tryz.prog) (w := w') w.heap.size 26 26 52 _ 2 32 uPS iPS rfl (by decide) _ _ _ hrp (some ⟨h, 0, none⟩) (1 + (n - k)) c0 ys hys.1
                  (fun _ => ⟨_, rfl, hys.cells rfl⟩) (fun u hu => by
                    obtain ⟨q, rfl⟩ := hyx u hu
                    rfl) (by omega) (by omega) (by have := hwr; omega)
                rcases hor with ⟨h0, h1, _⟩ | ⟨g', c', rfl, hg1, hg2, hor⟩
                · exfalso
                  omega
                · have e : k + (1 + (n - k)) = n + 1 := by omega
                  rw [e] at hown2 hr
                  refine ⟨.slice (some ⟨g', 0, none⟩) (n + 1) c', w2, by simp [execOp, resolve, invoke, builtin, Act.eval, h59, h68, hr, Result.andThen], hc2, ⟨_, hown2, fun x hx => ?_⟩, g', c', rfl, hg1, hg2⟩
                  rcases List.mem_append.1 hx with hx | hx
                  · exact hxs x (List.mem_of_mem_take hx)
                  · exact hyx x hx
              · intro oo ho u w' hch hφ A2 hA2
                obtain rfl : _ = oo := Option.some.inj ho
                have l12 : 12 < 13 := by omega
                obtain ⟨hp, g1, c1, hu12, hg1, hg2⟩ : PRow w' w.heap.size 52 (u 12) (n + 1) ∧ ∃ h c, u 12 = .slice (some ⟨h, 0, none⟩) (n + 1) c ∧ w.heap.size ≤ h ∧ h < w'.heap.size := hφ 12 l12
                rw [hu12] at hp
                have hcw : Chg [] w w' := HX.out.1.trans (⟨hch.os, hch.tape, hch.output, hch.size, hch.block⟩ : Chg [g2] wr w') (fun y hy => .inr (by rw [List.mem_singleton.1 hy]; exact hbg))
                have HY := Lib.hid (And.intro hp hcw)
                simp [putAll, dOf, Act.put, hu12] at hA2
                subst hA2
                clear hφ l12 ho hu12 hch hp hcw
                unfold Oper.wp
                go_simp
                go_wp2
                go_roundg (N - (i + 1))
                case measure => omega
                case rel => exact ⟨i + 1, n + 1, _, by omega, by omega, by omega, rfl, by go_num, HY.out.2, HY.out.1⟩
        · have hkn' : k = n := by omega
          subst hkn'
          clear hkn
          cases RA with
          | none =>
            obtain ⟨h0, h1⟩ := HX.out.2.1.none_inv
            subst h0
            subst h1
            go_wp2
            go_quiet (fail)
            go_wp2_with fail
            go_quiet (fail)
            go_wp2_with fail
            clear y1

            refine wp_region_pair (by rfl) (by kernel_rfl) [0, 3, 4, 5] (by kernel_rfl) 12 (by decide) []
              (fun j u V => match j with
                | 0 => u = .slice none 0 0
                | 1 => u = .int .i64 0
                | 2 => u = .slice none 0 0
                | 3 => u = .slice (some ⟨g, off, none⟩) N c
                | 4 => u = .int .i64 ↑i
                | 5 => u = .pointer (some ⟨g, off + i * 2, none⟩)
                | 6 => u = .agg #[.string s, .string s']
                | 7 => ∃ h, u = .slice (some ⟨h, 0, none⟩) 1 1 ∧ V.ownsRow wr.heap.size 52 2 u 1 [.string s, .string s']
                | 8 => u = .slice none 0 0
                | 9 => u = .int .i64 0
                | 10 => u = .slice none 0 0
                | 11 => ∃ h c, u = .slice (some ⟨h, 0, none⟩) 1 c ∧ PRow V wr.heap.size 52 u 1
                | 12 => PRow V w.heap.size 52 u (0 + 1) ∧ ∃ h c, u = .slice (some ⟨h, 0, none⟩) (0 + 1) c ∧ w.heap.size ≤ h ∧ h < V.heap.size
                | _ => True) ?_ ?_ ?_ ?_ ?_
            · intro j u V V' hc hφ
              rcases j with _ | _ | _ | _ | _ | _ | _ | _ | _ | _ | _ | _ | _ | j
              all_goals first | exact hφ | skip
              · obtain ⟨h, rfl, hr⟩ := hφ
                exact ⟨h, rfl, ownsRow_frame hr (hc.block _ (ownsRow_lt hr) (by simp))⟩
              · obtain ⟨h, c, rfl, hp⟩ := hφ
                exact ⟨h, c, rfl, hp.keep fun y hy => hc.block y (hp.own hy).2 (by simp)⟩
              · obtain ⟨hp, h, c, rfl, h1, h2⟩ := hφ
                exact ⟨hp.keep fun y hy => hc.block y (hp.own hy).2 (by simp), h, c, rfl, h1, Nat.lt_of_lt_of_le h2 hc.size⟩
            · intro j u V V' hjp hc hφ
              rcases j with _ | _ | _ | _ | _ | _ | _ | _ | _ | _ | _ | _ | _ | j
              all_goals first | exact hφ | skip
              · obtain ⟨h, rfl, hr⟩ := hφ
                have h1 := hr.lt h rfl
                exact ⟨h, rfl, ownsRow_frame hr (hc.block _ h1.2 (by simp))⟩
              · obtain ⟨h, c, rfl, hp⟩ := hφ
                exact ⟨h, c, rfl, hp.keep fun y hy => by
                  have h1 := hp.own hy
                  exact hc.block y h1.2 (by simp)⟩
              · exact absurd rfl hjp
            · intro j oo hj hjp ho a' w' hst hch hpre hdep
              have hsz : wr.heap.size ≤ w'.heap.size := hch.size
              have hgo : w'.heap[g]? = w.heap[g]? := (hch.block g (by show g < wr.heap.size; omega) (by simp)).trans (HX.out.1.block g hgl (by simp))
              have y1 := (World.cell?_of_block (a := ⟨g, off + i * 2, none⟩) hgo).trans HX.out.2.2.1
              have y2 := (World.cell?_of_block (a := ⟨g, off + i * 2 + 1, none⟩) hgo).trans HX.out.2.2.2
              clear hgo
              have hj' : j < 13 := hj
              rcases j with _ | _ | _ | _ | _ | _ | _ | _ | _ | _ | _ | _ | _ | j
              · obtain rfl : _ = oo := Option.some.inj ho  -- 0: slot 57
                have h3 := g_eq (t := 3) (v := .slice none 0 0) (hst 3 (by simp))
                exact ⟨.slice none 0 0, w', by go_simp, Chg.refl _ _, rfl⟩
              · obtain rfl : _ = oo := Option.some.inj ho  -- 1: slot 58
                have h5 := g_eq (t := 5) (v := .int .i64 0) (hst 5 (by simp))
                exact ⟨.int .i64 0, w', by go_simp, Chg.refl _ _, rfl⟩
              · obtain rfl : _ = oo := Option.some.inj ho  -- 2: slot 59
                have h57 := g_eq (t := 57) (v := .slice none 0 0) (hdep 0 (by kernel_rfl))
                have h58 := g_eq (t := 58) (v := .int .i64 0) (hdep 1 (by kernel_rfl))
                exact ⟨.slice none 0 0, w', by go_simp, Chg.refl _ _, rfl⟩
              · obtain rfl : _ = oo := Option.some.inj ho  -- 3: slot 60
                have h0 := g_eq (t := 0) (v := .slice (some ⟨g, off, none⟩) N c) (hst 0 (by simp))
                exact ⟨.slice (some ⟨g, off, none⟩) N c, w', by go_simp, Chg.refl _ _, rfl⟩
              · obtain rfl : _ = oo := Option.some.inj ho  -- 4: slot 61
                have h4 := g_eq (t := 4) (v := .int .i64 ↑i) (hst 4 (by simp))
                exact ⟨.int .i64 ↑i, w', by go_simp, Chg.refl _ _, rfl⟩
              · obtain rfl : _ = oo := Option.some.inj ho  -- 5: slot 62
                have h60 := g_eq (t := 60) (v := .slice (some ⟨g, off, none⟩) N c) (hdep 3 (by kernel_rfl))
                have h61 := g_eq (t := 61) (v := .int .i64 ↑i) (hdep 4 (by kernel_rfl))
                exact ⟨.pointer (some ⟨g, off + i * 2, none⟩), w', by go_simp, Chg.refl _ _, rfl⟩
              · obtain rfl : _ = oo := Option.some.inj ho  -- 6: slot 63
                have h62 := g_eq (t := 62) (v := .pointer (some ⟨g, off + i * 2, none⟩)) (hdep 5 (by kernel_rfl))
                exact ⟨.agg #[.string s, .string s'], w', by go_simp, Chg.refl _ _, rfl⟩
              · obtain rfl : _ = oo := Option.some.inj ho  -- 7: slot 64
                have h63 := g_eq (t := 63) (v := .agg #[.string s, .string s']) (hdep 6 (by kernel_rfl))
                have h63 := g_eq (t := 63) (v := .agg #[.string s, .string s']) (hdep 6 (by kernel_rfl))
                refine ⟨.slice (some ⟨w'.heap.size, 0, none⟩) 1 1, w'.alloc (.cells #[.string s, .string s'] 52), by go_simp, (Chg.refl [] w').al _, _, rfl, ?_⟩
                exact World.ownsRow_lit w' #[.string s, .string s'] 1 hsz (by decide) rfl
              · obtain rfl : _ = oo := Option.some.inj ho  -- 8: slot 65
                have h3 := g_eq (t := 3) (v := .slice none 0 0) (hst 3 (by simp))
                exact ⟨.slice none 0 0, w', by go_simp, Chg.refl _ _, rfl⟩
              · obtain rfl : _ = oo := Option.some.inj ho  -- 9: slot 66
                have h5 := g_eq (t := 5) (v := .int .i64 0) (hst 5 (by simp))
                exact ⟨.int .i64 0, w', by go_simp, Chg.refl _ _, rfl⟩
              · obtain rfl : _ = oo := Option.some.inj ho  -- 10: slot 67
                have h65 := g_eq (t := 65) (v := .slice none 0 0) (hdep 8 (by kernel_rfl))
                have h66 := g_eq (t := 66) (v := .int .i64 0) (hdep 9 (by kernel_rfl))
                exact ⟨.slice none 0 0, w', by go_simp, Chg.refl _ _, rfl⟩
              · obtain rfl : _ = oo := Option.some.inj ho  -- 11: slot 68
                have h67 := g_eq (t := 67) (v := .slice none 0 0) (hdep 10 (by kernel_rfl))
                obtain ⟨h, h64, hown⟩ : ∃ h, Act.g a' 64 = .slice (some ⟨h, 0, none⟩) 1 1 ∧ w'.ownsRow wr.heap.size 52 2 (Act.g a' 64) 1 [.string s, .string s'] := hdep 7 (by kernel_rfl)
                rw [h64] at hown
                have h64 := g_eq (t := 64) h64
                have h67 := g_eq (t := 67) (v := .slice none 0 0) (hdep 10 (by kernel_rfl))
                obtain ⟨v', w2, hr, hown2, hc2, g', c', rfl, hlt, hor⟩ := run_append_full (P := Tryz.prog) (w := w') wr.heap.size 26 26 52 _ 2 32 uPS iPS rfl h 1 [.string s, .string s'] hown none 0 0 [] rfl (fun h => absurd h (by omega)) (by omega) (by omega)
                have hp2 : PRow w2 wr.heap.size 52 (.slice (some ⟨g', 0, none⟩) 1 c') 1 := ⟨_, hown2, fun x hx => by
                  simp only [List.append_nil, List.mem_cons, List.not_mem_nil, or_false] at hx
                  rcases hx with rfl | rfl
                  · exact ⟨s, rfl⟩
                  · exact ⟨s', rfl⟩⟩
                exact ⟨_, w2, by simp [execOp, resolve, invoke, builtin, Act.eval, h64, h67, hr, Result.andThen], hc2, g', c', rfl, hp2⟩
              · exact absurd rfl hjp
              · omega
            · intro oo ho a' w' hst hch hdep
              obtain rfl : _ = oo := Option.some.inj ho
              have hsz : wr.heap.size ≤ w'.heap.size := hch.size
              have h59 := g_eq (t := 59) (v := .slice none 0 0) (hdep 2 (by kernel_rfl))
              obtain ⟨h, c0, h68, hp⟩ : ∃ h c, Act.g a' 68 = .slice (some ⟨h, 0, none⟩) 1 c ∧ PRow w' wr.heap.size 52 (Act.g a' 68) 1 := hdep 11 (by kernel_rfl)
              rw [h68] at hp
              have h68 := g_eq (t := 68) h68
              obtain ⟨ys, hys, hyx⟩ := hp
              have hrp : w'.ownsRow w.heap.size 52 2 (.slice none 0 0) 0 [] := World.ownsRow_nil _ _ _ _
              obtain ⟨v', w2, hr, hown2, hc2, hor⟩ := run_app (P := Tryz.prog) (w := w') w.heap.size 26 26 52 _ 2 32 uPS iPS rfl (by decide) _ _ _ hrp (some ⟨h, 0, none⟩) 1 c0 ys hys.1
                (fun _ => ⟨_, rfl, hys.cells rfl⟩) (fun u hu => by
                  obtain ⟨q, rfl⟩ := hyx u hu
                  rfl) (by omega) (by omega) (by have := hwr; omega)
              rcases hor with ⟨h0, h1, _⟩ | ⟨g', c', rfl, hg1, hg2, hor⟩
              · exfalso
                omega
              · have e : 0 + 1 = 0 + 1 := by omega
                rw [e] at hown2 hr
                refine ⟨.slice (some ⟨g', 0, none⟩) (0 + 1) c', w2, by simp [execOp, resolve, invoke, builtin, Act.eval, h59, h68, hr, Result.andThen], hc2, ⟨_, hown2, fun x hx => ?_⟩, g', c', rfl, hg1, hg2⟩
                rcases List.mem_append.1 hx with hx | hx
                · cases hx
                · exact hyx x hx
            · intro oo ho u w' hch hφ A2 hA2
              obtain rfl : _ = oo := Option.some.inj ho
              have l12 : 12 < 13 := by omega
              obtain ⟨hp, g1, c1, hu12, hg1, hg2⟩ : PRow w' w.heap.size 52 (u 12) (0 + 1) ∧ ∃ h c, u 12 = .slice (some ⟨h, 0, none⟩) (0 + 1) c ∧ w.heap.size ≤ h ∧ h < w'.heap.size := hφ 12 l12
              rw [hu12] at hp
              have hcw : Chg [] w w' := HX.out.1.trans (⟨hch.os, hch.tape, hch.output, hch.size, hch.block⟩ : Chg [] wr w') (fun y hy => .inr (by simp at hy))
              have HY := Lib.hid (And.intro hp hcw)
              simp [putAll, dOf, Act.put, hu12] at hA2
              subst hA2
              clear hφ l12 ho hu12 hch hp hcw
              unfold Oper.wp
              go_simp
              go_wp2
              go_roundg (N - (i + 1))
              case measure => omega
              case rel => exact ⟨i + 1, 1, _, by omega, by omega, by omega, rfl, by go_num, HY.out.2, HY.out.1⟩
          | some a2 =>
            obtain ⟨g2, rfl, hnc2, hbg, hgl2⟩ := HX.out.2.1.some_inv
            have HRP := Lib.hid HX.out.2.1
            have hkle : k ≤ k := Nat.le_refl _
            have hkc : k ≤ RC := hnc2
            go_wp2
            go_quiet (fail)
            go_wp2_with fail
            go_quiet (fail)
            go_wp2_with fail
            clear y1

            refine wp_region_pair (by rfl) (by kernel_rfl) [0, 3, 4, 5] (by kernel_rfl) 12 (by decide) [g2]
              (fun j u V => match j with
                | 0 => u = .slice (some ⟨g2, 0, none⟩) k RC
                | 1 => u = .int .i64 ↑k
                | 2 => u = .slice (some ⟨g2, 0, none⟩) k RC
                | 3 => u = .slice (some ⟨g, off, none⟩) N c
                | 4 => u = .int .i64 ↑i
                | 5 => u = .pointer (some ⟨g, off + i * 2, none⟩)
                | 6 => u = .agg #[.string s, .string s']
                | 7 => ∃ h, u = .slice (some ⟨h, 0, none⟩) 1 1 ∧ V.ownsRow wr.heap.size 52 2 u 1 [.string s, .string s']
                | 8 => u = .slice (some ⟨g2, 0, none⟩) k RC
                | 9 => u = .int .i64 ↑k
                | 10 => u = .slice (if RC = k then some ⟨g2, 0, none⟩ else some ⟨g2, k * 2, none⟩) 0 (RC - k)
                | 11 => ∃ h c, u = .slice (some ⟨h, 0, none⟩) 1 c ∧ PRow V wr.heap.size 52 u 1
                | 12 => PRow V w.heap.size 52 u (k + 1) ∧ ∃ h c, u = .slice (some ⟨h, 0, none⟩) (k + 1) c ∧ w.heap.size ≤ h ∧ h < V.heap.size
                | _ => True) ?_ ?_ ?_ ?_ ?_
            · intro j u V V' hc hφ
              rcases j with _ | _ | _ | _ | _ | _ | _ | _ | _ | _ | _ | _ | _ | j
              all_goals first | exact hφ | skip
              · obtain ⟨h, rfl, hr⟩ := hφ
                exact ⟨h, rfl, ownsRow_frame hr (hc.block _ (ownsRow_lt hr) (by simp))⟩
              · obtain ⟨h, c, rfl, hp⟩ := hφ
                exact ⟨h, c, rfl, hp.keep fun y hy => hc.block y (hp.own hy).2 (by simp)⟩
              · obtain ⟨hp, h, c, rfl, h1, h2⟩ := hφ
                exact ⟨hp.keep fun y hy => hc.block y (hp.own hy).2 (by simp), h, c, rfl, h1, Nat.lt_of_lt_of_le h2 hc.size⟩
            · intro j u V V' hjp hc hφ
              rcases j with _ | _ | _ | _ | _ | _ | _ | _ | _ | _ | _ | _ | _ | j
              all_goals first | exact hφ | skip
              · obtain ⟨h, rfl, hr⟩ := hφ
                have h1 := hr.lt h rfl
                exact ⟨h, rfl, ownsRow_frame hr (hc.block _ h1.2 (by simp; omega))⟩
              · obtain ⟨h, c, rfl, hp⟩ := hφ
                exact ⟨h, c, rfl, hp.keep fun y hy => by
                  have h1 := hp.own hy
                  exact hc.block y h1.2 (by simp; omega)⟩
              · exact absurd rfl hjp
            · intro j oo hj hjp ho a' w' hst hch hpre hdep
              have hsz : wr.heap.size ≤ w'.heap.size := hch.size
              have hgo : w'.heap[g]? = w.heap[g]? := (hch.block g (by show g < wr.heap.size; omega) (by simp; omega)).trans (HX.out.1.block g hgl (by simp))
              have y1 := (World.cell?_of_block (a := ⟨g, off + i * 2, none⟩) hgo).trans HX.out.2.2.1
              have y2 := (World.cell?_of_block (a := ⟨g, off + i * 2 + 1, none⟩) hgo).trans HX.out.2.2.2
              clear hgo
              have hj' : j < 13 := hj
              rcases j with _ | _ | _ | _ | _ | _ | _ | _ | _ | _ | _ | _ | _ | j
              · obtain rfl : _ = oo := Option.some.inj ho  -- 0: slot 57
                have h3 := g_eq (t := 3) (v := .slice (some ⟨g2, 0, none⟩) k RC) (hst 3 (by simp))
                exact ⟨.slice (some ⟨g2, 0, none⟩) k RC, w', by go_simp, Chg.refl _ _, rfl⟩
              · obtain rfl : _ = oo := Option.some.inj ho  -- 1: slot 58
                have h5 := g_eq (t := 5) (v := .int .i64 ↑k) (hst 5 (by simp))
                exact ⟨.int .i64 ↑k, w', by go_simp, Chg.refl _ _, rfl⟩
              · obtain rfl : _ = oo := Option.some.inj ho  -- 2: slot 59
                have h57 := g_eq (t := 57) (v := .slice (some ⟨g2, 0, none⟩) k RC) (hdep 0 (by kernel_rfl))
                have h58 := g_eq (t := 58) (v := .int .i64 ↑k) (hdep 1 (by kernel_rfl))
                exact ⟨.slice (some ⟨g2, 0, none⟩) k RC, w', by go_simp, Chg.refl _ _, rfl⟩
              · obtain rfl : _ = oo := Option.some.inj ho  -- 3: slot 60
                have h0 := g_eq (t := 0) (v := .slice (some ⟨g, off, none⟩) N c) (hst 0 (by simp))
                exact ⟨.slice (some ⟨g, off, none⟩) N c, w', by go_simp, Chg.refl _ _, rfl⟩
              · obtain rfl : _ = oo := Option.some.inj ho  -- 4: slot 61
                have h4 := g_eq (t := 4) (v := .int .i64 ↑i) (hst 4 (by simp))
                exact ⟨.int .i64 ↑i, w', by go_simp, Chg.refl _ _, rfl⟩
              · obtain rfl : _ = oo := Option.some.inj ho  -- 5: slot 62
                have h60 := g_eq (t := 60) (v := .slice (some ⟨g, off, none⟩) N c) (hdep 3 (by kernel_rfl))
                have h61 := g_eq (t := 61) (v := .int .i64 ↑i) (hdep 4 (by kernel_rfl))
                exact ⟨.pointer (some ⟨g, off + i * 2, none⟩), w', by go_simp, Chg.refl _ _, rfl⟩
              · obtain rfl : _ = oo := Option.some.inj ho  -- 6: slot 63
                have h62 := g_eq (t := 62) (v := .pointer (some ⟨g, off + i * 2, none⟩)) (hdep 5 (by kernel_rfl))
                exact ⟨.agg #[.string s, .string s'], w', by go_simp, Chg.refl _ _, rfl⟩
              · obtain rfl : _ = oo := Option.some.inj ho  -- 7: slot 64
                have h63 := g_eq (t := 63) (v := .agg #[.string s, .string s']) (hdep 6 (by kernel_rfl))
                have h63 := g_eq (t := 63) (v := .agg #[.string s, .string s']) (hdep 6 (by kernel_rfl))
                refine ⟨.slice (some ⟨w'.heap.size, 0, none⟩) 1 1, w'.alloc (.cells #[.string s, .string s'] 52), by go_simp, (Chg.refl [] w').al _, _, rfl, ?_⟩
                exact World.ownsRow_lit w' #[.string s, .string s'] 1 hsz (by decide) rfl
              · obtain rfl : _ = oo := Option.some.inj ho  -- 8: slot 65
                have h3 := g_eq (t := 3) (v := .slice (some ⟨g2, 0, none⟩) k RC) (hst 3 (by simp))
                exact ⟨.slice (some ⟨g2, 0, none⟩) k RC, w', by go_simp, Chg.refl _ _, rfl⟩
              · obtain rfl : _ = oo := Option.some.inj ho  -- 9: slot 66
                have h5 := g_eq (t := 5) (v := .int .i64 ↑k) (hst 5 (by simp))
                exact ⟨.int .i64 ↑k, w', by go_simp, Chg.refl _ _, rfl⟩
              · obtain rfl : _ = oo := Option.some.inj ho  -- 10: slot 67
                have h65 := g_eq (t := 65) (v := .slice (some ⟨g2, 0, none⟩) k RC) (hdep 8 (by kernel_rfl))
                have h66 := g_eq (t := 66) (v := .int .i64 ↑k) (hdep 9 (by kernel_rfl))
                exact ⟨.slice (if RC = k then some ⟨g2, 0, none⟩ else some ⟨g2, k * 2, none⟩) 0 (RC - k), w', by go_simp, Chg.refl _ _, rfl⟩
              · obtain rfl : _ = oo := Option.some.inj ho  -- 11: slot 68
                have h67 := g_eq (t := 67) (v := .slice (if RC = k then some ⟨g2, 0, none⟩ else some ⟨g2, k * 2, none⟩) 0 (RC - k)) (hdep 10 (by kernel_rfl))
                obtain ⟨h, h64, hown⟩ : ∃ h, Act.g a' 64 = .slice (some ⟨h, 0, none⟩) 1 1 ∧ w'.ownsRow wr.heap.size 52 2 (Act.g a' 64) 1 [.string s, .string s'] := hdep 7 (by kernel_rfl)
                rw [h64] at hown
                have h64 := g_eq (t := 64) h64
                have h67 := g_eq (t := 67) (v := .slice (if RC = k then some ⟨g2, 0, none⟩ else some ⟨g2, k * 2, none⟩) 0 (RC - k)) (hdep 10 (by kernel_rfl))
                obtain ⟨xs, hrow, hxs⟩ := HRP.out
                have hr1 := ownsRow_frame hrow ((hpre (by kernel_rfl)).block g2 (by show g2 < wr.heap.size; omega) (by simp))
                have hsuf := ownsRow_suffix hr1 hkle
                rw [Nat.sub_self] at hsuf
                obtain ⟨v', w2, hr, hown2, hc2, g', c', rfl, hlt, hor⟩ := run_append_full (P := Tryz.prog) (w := w') wr.heap.size 26 26 52 _ 2 32 uPS iPS rfl h 1 [.string s, .string s'] hown _ 0 (RC - k) (xs.drop (k * 2)) (by rw [List.length_drop, hr1.1]; omega)
                  hsuf (by omega) (by omega)
                have hp2 : PRow w2 wr.heap.size 52 (.slice (some ⟨g', 0, none⟩) 1 c') 1 := ⟨_, hown2, fun x hx => by
                  rcases List.mem_append.1 hx with hx | hx
                  · simp only [List.mem_cons, List.not_mem_nil, or_false] at hx
                    rcases hx with rfl | rfl
                    · exact ⟨s, rfl⟩
                    · exact ⟨s', rfl⟩
                  · exact hxs x (List.mem_of_mem_drop hx)⟩
                exact ⟨_, w2, by simp [execOp, resolve, invoke, builtin, Act.eval, h64, h67, hr, Result.andThen], hc2, g', c', rfl, hp2⟩
              · exact absurd rfl hjp
              · omega
            · intro oo ho a' w' hst hch hdep
              obtain rfl : _ = oo := Option.some.inj ho
              have hsz : wr.heap.size ≤ w'.heap.size := hch.size
              have h59 := g_eq (t := 59) (v := .slice (some ⟨g2, 0, none⟩) k RC) (hdep 2 (by kernel_rfl))
              obtain ⟨h, c0, h68, hp⟩ : ∃ h c, Act.g a' 68 = .slice (some ⟨h, 0, none⟩) 1 c ∧ PRow w' wr.heap.size 52 (Act.g a' 68) 1 := hdep 11 (by kernel_rfl)
              rw [h68] at hp
              have h68 := g_eq (t := 68) h68
              obtain ⟨ys, hys, hyx⟩ := hp
              obtain ⟨xs, hrow, hxs⟩ := HRP.out
              have hrp := ownsRow_prefix (ownsRow_frame hrow (hch.block g2 (by show g2 < wr.heap.size; omega) (by simp))) hkle
              obtain ⟨v', w2, hr, hown2, hc2, hor⟩ := run_app (P := Tryz.prog) (w := w') w.heap.size 26 26 52 _ 2 32 uPS iPS rfl (by decide) _ _ _ hrp (some ⟨h, 0, none⟩) 1 c0 ys hys.1
                (fun _ => ⟨_, rfl, hys.cells rfl⟩) (fun u hu => by
                  obtain ⟨q, rfl⟩ := hyx u hu
                  rfl) (by omega) (by omega) (by have := hwr; omega)
              rcases hor with ⟨h0, h1, _⟩ | ⟨g', c', rfl, hg1, hg2, hor⟩
              · exfalso
                omega
              · have e : k + 1 = k + 1 := by omega
                rw [e] at hown2 hr
                refine ⟨.slice (some ⟨g', 0, none⟩) (k + 1) c', w2, by simp [execOp, resolve, invoke, builtin, Act.eval, h59, h68, hr, Result.andThen], hc2, ⟨_, hown2, fun x hx => ?_⟩, g', c', rfl, hg1, hg2⟩
                rcases List.mem_append.1 hx with hx | hx
                · exact hxs x (List.mem_of_mem_take hx)
                · exact hyx x hx
            · intro oo ho u w' hch hφ A2 hA2
              obtain rfl : _ = oo := Option.some.inj ho
              have l12 : 12 < 13 := by omega
              obtain ⟨hp, g1, c1, hu12, hg1, hg2⟩ : PRow w' w.heap.size 52 (u 12) (k + 1) ∧ ∃ h c, u 12 = .slice (some ⟨h, 0, none⟩) (k + 1) c ∧ w.heap.size ≤ h ∧ h < w'.heap.size := hφ 12 l12
              rw [hu12] at hp
              have hcw : Chg [] w w' := HX.out.1.trans (⟨hch.os, hch.tape, hch.output, hch.size, hch.block⟩ : Chg [g2] wr w') (fun y hy => .inr (by rw [List.mem_singleton.1 hy]; exact hbg))
              have HY := Lib.hid (And.intro hp hcw)
              simp [putAll, dOf, Act.put, hu12] at hA2
              subst hA2
              clear hφ l12 ho hu12 hch hp hcw
              unfold Oper.wp
              go_simp
              go_wp2
              go_roundg (N - (i + 1))
              case measure => omega
              case rel => exact ⟨i + 1, k + 1, _, by omega, by omega, by omega, rfl, by go_num, HY.out.2, HY.out.1⟩
    · have hE : i = N := by omega
      have HX := Lib.hid (And.intro hR hcr)
      obtain ⟨RA, RC, rfl⟩ := hR.slice
      clear hR hcr hE
      go_wp2_with fail
      go_ret
      exact ⟨_, n, rfl, by omega, HX.out.2, HX.out.1.rd fun b hb => hb⟩
end Go.Proofs.YtedbfoknfdiadaaGreatDoor
