/- spec.Without of 'restart' from an implied dependency. Condition: that Val. (Printed by wip/gen/mkWithout.py.) -/
import Derived.Test.YtedbfoknfdiadaaGreatDoorNamed
set_option linter.unusedVariables false
set_option linter.unusedSimpArgs false
namespace Go.Proofs.YtedbfoknfdiadaaGreatDoor
open Go.RowKit
variable {o : Nat → Prop}
set_option maxRecDepth 100000

/-- append of nothing to a row: the row. -/
theorem run_append_zero {P : Program} {w : World} (t ty e : TypeId) (z : Value) (size bytes : Nat) (ht : P.underlying t = some (.slice e)) (hinfo : (P.info? e).map (fun i => (i.zero, i.size, i.bytes)) = some (some z, size, bytes)) (g n cap : Nat) (hnc : n ≤ cap) (A : Option Addr) (c : Nat) :
    (Builtin.append_ #[t, t] ty #[.slice (some ⟨g, 0, none⟩) n cap, .slice A 0 c]).run P w = .ok (.slice (some ⟨g, 0, none⟩) n cap) w := by
  obtain ⟨i0, hi, hzz⟩ := Option.map_eq_some_iff.1 hinfo
  simp only [Prod.mk.injEq] at hzz
  obtain ⟨hz0, hs0, hb0⟩ := hzz
  cases A with
  | none => simp [Builtin.append_, run_underlying ht, sizeOf, typeInfo, hi, Builtin.lenOf, Builtin.firstCells, hnc, storeCells]
  | some a => simp [Builtin.append_, run_underlying ht, sizeOf, typeInfo, hi, Builtin.lenOf, Builtin.firstCells, hnc, storeCells, loadCells, loadCellsFrom]
theorem FlatV.take2 {w : World} {a b : T} {l : List T} {xs : List Value} (h : FlatV o w (a :: b :: l) xs) : FlatV o w [a, b] (xs.take 10) := by
  simp only [FlatV] at h ⊢
  obtain ⟨v, r, h1, rfl, v', r', h2, rfl, _⟩ := h
  refine ⟨v, v'.cells.toList, h1, ?_, v', [], h2, by simp, rfl⟩
  have e1 := h1.size
  have e2 := h2.size
  rw [← List.append_assoc, List.take_left' (by simp [e1, e2])]
def impK : List ByteArray := [kCondition, kRequired, kRestart]
def impV (r : Bool) : List T := [.text kStarted, .bool true, .bool r]
set_option maxHeartbeats 1000000 in
theorem without_any (r : Bool) (v : Value) (w : World) (h : Rd o w (impP r) v) (hno : ∀ b, w.heap.size ≤ b → o b) :
    Calls Tryz.prog 40 #[v, .string kRestart] w fun e w' => ∃ v', e = .returned v' ∧ Chg [] w w' ∧ Rd o w' impS v' := by
  obtain ⟨ka, va, rfl, hk, hv⟩ := h.open_map
  have hk : RdK o w impK ka := hk
  have hv : RdV o w (impV r) va := hv
  obtain ⟨gk, qk, rfl, hqk, _⟩ := hk.at_ (j := 0) (s := kCondition) rfl
  obtain ⟨gv, qv, ka0, va0, rfl, hqv, _⟩ := hv.at_ (j := 0) (t := .text kStarted) rfl
  have hk1 : impK.length = 3 := rfl
  have hv1 : (impV r).length = 3 := rfl
  rw [hk1] at hk hqk
  rw [hv1] at hv hqv
  obtain ⟨b1, e1, hks⟩ := hk.src (by decide)
  cases e1
  obtain ⟨xs, hxs, hvs⟩ := hv.src
  obtain ⟨b2, e2, hvs⟩ := hvs (by decide)
  cases e2
  have HS := Lib.hid (And.intro hks (And.intro hxs hvs))
  have hxl : xs.length = 15 := hxs.length
  have HXL := Lib.hid hxl
  have hpos : posK kRestart impK = 2 := by decide +kernel
  have HPL : Hid (∀ W, Chg [] w W → Calls Tryz.prog 41 #[.agg #[.int .i64 5, .int .i64 0, .string ⟨#[]⟩, .slice (some ⟨gk, 0, none⟩) 3 qk, .slice (some ⟨gv, 0, none⟩) 3 qv], .string kRestart] W fun e w' => e = .returned (.tuple #[.int .i64 2, .bool true]) ∧ Chg [] W w') := Lib.hid fun W hc => by
    refine (place_any (impP r) _ kRestart W (h.chg hc) (by show 3 ≤ 67108864; decide)).mono ?_
    rintro e w' ⟨rfl, hc'⟩
    have h1 : posK kRestart (impP r).keys = 2 := hpos
    have h2 : decide ((impP r).keys[2]? = some kRestart) = true := decide_eq_true rfl
    rw [h1, h2]
    exact ⟨rfl, hc'⟩
  clear hks hxs hvs hk hv hk1 hv1 h hxl hpos
  go_enter Tryz.func40, Tryz.ntmps40
  go_wp2_with fail
  refine (HPL.out _ (((Chg.refl [] w).al _).al _)).mono ?_
  rintro e w1 ⟨rfl, hc1⟩
  have hcw : Chg [] w w1 := (((Chg.refl [] w).al _).al _).trans hc1 New.nil
  have z1 := box5 (heap_al1 w (.cells #[.int .i64 5, .int .i64 0, .string ⟨#[]⟩, .slice (some ⟨gk, 0, none⟩) 3 qk, .slice (some ⟨gv, 0, none⟩) 3 qv] 25) (.cells #[.int .i64 0, .int .i64 0, .string ⟨#[]⟩, .slice none 0 0, .slice none 0 0] 25)) _ hc1
  have z2 := box5 (heap_al2 w (.cells #[.int .i64 5, .int .i64 0, .string ⟨#[]⟩, .slice (some ⟨gk, 0, none⟩) 3 qk, .slice (some ⟨gv, 0, none⟩) 3 qv] 25) (.cells #[.int .i64 0, .int .i64 0, .string ⟨#[]⟩, .slice none 0 0, .slice none 0 0] 25)) _ hc1
  have hs1 : w.heap.size + 2 ≤ w1.heap.size := by have := hc1.size; simpa using this
  have HZ := Lib.hid (And.intro hcw (And.intro z1 z2))
  obtain ⟨a0, a1, a2, a3, a4, af⟩ := cells5 z1
  clear hc1 z1 z2 hcw
  go_wp2_with fail
  rename_i K hK
  have HK := Lib.hid hK
  clear hK a0 a1 a2 a3 a4 af
  refine wp_region_pair (by rfl) (by kernel_rfl) [2, 4, 5] (by kernel_rfl) 24 (by decide) []
    (fun j u V => match j with
      | 0 => ∃ h, u = .slice (some ⟨h, 0, none⟩) 0 0 ∧ V.ownsRow (w.heap.size + 2) 9 1 u 0 []
      | 1 => u = .pointer (some ⟨w.heap.size, 3, none⟩)
      | 2 => u = .slice (some ⟨gk, 0, none⟩) 3 qk
      | 3 => u = .int .i64 2
      | 4 => u = .slice (some ⟨gk, 0, none⟩) 2 qk
      | 5 => ∃ h c, u = .slice (some ⟨h, 0, none⟩) 2 c ∧ V.ownsRow (w.heap.size + 2) 9 1 u 2 (strC [kCondition, kRequired])
      | 6 => u = .pointer (some ⟨w.heap.size, 3, none⟩)
      | 7 => u = .slice (some ⟨gk, 0, none⟩) 3 qk
      | 8 => u = .int .i64 2
      | 9 => u = .int .i64 3
      | 10 => u = .slice (if qk = 3 then some ⟨gk, 0, none⟩ else some ⟨gk, 3, none⟩) 0 (qk - 3)
      | 11 => ∃ h c, u = .slice (some ⟨h, 0, none⟩) 2 c ∧ V.ownsRow (w.heap.size + 2) 9 1 u 2 (strC [kCondition, kRequired])
      | 12 => ∃ h, u = .slice (some ⟨h, 0, none⟩) 0 0 ∧ V.ownsRow (w.heap.size + 2) 25 5 u 0 []
      | 13 => u = .pointer (some ⟨w.heap.size, 4, none⟩)
      | 14 => u = .slice (some ⟨gv, 0, none⟩) 3 qv
      | 15 => u = .int .i64 2
      | 16 => u = .slice (some ⟨gv, 0, none⟩) 2 qv
      | 17 => ∃ h c, u = .slice (some ⟨h, 0, none⟩) 2 c ∧ V.ownsRow (w.heap.size + 2) 25 5 u 2 (xs.take 10)
      | 18 => u = .pointer (some ⟨w.heap.size, 4, none⟩)
      | 19 => u = .slice (some ⟨gv, 0, none⟩) 3 qv
      | 20 => u = .int .i64 2
      | 21 => u = .int .i64 3
      | 22 => u = .slice (if qv = 3 then some ⟨gv, 0, none⟩ else some ⟨gv, 15, none⟩) 0 (qv - 3)
      | 23 => ∃ h c, u = .slice (some ⟨h, 0, none⟩) 2 c ∧ V.ownsRow (w.heap.size + 2) 25 5 u 2 (xs.take 10)
      | 24 => ∃ h c h' c', u = .agg #[.int .i64 5, .int .i64 0, .string ⟨#[]⟩, .slice (some ⟨h, 0, none⟩) 2 c, .slice (some ⟨h', 0, none⟩) 2 c'] ∧ V.ownsRow (w.heap.size + 2) 9 1 (.slice (some ⟨h, 0, none⟩) 2 c) 2 (strC [kCondition, kRequired]) ∧ V.ownsRow (w.heap.size + 2) 25 5 (.slice (some ⟨h', 0, none⟩) 2 c') 2 (xs.take 10)
      | _ => True) ?_ ?_ ?_ ?_ ?_
  · intro j u V V' hc hφ
    rcases j with _ | _ | _ | _ | _ | _ | _ | _ | _ | _ | _ | _ | _ | _ | _ | _ | _ | _ | _ | _ | _ | _ | _ | _ | _ | j
    all_goals first | exact hφ | skip
    · obtain ⟨h, rfl, hr⟩ := hφ
      exact ⟨h, rfl, ownsRow_frame hr (hc.block _ (ownsRow_lt hr) (by simp))⟩
    · obtain ⟨h, c, rfl, hr⟩ := hφ
      exact ⟨h, c, rfl, ownsRow_frame hr (hc.block _ (ownsRow_lt hr) (by simp))⟩
    · obtain ⟨h, c, rfl, hr⟩ := hφ
      exact ⟨h, c, rfl, ownsRow_frame hr (hc.block _ (ownsRow_lt hr) (by simp))⟩
    · obtain ⟨h, rfl, hr⟩ := hφ
      exact ⟨h, rfl, ownsRow_frame hr (hc.block _ (ownsRow_lt hr) (by simp))⟩
    · obtain ⟨h, c, rfl, hr⟩ := hφ
      exact ⟨h, c, rfl, ownsRow_frame hr (hc.block _ (ownsRow_lt hr) (by simp))⟩
    · obtain ⟨h, c, rfl, hr⟩ := hφ
      exact ⟨h, c, rfl, ownsRow_frame hr (hc.block _ (ownsRow_lt hr) (by simp))⟩
    · obtain ⟨h, c, h', c', rfl, hr, hr'⟩ := hφ
      exact ⟨h, c, h', c', rfl, ownsRow_frame hr (hc.block _ (ownsRow_lt hr) (by simp)), ownsRow_frame hr' (hc.block _ (ownsRow_lt hr') (by simp))⟩
  · intro j u V V' hjp hc hφ
    rcases j with _ | _ | _ | _ | _ | _ | _ | _ | _ | _ | _ | _ | _ | _ | _ | _ | _ | _ | _ | _ | _ | _ | _ | _ | _ | j
    all_goals first | exact hφ | skip
    · obtain ⟨h, rfl, hr⟩ := hφ
      exact ⟨h, rfl, ownsRow_frame hr (hc.block _ (ownsRow_lt hr) (by simp))⟩
    · obtain ⟨h, c, rfl, hr⟩ := hφ
      exact ⟨h, c, rfl, ownsRow_frame hr (hc.block _ (ownsRow_lt hr) (by simp))⟩
    · obtain ⟨h, c, rfl, hr⟩ := hφ
      exact ⟨h, c, rfl, ownsRow_frame hr (hc.block _ (ownsRow_lt hr) (by simp))⟩
    · obtain ⟨h, rfl, hr⟩ := hφ
      exact ⟨h, rfl, ownsRow_frame hr (hc.block _ (ownsRow_lt hr) (by simp))⟩
    · obtain ⟨h, c, rfl, hr⟩ := hφ
      exact ⟨h, c, rfl, ownsRow_frame hr (hc.block _ (ownsRow_lt hr) (by simp))⟩
    · obtain ⟨h, c, rfl, hr⟩ := hφ
      exact ⟨h, c, rfl, ownsRow_frame hr (hc.block _ (ownsRow_lt hr) (by simp))⟩
    · exact absurd rfl hjp
  · intro j oo hj hjp ho a' w' hst hch hpre hdep
    have t1 : ¬ ((qk : Int) < 2) := by omega
    have t2 : ¬ ((qk : Int) < 3) := by omega
    have t3 : ¬ ((qv : Int) < 2) := by omega
    have t4 : ¬ ((qv : Int) < 3) := by omega
    have t5 : IntKind.i64.wrap 3 = 3 := by rfl
    have hsz : w1.heap.size ≤ w'.heap.size := hch.size
    have hcB : Chg [] w w' := HZ.out.1.trans ((Chg.refl [] w1).dr.trans hch New.nil) New.nil
    have hcB1 : Chg [] w1 w' := (Chg.refl [] w1).dr.trans hch New.nil
    obtain ⟨a0, a1, a2, a3, a4, af⟩ := cells5 (box5 HZ.out.2.1 _ hcB1)
    have hj' : j < 25 := hj
    rcases j with _ | _ | _ | _ | _ | _ | _ | _ | _ | _ | _ | _ | _ | _ | _ | _ | _ | _ | _ | _ | _ | _ | _ | _ | _ | j
    · obtain rfl : _ = oo := Option.some.inj ho  -- 0: slot 21
      refine ⟨.slice (some ⟨w'.heap.size, 0, none⟩) 0 0, w'.alloc (.cells #[] 9), by go_simp, (Chg.refl [] w').al _, _, rfl, ?_⟩
      exact World.ownsRow_lit w' #[] 0 (by omega) (by decide) rfl
    · obtain rfl : _ = oo := Option.some.inj ho  -- 1: slot 22
      have h2 := g_eq (t := 2) (v := .pointer (some ⟨w.heap.size, 0, none⟩)) (hst 2 (by simp))
      exact ⟨.pointer (some ⟨w.heap.size, 3, none⟩), w', by go_simp, Chg.refl _ _, rfl⟩
    · obtain rfl : _ = oo := Option.some.inj ho  -- 2: slot 23
      have h22 := g_eq (t := 22) (v := .pointer (some ⟨w.heap.size, 3, none⟩)) (hdep 1 (by kernel_rfl))
      exact ⟨.slice (some ⟨gk, 0, none⟩) 3 qk, w', by go_simp, Chg.refl _ _, rfl⟩
    · obtain rfl : _ = oo := Option.some.inj ho  -- 3: slot 24
      have h5 := g_eq (t := 5) (v := .int .i64 2) (hst 5 (by simp))
      exact ⟨.int .i64 2, w', by go_simp, Chg.refl _ _, rfl⟩
    · obtain rfl : _ = oo := Option.some.inj ho  -- 4: slot 25
      have h23 := g_eq (t := 23) (v := .slice (some ⟨gk, 0, none⟩) 3 qk) (hdep 2 (by kernel_rfl))
      have h24 := g_eq (t := 24) (v := .int .i64 2) (hdep 3 (by kernel_rfl))
      exact ⟨.slice (some ⟨gk, 0, none⟩) 2 qk, w', by go_simp, Chg.refl _ _, rfl⟩
    · obtain rfl : _ = oo := Option.some.inj ho  -- 5: slot 26
      have h25 := g_eq (t := 25) (v := .slice (some ⟨gk, 0, none⟩) 2 qk) (hdep 4 (by kernel_rfl))
      obtain ⟨g, hd, hown⟩ := hdep 0 (by kernel_rfl)
      rw [hd] at hown
      have hd := g_eq (t := 21) hd
      have hs := g_eq (t := 25) (v := .slice (some ⟨gk, 0, none⟩) 2 qk) (hdep 4 (by kernel_rfl))
      obtain ⟨v', w2, hr, hown2, hc2, g', c', rfl, hlt, hor⟩ := run_append_copy (P := Tryz.prog) (w := w') (w.heap.size + 2) 22 22 9 (.string ⟨#[]⟩) 1 16 uKs iS rfl g hown (some ⟨gk, 0, none⟩) 2 qk (strC [kCondition, kRequired]) rfl
        (fun hpos => ⟨_, rfl, fun j u hu => by
          have := (HS.out.1 j u (by rcases j with _ | _ | j <;> first | exact hu | simp [strC] at hu))
          exact (hcB.cells.1 _ _ (World.block_lt_of_cell? w _ this)).trans this⟩) (by omega) (by omega)
      exact ⟨_, w2, by simp [execOp, resolve, invoke, builtin, Act.eval, hd, hs, hr, Result.andThen], hc2, g', c', rfl, hown2⟩
    · obtain rfl : _ = oo := Option.some.inj ho  -- 6: slot 27
      have h2 := g_eq (t := 2) (v := .pointer (some ⟨w.heap.size, 0, none⟩)) (hst 2 (by simp))
      exact ⟨.pointer (some ⟨w.heap.size, 3, none⟩), w', by go_simp, Chg.refl _ _, rfl⟩
    · obtain rfl : _ = oo := Option.some.inj ho  -- 7: slot 28
      have h27 := g_eq (t := 27) (v := .pointer (some ⟨w.heap.size, 3, none⟩)) (hdep 6 (by kernel_rfl))
      exact ⟨.slice (some ⟨gk, 0, none⟩) 3 qk, w', by go_simp, Chg.refl _ _, rfl⟩
    · obtain rfl : _ = oo := Option.some.inj ho  -- 8: slot 29
      have h5 := g_eq (t := 5) (v := .int .i64 2) (hst 5 (by simp))
      exact ⟨.int .i64 2, w', by go_simp, Chg.refl _ _, rfl⟩
    · obtain rfl : _ = oo := Option.some.inj ho  -- 9: slot 30
      have h29 := g_eq (t := 29) (v := .int .i64 2) (hdep 8 (by kernel_rfl))
      exact ⟨.int .i64 3, w', by go_simp, Chg.refl _ _, rfl⟩
    · obtain rfl : _ = oo := Option.some.inj ho  -- 10: slot 31
      have h28 := g_eq (t := 28) (v := .slice (some ⟨gk, 0, none⟩) 3 qk) (hdep 7 (by kernel_rfl))
      have h30 := g_eq (t := 30) (v := .int .i64 3) (hdep 9 (by kernel_rfl))
      exact ⟨.slice (if qk = 3 then some ⟨gk, 0, none⟩ else some ⟨gk, 3, none⟩) 0 (qk - 3), w', by go_simp, Chg.refl _ _, rfl⟩
    · obtain rfl : _ = oo := Option.some.inj ho  -- 11: slot 32
      have h31 := g_eq (t := 31) (v := .slice (if qk = 3 then some ⟨gk, 0, none⟩ else some ⟨gk, 3, none⟩) 0 (qk - 3)) (hdep 10 (by kernel_rfl))
      obtain ⟨g, c, hd, hown⟩ := hdep 5 (by kernel_rfl)
      rw [hd] at hown
      have hd := g_eq (t := 26) hd
      have hs := g_eq (t := 31) (v := .slice (if qk = 3 then some ⟨gk, 0, none⟩ else some ⟨gk, 3, none⟩) 0 (qk - 3)) (hdep 10 (by kernel_rfl))
      have hr := run_append_zero (P := Tryz.prog) (w := w') 22 22 9 _ 1 16 uKs iS g 2 c (ownsRow_cap hown) (if qk = 3 then some ⟨gk, 0, none⟩ else some ⟨gk, 3, none⟩) (qk - 3)
      exact ⟨_, w', by simp [execOp, resolve, invoke, builtin, Act.eval, hd, hs, hr, Result.andThen], Chg.refl _ _, g, c, rfl, hown⟩
    · obtain rfl : _ = oo := Option.some.inj ho  -- 12: slot 33
      refine ⟨.slice (some ⟨w'.heap.size, 0, none⟩) 0 0, w'.alloc (.cells #[] 25), by go_simp, (Chg.refl [] w').al _, _, rfl, ?_⟩
      exact World.ownsRow_lit w' #[] 0 (by omega) (by decide) rfl
    · obtain rfl : _ = oo := Option.some.inj ho  -- 13: slot 34
      have h2 := g_eq (t := 2) (v := .pointer (some ⟨w.heap.size, 0, none⟩)) (hst 2 (by simp))
      exact ⟨.pointer (some ⟨w.heap.size, 4, none⟩), w', by go_simp, Chg.refl _ _, rfl⟩
    · obtain rfl : _ = oo := Option.some.inj ho  -- 14: slot 35
      have h34 := g_eq (t := 34) (v := .pointer (some ⟨w.heap.size, 4, none⟩)) (hdep 13 (by kernel_rfl))
      exact ⟨.slice (some ⟨gv, 0, none⟩) 3 qv, w', by go_simp, Chg.refl _ _, rfl⟩
    · obtain rfl : _ = oo := Option.some.inj ho  -- 15: slot 36
      have h5 := g_eq (t := 5) (v := .int .i64 2) (hst 5 (by simp))
      exact ⟨.int .i64 2, w', by go_simp, Chg.refl _ _, rfl⟩
    · obtain rfl : _ = oo := Option.some.inj ho  -- 16: slot 37
      have h35 := g_eq (t := 35) (v := .slice (some ⟨gv, 0, none⟩) 3 qv) (hdep 14 (by kernel_rfl))
      have h36 := g_eq (t := 36) (v := .int .i64 2) (hdep 15 (by kernel_rfl))
      exact ⟨.slice (some ⟨gv, 0, none⟩) 2 qv, w', by go_simp, Chg.refl _ _, rfl⟩
    · obtain rfl : _ = oo := Option.some.inj ho  -- 17: slot 38
      have h37 := g_eq (t := 37) (v := .slice (some ⟨gv, 0, none⟩) 2 qv) (hdep 16 (by kernel_rfl))
      obtain ⟨g, hd, hown⟩ := hdep 12 (by kernel_rfl)
      rw [hd] at hown
      have hd := g_eq (t := 33) hd
      have hs := g_eq (t := 37) (v := .slice (some ⟨gv, 0, none⟩) 2 qv) (hdep 16 (by kernel_rfl))
      obtain ⟨v', w2, hr, hown2, hc2, g', c', rfl, hlt, hor⟩ := run_append_copy (P := Tryz.prog) (w := w') (w.heap.size + 2) 23 23 25 _ 5 80 uVs iV rfl g hown (some ⟨gv, 0, none⟩) 2 qv (xs.take 10) (by rw [List.length_take, HXL.out]; rfl)
        (fun hpos => ⟨_, rfl, fun j u hu => by
          have := (HS.out.2.2 j u (by have h := hu; rw [List.getElem?_take] at h; split at h <;> first | exact h | cases h))
          exact (hcB.cells.1 _ _ (World.block_lt_of_cell? w _ this)).trans this⟩) (by omega) (by omega)
      exact ⟨_, w2, by simp [execOp, resolve, invoke, builtin, Act.eval, hd, hs, hr, Result.andThen], hc2, g', c', rfl, hown2⟩
    · obtain rfl : _ = oo := Option.some.inj ho  -- 18: slot 39
      have h2 := g_eq (t := 2) (v := .pointer (some ⟨w.heap.size, 0, none⟩)) (hst 2 (by simp))
      exact ⟨.pointer (some ⟨w.heap.size, 4, none⟩), w', by go_simp, Chg.refl _ _, rfl⟩
    · obtain rfl : _ = oo := Option.some.inj ho  -- 19: slot 40
      have h39 := g_eq (t := 39) (v := .pointer (some ⟨w.heap.size, 4, none⟩)) (hdep 18 (by kernel_rfl))
      exact ⟨.slice (some ⟨gv, 0, none⟩) 3 qv, w', by go_simp, Chg.refl _ _, rfl⟩
    · obtain rfl : _ = oo := Option.some.inj ho  -- 20: slot 41
      have h5 := g_eq (t := 5) (v := .int .i64 2) (hst 5 (by simp))
      exact ⟨.int .i64 2, w', by go_simp, Chg.refl _ _, rfl⟩
    · obtain rfl : _ = oo := Option.some.inj ho  -- 21: slot 42
      have h41 := g_eq (t := 41) (v := .int .i64 2) (hdep 20 (by kernel_rfl))
      exact ⟨.int .i64 3, w', by go_simp, Chg.refl _ _, rfl⟩
    · obtain rfl : _ = oo := Option.some.inj ho  -- 22: slot 43
      have h40 := g_eq (t := 40) (v := .slice (some ⟨gv, 0, none⟩) 3 qv) (hdep 19 (by kernel_rfl))
      have h42 := g_eq (t := 42) (v := .int .i64 3) (hdep 21 (by kernel_rfl))
      exact ⟨.slice (if qv = 3 then some ⟨gv, 0, none⟩ else some ⟨gv, 15, none⟩) 0 (qv - 3), w', by go_simp, Chg.refl _ _, rfl⟩
    · obtain rfl : _ = oo := Option.some.inj ho  -- 23: slot 44
      have h43 := g_eq (t := 43) (v := .slice (if qv = 3 then some ⟨gv, 0, none⟩ else some ⟨gv, 15, none⟩) 0 (qv - 3)) (hdep 22 (by kernel_rfl))
      obtain ⟨g, c, hd, hown⟩ := hdep 17 (by kernel_rfl)
      rw [hd] at hown
      have hd := g_eq (t := 38) hd
      have hs := g_eq (t := 43) (v := .slice (if qv = 3 then some ⟨gv, 0, none⟩ else some ⟨gv, 15, none⟩) 0 (qv - 3)) (hdep 22 (by kernel_rfl))
      have hr := run_append_zero (P := Tryz.prog) (w := w') 23 23 25 _ 5 80 uVs iV g 2 c (ownsRow_cap hown) (if qv = 3 then some ⟨gv, 0, none⟩ else some ⟨gv, 15, none⟩) (qv - 3)
      exact ⟨_, w', by simp [execOp, resolve, invoke, builtin, Act.eval, hd, hs, hr, Result.andThen], Chg.refl _ _, g, c, rfl, hown⟩
    · exact absurd rfl hjp
    · omega
  · intro oo ho a' w' hst hch hdep
    obtain rfl : _ = oo := Option.some.inj ho
    obtain ⟨h, c, h32, hr⟩ : ∃ h c, Act.g a' 32 = .slice (some ⟨h, 0, none⟩) 2 c ∧ w'.ownsRow (w.heap.size + 2) 9 1 (Act.g a' 32) 2 (strC [kCondition, kRequired]) := hdep 11 (by kernel_rfl)
    obtain ⟨h', c', h44, hr'⟩ : ∃ h c, Act.g a' 44 = .slice (some ⟨h, 0, none⟩) 2 c ∧ w'.ownsRow (w.heap.size + 2) 25 5 (Act.g a' 44) 2 (xs.take 10) := hdep 23 (by kernel_rfl)
    rw [h32] at hr
    rw [h44] at hr'
    have h32 := g_eq (t := 32) h32
    have h44 := g_eq (t := 44) h44
    exact ⟨.agg #[.int .i64 5, .int .i64 0, .string ⟨#[]⟩, .slice (some ⟨h, 0, none⟩) 2 c, .slice (some ⟨h', 0, none⟩) 2 c'], w', by go_simp, Chg.refl _ _, h, c, h', c', rfl, hr, hr'⟩
  · intro oo ho u w' hch hφ A2 hA2
    obtain rfl : _ = oo := Option.some.inj ho
    have l24 : 24 < 25 := by omega
    obtain ⟨h, c, h', c', hu, hr, hr'⟩ : ∃ h c h' c', u 24 = .agg #[.int .i64 5, .int .i64 0, .string ⟨#[]⟩, .slice (some ⟨h, 0, none⟩) 2 c, .slice (some ⟨h', 0, none⟩) 2 c'] ∧ w'.ownsRow (w.heap.size + 2) 9 1 (.slice (some ⟨h, 0, none⟩) 2 c) 2 (strC [kCondition, kRequired]) ∧ w'.ownsRow (w.heap.size + 2) 25 5 (.slice (some ⟨h', 0, none⟩) 2 c') 2 (xs.take 10) := hφ 24 l24
    have hcB1 : Chg [] w1 w' := (Chg.refl [] w1).dr.trans hch New.nil
    have hcw : Chg [] w w' := HZ.out.1.trans hcB1 New.nil
    have z2 := box5 HZ.out.2.2 _ hcB1
    obtain ⟨W7, hW7, Q, hne, hcW, _⟩ := store5 z2 hcw (by omega : w.heap.size ≤ w.heap.size + 1) (.int .i64 5) (.int .i64 0) (.string ⟨#[]⟩) (.slice (some ⟨h, 0, none⟩) 2 c) (.slice (some ⟨h', 0, none⟩) 2 c')
    have hrK : RdK o W7 [kCondition, kRequired] (.slice (some ⟨h, 0, none⟩) 2 c) := RdK.of_own (base := w.heap.size + 2) (e := 9) (ks := [kCondition, kRequired]) (fun b hb => hno b (by omega)) (ownsRow_keep hr fun g hg => hne g (by have := (ownsRow_own hr hg).1; omega))
    have hfl : FlatV o W7 [.text kStarted, .bool true] (xs.take 10) := by
      have h1 : FlatV o w [.text kStarted, .bool true] (xs.take 10) := HS.out.2.1.take2
      exact h1.mono fun b hb _ => (hne b (by omega)).trans (hcw.block b hb (by simp))
    have hrV : RdV o W7 [.text kStarted, .bool true] (.slice (some ⟨h', 0, none⟩) 2 c') := RdV.of_own (base := w.heap.size + 2) (e := 25) (l := [.text kStarted, .bool true]) (fun b hb => hno b (by omega)) (ownsRow_keep hr' fun g hg => hne g (by have := (ownsRow_own hr' hg).1; omega)) hfl
    have HX := Lib.hid (And.intro hrK (And.intro hrV (And.intro Q (And.intro hcW hW7))))
    simp [putAll, dOf, Act.put, hu] at hA2
    subst hA2
    obtain ⟨b0, b1, b2, b3, b4, bf⟩ := cells5 z2
    clear hφ l24 ho hu hch hcw hcB1 z2 hW7 Q hne hcW hrK hrV hfl hr hr'
    unfold Oper.wp
    go_simp
    refine HK.out _ _ ?_
    clear HK
    go_wp2
    obtain ⟨h1, h2, Q, h3, hW7⟩ := HX.out
    rw [← hW7]
    obtain ⟨e0, e1, e2, e3, e4, _⟩ := cells5 Q
    refine bodyPost_ret (v := .agg #[.int .i64 5, .int .i64 0, .string ⟨#[]⟩, .slice (some ⟨h, 0, none⟩) 2 c, .slice (some ⟨h', 0, none⟩) 2 c']) (by simp [results, Tryz.results40, go_sem, e0, e1, e2, e3, e4]) rfl ⟨_, rfl, h3, Rd.mk_map (m := [(kCondition, .text kStarted), (kRequired, .bool true)]) h1 h2⟩
end Go.Proofs.YtedbfoknfdiadaaGreatDoor
