/- laws.from: the same reading. -/
import Derived.Test.YtedbfoknfdiadaaGreatDoorTo
set_option linter.unusedVariables false
set_option linter.unusedSimpArgs false
namespace Go.Proofs.YtedbfoknfdiadaaGreatDoor
open Go.RowKit
variable {o : Nat → Prop}
set_option maxRecDepth 100000

set_option maxHeartbeats 400000 in
theorem from_any (nn : Nat) : ∀ (t : T) (v : Value) (w : World), T.size t ≤ nn → T.size t ≤ 67108864 → Rd o w t v →
    Calls Tryz.prog 18 #[v] w fun e w' => ∃ v', e = .returned v' ∧ Chg [] w w' ∧ Rd (fun b => w.heap.size ≤ b) w' t v' := by
  induction nn with
  | zero => exact fun t _ _ hn => absurd hn (by have := T.size_pos t; omega)
  | succ nn ih =>
  intro t v w hn hb h
  have hvl := T.vals_len t
  have hkl := T.keys_vals t
  obtain ⟨Ak, qk, Av, qv, rfl, hk, hv⟩ := h.five
  have HKS := Lib.hid hk.src
  go_enter Tryz.func18, Tryz.ntmps18
  go_wp2
  rename_i K hK
  have HK := Lib.hid hK
  clear hK
  refine wp_region_mono (by rfl) (by kernel_rfl) [1] (by kernel_rfl)
    (fun j u V => match j with
      | 0 => u = .pointer (some ⟨w.heap.size, 0, none⟩)
      | 1 => u = .int .i64 t.kind
      | 2 => u = .pointer (some ⟨w.heap.size, 1, none⟩)
      | 3 => u = .int .i64 t.num
      | 4 => u = .pointer (some ⟨w.heap.size, 2, none⟩)
      | 5 => u = .string t.txt
      | 6 => ∃ g, u = .slice (some ⟨g, 0, none⟩) 0 0 ∧ V.ownsRow (w.heap.size + 2) 9 1 u 0 []
      | 7 => u = .pointer (some ⟨w.heap.size, 3, none⟩)
      | 8 => u = .slice Ak t.keys.length qk
      | 9 => ∃ g c, u = .slice (some ⟨g, 0, none⟩) t.keys.length c ∧ V.ownsRow (w.heap.size + 2) 9 1 u t.keys.length (strC t.keys)
      | 10 => ∃ g c, u = .agg #[.int .i64 t.kind, .int .i64 t.num, .string t.txt, .slice (some ⟨g, 0, none⟩) t.keys.length c, .slice none 0 0] ∧ V.ownsRow (w.heap.size + 2) 9 1 (.slice (some ⟨g, 0, none⟩) t.keys.length c) t.keys.length (strC t.keys)
      | 11 => ∃ g, u = .pointer (some ⟨g, 0, none⟩) ∧ w.heap.size + 2 ≤ g ∧ V.heap[g]? = some (.cells #[.int .i64 0, .int .i64 0, .string ⟨#[]⟩, .slice none 0 0, .slice none 0 0] 25)
      | _ => True) ?_
    (fun i => if i = 6 ∨ i = 9 then some 0 else none) (fun _ u => Value.blk u) ?_ ?_
  · intro i u w1 w2 hc hφ
    have hrow : ∀ {b e size n c xs g}, w1.ownsRow b e size (.slice (some ⟨g, 0, none⟩) n c) n xs → w2.ownsRow b e size (.slice (some ⟨g, 0, none⟩) n c) n xs := fun h => ownsRow_frame h (hc.block _ (ownsRow_lt h) (by simp))
    rcases i with _ | _ | _ | _ | _ | _ | _ | _ | _ | _ | _ | _ | i
    all_goals first | exact hφ | skip
    · obtain ⟨g, rfl, h⟩ := hφ
      exact ⟨g, rfl, hrow h⟩
    · obtain ⟨g, c, rfl, h⟩ := hφ
      exact ⟨g, c, rfl, hrow h⟩
    · obtain ⟨g, c, rfl, h⟩ := hφ
      exact ⟨g, c, rfl, hrow h⟩
    · obtain ⟨g, rfl, hg, hh⟩ := hφ
      exact ⟨g, rfl, hg, (hc.block _ (Array.getElem?_eq_some_iff.1 hh).1 (by simp)).trans hh⟩
  · intro i o hi ho a' w' hst hch hdep
    have hcw : Chg [] w w' := (((Chg.refl [] w).al _).al _).dr.trans hch New.nil
    have hsz : w.heap.size + 2 ≤ w'.heap.size := by have := hch.size; simpa using this
    have z1 := (hch.block w.heap.size (by simp; omega) (by simp)).trans (alloc2 w _ _).1
    obtain ⟨a0, a1, a2, a3, a4, _⟩ := cells5 z1
    have hi' : i < 12 := hi
    rcases i with _ | _ | _ | _ | _ | _ | _ | _ | _ | _ | _ | _ | i
    · obtain rfl : _ = o := Option.some.inj ho  -- 0: slot 5: Op.fieldAddr 25 (Operand.tmp 1) 0
      have h1 := g_eq (t := 1) (v := .pointer (some ⟨w.heap.size, 0, none⟩)) (hst 1 (by simp))
      exact ⟨.pointer (some ⟨w.heap.size, 0, none⟩), w', by go_simp, Chg.refl _ _, rfl, fun c hc => by simp at hc⟩
    · obtain rfl : _ = o := Option.some.inj ho  -- 1: slot 6: Op.load 3 (Operand.tmp 5)
      have h5 := g_eq (t := 5) (v := .pointer (some ⟨w.heap.size, 0, none⟩)) (hdep 0 (by kernel_rfl))
      exact ⟨.int .i64 t.kind, w', by go_simp, Chg.refl _ _, rfl, fun c hc => by simp at hc⟩
    · obtain rfl : _ = o := Option.some.inj ho  -- 2: slot 7: Op.fieldAddr 25 (Operand.tmp 1) 1
      have h1 := g_eq (t := 1) (v := .pointer (some ⟨w.heap.size, 0, none⟩)) (hst 1 (by simp))
      exact ⟨.pointer (some ⟨w.heap.size, 1, none⟩), w', by go_simp, Chg.refl _ _, rfl, fun c hc => by simp at hc⟩
    · obtain rfl : _ = o := Option.some.inj ho  -- 3: slot 8: Op.load 3 (Operand.tmp 7)
      have h7 := g_eq (t := 7) (v := .pointer (some ⟨w.heap.size, 1, none⟩)) (hdep 2 (by kernel_rfl))
      exact ⟨.int .i64 t.num, w', by go_simp, Chg.refl _ _, rfl, fun c hc => by simp at hc⟩
    · obtain rfl : _ = o := Option.some.inj ho  -- 4: slot 9: Op.fieldAddr 25 (Operand.tmp 1) 2
      have h1 := g_eq (t := 1) (v := .pointer (some ⟨w.heap.size, 0, none⟩)) (hst 1 (by simp))
      exact ⟨.pointer (some ⟨w.heap.size, 2, none⟩), w', by go_simp, Chg.refl _ _, rfl, fun c hc => by simp at hc⟩
    · obtain rfl : _ = o := Option.some.inj ho  -- 5: slot 10: Op.load 9 (Operand.tmp 9)
      have h9 := g_eq (t := 9) (v := .pointer (some ⟨w.heap.size, 2, none⟩)) (hdep 4 (by kernel_rfl))
      exact ⟨.string t.txt, w', by go_simp, Chg.refl _ _, rfl, fun c hc => by simp at hc⟩
    · obtain rfl : _ = o := Option.some.inj ho  -- 6: slot 11: Op.buildSlice 22 0 #[]
      refine ⟨.slice (some ⟨w'.heap.size, 0, none⟩) 0 0, w'.alloc (.cells #[] 9), by go_simp, (Chg.refl [] w').al _, ⟨_, rfl, ?_⟩, ?_⟩
      · exact World.ownsRow_lit w' #[] 0 (by omega) (by decide) rfl
      · intro c _ b hb
        cases hb
        exact ⟨by simp, .inl (Nat.le_refl _)⟩
    · obtain rfl : _ = o := Option.some.inj ho  -- 7: slot 12: Op.fieldAddr 25 (Operand.tmp 1) 3
      have h1 := g_eq (t := 1) (v := .pointer (some ⟨w.heap.size, 0, none⟩)) (hst 1 (by simp))
      exact ⟨.pointer (some ⟨w.heap.size, 3, none⟩), w', by go_simp, Chg.refl _ _, rfl, fun c hc => by simp at hc⟩
    · obtain rfl : _ = o := Option.some.inj ho  -- 8: slot 13: Op.load 22 (Operand.tmp 12)
      have h12 := g_eq (t := 12) (v := .pointer (some ⟨w.heap.size, 3, none⟩)) (hdep 7 (by kernel_rfl))
      exact ⟨.slice Ak t.keys.length qk, w', by go_simp, Chg.refl _ _, rfl, fun c hc => by simp at hc⟩
    · obtain rfl : _ = o := Option.some.inj ho  -- 9: slot 14: Op.call { callee := Callee.builtin Builtin.append, args := #[Operand.tmp 11, Operand.tmp 13], argTypes := #[22, 22] }
      have h13 := g_eq (t := 13) (v := .slice Ak t.keys.length qk) (hdep 8 (by kernel_rfl))
      obtain ⟨g, h11, hown⟩ := hdep 6 (by kernel_rfl)
      rw [h11] at hown
      have h11' := h11
      have h11 := g_eq (t := 11) h11
      obtain ⟨v', w2, hr, hown2, hc2, g', c', rfl, hlt, hor⟩ := run_append_copy (P := Tryz.prog) (w := w') (w.heap.size + 2) 22 22 9 (.string ⟨#[]⟩) 1 16 uKs iS rfl g hown Ak t.keys.length qk (strC t.keys) (by simp [strC])
        (fun hpos => by
          obtain ⟨b, hA, hb⟩ := HKS.out hpos
          exact ⟨b, hA, fun j u hu => by have := hb j u hu; exact (hcw.cells.1 _ _ (World.block_lt_of_cell? w _ this)).trans this⟩) (by omega) (by omega)
      refine ⟨_, w2, by simp [execOp, resolve, invoke, builtin, Act.eval, h11, h13, hr, Result.andThen], hc2, ⟨g', c', rfl, hown2⟩, ?_⟩
      intro c hc b hb
      cases hb
      refine ⟨hlt, ?_⟩
      rcases hor with rfl | h
      · exact .inr ⟨6, by kernel_rfl, by simpa using hc, by rw [h11']; rfl⟩
      · exact .inl h
    · obtain rfl : _ = o := Option.some.inj ho  -- 10: slot 15: Op.build 35 #[(0, Operand.tmp 6), (1, Operand.tmp 8), (2, Operand.tmp 10), (3, Operand.tmp 14)]
      have h6 := g_eq (t := 6) (v := .int .i64 t.kind) (hdep 1 (by kernel_rfl))
      have h8 := g_eq (t := 8) (v := .int .i64 t.num) (hdep 3 (by kernel_rfl))
      have h10 := g_eq (t := 10) (v := .string t.txt) (hdep 5 (by kernel_rfl))
      obtain ⟨g, c, h14, hown⟩ := hdep 9 (by kernel_rfl)
      rw [h14] at hown
      have h14' := h14
      have h14 := g_eq (t := 14) h14
      refine ⟨.agg #[.int .i64 t.kind, .int .i64 t.num, .string t.txt, .slice (some ⟨g, 0, none⟩) t.keys.length c, .slice none 0 0], w', by go_simp, Chg.refl _ _, ⟨g, c, rfl, hown⟩, fun c hc => by simp at hc⟩
    · obtain rfl : _ = o := Option.some.inj ho  -- 11: slot 3: Op.alloc 35
      refine ⟨.pointer (some ⟨w'.heap.size, 0, none⟩), w'.alloc (.cells #[.int .i64 0, .int .i64 0, .string ⟨#[]⟩, .slice none 0 0, .slice none 0 0] 25), by go_simp, (Chg.refl [] w').al _, ⟨_, rfl, by omega, heap_alloc_new _ _⟩, fun c hc => by simp at hc⟩
    · omega

  · intro o' ho u w1 hch hφ hap A2 hA2
    obtain rfl : _ = o' := Option.some.inj ho
    have hcw : Chg [] w w1 := (((Chg.refl [] w).al _).al _).dr.trans hch New.nil
    have hsz : w.heap.size + 2 ≤ w1.heap.size := by have := hch.size; simpa using this
    have l11 : 11 < 12 := by omega
    obtain ⟨B, hB, hwB, hBc⟩ := hφ 11 l11
    obtain ⟨gk, ck, h15, hrk⟩ := hφ 10 (Nat.lt_trans (by decide : 10 < 11) l11)
    have hBk : gk ≠ B := fun e => by
      subst e
      rcases hrk.2 with ⟨h, _⟩ | ⟨g', cap', cur, h, _, hg, _⟩
      · cases h
      · cases h
        rw [hBc] at hg
        cases hg
    have lk := hrk.lt gk rfl
    simp [putAll, dOf, Act.put, hB, h15] at hA2
    subst hA2
    clear hap hφ l11 ho
    obtain ⟨b0, b1, b2, b3, b4, bf⟩ := cells5 hBc
    unfold Oper.wp
    go_simp
    refine HK.out _ _ ?_
    clear HK
    have q1 := setCells5 w1 B (.int .i64 t.kind) (.int .i64 t.num) (.string t.txt) (.slice (some ⟨gk, 0, none⟩) t.keys.length ck) (.slice none 0 0) hBc
    have hne := setCells5_ne w1 B (.int .i64 t.kind) (.int .i64 t.num) (.string t.txt) (.slice (some ⟨gk, 0, none⟩) t.keys.length ck) (.slice none 0 0)
    have hcW := setCells5_chg hcw (by omega : w.heap.size ≤ B) (.int .i64 t.kind) (.int .i64 t.num) (.string t.txt) (.slice (some ⟨gk, 0, none⟩) t.keys.length ck) (.slice none 0 0)
    have hold : ∀ b, b < w.heap.size + 2 → w1.heap[b]? = ((w.alloc (.cells #[.int .i64 t.kind, .int .i64 t.num, .string t.txt, .slice Ak t.keys.length qk, .slice Av t.vals.length qv] 35)).alloc (.cells #[.int .i64 0, .int .i64 0, .string ⟨#[]⟩, .slice none 0 0, .slice none 0 0] 25)).drew.heap[b]? := fun b hb => hch.block b (by simp; omega) (by simp)
    have z1 := (hne _ (by omega)).trans ((hold w.heap.size (by omega)).trans (alloc2 w _ _).1)
    have z2 := (hne _ (by omega)).trans ((hold (w.heap.size + 1) (by omega)).trans (alloc2 w _ _).2)
    have rk := ownsRow_frame hrk (hne gk hBk)
    clear hrk b0 b1 b2 b3 b4 bf hold hne hBc hB h15 hch hcw
    revert z1 z2 q1 hcW rk
    generalize (((((w1.setCell ⟨B, 0, none⟩ (.int .i64 t.kind)).setCell ⟨B, 1, none⟩ (.int .i64 t.num)).setCell ⟨B, 2, none⟩ (.string t.txt)).setCell ⟨B, 3, none⟩ (.slice (some ⟨gk, 0, none⟩) t.keys.length ck)).setCell ⟨B, 4, none⟩ (.slice none 0 0)) = W
    intro q1 hcW z1 z2 rk
    go_wp2
    go_loopg [4] t.vals.length (fun g i wr => ∃ (n : Nat) (R : Value) (xs : List Value), n ≤ t.vals.length ∧ g = t.vals.length - n ∧ i = .int .i64 n ∧ Chg [] w wr ∧
      wr.heap[B]? = some (.cells #[.int .i64 t.kind, .int .i64 t.num, .string t.txt, .slice (some ⟨gk, 0, none⟩) t.keys.length ck, R] 25) ∧
      wr.heap[w.heap.size]? = some (.cells #[.int .i64 t.kind, .int .i64 t.num, .string t.txt, .slice Ak t.keys.length qk, .slice Av t.vals.length qv] 35) ∧
      wr.heap[w.heap.size + 1]? = some (.cells #[.int .i64 0, .int .i64 0, .string ⟨#[]⟩, .slice none 0 0, .slice none 0 0] 25) ∧
      wr.ownsRow (w.heap.size + 2) 9 1 (.slice (some ⟨gk, 0, none⟩) t.keys.length ck) t.keys.length (strC t.keys) ∧
      wr.ownsRow (w.heap.size + 2) 25 5 R n xs ∧ FlatV (Off (w.heap.size + 2) B R) wr (t.vals.take n) xs ∧
      ∀ g, R.ownBlock = some g → w.heap.size + 2 ≤ g ∧ g < wr.heap.size ∧ g ≠ B ∧ g ≠ gk)
    case atStart =>
      refine ⟨0, .slice none 0 0, [], Nat.zero_le _, by omega, rfl, hcW, q1, z1, z2, rk, ?_, by simp [FlatV], fun g h => by simp [Value.ownBlock] at h⟩
      exact World.ownsRow_nil _ _ _ _
    case round =>
      obtain ⟨n, R, xs, hn', rfl, rfl, hcr, q1', z1', z2', rk', rR, hx, hR⟩ := hrel
      clear q1 hcW z1 z2 rk
      obtain ⟨b0, b1, b2, b3, b4, bf⟩ := cells5 q1'
      obtain ⟨a0, a1, a2, a3, a4, af⟩ := cells5 z1'
      by_cases hlt : n < t.vals.length
      · obtain ⟨x, hx1⟩ : ∃ x, t.vals[n]? = some x := ⟨_, List.getElem?_eq_getElem hlt⟩
        obtain ⟨ge, c1, kx, vx, e1, hc1, hkx, hvx, x0, x1, x2, x3, x4⟩ := hv.at_ hx1
        cases e1
        have hxs := T.sizeL_at hx1
        have hts := T.size_vals t
        have hge : ge < w.heap.size := World.block_lt_of_cell? w _ x0
        have rx0 := Rd.mk (t := x) hkx hvx
        have hszr : w.heap.size + 2 ≤ wr.heap.size := by have := (Array.getElem?_eq_some_iff.1 z2').1; omega
        have hBr : B < wr.heap.size := (Array.getElem?_eq_some_iff.1 q1').1
        have HXX := Lib.hid hx1
        have HR := Lib.hid hR
        have HX := Lib.hid hx
        have HRR := Lib.hid rR
        have HXC := Lib.hid (And.intro x0 (And.intro x1 (And.intro x2 (And.intro x3 x4))))
        clear hx rR hR hx1 x0 x1 x2 x3 x4
        go_wp2
        rename_i K hK
        have HK := Lib.hid hK
        clear hK b0 b1 b2 b3 b4 bf a0 a1 a2 a3 a4 af
        refine wp_region_call (by rfl) (by kernel_rfl) [1, 3, 4] (by kernel_rfl) 9 (by decide) R.ownBlock.toList
          (fun j u V => match j with
            | 0 => u = .pointer (some ⟨B, 4, none⟩)
            | 1 => u = R
            | 2 => u = .pointer (some ⟨w.heap.size, 4, none⟩)
            | 3 => u = .slice (some ⟨ge, 0, none⟩) t.vals.length qv
            | 4 => u = .int .i64 n
            | 5 => u = .pointer (some ⟨ge, n * 5, none⟩)
            | 6 => u = .agg #[.int .i64 x.kind, .int .i64 x.num, .string x.txt, kx, vx]
            | 7 => Rd (fun b => wr.heap.size ≤ b) V x u
            | 8 => ∃ g v, u = .slice (some ⟨g, 0, none⟩) 1 1 ∧ wr.heap.size ≤ g ∧ Rd (fun b => wr.heap.size ≤ b) V x v ∧ ∀ i c, v.cells[i]? = some c → V.cell? ⟨g, i, none⟩ = some c
            | 9 => ∃ xs', V.ownsRow (w.heap.size + 2) 25 5 u (n + 1) xs' ∧ FlatV (Off (w.heap.size + 2) B u) V (t.vals.take n ++ [x]) xs' ∧ ∃ g c, u = .slice (some ⟨g, 0, none⟩) (n + 1) c ∧ w.heap.size + 2 ≤ g ∧ g < V.heap.size ∧ (R.ownBlock = some g ∨ wr.heap.size ≤ g)
            | 10 => u = .pointer (some ⟨B, 4, none⟩)
            | _ => True) ?_ ?_ ?_ ?_ ?_
        · intro j u V V' hc hφ
          rcases j with _ | _ | _ | _ | _ | _ | _ | _ | _ | _ | _ | j
          all_goals first | exact hφ | skip
          · exact Rd.chg hφ hc
          · obtain ⟨g, v, rfl, hg, hr, hcl⟩ := hφ
            exact ⟨g, v, rfl, hg, hr.chg hc, fun i c h => (hc.cells.1 _ _ (World.block_lt_of_cell? V _ (hcl i c h))).trans (hcl i c h)⟩
          · obtain ⟨xs', ho, hf, g, c, rfl, h1, h2, h3⟩ := hφ
            exact ⟨xs', ownsRow_frame ho (hc.block g h2 (by simp)), hf.mono fun b hb _ => hc.block b hb (by simp), g, c, rfl, h1, Nat.lt_of_lt_of_le h2 hc.size, h3⟩
        · intro j u V V' hj9 hc hφ
          have hfar : ∀ b, b < V.heap.size → wr.heap.size ≤ b → V'.heap[b]? = V.heap[b]? := fun b hb hle => hc.block b hb (by
            intro hm
            have := (HR.out b (by simpa using hm)).2.1
            omega)
          rcases j with _ | _ | _ | _ | _ | _ | _ | _ | _ | _ | _ | j
          all_goals first | exact hφ | skip
          · exact hφ.mono fun b hb ho => hfar b hb ho
          · obtain ⟨g, v, rfl, hg, hr, hcl⟩ := hφ
            exact ⟨g, v, rfl, hg, hr.mono fun b hb ho => hfar b hb ho, fun i c h => (World.cell?_of_block (hfar g (World.block_lt_of_cell? V _ (hcl i c h)) hg)).trans (hcl i c h)⟩
          · exact absurd rfl hj9
        · intro j oo hj hj9 ho a' w' hst hch hwt hdep K2 hK2
          have hF : ∀ b, b < w.heap.size + 2 → w'.heap[b]? = wr.heap[b]? := fun b hb => hch.block b (by show b < wr.heap.size; omega) (fun hm => by
            have := (HR.out b (by simpa using hm)).1
            omega)
          have hsz : wr.heap.size ≤ w'.heap.size := hch.size
          obtain ⟨b0, b1, b2, b3, b4, bf⟩ := cells5 ((hch.block B (by show B < wr.heap.size; omega) (fun hm => (HR.out B (by simpa using hm)).2.2.1 rfl)).trans q1')
          obtain ⟨a0, a1, a2, a3, a4, af⟩ := cells5 ((hF w.heap.size (by omega)).trans z1')
          obtain ⟨x0, x1, x2, x3, x4⟩ := HXC.out
          have hgo : ∀ b, b < w.heap.size → w'.heap[b]? = w.heap[b]? := fun b hb => (hF b (by omega)).trans (hcr.block b hb (by simp))
          have y0 := (World.cell?_of_block (a := ⟨ge, n * 5, none⟩) (hgo ge hge)).trans x0
          have y1 := (World.cell?_of_block (a := ⟨ge, n * 5 + 1, none⟩) (hgo ge hge)).trans x1
          have y2 := (World.cell?_of_block (a := ⟨ge, n * 5 + 2, none⟩) (hgo ge hge)).trans x2
          have y3 := (World.cell?_of_block (a := ⟨ge, n * 5 + 3, none⟩) (hgo ge hge)).trans x3
          have y4 := (World.cell?_of_block (a := ⟨ge, n * 5 + 4, none⟩) (hgo ge hge)).trans x4
          clear x0 x1 x2 x3 x4
          have rx : Rd o w' x (.agg #[.int .i64 x.kind, .int .i64 x.num, .string x.txt, kx, vx]) := rx0.mono fun b hb _ => hgo b hb
          have hj' : j < 11 := hj
          rcases j with _ | _ | _ | _ | _ | _ | _ | _ | _ | _ | _ | j
          · obtain rfl : _ = oo := Option.some.inj ho  -- 0: slot 23: Op.fieldAddr 35 (Operand.tmp 3) 4
            have h3 := g_eq (t := 3) (v := .pointer (some ⟨B, 0, none⟩)) (hst 3 (by simp))
            unfold Oper.wp
            go_simp
            exact ⟨_, rfl, hK2 _ _ (Chg.refl _ _) rfl⟩
          · obtain rfl : _ = oo := Option.some.inj ho  -- 1: slot 24: Op.load 33 (Operand.tmp 23)
            have h23 := g_eq (t := 23) (v := .pointer (some ⟨B, 4, none⟩)) (hdep 0 (by kernel_rfl))
            unfold Oper.wp
            go_simp
            exact ⟨_, rfl, hK2 _ _ (Chg.refl _ _) rfl⟩
          · obtain rfl : _ = oo := Option.some.inj ho  -- 2: slot 25: Op.fieldAddr 25 (Operand.tmp 1) 4
            have h1 := g_eq (t := 1) (v := .pointer (some ⟨w.heap.size, 0, none⟩)) (hst 1 (by simp))
            unfold Oper.wp
            go_simp
            exact ⟨_, rfl, hK2 _ _ (Chg.refl _ _) rfl⟩
          · obtain rfl : _ = oo := Option.some.inj ho  -- 3: slot 26: Op.load 23 (Operand.tmp 25)
            have h25 := g_eq (t := 25) (v := .pointer (some ⟨w.heap.size, 4, none⟩)) (hdep 2 (by kernel_rfl))
            unfold Oper.wp
            go_simp
            exact ⟨_, rfl, hK2 _ _ (Chg.refl _ _) rfl⟩
          · obtain rfl : _ = oo := Option.some.inj ho  -- 4: slot 27: Op.move (Operand.tmp 4)
            have h4 := g_eq (t := 4) (v := .int .i64 n) (hst 4 (by simp))
            unfold Oper.wp
            go_simp
            exact ⟨_, rfl, hK2 _ _ (Chg.refl _ _) rfl⟩
          · obtain rfl : _ = oo := Option.some.inj ho  -- 5: slot 28: Op.indexAddr 23 (Operand.tmp 26) (Operand.tmp 27)
            have h26 := g_eq (t := 26) (v := .slice (some ⟨ge, 0, none⟩) t.vals.length qv) (hdep 3 (by kernel_rfl))
            have h27 := g_eq (t := 27) (v := .int .i64 n) (hdep 4 (by kernel_rfl))
            unfold Oper.wp
            go_simp
            exact ⟨_, rfl, hK2 _ _ (Chg.refl _ _) rfl⟩
          · obtain rfl : _ = oo := Option.some.inj ho  -- 6: slot 29: Op.load 25 (Operand.tmp 28)
            have h28 := g_eq (t := 28) (v := .pointer (some ⟨ge, n * 5, none⟩)) (hdep 5 (by kernel_rfl))
            unfold Oper.wp
            go_simp
            exact ⟨_, rfl, hK2 _ _ (Chg.refl _ _) rfl⟩
          · obtain rfl : _ = oo := Option.some.inj ho  -- 7: slot 30: Op.call { callee := Callee.value (Operand.func 13), args := #[Operand.tmp 29], argTypes := #[25] }
            have h29 := g_eq (t := 29) (v := .agg #[.int .i64 x.kind, .int .i64 x.num, .string x.txt, kx, vx]) (hdep 6 (by kernel_rfl))
            unfold Oper.wp
            go_simp
            refine (ih x _ w' (by omega) (by omega) rx).mono ?_
            rintro e w3 ⟨v', rfl, hc3, hr3⟩
            exact ⟨_, rfl, hK2 _ _ hc3 (hr3.weak fun b hb => Nat.le_trans hch.size hb)⟩
          · obtain rfl : _ = oo := Option.some.inj ho  -- 8: slot 31: Op.buildSlice 33 1 #[(0, Operand.tmp 30)]
            have hr30 : Rd (fun b => wr.heap.size ≤ b) w' x (Act.g a' 30) := hdep 7 (by kernel_rfl)
            generalize h30 : Act.g a' 30 = vv at hr30
            obtain ⟨A3, q3, A4, q4, rfl, _⟩ := hr30.five
            have h30 := g_eq (t := 30) h30
            unfold Oper.wp
            go_simp
            refine ⟨_, rfl, hK2 _ _ ((Chg.refl [] w').al _) ⟨w'.heap.size, _, rfl, hch.size, hr30.chg ((Chg.refl [] w').al _), ?_⟩⟩
            obtain ⟨n0, n1, n2, n3, n4, _⟩ := cells5 (heap_alloc_new w' (.cells #[.int .i64 x.kind, .int .i64 x.num, .string x.txt, .slice A3 x.keys.length q3, .slice A4 x.vals.length q4] 25))
            intro i c hc
            rcases i with _ | _ | _ | _ | _ | i
            all_goals first | (cases hc; assumption) | (simp [Value.cells] at hc)
          · exact absurd rfl hj9
          · obtain rfl : _ = oo := Option.some.inj ho  -- 10: slot 33: Op.fieldAddr 35 (Operand.tmp 3) 4
            have h3 := g_eq (t := 3) (v := .pointer (some ⟨B, 0, none⟩)) (hst 3 (by simp))
            unfold Oper.wp
            go_simp
            exact ⟨_, rfl, hK2 _ _ (Chg.refl _ _) rfl⟩
          · omega
        · intro oo ho a' w' hst hch hdep
          obtain rfl : _ = oo := Option.some.inj ho
          have hsz : wr.heap.size ≤ w'.heap.size := hch.size
          have h24 := g_eq (t := 24) (v := R) (hdep 1 (by kernel_rfl))
          obtain ⟨g1, v, h31, hg1, hr, hcl⟩ : ∃ g v, Act.g a' 31 = .slice (some ⟨g, 0, none⟩) 1 1 ∧ wr.heap.size ≤ g ∧ Rd (fun b => wr.heap.size ≤ b) w' x v ∧ ∀ i c, v.cells[i]? = some c → w'.cell? ⟨g, i, none⟩ = some c := hdep 8 (by kernel_rfl)
          have h31 := g_eq (t := 31) h31
          have hx : FlatV (Off (w.heap.size + 2) B R) w' (t.vals.take n) xs := FlatV.mono (w := wr) (fun b hb _ => hch.block b hb (by simp)) HX.out
          have rR := ownsRow_keep (w' := w') HRR.out fun g hg => hch.block g (HR.out g hg).2.1 (by simp)
          obtain ⟨R', w2, hrun, ho, hf, hc, g, c, rfl, h1, h2, h3⟩ := app_one (P := Tryz.prog) (ty := 23) (c1 := 1) uVs iV rfl rR hx hcl (hr.weak fun b hb => ⟨by omega, by omega, fun e => by have := (HR.out b e).2.1; omega⟩) (by omega) (by omega) (by omega)
          exact ⟨_, w2, by simp [execOp, resolve, invoke, builtin, Act.eval, h24, h31, hrun, Result.andThen], hc, _, ho, hf, g, c, rfl, h1, h2, h3.imp id fun h => by omega⟩
        · intro oo ho u w' hch hφ A2 hA2
          obtain rfl : _ = oo := Option.some.inj ho
          have l10 : 10 < 11 := by omega
          have hu10 : u 10 = .pointer (some ⟨B, 4, none⟩) := hφ 10 l10
          obtain ⟨xs', hro, hfl, g, c, hu9, hg1, hg2, hg3⟩ : ∃ xs', w'.ownsRow (w.heap.size + 2) 25 5 (u 9) (n + 1) xs' ∧ FlatV (Off (w.heap.size + 2) B (u 9)) w' (t.vals.take n ++ [x]) xs' ∧ ∃ g c, u 9 = .slice (some ⟨g, 0, none⟩) (n + 1) c ∧ w.heap.size + 2 ≤ g ∧ g < w'.heap.size ∧ (R.ownBlock = some g ∨ wr.heap.size ≤ g) := hφ 9 (Nat.lt_trans (by decide : 9 < 10) l10)
          rw [hu9] at hro hfl
          have hF : ∀ b, b < w.heap.size + 2 → w'.heap[b]? = wr.heap[b]? := fun b hb => hch.block b (by show b < wr.heap.size; omega) (fun hm => by
            have := (HR.out b (by simpa using hm)).1
            omega)
          have hsz : wr.heap.size ≤ w'.heap.size := hch.size
          have hgB : g ≠ B ∧ g ≠ gk := by
            have hgk : gk < wr.heap.size := rk'.lt gk rfl |>.2
            rcases hg3 with h | h
            · exact (HR.out g h).2.2
            · constructor <;> omega
          have hB2 := (hch.block B (by show B < wr.heap.size; omega) (fun hm => (HR.out B (by simpa using hm)).2.2.1 rfl)).trans q1'
          have hk2 := (hch.block gk (rk'.lt gk rfl).2 (fun hm => (HR.out gk (by simpa using hm)).2.2.2 rfl))
          simp [putAll, dOf, Act.put, hu9, hu10] at hA2
          subst hA2
          clear hφ l10 ho hu9 hu10
          obtain ⟨b0, b1, b2, b3, b4, bf⟩ := cells5 hB2
          unfold Oper.wp
          go_simp
          refine HK.out _ _ ?_
          clear HK b0 b1 b2 b3 b4 bf
          have hneB : ∀ b, b ≠ B → (w'.setCell ⟨B, 4, none⟩ (.slice (some ⟨g, 0, none⟩) (n + 1) c)).heap[b]? = w'.heap[b]? := fun b hb => heap_setCell_other _ _ _ _ hb
          have Q1 := heap_setCell_same _ B 4 _ _ (.slice (some ⟨g, 0, none⟩) (n + 1) c) hB2
          have Z1 := (hneB w.heap.size (by omega)).trans ((hF _ (by omega)).trans z1')
          have Z2 := (hneB (w.heap.size + 1) (by omega)).trans ((hF _ (by omega)).trans z2')
          have RK := ownsRow_frame rk' ((hneB gk hBk).trans hk2)
          have RR := ownsRow_frame hro (hneB g hgB.1)
          have HFL : FlatV (Off (w.heap.size + 2) B (.slice (some ⟨g, 0, none⟩) (n + 1) c)) _ (t.vals.take n ++ [x]) xs' := hfl.mono (w' := w'.setCell ⟨B, 4, none⟩ (.slice (some ⟨g, 0, none⟩) (n + 1) c)) fun b _ ho => hneB b ho.2.1
          have HC : Chg [] w (w'.setCell ⟨B, 4, none⟩ (.slice (some ⟨g, 0, none⟩) (n + 1) c)) := (hcr.trans ((Chg.refl R.ownBlock.toList wr).dr.trans hch (New.refl _ _)) (fun y hy => .inr (by
            have := (HR.out y (by simpa using hy)).1
            omega))).st (by show w.heap.size ≤ B; omega) _
          have hgs : g < (w'.setCell ⟨B, 4, none⟩ (.slice (some ⟨g, 0, none⟩) (n + 1) c)).heap.size := by simpa using hg2
          revert Q1 Z1 Z2 RK RR HFL HC hgs
          generalize w'.setCell ⟨B, 4, none⟩ (.slice (some ⟨g, 0, none⟩) (n + 1) c) = W2
          intro Q1 Z1 Z2 RK RR HFL HC hgs
          go_wp2
          go_roundg (t.vals.length - (n + 1))
          case measure => omega
          case rel =>
            refine ⟨n + 1, _, xs', by omega, rfl, by go_num, HC, by simpa using Q1, Z1, Z2, RK, RR, by rw [take_snoc HXX.out]; exact HFL, fun g' hg' => ?_⟩
            have : g = g' := by simpa [Value.ownBlock] using hg'
            subst this
            exact ⟨hg1, hgs, hgB⟩
      · have HE := Lib.hid (show n = t.vals.length by omega)
        have HX := Lib.hid hx
        have HRR := Lib.hid rR
        have HRK := Lib.hid rk'
        obtain ⟨d0, d1, d2, d3, d4, df⟩ := cells5 z2'
        obtain ⟨RA, RC, rfl⟩ := ownsRow_slice rR
        clear hx rR rk' hR
        go_wp2
        obtain rfl : n = t.vals.length := HE.out
        have Z := setCells5 wr (w.heap.size + 1) (.int .i64 t.kind) (.int .i64 t.num) (.string t.txt) (.slice (some ⟨gk, 0, none⟩) t.keys.length ck) (.slice RA t.vals.length RC) z2'
        have hne := setCells5_ne wr (w.heap.size + 1) (.int .i64 t.kind) (.int .i64 t.num) (.string t.txt) (.slice (some ⟨gk, 0, none⟩) t.keys.length ck) (.slice RA t.vals.length RC)
        have hcE := setCells5_chg hcr (by omega : w.heap.size ≤ w.heap.size + 1) (.int .i64 t.kind) (.int .i64 t.num) (.string t.txt) (.slice (some ⟨gk, 0, none⟩) t.keys.length ck) (.slice RA t.vals.length RC)
        have RK := RdK.of_own (o := fun b => w.heap.size ≤ b) (ks := t.keys) (fun b hb => by omega) (ownsRow_keep HRK.out fun g hg => hne g (by
          have := (ownsRow_own HRK.out hg).1
          omega))
        have hxs : FlatV (fun b => w.heap.size ≤ b) _ (t.vals.take t.vals.length) xs := HX.out.to (w' := (((((wr.setCell ⟨w.heap.size + 1, 0, none⟩ (.int .i64 t.kind)).setCell ⟨w.heap.size + 1, 1, none⟩ (.int .i64 t.num)).setCell ⟨w.heap.size + 1, 2, none⟩ (.string t.txt)).setCell ⟨w.heap.size + 1, 3, none⟩ (.slice (some ⟨gk, 0, none⟩) t.keys.length ck)).setCell ⟨w.heap.size + 1, 4, none⟩ (.slice RA t.vals.length RC))) fun b hb ho => ⟨by have := ho.1; omega, hne b (by have := ho.1; omega)⟩
        rw [List.take_length] at hxs
        have RV := RdV.of_own (o := fun b => w.heap.size ≤ b) (fun b hb => by omega) (ownsRow_keep HRR.out fun g hg => hne g (by
          have := (ownsRow_own HRR.out hg).1
          omega)) hxs
        obtain ⟨e0, e1, e2, e3, e4, _⟩ := cells5 Z
        refine bodyPost_ret (v := .agg #[.int .i64 t.kind, .int .i64 t.num, .string t.txt, .slice (some ⟨gk, 0, none⟩) t.keys.length ck, .slice RA t.vals.length RC]) (by simp [results, Tryz.results18, go_sem, e0, e1, e2, e3, e4]) rfl ⟨_, rfl, hcE, Rd.mk RK RV⟩
end Go.Proofs.YtedbfoknfdiadaaGreatDoor
