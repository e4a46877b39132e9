/- spec.M: a map of keys and values by turns. Conditions: lengths. -/
import Derived.Test.YtedbfoknfdiadaaGreatDoorSay
set_option linter.unusedVariables false
set_option linter.unusedSimpArgs false
namespace Go.Proofs.YtedbfoknfdiadaaGreatDoor
open Go.RowKit
variable {o : Nat → Prop}
set_option maxRecDepth 100000

@[go_sem] theorem tb_spec (v : Value) (w : World) : (Instr.typeAssert (.iface 25 v) 20 25 false).run Tryz.prog w = .ok v w := by kernel_rfl
/-- .. and not two boxes. -/
def OffB (o : Nat → Prop) (B1 B2 b : Nat) : Prop := o b ∧ b ≠ B1 ∧ b ≠ B2
def insAll (l : List (ByteArray × T)) : List (ByteArray × T) := l.foldl (fun m p => mins p.1 p.2 m) []
theorem foldl_srt : ∀ (l : List (ByteArray × T)) (m : List (ByteArray × T)), Srt m → Srt (l.foldl (fun m p => mins p.1 p.2 m) m)
  | [], _, h => h
  | p :: l, _, h => foldl_srt l _ h.srt_ins
theorem insAll_srt {l : List (ByteArray × T)} : Srt (insAll l) := foldl_srt l [] List.Pairwise.nil
theorem insAll_snoc {l : List (ByteArray × T)} {n : Nat} {p : ByteArray × T} (h : l[n]? = some p) : insAll (l.take (n + 1)) = mins p.1 p.2 (insAll (l.take n)) := by
  rw [take_snoc h]
  simp [insAll]
theorem ins_len_le {α : Type} {k : ByteArray} {x : α} : ∀ {m : List (ByteArray × α)}, (mins k x m).length ≤ m.length + 1
  | [] => by simp [mins]
  | p :: m => by
    unfold mins
    split
    · simp
    · split
      · have := ins_len_le (k := k) (x := x) (m := m)
        simp
        omega
      · simp
theorem foldl_len : ∀ (l : List (ByteArray × T)) (m : List (ByteArray × T)), (l.foldl (fun m p => mins p.1 p.2 m) m).length ≤ m.length + l.length
  | [], _ => by simp
  | p :: l, m => by
    have h1 := foldl_len l (mins p.1 p.2 m)
    have h2 := ins_len_le (k := p.1) (x := p.2) (m := m)
    simp only [List.foldl_cons, List.length_cons]
    omega
theorem insAll_len (l : List (ByteArray × T)) : (insAll l).length ≤ l.length := by have := foldl_len l []; simpa [insAll] using this
theorem Rd.five_map {w : World} {m : List (ByteArray × T)} {v : Value} (h : Rd o w (.map m) v) : ∃ A3 q3 A4 q4, v = .agg #[.int .i64 5, .int .i64 0, .string ⟨#[]⟩, .slice A3 m.length q3, .slice A4 m.length q4] := by
  obtain ⟨A3, q3, A4, q4, rfl, _⟩ := h.five
  exact ⟨A3, q3, A4, q4, by simp [T.kind, T.num, T.txt, T.keys, T.vals]⟩

/-- Five cells stored into a box of the call's own. -/
theorem store5 {F : List Nat} {w0 w : World} {B : Nat} {e : TypeId} {a0 a1 a2 a3 a4 : Value} (h : w.heap[B]? = some (.cells #[a0, a1, a2, a3, a4] e)) (hc : Chg F w0 w) (hB : w0.heap.size ≤ B) (b0 b1 b2 b3 b4 : Value) :
    ∃ W, W = (((((w.setCell ⟨B, 0, none⟩ b0).setCell ⟨B, 1, none⟩ b1).setCell ⟨B, 2, none⟩ b2).setCell ⟨B, 3, none⟩ b3).setCell ⟨B, 4, none⟩ b4) ∧ W.heap[B]? = some (.cells #[b0, b1, b2, b3, b4] e) ∧ (∀ g, g ≠ B → W.heap[g]? = w.heap[g]?) ∧ Chg F w0 W ∧ W.heap.size = w.heap.size :=
  ⟨_, rfl, setCells5 w B b0 b1 b2 b3 b4 h, setCells5_ne w B b0 b1 b2 b3 b4, setCells5_chg hc hB b0 b1 b2 b3 b4, by simp⟩
set_option maxHeartbeats 1000000 in
theorem specM (l : List (ByteArray × T)) (ga C : Nat) (w : World) (hga : ga < w.heap.size) (hrow : ∀ j k x, l[j]? = some (k, x) → w.cell? ⟨ga, 2 * j, none⟩ = some (.iface 9 (.string k)) ∧ ∃ v, w.cell? ⟨ga, 2 * j + 1, none⟩ = some (.iface 25 v) ∧ Rd o w x v)
    (hl : l.length ≤ 33554432) (hno : ∀ b, w.heap.size ≤ b → o b) :
    Calls Tryz.prog 21 #[.slice (some ⟨ga, 0, none⟩) (2 * l.length) C] w fun e w' => ∃ v, e = .returned v ∧ Chg [] w w' ∧ Rd o w' (.map (insAll l)) v := by
  have HROW := Lib.hid hrow
  clear hrow
  obtain ⟨L, hL⟩ : ∃ L, L = 2 * l.length := ⟨_, rfl⟩
  rw [← hL]
  have HL := Lib.hid hL
  clear hL
  go_enter Tryz.func21, Tryz.ntmps21
  go_wp2_with fail
  refine (specEmpty (o := OffB o w.heap.size w.heap.size) _).mono ?_
  rintro e w1 ⟨v0, rfl, hc1, hr0⟩
  obtain ⟨A3, q3, A4, q4, rfl⟩ := hr0.five_map
  have hcw := ((Chg.refl [] w).al _).trans hc1 New.nil
  have z1 := box5 (heap_alloc_new w (.cells #[.int .i64 0, .int .i64 0, .string ⟨#[]⟩, .slice none 0 0, .slice none 0 0] 25)) _ hc1
  have hsz : w.heap.size + 1 ≤ w1.heap.size := by have := hc1.size; simpa using this
  clear hc1
  have HR0 := Lib.hid hr0
  clear hr0
  go_wp2
  go_loopg [4] l.length (fun g i wr => ∃ (n i' : Nat) (m : List (ByteArray × T)) (A3 : Option Addr) (q3 : Nat) (A4 : Option Addr) (q4 : Nat), n ≤ l.length ∧ i' = 2 * n ∧ g = l.length - n ∧ i = .int .i64 i' ∧ Chg [] w wr ∧ m = insAll (l.take n) ∧
    wr.heap[w1.heap.size]? = some (.cells #[.int .i64 5, .int .i64 0, .string ⟨#[]⟩, .slice A3 m.length q3, .slice A4 m.length q4] 25) ∧
    wr.heap[w.heap.size]? = some (.cells #[.int .i64 0, .int .i64 0, .string ⟨#[]⟩, .slice none 0 0, .slice none 0 0] 25) ∧
    Rd (OffB o w1.heap.size w.heap.size) wr (.map m) (.agg #[.int .i64 5, .int .i64 0, .string ⟨#[]⟩, .slice A3 m.length q3, .slice A4 m.length q4]))
  case atStart =>
    refine ⟨0, 0, [], A3, q3, A4, q4, Nat.zero_le _, rfl, by omega, rfl, hcw.al _, rfl, heap_alloc_new _ _, (heap_alloc_old _ _ _ (by omega)).trans z1, ?_⟩
    exact HR0.out.to fun b hb ho => ⟨⟨ho.1, by omega, ho.2.1⟩, heap_alloc_old _ _ _ hb⟩
  case round =>
    obtain ⟨n, i, m, A3, q3, A4, q4, hn, hi, rfl, rfl, hcr, hm, q1, z2, hr⟩ := hrel
    have hsB : w1.heap.size < wr.heap.size := (Array.getElem?_eq_some_iff.1 q1).1
    have hbw : w.heap.size < w1.heap.size := by omega
    have HR := Lib.hid hr
    clear hr
    obtain ⟨a0, a1, a2, a3, a4, af⟩ := cells5 q1
    by_cases hlt : n < l.length
    · obtain ⟨p, hp⟩ : ∃ p, l[n]? = some p := ⟨_, List.getElem?_eq_getElem hlt⟩
      obtain ⟨k, x⟩ := p
      obtain ⟨hk0, vx, hk1, rx⟩ := HROW.out n k x hp
      obtain ⟨A5, q5, A6, q6, rfl, _⟩ := rx.five
      rw [← hi] at hk0 hk1
      have hiL : (decide ((i : Int) + 1 < (L : Int))) = true := by have := HL.out; simp; omega
      have hiL2 : i < L ∧ i + 1 < L := by have := HL.out; omega
      have hi64 : i ≤ 67108864 := by omega
      have HM := Lib.hid (And.intro hm hp)
      have HI := Lib.hid hi
      clear hm hp hi
      go_wp2
      rename_i K hK
      have HK := Lib.hid hK
      clear hK a0 a1 a2 a3 a4 af
      refine wp_region_call (by rfl) (by kernel_rfl) [0, 3, 4] (by kernel_rfl) 1 (by decide) []
          (fun j u V => match j with
            | 0 => u = .agg #[.int .i64 5, .int .i64 0, .string ⟨#[]⟩, .slice A3 m.length q3, .slice A4 m.length q4]
            | 1 => u = .slice (some ⟨ga, 0, none⟩) L C
            | 2 => u = .int .i64 ↑i
            | 3 => u = .pointer (some ⟨ga, i, none⟩)
            | 4 => u = .iface 9 (.string k)
            | 5 => u = .string k
            | 6 => u = .slice (some ⟨ga, 0, none⟩) L C
            | 7 => u = .int .i64 ↑i
            | 8 => u = .int .i64 (↑i + 1)
            | 9 => u = .pointer (some ⟨ga, i + 1, none⟩)
            | 10 => u = .iface 25 (.agg #[.int .i64 x.kind, .int .i64 x.num, .string x.txt, .slice A5 x.keys.length q5, .slice A6 x.vals.length q6])
            | 11 => u = .agg #[.int .i64 x.kind, .int .i64 x.num, .string x.txt, .slice A5 x.keys.length q5, .slice A6 x.vals.length q6]
            | 12 => Rd (OffB o w1.heap.size w.heap.size) V (.map (mins k x m)) u
            | _ => True) ?_ ?_ ?_ ?_ ?_
      · intro j u V V' hc hφ
        rcases j with _ | _ | _ | _ | _ | _ | _ | _ | _ | _ | _ | _ | _ | j
        all_goals first | exact hφ | skip
        exact Rd.chg hφ hc
      · intro j u V V' _ hc hφ
        rcases j with _ | _ | _ | _ | _ | _ | _ | _ | _ | _ | _ | _ | _ | j
        all_goals first | exact hφ | skip
        exact Rd.chg hφ hc
      · intro j oo hj hj1 ho a' w' hst hch hwt hdep K2 hK2
        have hsz : wr.heap.size ≤ w'.heap.size := hch.size
        have hcrw := hcr.trans ((Chg.refl [] _).dr.trans hch New.nil) New.nil
        obtain ⟨b0, b1, b2, b3, b4, bf⟩ := cells5 ((hch.block w1.heap.size (by show w1.heap.size < wr.heap.size; omega) (by simp)).trans q1)
        have y0 := (hcrw.cells.1 _ _ hga).trans hk0
        have y1 := (hcrw.cells.1 _ _ hga).trans hk1
        have rm : Rd (OffB o w1.heap.size w.heap.size) w' (.map m) _ := Rd.mono (w := wr) (fun b hb _ => hch.block b hb (by simp)) HR.out
        have rx' : Rd (OffB o w1.heap.size w.heap.size) w' x _ := rx.to fun b hb ho => ⟨⟨ho, by omega, by omega⟩, hcrw.block b hb (by simp)⟩
        have hsm : Srt m := by rw [HM.out.1]; exact insAll_srt
        have hml : m.length ≤ 67108864 := by
          rw [HM.out.1]
          have := insAll_len (l.take n)
          have := List.length_take_le n l
          omega
        have RM := Lib.hid (And.intro rm (And.intro rx' (And.intro hsm hml)))
        clear rm rx' hsm hml
        have hiL3 : (i : Int) + 1 < (L : Int) ∧ 0 ≤ (i : Int) + 1 := by omega
        obtain ⟨hiL4, hiL5⟩ := hiL3
        have hj' : j < 13 := hj
        rcases j with _ | _ | _ | _ | _ | _ | _ | _ | _ | _ | _ | _ | _ | j
        · obtain rfl : _ = oo := Option.some.inj ho  -- 0: slot 13: Op.load 25 (Operand.tmp 3)
          have h3 := g_eq (t := 3) (v := .pointer (some ⟨w1.heap.size, 0, none⟩)) (hst 3 (by simp))
          unfold Oper.wp
          go_simp
          exact ⟨_, rfl, hK2 _ _ (Chg.refl _ _) rfl⟩
        · obtain rfl : _ = oo := Option.some.inj ho  -- 1: slot 14: Op.move (Operand.tmp 0)
          have h0 := g_eq (t := 0) (v := .slice (some ⟨ga, 0, none⟩) L C) (hst 0 (by simp))
          unfold Oper.wp
          go_simp
          exact ⟨_, rfl, hK2 _ _ (Chg.refl _ _) rfl⟩
        · obtain rfl : _ = oo := Option.some.inj ho  -- 2: slot 15: Op.move (Operand.tmp 4)
          have h4 := g_eq (t := 4) (v := .int .i64 ↑i) (hst 4 (by simp))
          unfold Oper.wp
          go_simp
          exact ⟨_, rfl, hK2 _ _ (Chg.refl _ _) rfl⟩
        · obtain rfl : _ = oo := Option.some.inj ho  -- 3: slot 16: Op.indexAddr 74 (Operand.tmp 14) (Operand.tmp 15)
          have h14 := g_eq (t := 14) (v := .slice (some ⟨ga, 0, none⟩) L C) (hdep 1 (by kernel_rfl))
          have h15 := g_eq (t := 15) (v := .int .i64 ↑i) (hdep 2 (by kernel_rfl))
          unfold Oper.wp
          go_simp
          exact ⟨_, rfl, hK2 _ _ (Chg.refl _ _) rfl⟩
        · obtain rfl : _ = oo := Option.some.inj ho  -- 4: slot 17: Op.load 20 (Operand.tmp 16)
          have h16 := g_eq (t := 16) (v := .pointer (some ⟨ga, i, none⟩)) (hdep 3 (by kernel_rfl))
          unfold Oper.wp
          go_simp
          exact ⟨_, rfl, hK2 _ _ (Chg.refl _ _) rfl⟩
        · obtain rfl : _ = oo := Option.some.inj ho  -- 5: slot 18: Op.typeAssert (Operand.tmp 17) 20 9 false
          have h17 := g_eq (t := 17) (v := .iface 9 (.string k)) (hdep 4 (by kernel_rfl))
          unfold Oper.wp
          go_simp
          exact ⟨_, rfl, hK2 _ _ (Chg.refl _ _) rfl⟩
        · obtain rfl : _ = oo := Option.some.inj ho  -- 6: slot 19: Op.move (Operand.tmp 0)
          have h0 := g_eq (t := 0) (v := .slice (some ⟨ga, 0, none⟩) L C) (hst 0 (by simp))
          unfold Oper.wp
          go_simp
          exact ⟨_, rfl, hK2 _ _ (Chg.refl _ _) rfl⟩
        · obtain rfl : _ = oo := Option.some.inj ho  -- 7: slot 20: Op.move (Operand.tmp 4)
          have h4 := g_eq (t := 4) (v := .int .i64 ↑i) (hst 4 (by simp))
          unfold Oper.wp
          go_simp
          exact ⟨_, rfl, hK2 _ _ (Chg.refl _ _) rfl⟩
        · obtain rfl : _ = oo := Option.some.inj ho  -- 8: slot 21: Op.binOp BinOp.add 3 (Operand.tmp 20) (Operand.const (Value.int IntKind.i64 1)) 3
          have h20 := g_eq (t := 20) (v := .int .i64 ↑i) (hdep 7 (by kernel_rfl))
          unfold Oper.wp
          go_simp
          refine ⟨_, rfl, hK2 _ _ (Chg.refl _ _) ?_⟩
          show _ = Value.int IntKind.i64 ((i : Int) + 1)
          rw [IntKind.wrap_i64, show ((i : Int) + 1 + 9223372036854775808) % 18446744073709551616 - 9223372036854775808 = (i : Int) + 1 by omega]
        · obtain rfl : _ = oo := Option.some.inj ho  -- 9: slot 22: Op.indexAddr 74 (Operand.tmp 19) (Operand.tmp 21)
          have h19 := g_eq (t := 19) (v := .slice (some ⟨ga, 0, none⟩) L C) (hdep 6 (by kernel_rfl))
          have h21 := g_eq (t := 21) (v := .int .i64 (↑i + 1)) (hdep 8 (by kernel_rfl))
          unfold Oper.wp
          go_simp
          exact ⟨_, rfl, hK2 _ _ (Chg.refl _ _) rfl⟩
        · obtain rfl : _ = oo := Option.some.inj ho  -- 10: slot 23: Op.load 20 (Operand.tmp 22)
          have h22 := g_eq (t := 22) (v := .pointer (some ⟨ga, i + 1, none⟩)) (hdep 9 (by kernel_rfl))
          unfold Oper.wp
          go_simp
          exact ⟨_, rfl, hK2 _ _ (Chg.refl _ _) rfl⟩
        · obtain rfl : _ = oo := Option.some.inj ho  -- 11: slot 24: Op.typeAssert (Operand.tmp 23) 20 25 false
          have h23 := g_eq (t := 23) (v := .iface 25 (.agg #[.int .i64 x.kind, .int .i64 x.num, .string x.txt, .slice A5 x.keys.length q5, .slice A6 x.vals.length q6])) (hdep 10 (by kernel_rfl))
          unfold Oper.wp
          go_simp
          exact ⟨_, rfl, hK2 _ _ (Chg.refl _ _) rfl⟩
        · obtain rfl : _ = oo := Option.some.inj ho  -- 12: slot 25: Op.call { callee := Callee.value (Operand.func 20), args := #[Operand.tmp 13, Operand.tmp 18, Operand.tmp 24], argTypes := #[25, 9, 25] }
          have h13 := g_eq (t := 13) (v := .agg #[.int .i64 5, .int .i64 0, .string ⟨#[]⟩, .slice A3 m.length q3, .slice A4 m.length q4]) (hdep 0 (by kernel_rfl))
          have h18 := g_eq (t := 18) (v := .string k) (hdep 5 (by kernel_rfl))
          have h24 := g_eq (t := 24) (v := .agg #[.int .i64 x.kind, .int .i64 x.num, .string x.txt, .slice A5 x.keys.length q5, .slice A6 x.vals.length q6]) (hdep 11 (by kernel_rfl))
          unfold Oper.wp
          go_simp
          refine (with_map m x _ _ k w' RM.out.1 RM.out.2.2.1 RM.out.2.1 RM.out.2.2.2 (fun b hb => ⟨hno b (by omega), by omega, by omega⟩)).mono ?_
          rintro e w3 ⟨v', rfl, hc3, hr3⟩
          exact ⟨_, rfl, hK2 _ _ hc3 hr3⟩
        · omega
      · intro oo ho a' w' hst hch hdep
        obtain rfl : _ = oo := Option.some.inj ho
        have h0 := g_eq (t := 0) (v := .slice (some ⟨ga, 0, none⟩) L C) (hst 0 (by simp))
        exact ⟨_, w', by simp [execOp, Act.eval, h0, Result.andThen, go_sem], Chg.refl _ _, rfl⟩
      · intro oo ho u w' hch hφ A2 hA2
        obtain rfl : _ = oo := Option.some.inj ho
        have l12 : 12 < 13 := by omega
        have hu12 : Rd (OffB o w1.heap.size w.heap.size) w' (.map (mins k x m)) (u 12) := hφ 12 l12
        obtain ⟨A7, q7, A8, q8, hu⟩ := hu12.five_map
        rw [hu] at hu12
        have hsz : wr.heap.size ≤ w'.heap.size := hch.size
        have hcrw := hcr.trans ((Chg.refl [] _).dr.trans hch New.nil) New.nil
        have q2 := (hch.block w1.heap.size (by show w1.heap.size < wr.heap.size; omega) (by simp)).trans q1
        have z3 := (hch.block w.heap.size (by show w.heap.size < wr.heap.size; omega) (by simp)).trans z2
        simp [putAll, dOf, Act.put, hu] at hA2
        subst hA2
        clear hφ l12 ho hu
        obtain ⟨b0, b1, b2, b3, b4, bf⟩ := cells5 q2
        unfold Oper.wp
        go_simp
        refine HK.out _ _ ?_
        clear HK b0 b1 b2 b3 b4 bf
        obtain ⟨W, hW, Q, hne, hcW, _⟩ := store5 q2 hcrw (by omega : w.heap.size ≤ w1.heap.size) (.int .i64 5) (.int .i64 0) (.string ⟨#[]⟩) (.slice A7 (mins k x m).length q7) (.slice A8 (mins k x m).length q8)
        rw [← hW]
        have Z := (hne w.heap.size (by omega)).trans z3
        have HRN := Lib.hid (hu12.mono (w' := W) fun b _ ho => hne b ho.2.1)
        clear hW hne hu12
        go_wp2
        go_roundg (l.length - (n + 1))
        case measure => omega
        case rel =>
          exact ⟨n + 1, i + 2, mins k x m, A7, q7, A8, q8, by omega, by have := HI.out; omega, rfl, by go_num, hcW, by rw [insAll_snoc HM.out.2, HM.out.1], Q, Z, HRN.out⟩
    · have hE : n = l.length := by omega
      have hiL : (decide ((i : Int) + 1 < (L : Int))) = false := by have := HL.out; simp; omega
      have hi64 : i ≤ 67108864 := by omega
      have HM := Lib.hid hm
      have HE := Lib.hid hE
      clear hm hE hi
      obtain ⟨d0, d1, d2, d3, d4, df⟩ := cells5 z2
      go_wp2
      obtain ⟨W, hW, Q, hne, hcW, _⟩ := store5 z2 hcr (Nat.le_refl _) (.int .i64 5) (.int .i64 0) (.string ⟨#[]⟩) (.slice A3 m.length q3) (.slice A4 m.length q4)
      rw [← hW]
      obtain ⟨e0, e1, e2, e3, e4, _⟩ := cells5 Q
      refine bodyPost_ret (v := .agg #[.int .i64 5, .int .i64 0, .string ⟨#[]⟩, .slice A3 m.length q3, .slice A4 m.length q4]) (by simp [results, Tryz.results21, go_sem, e0, e1, e2, e3, e4]) rfl ⟨_, rfl, hcW, ?_⟩
      have hm := HM.out
      rw [HE.out, List.take_length] at hm
      rw [← hm]
      exact HR.out.to fun b _ ho => ⟨ho.1, hne b ho.2.2⟩
end Go.Proofs.YtedbfoknfdiadaaGreatDoor
