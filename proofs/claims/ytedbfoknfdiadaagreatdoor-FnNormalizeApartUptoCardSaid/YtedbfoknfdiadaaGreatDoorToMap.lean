/- impl.toMap, given impl.toAny of what is smaller. Conditions: lengths. -/
import Derived.Test.YtedbfoknfdiadaaGreatDoorTexts
import Derived.Test.YtedbfoknfdiadaaGreatDoorTail
set_option linter.unusedVariables false
set_option linter.unusedSimpArgs false
namespace Go.Proofs.YtedbfoknfdiadaaGreatDoor
open Go.RowKit
variable {o : Nat → Prop}
set_option maxRecDepth 100000

@[go_sem] theorem mkM_hint (n : Int) (w : World) : (Instr.makeMap 63 (some (.int .i64 n))).run Tryz.prog w = .ok (.map (some w.heap.size)) (w.alloc (.map #[] 0)) := by
  have ht : Tryz.prog.underlying 63 = some (.map 9 20) := by kernel_rfl
  simp [Instr.makeMap, run_underlying ht, asInt, asIntOf, Result.andThen]
/-- What toAny answers. -/
def AnyR (w : World) (t : T) (e : Ending) (w' : World) : Prop := ∃ a F, e = .returned a ∧ Chg [] w w' ∧ Own w' t a F ∧ F.Nodup ∧ ∀ b ∈ F, w.heap.size ≤ b
theorem Srt.take {α : Type} {m : List (ByteArray × α)} {n : Nat} (h : Srt m) : Srt (m.take n) := List.Pairwise.sublist (List.take_sublist n m) h
theorem ins_end {k : ByteArray} {x : T} : ∀ {m : List (ByteArray × T)}, (∀ q ∈ m, blt q.1 k = true) → mins k x m = m ++ [(k, x)]
  | [], _ => rfl
  | p :: m, h => by
    have hb := h p List.mem_cons_self
    have hne : p.1 ≠ k := fun e => by rw [e, blt_irrefl] at hb; cases hb
    simp only [mins, hne, if_false, hb, if_true, List.cons_append]
    rw [ins_end fun q hq => h q (List.mem_cons_of_mem _ hq)]
theorem ins_take {m : List (ByteArray × T)} {n : Nat} {k : ByteArray} {x : T} (hs : Srt m) (h : m[n]? = some (k, x)) : mins k x (m.take n) = m.take (n + 1) := by
  rw [take_snoc h]
  refine ins_end fun q hq => ?_
  obtain ⟨i, hi, e⟩ := List.mem_iff_getElem.1 hq
  have hn := (List.getElem?_eq_some_iff.1 h).1
  have hi' : i < n := by simp at hi; omega
  have he : q = m[i]'(by omega) := by rw [← e, List.getElem_take]
  have hk : (k, x) = m[n] := ((List.getElem?_eq_some_iff.1 h).2).symm
  rw [he, show k = (m[n]).1 from congrArg Prod.fst hk]
  exact List.pairwise_iff_getElem.1 hs i n (by omega) hn hi'
set_option maxHeartbeats 1000000 in
theorem toMap_step {B : Nat} (nn : Nat) (ih : ∀ (t : T) (v : Value) (w : World), T.size t ≤ nn → WF B t → Rd o w t v → Calls Tryz.prog 59 #[v] w (AnyR w t))
    (m : List (ByteArray × T)) (v : Value) (w : World) (hsz : T.size (.map m) ≤ nn + 1) (h : Rd o w (.map m) v) (hw : WF B (.map m)) (hb : T.size (.map m) ≤ 67108864) :
    Calls Tryz.prog 38 #[v] w fun e w' => ∃ b F, e = .returned (.map (some b)) ∧ Chg [] w w' ∧ Own w' (.map m) (.iface 63 (.map (some b))) F ∧ F.Nodup ∧ ∀ x ∈ F, w.heap.size ≤ x := by
  obtain ⟨A3, q3, A4, q4, rfl, hk, hv⟩ := h.five
  have hvl := T.vals_len (.map m)
  have hml : m.length ≤ 67108864 := by simp [T.vals] at hvl; omega
  have HKL : Hid ((T.map m).keys.length = m.length ∧ (T.map m).vals.length = m.length) := Lib.hid ⟨by simp [T.keys], by simp [T.vals]⟩
  have HS := Lib.hid hw.1
  have HWM := Lib.hid hw.2
  clear hw hvl
  go_enter Tryz.func38, Tryz.ntmps38
  go_wp2_with fail
  go_loopg [4] m.length (fun g i wr => ∃ n : Nat, n ≤ m.length ∧ g = m.length - n ∧ i = .int .i64 n ∧ Chg [] w wr ∧ wr.heap[w.heap.size]? = some (.cells #[.int .i64 (T.map m).kind, .int .i64 (T.map m).num, .string (T.map m).txt, .slice A3 (T.map m).keys.length q3, .slice A4 (T.map m).vals.length q4] 35) ∧ ∃ Fm, Own wr (.map (m.take n)) (.iface 63 (.map (some (w.heap.size + 1)))) Fm ∧ Fm.Nodup ∧ ∀ b ∈ Fm, w.heap.size + 1 ≤ b)
  case atStart =>
    refine ⟨0, Nat.zero_le _, by omega, rfl, ((Chg.refl [] w).al _).al _, heap_al1 w _ _, [w.heap.size + 1], ?_, by simp, fun b hb => by simp at hb; omega⟩
    have hm := MapAt.new (w.alloc (.cells #[.int .i64 (T.map m).kind, .int .i64 (T.map m).num, .string (T.map m).txt, .slice A3 (T.map m).keys.length q3, .slice A4 (T.map m).vals.length q4] 35))
    have hsz1 : (w.alloc (.cells #[.int .i64 (T.map m).kind, .int .i64 (T.map m).num, .string (T.map m).txt, .slice A3 (T.map m).keys.length q3, .slice A4 (T.map m).vals.length q4] 35)).heap.size = w.heap.size + 1 := by simp
    rw [hsz1] at hm
    simp only [List.take_zero, Own]
    exact ⟨_, [], [], rfl, hm, rfl, rfl, rfl⟩
  case round =>
    obtain ⟨n, hn, rfl, rfl, hcr, z1, hom⟩ := hrel
    have HOM := Lib.hid hom
    clear hom
    have hszr : w.heap.size < wr.heap.size := (Array.getElem?_eq_some_iff.1 z1).1
    obtain ⟨a0, a1, a2, a3, a4, af⟩ := cells5 z1
    by_cases hlt : n < m.length
    · have hlk : n < (T.map m).keys.length := by rw [HKL.out.1]; exact hlt
      have hlv : n < (T.map m).vals.length := by rw [HKL.out.2]; exact hlt
      obtain ⟨q, hq⟩ : ∃ q, m[n]? = some q := ⟨_, List.getElem?_eq_getElem hlt⟩
      obtain ⟨k, x⟩ := q
      obtain ⟨gk, ck, ek, hgk, yk⟩ := hk.elem (n := n) (s := k) (by simp [T.keys, hq])
      have hxv : (T.map m).vals[n]? = some x := by simp [T.vals, hq]
      obtain ⟨ge, ce, A5, q5, A6, q6, ee, hge, rx, ye⟩ := hv.elem hxv
      cases ek
      cases ee
      have hxs := T.sizeL_at hxv
      have hts := T.size_vals (.map m)
      have YK := Lib.hid yk
      have YE := Lib.hid ye
      have HRX := Lib.hid rx
      have HXM := Lib.hid hq
      clear yk ye rx hq hxv
      go_wp2_with fail
      rename_i K hK
      have HK := Lib.hid hK
      clear hK a0 a1 a2 a3 a4 af
      refine wp_region_tail (by rfl) (by kernel_rfl) [1, 3, 4] (by kernel_rfl)
        (fun j u V => match j with
          | 0 => u = .map (some (w.heap.size + 1))
          | 1 => u = .pointer (some ⟨w.heap.size, 3, none⟩)
          | 2 => u = .slice (some ⟨gk, 0, none⟩) (T.map m).keys.length q3
          | 3 => u = .int .i64 ↑n
          | 4 => u = .pointer (some ⟨gk, n, none⟩)
          | 5 => u = .string k
          | 6 => u = .pointer (some ⟨w.heap.size, 4, none⟩)
          | 7 => u = .slice (some ⟨ge, 0, none⟩) (T.map m).vals.length q4
          | 8 => u = .int .i64 ↑n
          | 9 => u = .pointer (some ⟨ge, n * 5, none⟩)
          | 10 => u = .agg #[.int .i64 x.kind, .int .i64 x.num, .string x.txt, .slice A5 x.keys.length q5, .slice A6 x.vals.length q6]
          | 11 => ∃ Fv, Own V x u Fv ∧ Fv.Nodup ∧ ∀ b ∈ Fv, wr.heap.size ≤ b
          | _ => True) ?_ ?_ ?_
      · intro j u V V' hc hφ
        rcases j with _ | _ | _ | _ | _ | _ | _ | _ | _ | _ | _ | _ | j
        all_goals first | exact hφ | (obtain ⟨Fv, h1, h2, h3⟩ := hφ; exact ⟨Fv, h1.frame fun b hb => hc.block b (h1.lt b hb) (by simp), h2, h3⟩)
      · intro j oo hj ho a' w' hst hch hdep K2 hK2
        have hsz : wr.heap.size ≤ w'.heap.size := hch.size
        have hcB : Chg [] wr w' := (Chg.refl [] wr).dr.trans hch New.nil
        have hcrw := hcr.trans hcB New.nil
        obtain ⟨b0, b1, b2, b3, b4, bf⟩ := cells5 (box5 z1 _ hcB)
        have yk := YK.out _ hcrw
        obtain ⟨y0, y1, y2, y3, y4⟩ := YE.out _ hcrw
        have hj' : j < 12 := hj
        rcases j with _ | _ | _ | _ | _ | _ | _ | _ | _ | _ | _ | _ | j
        · obtain rfl : _ = oo := Option.some.inj ho  -- 0: slot 23
          have h3 := g_eq (t := 3) (v := .map (some (w.heap.size + 1))) (hst 3 (by simp))
          unfold Oper.wp
          go_simp
          exact ⟨_, rfl, hK2 _ _ (Chg.refl _ _) rfl⟩
        · obtain rfl : _ = oo := Option.some.inj ho  -- 1: slot 24
          have h1 := g_eq (t := 1) (v := .pointer (some ⟨w.heap.size, 0, none⟩)) (hst 1 (by simp))
          unfold Oper.wp
          go_simp
          exact ⟨_, rfl, hK2 _ _ (Chg.refl _ _) rfl⟩
        · obtain rfl : _ = oo := Option.some.inj ho  -- 2: slot 25
          have h24 := g_eq (t := 24) (v := .pointer (some ⟨w.heap.size, 3, none⟩)) (hdep 1 (by kernel_rfl))
          unfold Oper.wp
          go_simp
          exact ⟨_, rfl, hK2 _ _ (Chg.refl _ _) rfl⟩
        · obtain rfl : _ = oo := Option.some.inj ho  -- 3: slot 26
          have h4 := g_eq (t := 4) (v := .int .i64 ↑n) (hst 4 (by simp))
          unfold Oper.wp
          go_simp
          exact ⟨_, rfl, hK2 _ _ (Chg.refl _ _) rfl⟩
        · obtain rfl : _ = oo := Option.some.inj ho  -- 4: slot 27
          have h25 := g_eq (t := 25) (v := .slice (some ⟨gk, 0, none⟩) (T.map m).keys.length q3) (hdep 2 (by kernel_rfl))
          have h26 := g_eq (t := 26) (v := .int .i64 ↑n) (hdep 3 (by kernel_rfl))
          unfold Oper.wp
          go_simp
          exact ⟨_, rfl, hK2 _ _ (Chg.refl _ _) rfl⟩
        · obtain rfl : _ = oo := Option.some.inj ho  -- 5: slot 28
          have h27 := g_eq (t := 27) (v := .pointer (some ⟨gk, n, none⟩)) (hdep 4 (by kernel_rfl))
          unfold Oper.wp
          go_simp
          exact ⟨_, rfl, hK2 _ _ (Chg.refl _ _) rfl⟩
        · obtain rfl : _ = oo := Option.some.inj ho  -- 6: slot 29
          have h1 := g_eq (t := 1) (v := .pointer (some ⟨w.heap.size, 0, none⟩)) (hst 1 (by simp))
          unfold Oper.wp
          go_simp
          exact ⟨_, rfl, hK2 _ _ (Chg.refl _ _) rfl⟩
        · obtain rfl : _ = oo := Option.some.inj ho  -- 7: slot 30
          have h29 := g_eq (t := 29) (v := .pointer (some ⟨w.heap.size, 4, none⟩)) (hdep 6 (by kernel_rfl))
          unfold Oper.wp
          go_simp
          exact ⟨_, rfl, hK2 _ _ (Chg.refl _ _) rfl⟩
        · obtain rfl : _ = oo := Option.some.inj ho  -- 8: slot 31
          have h4 := g_eq (t := 4) (v := .int .i64 ↑n) (hst 4 (by simp))
          unfold Oper.wp
          go_simp
          exact ⟨_, rfl, hK2 _ _ (Chg.refl _ _) rfl⟩
        · obtain rfl : _ = oo := Option.some.inj ho  -- 9: slot 32
          have h30 := g_eq (t := 30) (v := .slice (some ⟨ge, 0, none⟩) (T.map m).vals.length q4) (hdep 7 (by kernel_rfl))
          have h31 := g_eq (t := 31) (v := .int .i64 ↑n) (hdep 8 (by kernel_rfl))
          unfold Oper.wp
          go_simp
          exact ⟨_, rfl, hK2 _ _ (Chg.refl _ _) rfl⟩
        · obtain rfl : _ = oo := Option.some.inj ho  -- 10: slot 33
          have h32 := g_eq (t := 32) (v := .pointer (some ⟨ge, n * 5, none⟩)) (hdep 9 (by kernel_rfl))
          unfold Oper.wp
          go_simp
          exact ⟨_, rfl, hK2 _ _ (Chg.refl _ _) rfl⟩
        · obtain rfl : _ = oo := Option.some.inj ho  -- 11: slot 34
          have h33 := g_eq (t := 33) (v := .agg #[.int .i64 x.kind, .int .i64 x.num, .string x.txt, .slice A5 x.keys.length q5, .slice A6 x.vals.length q6]) (hdep 10 (by kernel_rfl))
          unfold Oper.wp
          go_simp
          refine (ih x _ w' (by omega) (WFM_iff.1 HWM.out _ (List.mem_of_getElem? HXM.out)).2 (HRX.out.chg hcrw)).mono ?_
          rintro e w3 ⟨a, Fv, rfl, hc3, ho3, hn3, hb3⟩
          exact ⟨_, rfl, hK2 _ _ hc3 ⟨Fv, ho3, hn3, fun b hb => Nat.le_trans hsz (hb3 b hb)⟩⟩
        · omega
      · intro oo ho u w' hch hφ A2 hA2
        obtain rfl : _ = oo := Option.some.inj ho
        have l11 : 11 < 12 := by omega
        have hu0 : u 0 = .map (some (w.heap.size + 1)) := hφ 0 (Nat.lt_trans (by decide : 0 < 11) l11)
        have hu5 : u 5 = .string k := hφ 5 (Nat.lt_trans (by decide : 5 < 11) l11)
        obtain ⟨Fv, hov, hnv2, hbv⟩ : ∃ Fv, Own w' x (u 11) Fv ∧ Fv.Nodup ∧ ∀ b ∈ Fv, wr.heap.size ≤ b := hφ 11 l11
        have hcB : Chg [] wr w' := (Chg.refl [] wr).dr.trans hch New.nil
        have hcrw := hcr.trans hcB New.nil
        obtain ⟨Fm, hom, hnm, hbm⟩ := HOM.out
        have hom2 := hom.frame (w' := w') fun b hb => hcB.block b (hom.lt b hb) (by simp)
        obtain ⟨W3, F', hrun, ho3, hn3, hF', hon, hdr⟩ := Own.store (P := Tryz.prog) (K := 9) (E := 20) (ty := 63) (k := k) (by kernel_rfl) (by kernel_rfl) hom2 HS.out.take hov (List.nodup_append.2 ⟨hnm, hnv2, fun a ha b hb e => by
          have := hom.lt a ha
          have := hbv b hb
          omega⟩)
        rw [ins_take HS.out HXM.out] at ho3
        have hc3 : Chg [] w W3 := ⟨hon.os.trans hcrw.os, hon.tape.trans hcrw.tape, hon.output.trans hcrw.output, (by rw [hon.size]; exact hcrw.size), fun i hi _ => (hon.block i (by omega)).trans (hcrw.block i hi (by simp))⟩
        have z3 := (hon.block w.heap.size (by omega)).trans (box5 z1 _ hcB)
        have HO3 := Lib.hid (And.intro ho3 (And.intro hn3 hF'))
        simp [putAll, dOf, Act.put, hu0, hu5] at hA2
        subst hA2
        clear hφ l11 ho hu0 hu5 hch hom2 ho3 hn3 hF'
        unfold Oper.wp
        simp [execOp, Act.eval, hrun, Result.andThen]
        refine HK.out _ _ ?_
        clear HK
        go_wp2_with fail
        go_roundg (m.length - (n + 1))
        case measure => omega
        case rel =>
          refine ⟨n + 1, by omega, rfl, by go_num, hc3, z3, ?_⟩
          obtain ⟨h1, h2, h3⟩ := HO3.out
          exact ⟨_, h1, h2, fun y hy => by
            rcases List.mem_cons.1 hy with rfl | hy
            · omega
            · rcases h3 y hy with h | h
              · exact hbm y h
              · have := hbv y h
                omega⟩
    · have hlk : ¬ n < (T.map m).keys.length := by rw [HKL.out.1]; exact hlt
      have hE : n = m.length := by omega
      have HE := Lib.hid hE
      clear hE
      go_wp2_with fail
      go_ret
      obtain ⟨Fm, h1, h2, h3⟩ := HOM.out
      rw [HE.out, List.take_length] at h1
      exact ⟨_, Fm, rfl, hcr, h1, h2, fun x hx => by have := h3 x hx; omega⟩
end Go.Proofs.YtedbfoknfdiadaaGreatDoor
