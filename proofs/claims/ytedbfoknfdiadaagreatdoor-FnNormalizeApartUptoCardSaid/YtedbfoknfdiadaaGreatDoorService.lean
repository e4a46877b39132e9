/- spec.normService. Conditions: lengths. -/
import Derived.Test.YtedbfoknfdiadaaGreatDoorNamed
import Derived.Deep.DeepCutAuto
set_option linter.unusedVariables false
set_option linter.unusedSimpArgs false
namespace Go.Proofs.YtedbfoknfdiadaaGreatDoor
open Go.RowKit
variable {o : Nat → Prop}
set_option maxRecDepth 100000

/-- A key that a service may have. -/
def KeyOK (s : ByteArray) : Prop := s ∈ [kDependsOn, kNetworkMode, kLinks, kVolumesFrom, kNetworks] ∨ s ∈ six ∨ s = kLabels ∨ Extra s
def KeysTo (t : T) (n : Nat) : Prop := ∀ j, j < n → ∀ s x, t.keys[j]? = some s → t.vals[j]? = some x → KeyOK s ∧ (s = kNetworks → x.kind = 5 ∧ 0 < x.keys.length)
theorem KeysTo.step {t : T} {n : Nat} (h : KeysTo t n) {s : ByteArray} {x : T} (hs : t.keys[n]? = some s) (hx : t.vals[n]? = some x) (h1 : KeyOK s) (h2 : s = kNetworks → x.kind = 5 ∧ 0 < x.keys.length) : KeysTo t (n + 1) := fun j hj s' x' hs' hx' => by
  rcases Nat.lt_or_ge j n with h' | h'
  · exact h j h' s' x' hs' hx'
  · obtain rfl : j = n := by omega
    rw [hs] at hs'
    rw [hx] at hx'
    cases hs'
    cases hx'
    exact ⟨h1, h2⟩
/-- The service behind its first stage. -/
def out1 (s : List (ByteArray × T)) (x : T) : List (ByteArray × T) := if x.keys.length = 0 then s else mins kDependsOn x s
theorem out1_srt {s : List (ByteArray × T)} {x : T} (h : Srt s) : Srt (out1 s x) := by
  unfold out1
  split
  · exact h
  · exact h.srt_ins
theorem out1_len {s : List (ByteArray × T)} {x : T} : (out1 s x).length ≤ s.length + 1 := by
  unfold out1
  split
  · omega
  · exact ins_len_le
theorem svcS_out {s : List (ByteArray × T)} {x : T} (h : x = .map (depsS s)) : svcS s = netsOf (out1 s x) := by
  subst h
  unfold svcS out1
  have : (T.map (depsS s)).keys.length = 0 ↔ depsS s = [] := by simp [T.keys]
  by_cases hd : depsS s = []
  · rw [if_pos hd, if_pos (this.2 hd)]
  · rw [if_neg hd, if_neg (fun e => hd (this.1 e))]
theorem out1_has {s : List (ByteArray × T)} {x : T} {k : ByteArray} (h : k ≠ kDependsOn) : hasK k (out1 s x) = hasK k s := by
  unfold out1
  split
  · rfl
  · exact hasK_ins_ne h
/-- What normService answers. -/
def SvcR (o : Nat → Prop) (w : World) (t : T) (e : Ending) (w' : World) : Prop := ∃ v' b, e = .returned (.tuple #[v', .bool b]) ∧ Chg [] w w' ∧ (∃ i j s A n q B k r, v' = .agg #[.int .i64 i, .int .i64 j, .string s, .slice A n q, .slice B k r]) ∧
  (b = true → t.kind = 5 ∧ NeedsOK t.m ∧ KeysTo t t.keys.length ∧ Rd o w' (.map (svcS t.m)) v')

set_option maxHeartbeats 1500000 in
theorem normService_any (t : T) (v : Value) (w : World) (h : Rd o w t v) (hf : Fine t) (hz : T.size t ≤ 16777216) (hno : ∀ b, w.heap.size ≤ b → o b) :
    Calls Tryz.prog 31 #[v] w (SvcR o w t) := by
  obtain ⟨A3, q3, A4, q4, rfl, hk, hv⟩ := h.five
  have hkl := hf.len
  go_enter Tryz.func31, Tryz.ntmps31
  go_wp2_with fail
  go_loopg [4] t.keys.length (fun g i wr => ∃ n : Nat, n ≤ t.keys.length ∧ g = t.keys.length - n ∧ i = .int .i64 n ∧ Chg [] w wr ∧ wr.heap[w.heap.size]? = some (.cells #[.int .i64 t.kind, .int .i64 t.num, .string t.txt, .slice A3 t.keys.length q3, .slice A4 t.vals.length q4] 25) ∧ wr.heap[w.heap.size + 1]? = some (.cells #[.int .i64 0, .int .i64 0, .string ⟨#[]⟩, .slice none 0 0, .slice none 0 0] 25) ∧ KeysTo t n)
  case atStart => exact ⟨0, Nat.zero_le _, by omega, rfl, ((Chg.refl [] w).al _).al _, heap_al1 w _ _, heap_al2 w _ _, fun j hj => absurd hj (Nat.not_lt_zero j)⟩
  case round =>
    obtain ⟨n, hn, rfl, rfl, hcr, z1, z2, hkt⟩ := hrel
    have HKT := Lib.hid hkt
    clear hkt
    by_cases hlt : n < t.keys.length
    · obtain ⟨s, hs1⟩ : ∃ s, t.keys[n]? = some s := ⟨_, List.getElem?_eq_getElem hlt⟩
      obtain ⟨x, hx⟩ : ∃ x, t.vals[n]? = some x := ⟨_, List.getElem?_eq_getElem (by omega)⟩
      obtain ⟨gk, ck, ek, hgk, yk⟩ := hk.elem hs1
      obtain ⟨ge, c1, A5, q5, A6, q6, e1, hge, rx, ye⟩ := hv.elem hx
      cases e1
      cases ek
      have hfx := hf.vals (List.mem_of_getElem? hx)
      have hnv : n < t.vals.length := by omega
      have YK := Lib.hid yk
      have YE := Lib.hid ye
      have HRX := Lib.hid rx
      have HSX := Lib.hid (And.intro hs1 hx)
      obtain ⟨a0, a1, a2, a3, a4, af⟩ := cells5 z1
      have hyk := YK.out _ hcr
      clear hs1 hx ye yk rx
      by_cases hin : s ∈ [kDependsOn, kNetworkMode, kLinks, kVolumesFrom]
      · have HIN := Lib.hid hin
        simp only [List.mem_cons, List.not_mem_nil, or_false] at hin
        have hrel : KeysTo t (n + 1) := HKT.out.step HSX.out.1 HSX.out.2 (.inl (by have := HIN.out; simp only [List.mem_cons, List.not_mem_nil, or_false] at this ⊢; rcases this with h | h | h | h <;> simp [h])) (fun e => by exfalso; rw [e] at hin; revert hin; decide)
        have HREL := Lib.hid hrel
        clear HIN hrel
        rcases hin with rfl | rfl | rfl | rfl
        all_goals
          go_wp2_with fail
          go_roundg (t.keys.length - (n + 1))
          case measure => omega
          case rel => exact ⟨n + 1, by omega, rfl, by go_num, hcr, z1, z2, HREL.out⟩
      · simp only [List.mem_cons, List.not_mem_nil, or_false, not_or] at hin
        have f1 : (s.toList == [100, 101, 112, 101, 110, 100, 115, 95, 111, 110]) = false := ne_toList hin.1 (by kernel_rfl)
        have f2 : (s.toList == [110, 101, 116, 119, 111, 114, 107, 95, 109, 111, 100, 101]) = false := ne_toList hin.2.1 (by kernel_rfl)
        have f3 : (s.toList == [108, 105, 110, 107, 115]) = false := ne_toList hin.2.2.1 (by kernel_rfl)
        have f4 : (s.toList == [118, 111, 108, 117, 109, 101, 115, 95, 102, 114, 111, 109]) = false := ne_toList hin.2.2.2 (by kernel_rfl)
        clear hin
        by_cases hnet : s = kNetworks
        · subst hnet
          obtain ⟨y0, y1, y2, y3, y4⟩ := YE.out _ hcr
          by_cases hk5 : x.kind = 5
          · have hk5' : (x.kind != 5) = false := by rw [hk5]; rfl
            have HK5 := Lib.hid hk5
            clear hk5
            go_wp2_with fail
            refine (sayNets_any x _ _ (HRX.out.chg hcr) hfx HK5.out).mono ?_
            rintro e w3 ⟨b, rfl, hc3, hq⟩
            have hc := hcr.trans hc3 New.nil
            have z1' := box5 z1 _ hc3
            have z2' := box5 z2 _ hc3
            clear hc3 a0 a1 a2 a3 a4 af y0 y1 y2 y3 y4 hyk
            cases b
            · clear hq
              obtain ⟨d0, d1, d2, d3, d4, df⟩ := cells5 z2'
              obtain ⟨a0, a1, a2, a3, a4, af⟩ := cells5 z1'
              go_wp2
              obtain ⟨W, hW, Q, hne, hcW, _⟩ := store5 z2' hc (by omega : w.heap.size ≤ w.heap.size + 1) (.int .i64 t.kind) (.int .i64 t.num) (.string t.txt) (.slice (some ⟨gk, 0, none⟩) t.keys.length q3) (.slice (some ⟨ge, 0, none⟩) t.vals.length q4)
              rw [← hW]
              obtain ⟨e0, e1, e2, e3, e4, _⟩ := cells5 Q
              exact bodyPost_ret (v := .tuple #[.agg #[.int .i64 t.kind, .int .i64 t.num, .string t.txt, .slice (some ⟨gk, 0, none⟩) t.keys.length q3, .slice (some ⟨ge, 0, none⟩) t.vals.length q4], .bool false]) (by simp [results, Tryz.results31, go_sem, e0, e1, e2, e3, e4]) rfl ⟨_, false, rfl, hcW, ⟨_, _, _, _, _, _, _, _, _, rfl⟩, fun h => by cases h⟩
            · have HQ := Lib.hid (hq (by trivial))
              clear hq
              go_wp2_with fail
              go_roundg (t.keys.length - (n + 1))
              case measure => omega
              case rel => exact ⟨n + 1, by omega, rfl, by go_num, hc, z1', z2', HKT.out.step HSX.out.1 HSX.out.2 (.inl (by simp)) (fun _ => ⟨HK5.out, HQ.out⟩)⟩
          · have hk5' : (x.kind != 5) = true := by simpa using hk5
            clear hk5 a0 a1 a2 a3 a4 af
            obtain ⟨d0, d1, d2, d3, d4, df⟩ := cells5 z2
            obtain ⟨a0, a1, a2, a3, a4, af⟩ := cells5 z1
            go_wp2
            obtain ⟨W, hW, Q, hne, hcW, _⟩ := store5 z2 hcr (by omega : w.heap.size ≤ w.heap.size + 1) (.int .i64 t.kind) (.int .i64 t.num) (.string t.txt) (.slice (some ⟨gk, 0, none⟩) t.keys.length q3) (.slice (some ⟨ge, 0, none⟩) t.vals.length q4)
            rw [← hW]
            obtain ⟨e0, e1, e2, e3, e4, _⟩ := cells5 Q
            exact bodyPost_ret (v := .tuple #[.agg #[.int .i64 t.kind, .int .i64 t.num, .string t.txt, .slice (some ⟨gk, 0, none⟩) t.keys.length q3, .slice (some ⟨ge, 0, none⟩) t.vals.length q4], .bool false]) (by simp [results, Tryz.results31, go_sem, e0, e1, e2, e3, e4]) rfl ⟨_, false, rfl, hcW, ⟨_, _, _, _, _, _, _, _, _, rfl⟩, fun h => by cases h⟩
        · have f5 : (s.toList == [110, 101, 116, 119, 111, 114, 107, 115]) = false := ne_toList hnet (by kernel_rfl)
          have HNET := Lib.hid hnet
          clear hnet
          go_wp2_with fail
          rename_i K hK
          have HK := Lib.hid hK
          clear hK a0 a1 a2 a3 a4 af hyk f1 f2 f3 f4 f5
          refine wp_region_all (by rfl) (by kernel_rfl) [1, 4] (by kernel_rfl)
            (fun j u V => match j with
              | 0 => u = .pointer (some ⟨w.heap.size, 3, none⟩)
              | 1 => u = .slice (some ⟨gk, 0, none⟩) t.keys.length q3
              | 2 => u = .int .i64 ↑n
              | 3 => u = .pointer (some ⟨gk, n, none⟩)
              | 4 => u = .string s
              | 5 => u = .pointer (some ⟨w.heap.size, 4, none⟩)
              | 6 => u = .slice (some ⟨ge, 0, none⟩) t.vals.length q4
              | 7 => u = .int .i64 ↑n
              | 8 => u = .pointer (some ⟨ge, n * 5, none⟩)
              | 9 => u = .agg #[.int .i64 x.kind, .int .i64 x.num, .string x.txt, .slice A5 x.keys.length q5, .slice A6 x.vals.length q6]
              | 10 => ∃ b : Bool, u = .bool b ∧ (b = true → s ∈ six ∨ s = kLabels ∨ Extra s)
              | 11 => ∃ b : Bool, u = .bool (!b) ∧ (b = true → s ∈ six ∨ s = kLabels ∨ Extra s)
              | _ => True) ?_ ?_ ?_
          · intro j u V V' hc hφ
            rcases j with _ | _ | _ | _ | _ | _ | _ | _ | _ | _ | _ | _ | j
            all_goals exact hφ
          · intro j oo hj ho a' w' hst hch hdep K2 hK2
            have hcB : Chg [] wr w' := (Chg.refl [] wr).dr.trans hch New.nil
            have hcrw := hcr.trans hcB New.nil
            obtain ⟨b0, b1, b2, b3, b4, bf⟩ := cells5 (box5 z1 _ hcB)
            have yk := YK.out _ hcrw
            obtain ⟨y0, y1, y2, y3, y4⟩ := YE.out _ hcrw
            have hj' : j < 12 := hj
            rcases j with _ | _ | _ | _ | _ | _ | _ | _ | _ | _ | _ | _ | j
            · obtain rfl : _ = oo := Option.some.inj ho  -- 0: slot 20
              have h1 := g_eq (t := 1) (v := .pointer (some ⟨w.heap.size, 0, none⟩)) (hst 1 (by simp))
              unfold Oper.wp
              go_simp
              exact ⟨_, rfl, hK2 _ _ (Chg.refl _ _) rfl⟩
            · obtain rfl : _ = oo := Option.some.inj ho  -- 1: slot 21
              have h20 := g_eq (t := 20) (v := .pointer (some ⟨w.heap.size, 3, none⟩)) (hdep 0 (by kernel_rfl))
              unfold Oper.wp
              go_simp
              exact ⟨_, rfl, hK2 _ _ (Chg.refl _ _) rfl⟩
            · obtain rfl : _ = oo := Option.some.inj ho  -- 2: slot 22
              have h4 := g_eq (t := 4) (v := .int .i64 ↑n) (hst 4 (by simp))
              unfold Oper.wp
              go_simp
              exact ⟨_, rfl, hK2 _ _ (Chg.refl _ _) rfl⟩
            · obtain rfl : _ = oo := Option.some.inj ho  -- 3: slot 23
              have h21 := g_eq (t := 21) (v := .slice (some ⟨gk, 0, none⟩) t.keys.length q3) (hdep 1 (by kernel_rfl))
              have h22 := g_eq (t := 22) (v := .int .i64 ↑n) (hdep 2 (by kernel_rfl))
              unfold Oper.wp
              go_simp
              exact ⟨_, rfl, hK2 _ _ (Chg.refl _ _) rfl⟩
            · obtain rfl : _ = oo := Option.some.inj ho  -- 4: slot 24
              have h23 := g_eq (t := 23) (v := .pointer (some ⟨gk, n, none⟩)) (hdep 3 (by kernel_rfl))
              unfold Oper.wp
              go_simp
              exact ⟨_, rfl, hK2 _ _ (Chg.refl _ _) rfl⟩
            · obtain rfl : _ = oo := Option.some.inj ho  -- 5: slot 25
              have h1 := g_eq (t := 1) (v := .pointer (some ⟨w.heap.size, 0, none⟩)) (hst 1 (by simp))
              unfold Oper.wp
              go_simp
              exact ⟨_, rfl, hK2 _ _ (Chg.refl _ _) rfl⟩
            · obtain rfl : _ = oo := Option.some.inj ho  -- 6: slot 26
              have h25 := g_eq (t := 25) (v := .pointer (some ⟨w.heap.size, 4, none⟩)) (hdep 5 (by kernel_rfl))
              unfold Oper.wp
              go_simp
              exact ⟨_, rfl, hK2 _ _ (Chg.refl _ _) rfl⟩
            · obtain rfl : _ = oo := Option.some.inj ho  -- 7: slot 27
              have h4 := g_eq (t := 4) (v := .int .i64 ↑n) (hst 4 (by simp))
              unfold Oper.wp
              go_simp
              exact ⟨_, rfl, hK2 _ _ (Chg.refl _ _) rfl⟩
            · obtain rfl : _ = oo := Option.some.inj ho  -- 8: slot 28
              have h26 := g_eq (t := 26) (v := .slice (some ⟨ge, 0, none⟩) t.vals.length q4) (hdep 6 (by kernel_rfl))
              have h27 := g_eq (t := 27) (v := .int .i64 ↑n) (hdep 7 (by kernel_rfl))
              unfold Oper.wp
              go_simp
              exact ⟨_, rfl, hK2 _ _ (Chg.refl _ _) rfl⟩
            · obtain rfl : _ = oo := Option.some.inj ho  -- 9: slot 29
              have h28 := g_eq (t := 28) (v := .pointer (some ⟨ge, n * 5, none⟩)) (hdep 8 (by kernel_rfl))
              unfold Oper.wp
              go_simp
              exact ⟨_, rfl, hK2 _ _ (Chg.refl _ _) rfl⟩
            · obtain rfl : _ = oo := Option.some.inj ho  -- 10: slot 30
              have h24 := g_eq (t := 24) (v := .string s) (hdep 4 (by kernel_rfl))
              have h29 := g_eq (t := 29) (v := .agg #[.int .i64 x.kind, .int .i64 x.num, .string x.txt, .slice A5 x.keys.length q5, .slice A6 x.vals.length q6]) (hdep 9 (by kernel_rfl))
              unfold Oper.wp
              go_simp
              refine (normAttr_any s x _ w' (HRX.out.chg hcrw) hfx).mono ?_
              rintro e w3 ⟨b, rfl, hc3, hq⟩
              exact ⟨_, rfl, hK2 _ _ hc3 ⟨b, rfl, hq⟩⟩
            · obtain rfl : _ = oo := Option.some.inj ho  -- 11: slot 31
              obtain ⟨b, h30, hq⟩ : ∃ b : Bool, Act.g a' 30 = .bool b ∧ (b = true → s ∈ six ∨ s = kLabels ∨ Extra s) := hdep 10 (by kernel_rfl)
              have h30 := g_eq (t := 30) h30
              have HQ := Lib.hid hq
              clear hq
              unfold Oper.wp
              go_simp
              exact ⟨_, rfl, hK2 _ _ (Chg.refl _ _) ⟨b, rfl, HQ.out⟩⟩
            · omega
          · intro u w' hch hφ A2 hA2
            have l11 : 11 < 12 := by omega
            obtain ⟨b, hu, hq⟩ : ∃ b : Bool, u 11 = .bool (!b) ∧ (b = true → s ∈ six ∨ s = kLabels ∨ Extra s) := hφ 11 l11
            have hcB : Chg [] wr w' := (Chg.refl [] wr).dr.trans hch New.nil
            have z1' := box5 z1 _ hcB
            have z2' := box5 z2 _ hcB
            have hcrw := hcr.trans hcB New.nil
            simp [putAll, dOf, Act.put, hu] at hA2
            subst hA2
            clear hφ l11 hu hch hcB
            refine HK.out _ _ ?_
            clear HK
            have HQ := Lib.hid hq
            clear hq
            cases b
            · clear z1 z2
              obtain ⟨d0, d1, d2, d3, d4, df⟩ := cells5 z2'
              obtain ⟨a0, a1, a2, a3, a4, af⟩ := cells5 z1'
              go_wp2
              obtain ⟨W, hW, Q, hne, hcW, _⟩ := store5 z2' hcrw (by omega : w.heap.size ≤ w.heap.size + 1) (.int .i64 t.kind) (.int .i64 t.num) (.string t.txt) (.slice (some ⟨gk, 0, none⟩) t.keys.length q3) (.slice (some ⟨ge, 0, none⟩) t.vals.length q4)
              rw [← hW]
              obtain ⟨e0, e1, e2, e3, e4, _⟩ := cells5 Q
              exact bodyPost_ret (v := .tuple #[.agg #[.int .i64 t.kind, .int .i64 t.num, .string t.txt, .slice (some ⟨gk, 0, none⟩) t.keys.length q3, .slice (some ⟨ge, 0, none⟩) t.vals.length q4], .bool false]) (by simp [results, Tryz.results31, go_sem, e0, e1, e2, e3, e4]) rfl ⟨_, false, rfl, hcW, ⟨_, _, _, _, _, _, _, _, _, rfl⟩, fun h => by cases h⟩
            · go_wp2_with fail
              go_roundg (t.keys.length - (n + 1))
              case measure => omega
              case rel => exact ⟨n + 1, by omega, rfl, by go_num, hcrw, z1', z2', HKT.out.step HSX.out.1 HSX.out.2 (.inr (HQ.out (by trivial))) (fun e => absurd e HNET.out)⟩
    · have hE : n = t.keys.length := by omega
      have HE := Lib.hid hE
      clear hE
      obtain ⟨a0, a1, a2, a3, a4, af⟩ := cells5 z1
      go_wp2_with fail
      refine (normNeeds_any (o := OffB o w.heap.size (w.heap.size + 1)) t _ _ ((h.to fun b hb ho => ⟨⟨ho, by omega, by omega⟩, hcr.block b hb (by simp)⟩)) hf hz (fun b hb => by
        have h2 := (Array.getElem?_eq_some_iff.1 z2).1
        exact ⟨hno b (by omega), by omega, by omega⟩)).mono ?_
      rintro e w5 ⟨v', ok, x, rfl, hc5, hr5, hq5, hq6⟩
      obtain ⟨B5, p5, B6, p6, rfl, hyz⟩ := hr5.five
      clear hyz
      have HR5 := Lib.hid hr5.lo
      have HQ5 := Lib.hid (And.intro hq5 hq6)
      have hc := hcr.trans hc5 New.nil
      have z1' := box5 z1 _ hc5
      have z2' := box5 z2 _ hc5
      have hsz5 : w.heap.size + 1 < w5.heap.size := (Array.getElem?_eq_some_iff.1 z2').1
      clear hc5 hr5 hq5 hq6 a0 a1 a2 a3 a4 af z1 z2
      have hN6 : NInv o w (w5.heap.size + 1) #[.int .i64 t.kind, .int .i64 t.num, .string t.txt, .slice A3 t.keys.length q3, .slice A4 t.vals.length q4] t ((w5.alloc (.cells #[.int .i64 x.kind, .int .i64 x.num, .string x.txt, .slice B5 x.keys.length p5, .slice B6 x.vals.length p6] 25)).alloc (.cells #[.int .i64 t.kind, .int .i64 t.num, .string t.txt, .slice A3 t.keys.length q3, .slice A4 t.vals.length q4] 25)) :=
        ⟨(hc.al _).al _, (heap_alloc_old _ _ _ (by simp; omega)).trans ((heap_alloc_old _ _ _ (by omega)).trans z1'), (heap_alloc_old _ _ _ (by simp; omega)).trans ((heap_alloc_old _ _ _ (by omega)).trans z2'), by omega, A3, q3, A4, q4, heap_al2 w5 _ _,
          (h.to fun b hb ho => ⟨⟨ho, by omega, by omega⟩, rfl⟩).chg ((hc.al _).al _)⟩
      have HN6 := Lib.hid hN6
      have HX6 := Lib.hid (heap_al1 w5 (.cells #[.int .i64 x.kind, .int .i64 x.num, .string x.txt, .slice B5 x.keys.length p5, .slice B6 x.vals.length p6] 25) (.cells #[.int .i64 t.kind, .int .i64 t.num, .string t.txt, .slice A3 t.keys.length q3, .slice A4 t.vals.length q4] 25))
      obtain ⟨a0, a1, a2, a3, a4, af⟩ := cells5 z1'
      have b0 := cell_al a0
      have b1 := cell_al a1
      have b2 := cell_al a2
      have b3 := cell_al a3
      have b4 := cell_al a4
      clear hN6 z1' z2'
      go_upto_if 66 with fail
      clear a0 a1 a2 a3 a4 af b0 b1 b2 b3 b4
      obtain ⟨W6, hW6⟩ : ∃ W6, W6 = ((w5.alloc (.cells #[.int .i64 x.kind, .int .i64 x.num, .string x.txt, .slice B5 x.keys.length p5, .slice B6 x.vals.length p6] 25)).alloc (.cells #[.int .i64 t.kind, .int .i64 t.num, .string t.txt, .slice A3 t.keys.length q3, .slice A4 t.vals.length q4] 25)) := ⟨_, rfl⟩
      rw [← hW6] at HN6 HX6 ⊢
      have hsz6 : w5.heap.size + 2 ≤ W6.heap.size := by rw [hW6]; simp
      have HW6 := Lib.hid hW6
      clear hW6
      by_cases hk5 : t.kind = 5
      · obtain ⟨s, rfl⟩ : ∃ s, t = .map s := by cases t <;> first | exact ⟨_, rfl⟩ | cases hk5
        clear hk5
        have hs : Hid (Srt s) := Lib.hid hf.wf.1
        have hsl : Hid (s.length ≤ 16777216) := Lib.hid (by have := T.vals_len (.map s); simp [T.vals] at this; omega)
        have HHAS : Hid (∀ k W, Chg [] w W → Calls Tryz.prog 33 #[.agg #[.int .i64 (T.map s).kind, .int .i64 (T.map s).num, .string (T.map s).txt, .slice A3 (T.map s).keys.length q3, .slice A4 (T.map s).vals.length q4], .string k] W fun e w' => e = .returned (.bool (hasK k s)) ∧ Chg [] W w') :=
          Lib.hid fun k W hc => has_any (.map s) _ k W (h.chg hc) hf.wf.srt hf.len.2.2
        go_cut [] (fun wx => NInv o w (w5.heap.size + 1) #[.int .i64 (T.map s).kind, .int .i64 (T.map s).num, .string (T.map s).txt, .slice A3 (T.map s).keys.length q3, .slice A4 (T.map s).vals.length q4] (.map (out1 s x)) wx)
        case first =>
          obtain ⟨E3, r3, E4, r4, hbx, hrx⟩ := HN6.out.box
          obtain ⟨b0, b1, b2, b3, b4, bf⟩ := cells5 hbx
          obtain ⟨x0, x1, x2, x3, x4, xf⟩ := cells5 HX6.out
          have HRD := Lib.hid hrx
          clear hrx
          by_cases hx0 : 0 < x.keys.length
          · have hrx : Rd (OffB o (w5.heap.size + 1) (w.heap.size + 1)) W6 x (.agg #[.int .i64 x.kind, .int .i64 x.num, .string x.txt, .slice B5 x.keys.length p5, .slice B6 x.vals.length p6]) := by
              rw [HW6.out]
              exact (HR5.out.weak fun b hb => ⟨hb.1.1, by have := hb.2; omega, hb.1.2.2⟩).chg (((Chg.refl [] w5).al _).al _)
            have HRX := Lib.hid hrx
            have hne : out1 s x = mins kDependsOn x s := if_neg (by omega)
            have HNE := Lib.hid hne
            clear hrx hne hbx
            go_wp2_with fail
            refine (with_map (o := OffB o (w5.heap.size + 1) (w.heap.size + 1)) s x _ _ ⟨#[100, 101, 112, 101, 110, 100, 115, 95, 111, 110]⟩ W6 HRD.out hs.out HRX.out (by have := hsl.out; omega) (fun b hb => ⟨hno b (by omega), by omega, by omega⟩)).mono ?_
            rintro e w8 ⟨v', rfl, hc8, hr8⟩
            rw [show mins ⟨#[100, 101, 112, 101, 110, 100, 115, 95, 111, 110]⟩ x s = out1 s x from HNE.out.symm] at hr8
            obtain ⟨F5, u5, F6, u6, rfl, hyz⟩ := hr8.five
            clear hyz
            have HN8 := Lib.hid (HN6.out.go hc8)
            obtain ⟨W9, hW9⟩ : ∃ W9, W9 = (((((w8.setCell ⟨w5.heap.size + 1, 0, none⟩ (.int .i64 (T.map (out1 s x)).kind)).setCell ⟨w5.heap.size + 1, 1, none⟩ (.int .i64 (T.map (out1 s x)).num)).setCell ⟨w5.heap.size + 1, 2, none⟩ (.string (T.map (out1 s x)).txt)).setCell ⟨w5.heap.size + 1, 3, none⟩ (.slice F5 (T.map (out1 s x)).keys.length u5)).setCell ⟨w5.heap.size + 1, 4, none⟩ (.slice F6 (T.map (out1 s x)).vals.length u6)) := ⟨_, rfl⟩
            have HN9 := Lib.hid (HN8.out.put hr8 W9 hW9)
            have HW9 := Lib.hid hW9
            obtain ⟨_, _, _, _, hb8, _⟩ := HN8.out.box
            clear hc8 hr8 hW9 b0 b1 b2 b3 b4 bf x0 x1 x2 x3 x4 xf
            obtain ⟨b0, b1, b2, b3, b4, bf⟩ := cells5 hb8
            clear hb8
            go_wp2_with fail
            go_meet
            rw [← HW9.out]
            exact HN9.out
          · have hne : out1 s x = s := if_pos (by omega)
            have HNE := Lib.hid hne
            clear hne hbx
            go_wp2_with fail
            go_meet
            rw [HNE.out]
            exact HN6.out
        case rest =>
          have HNC := Lib.hid hcut
          clear hcut
          obtain ⟨a0, a1, a2, a3, a4, af⟩ := cells5 HNC.out.par
          go_wp2_with fail
          refine (HHAS.out _ _ HNC.out.chg).mono ?_
          rintro e w8 ⟨rfl, hc8⟩
          obtain ⟨bn, hbn⟩ : ∃ bn, hasK ⟨#[110, 101, 116, 119, 111, 114, 107, 115]⟩ s = bn := ⟨_, rfl⟩
          rw [hbn]
          have HBN := Lib.hid hbn
          have HN8 := Lib.hid (HNC.out.go hc8)
          clear hbn hc8 a0 a1 a2 a3 a4 af
          cases bn with
          | true =>
            go_wp2_with fail
            obtain ⟨E3, r3, E4, r4, hbx, hrx⟩ := (HN8.out).box
            have hres := (HN8.out).res
            have hpar := (HN8.out).par
            have hchx := (HN8.out).chg
            have HRX := Lib.hid hrx
            clear hrx
            obtain ⟨b0, b1, b2, b3, b4, bf⟩ := cells5 hbx
            obtain ⟨d0, d1, d2, d3, d4, df⟩ := cells5 hres
            obtain ⟨a0, a1, a2, a3, a4, af⟩ := cells5 hpar
            clear hbx hpar
            cases ok with
            | false =>
              go_region
              obtain ⟨W, hW, Q, hne, hcW, _⟩ := store5 hres hchx (by omega : w.heap.size ≤ w.heap.size + 1) (.int .i64 ((T.map (out1 s x))).kind) (.int .i64 ((T.map (out1 s x))).num) (.string ((T.map (out1 s x))).txt) (.slice E3 ((T.map (out1 s x))).keys.length r3) (.slice E4 ((T.map (out1 s x))).vals.length r4)
              rw [← hW]
              have Qd : W.drew.heap[w.heap.size + 1]? = _ := Q
              obtain ⟨e0, e1, e2, e3, e4, _⟩ := cells5 Qd
              clear hW
              go_wp2
              exact bodyPost_ret (v := .tuple #[.agg #[.int .i64 (T.map (out1 s x)).kind, .int .i64 (T.map (out1 s x)).num, .string (T.map (out1 s x)).txt, .slice E3 (T.map (out1 s x)).keys.length r3, .slice E4 (T.map (out1 s x)).vals.length r4], .bool false]) (by simp [results, Tryz.results31, go_sem, e0, e1, e2, e3, e4]) rfl ⟨_, false, rfl, hcW.dr, ⟨_, _, _, _, _, _, _, _, _, rfl⟩, fun h => by cases h⟩
            | true =>
              obtain ⟨hnok, hxe⟩ := HQ5.out.1 (by trivial)
              have hY : svcS s = (out1 s x) := by
                rw [svcS_out (s := s) hxe]
                unfold netsOf; rw [out1_has (by decide), out1_has (by decide), show hasK kNetworks s = true from HBN.out, Bool.or_true, if_pos rfl]
              have HY := Lib.hid (And.intro hY hnok)
              clear hY hnok hxe
              go_region
              obtain ⟨W, hW, Q, hne, hcW, _⟩ := store5 hres hchx (by omega : w.heap.size ≤ w.heap.size + 1) (.int .i64 ((T.map (out1 s x))).kind) (.int .i64 ((T.map (out1 s x))).num) (.string ((T.map (out1 s x))).txt) (.slice E3 ((T.map (out1 s x))).keys.length r3) (.slice E4 ((T.map (out1 s x))).vals.length r4)
              rw [← hW]
              have Qd : W.drew.heap[w.heap.size + 1]? = _ := Q
              obtain ⟨e0, e1, e2, e3, e4, _⟩ := cells5 Qd
              clear hW
              go_wp2
              refine bodyPost_ret (v := .tuple #[.agg #[.int .i64 (T.map (out1 s x)).kind, .int .i64 (T.map (out1 s x)).num, .string (T.map (out1 s x)).txt, .slice E3 (T.map (out1 s x)).keys.length r3, .slice E4 (T.map (out1 s x)).vals.length r4], .bool ((T.map s).kind == 5)]) (by simp [results, Tryz.results31, go_sem, e0, e1, e2, e3, e4]) rfl ⟨_, _, rfl, hcW.dr, ⟨_, _, _, _, _, _, _, _, _, rfl⟩, fun _ => ⟨rfl, HY.out.2, by have := HKT.out; rwa [HE.out] at this, ?_⟩⟩
              show Rd o _ (.map (svcS s)) _
              rw [HY.out.1]
              exact HRX.out.to (w' := W.drew) fun b _ ho => ⟨ho.1, hne b ho.2.2⟩
          | false =>
            obtain ⟨a0, a1, a2, a3, a4, af⟩ := cells5 HN8.out.par
            go_wp2_with fail
            refine (HHAS.out _ _ HN8.out.chg).mono ?_
            rintro e w9 ⟨rfl, hc9⟩
            obtain ⟨bm, hbm⟩ : ∃ bm, hasK ⟨#[110, 101, 116, 119, 111, 114, 107, 95, 109, 111, 100, 101]⟩ s = bm := ⟨_, rfl⟩
            rw [hbm]
            have HBM := Lib.hid hbm
            have HN9 := Lib.hid (HN8.out.go hc9)
            clear hbm hc9 a0 a1 a2 a3 a4 af
            cases bm with
            | true =>
              go_wp2_with fail
              obtain ⟨E3, r3, E4, r4, hbx, hrx⟩ := (HN9.out).box
              have hres := (HN9.out).res
              have hpar := (HN9.out).par
              have hchx := (HN9.out).chg
              have HRX := Lib.hid hrx
              clear hrx
              obtain ⟨b0, b1, b2, b3, b4, bf⟩ := cells5 hbx
              obtain ⟨d0, d1, d2, d3, d4, df⟩ := cells5 hres
              obtain ⟨a0, a1, a2, a3, a4, af⟩ := cells5 hpar
              clear hbx hpar
              cases ok with
              | false =>
                go_region
                obtain ⟨W, hW, Q, hne, hcW, _⟩ := store5 hres hchx (by omega : w.heap.size ≤ w.heap.size + 1) (.int .i64 ((T.map (out1 s x))).kind) (.int .i64 ((T.map (out1 s x))).num) (.string ((T.map (out1 s x))).txt) (.slice E3 ((T.map (out1 s x))).keys.length r3) (.slice E4 ((T.map (out1 s x))).vals.length r4)
                rw [← hW]
                have Qd : W.drew.heap[w.heap.size + 1]? = _ := Q
                obtain ⟨e0, e1, e2, e3, e4, _⟩ := cells5 Qd
                clear hW
                go_wp2
                exact bodyPost_ret (v := .tuple #[.agg #[.int .i64 (T.map (out1 s x)).kind, .int .i64 (T.map (out1 s x)).num, .string (T.map (out1 s x)).txt, .slice E3 (T.map (out1 s x)).keys.length r3, .slice E4 (T.map (out1 s x)).vals.length r4], .bool false]) (by simp [results, Tryz.results31, go_sem, e0, e1, e2, e3, e4]) rfl ⟨_, false, rfl, hcW.dr, ⟨_, _, _, _, _, _, _, _, _, rfl⟩, fun h => by cases h⟩
              | true =>
                obtain ⟨hnok, hxe⟩ := HQ5.out.1 (by trivial)
                have hY : svcS s = (out1 s x) := by
                  rw [svcS_out (s := s) hxe]
                  unfold netsOf; rw [out1_has (by decide), out1_has (by decide), show hasK kNetworkMode s = true from HBM.out, Bool.true_or, if_pos rfl]
                have HY := Lib.hid (And.intro hY hnok)
                clear hY hnok hxe
                go_region
                obtain ⟨W, hW, Q, hne, hcW, _⟩ := store5 hres hchx (by omega : w.heap.size ≤ w.heap.size + 1) (.int .i64 ((T.map (out1 s x))).kind) (.int .i64 ((T.map (out1 s x))).num) (.string ((T.map (out1 s x))).txt) (.slice E3 ((T.map (out1 s x))).keys.length r3) (.slice E4 ((T.map (out1 s x))).vals.length r4)
                rw [← hW]
                have Qd : W.drew.heap[w.heap.size + 1]? = _ := Q
                obtain ⟨e0, e1, e2, e3, e4, _⟩ := cells5 Qd
                clear hW
                go_wp2
                refine bodyPost_ret (v := .tuple #[.agg #[.int .i64 (T.map (out1 s x)).kind, .int .i64 (T.map (out1 s x)).num, .string (T.map (out1 s x)).txt, .slice E3 (T.map (out1 s x)).keys.length r3, .slice E4 (T.map (out1 s x)).vals.length r4], .bool ((T.map s).kind == 5)]) (by simp [results, Tryz.results31, go_sem, e0, e1, e2, e3, e4]) rfl ⟨_, _, rfl, hcW.dr, ⟨_, _, _, _, _, _, _, _, _, rfl⟩, fun _ => ⟨rfl, HY.out.2, by have := HKT.out; rwa [HE.out] at this, ?_⟩⟩
                show Rd o _ (.map (svcS s)) _
                rw [HY.out.1]
                exact HRX.out.to (w' := W.drew) fun b _ ho => ⟨ho.1, hne b ho.2.2⟩
            | false =>
              go_wp2_with fail
              rename_i K hK
              have HK := Lib.hid hK
              clear hK
              obtain ⟨WX, hWX⟩ : ∃ WX, WX = w9 := ⟨_, rfl⟩
              rw [← hWX] at HN9 ⊢
              have HNX := HN9
              obtain ⟨E7, r7, E8, r8, hdb, hdr⟩ := HNX.out.box
              have HDX := Lib.hid (And.intro hdb hdr)
              have hszx : w5.heap.size + 1 < WX.heap.size := (Array.getElem?_eq_some_iff.1 hdb).1
              clear hdb hdr hWX
              refine wp_region_tail (by rfl) (by kernel_rfl) [7] (by kernel_rfl)
                (fun j u V => match j with
                  | 0 => u = .agg #[.int .i64 (T.map (out1 s x)).kind, .int .i64 (T.map (out1 s x)).num, .string (T.map (out1 s x)).txt, .slice E7 (T.map (out1 s x)).keys.length r7, .slice E8 (T.map (out1 s x)).vals.length r8]
                  | 1 => u = .iface 9 (.string ⟨#[100, 101, 102, 97, 117, 108, 116]⟩)
                  | 2 => u = .agg #[.int .i64 0, .int .i64 0, .string ⟨#[]⟩, .slice none 0 0, .slice none 0 0]
                  | 3 => u = .iface 25 (.agg #[.int .i64 0, .int .i64 0, .string ⟨#[]⟩, .slice none 0 0, .slice none 0 0])
                  | 4 => AnyRow (OffB o (w5.heap.size + 1) (w.heap.size + 1)) V [(⟨#[100, 101, 102, 97, 117, 108, 116]⟩, .null)] u
                  | 5 => Rd (OffB o (w5.heap.size + 1) (w.heap.size + 1)) V (.map dnet) u
                  | 6 => Rd (OffB o (w5.heap.size + 1) (w.heap.size + 1)) V (T.map (mins kNetworks (.map dnet) (out1 s x))) u
                  | _ => True) ?_ ?_ ?_
              · intro j u V V' hc hφ
                rcases j with _ | _ | _ | _ | _ | _ | _ | j
                all_goals first | exact hφ | exact Rd.chg hφ hc | exact AnyRow.chg hφ hc | (obtain ⟨A, c, A2, c2, e⟩ := hφ; exact ⟨A, c, A2, c2, e⟩)
              · intro j oo hj ho a' w' hst hch hdep K2 hK2
                have hsz : WX.heap.size ≤ w'.heap.size := hch.size
                have hcB : Chg [] WX w' := (Chg.refl [] WX).dr.trans hch New.nil
                have hcrw := HNX.out.chg.trans hcB New.nil
                obtain ⟨b0, b1, b2, b3, b4, bf⟩ := cells5 (box5 HDX.out.1 _ hcB)
                have HNO : Hid (∀ b, w'.heap.size ≤ b → OffB o (w5.heap.size + 1) (w.heap.size + 1) b) := Lib.hid fun b hb => ⟨hno b (by have := hcrw.size; omega), by omega, by omega⟩
                have HRD : Hid (Rd (OffB o (w5.heap.size + 1) (w.heap.size + 1)) w' (T.map (out1 s x)) (.agg #[.int .i64 (T.map (out1 s x)).kind, .int .i64 (T.map (out1 s x)).num, .string (T.map (out1 s x)).txt, .slice E7 (T.map (out1 s x)).keys.length r7, .slice E8 (T.map (out1 s x)).vals.length r8])) := Lib.hid (HDX.out.2.chg hcB)
                have hj' : j < 7 := hj
                rcases j with _ | _ | _ | _ | _ | _ | _ | j
                · obtain rfl : _ = oo := Option.some.inj ho  -- 0: slot 78
                  have h7 := g_eq (t := 7) (v := .pointer (some ⟨w5.heap.size + 1, 0, none⟩)) (hst 7 (by simp))
                  unfold Oper.wp
                  go_simp
                  exact ⟨_, rfl, hK2 _ _ (Chg.refl _ _) rfl⟩
                · obtain rfl : _ = oo := Option.some.inj ho  -- 1: slot 79
                  unfold Oper.wp
                  go_simp
                  exact ⟨_, rfl, hK2 _ _ (Chg.refl _ _) rfl⟩
                · obtain rfl : _ = oo := Option.some.inj ho  -- 2: slot 80
                  unfold Oper.wp
                  go_simp
                  exact ⟨_, rfl, hK2 _ _ (Chg.refl _ _) rfl⟩
                · obtain rfl : _ = oo := Option.some.inj ho  -- 3: slot 81
                  have h80 := g_eq (t := 80) (v := .agg #[.int .i64 0, .int .i64 0, .string ⟨#[]⟩, .slice none 0 0, .slice none 0 0]) (hdep 2 (by kernel_rfl))
                  unfold Oper.wp
                  go_simp
                  exact ⟨_, rfl, hK2 _ _ (Chg.refl _ _) rfl⟩
                · obtain rfl : _ = oo := Option.some.inj ho  -- 4: slot 82
                  have h79 := g_eq (t := 79) (v := .iface 9 (.string ⟨#[100, 101, 102, 97, 117, 108, 116]⟩)) (hdep 1 (by kernel_rfl))
                  have h81 := g_eq (t := 81) (v := .iface 25 (.agg #[.int .i64 0, .int .i64 0, .string ⟨#[]⟩, .slice none 0 0, .slice none 0 0])) (hdep 3 (by kernel_rfl))
                  have h79 := g_eq (t := 79) (v := .iface 9 (.string ⟨#[100, 101, 102, 97, 117, 108, 116]⟩)) (hdep 1 (by kernel_rfl))
                  have h81 := g_eq (t := 81) (v := .iface 25 (.agg #[.int .i64 0, .int .i64 0, .string ⟨#[]⟩, .slice none 0 0, .slice none 0 0])) (hdep 3 (by kernel_rfl))
                  unfold Oper.wp
                  go_simp
                  exact ⟨_, rfl, hK2 _ _ ((Chg.refl [] w').al _) (AnyRow.one w' (Rd.zero w'))⟩
                · obtain rfl : _ = oo := Option.some.inj ho  -- 5: slot 83
                  obtain ⟨g, C, h82, hg, hrow⟩ : AnyRow (OffB o (w5.heap.size + 1) (w.heap.size + 1)) w' [(⟨#[100, 101, 102, 97, 117, 108, 116]⟩, .null)] (Act.g a' 82) := hdep 4 (by kernel_rfl)
                  have h82 := g_eq (t := 82) h82
                  unfold Oper.wp
                  go_simp
                  refine (specM [(⟨#[100, 101, 102, 97, 117, 108, 116]⟩, .null)] g C w' hg hrow (by decide) HNO.out).mono ?_
                  rintro e w3 ⟨v', rfl, hc3, hr3⟩
                  exact ⟨_, rfl, hK2 _ _ hc3 hr3⟩
                · obtain rfl : _ = oo := Option.some.inj ho  -- 6: slot 84
                  have h78 := g_eq (t := 78) (v := .agg #[.int .i64 (T.map (out1 s x)).kind, .int .i64 (T.map (out1 s x)).num, .string (T.map (out1 s x)).txt, .slice E7 (T.map (out1 s x)).keys.length r7, .slice E8 (T.map (out1 s x)).vals.length r8]) (hdep 0 (by kernel_rfl))
                  have hr83 : Rd (OffB o (w5.heap.size + 1) (w.heap.size + 1)) w' (.map dnet) (Act.g a' 83) := hdep 5 (by kernel_rfl)
                  generalize h83 : Act.g a' 83 = vv at hr83
                  have h83 := g_eq (t := 83) h83
                  unfold Oper.wp
                  go_simp
                  refine (with_map (o := OffB o (w5.heap.size + 1) (w.heap.size + 1)) (out1 s x) (.map dnet) _ _ ⟨#[110, 101, 116, 119, 111, 114, 107, 115]⟩ w' HRD.out (out1_srt hs.out) hr83 (by have := hsl.out; have := out1_len (s := s) (x := x); omega) HNO.out).mono ?_
                  rintro e w3 ⟨v', rfl, hc3, hr3⟩
                  exact ⟨_, rfl, hK2 _ _ hc3 hr3⟩
                · omega
              · intro oo ho u w' hch hφ A2 hA2
                obtain rfl : _ = oo := Option.some.inj ho
                have l6 : 6 < 7 := by omega
                have hu6 : Rd (OffB o (w5.heap.size + 1) (w.heap.size + 1)) w' (T.map (mins kNetworks (.map dnet) (out1 s x))) (u 6) := hφ 6 l6
                obtain ⟨F5, u5, F6, u6, hu, _⟩ := hu6.five
                rw [hu] at hu6
                have hcB : Chg [] WX w' := (Chg.refl [] WX).dr.trans hch New.nil
                have HNZ := Lib.hid (HNX.out.go hcB)
                obtain ⟨W9, hW9⟩ : ∃ W9, W9 = (((((w'.setCell ⟨w5.heap.size + 1, 0, none⟩ (.int .i64 (T.map (mins kNetworks (.map dnet) (out1 s x))).kind)).setCell ⟨w5.heap.size + 1, 1, none⟩ (.int .i64 (T.map (mins kNetworks (.map dnet) (out1 s x))).num)).setCell ⟨w5.heap.size + 1, 2, none⟩ (.string (T.map (mins kNetworks (.map dnet) (out1 s x))).txt)).setCell ⟨w5.heap.size + 1, 3, none⟩ (.slice F5 (T.map (mins kNetworks (.map dnet) (out1 s x))).keys.length u5)).setCell ⟨w5.heap.size + 1, 4, none⟩ (.slice F6 (T.map (mins kNetworks (.map dnet) (out1 s x))).vals.length u6)) := ⟨_, rfl⟩
                have HNZ3 := Lib.hid (HNZ.out.put hu6 W9 hW9)
                have HW9 := Lib.hid hW9
                have hbz := box5 HDX.out.1 _ hcB
                simp [putAll, dOf, Act.put, hu] at hA2
                subst hA2
                clear hφ l6 ho hu hu6 hcB hW9 hch
                obtain ⟨b0, b1, b2, b3, b4, bf⟩ := cells5 hbz
                clear hbz
                unfold Oper.wp
                go_simp
                refine HK.out _ _ ?_
                clear HK b0 b1 b2 b3 b4 bf
                rw [← HW9.out]
                go_wp2_with fail
                obtain ⟨E3, r3, E4, r4, hbx, hrx⟩ := (HNZ3.out).box
                have hres := (HNZ3.out).res
                have hpar := (HNZ3.out).par
                have hchx := (HNZ3.out).chg
                have HRX := Lib.hid hrx
                clear hrx
                obtain ⟨b0, b1, b2, b3, b4, bf⟩ := cells5 hbx
                obtain ⟨d0, d1, d2, d3, d4, df⟩ := cells5 hres
                obtain ⟨a0, a1, a2, a3, a4, af⟩ := cells5 hpar
                clear hbx hpar
                cases ok with
                | false =>
                  go_region
                  obtain ⟨W, hW, Q, hne, hcW, _⟩ := store5 hres hchx (by omega : w.heap.size ≤ w.heap.size + 1) (.int .i64 ((T.map (mins kNetworks (.map dnet) (out1 s x)))).kind) (.int .i64 ((T.map (mins kNetworks (.map dnet) (out1 s x)))).num) (.string ((T.map (mins kNetworks (.map dnet) (out1 s x)))).txt) (.slice E3 ((T.map (mins kNetworks (.map dnet) (out1 s x)))).keys.length r3) (.slice E4 ((T.map (mins kNetworks (.map dnet) (out1 s x)))).vals.length r4)
                  rw [← hW]
                  have Qd : W.drew.heap[w.heap.size + 1]? = _ := Q
                  obtain ⟨e0, e1, e2, e3, e4, _⟩ := cells5 Qd
                  clear hW
                  go_wp2
                  exact bodyPost_ret (v := .tuple #[.agg #[.int .i64 (T.map (mins kNetworks (.map dnet) (out1 s x))).kind, .int .i64 (T.map (mins kNetworks (.map dnet) (out1 s x))).num, .string (T.map (mins kNetworks (.map dnet) (out1 s x))).txt, .slice E3 (T.map (mins kNetworks (.map dnet) (out1 s x))).keys.length r3, .slice E4 (T.map (mins kNetworks (.map dnet) (out1 s x))).vals.length r4], .bool false]) (by simp [results, Tryz.results31, go_sem, e0, e1, e2, e3, e4]) rfl ⟨_, false, rfl, hcW.dr, ⟨_, _, _, _, _, _, _, _, _, rfl⟩, fun h => by cases h⟩
                | true =>
                  obtain ⟨hnok, hxe⟩ := HQ5.out.1 (by trivial)
                  have hY : svcS s = (mins kNetworks (.map dnet) (out1 s x)) := by
                    rw [svcS_out (s := s) hxe]
                    unfold netsOf; rw [out1_has (by decide), out1_has (by decide), show hasK kNetworks s = false from HBN.out, show hasK kNetworkMode s = false from HBM.out]; rfl
                  have HY := Lib.hid (And.intro hY hnok)
                  clear hY hnok hxe
                  go_region
                  obtain ⟨W, hW, Q, hne, hcW, _⟩ := store5 hres hchx (by omega : w.heap.size ≤ w.heap.size + 1) (.int .i64 ((T.map (mins kNetworks (.map dnet) (out1 s x)))).kind) (.int .i64 ((T.map (mins kNetworks (.map dnet) (out1 s x)))).num) (.string ((T.map (mins kNetworks (.map dnet) (out1 s x)))).txt) (.slice E3 ((T.map (mins kNetworks (.map dnet) (out1 s x)))).keys.length r3) (.slice E4 ((T.map (mins kNetworks (.map dnet) (out1 s x)))).vals.length r4)
                  rw [← hW]
                  have Qd : W.drew.heap[w.heap.size + 1]? = _ := Q
                  obtain ⟨e0, e1, e2, e3, e4, _⟩ := cells5 Qd
                  clear hW
                  go_wp2
                  refine bodyPost_ret (v := .tuple #[.agg #[.int .i64 (T.map (mins kNetworks (.map dnet) (out1 s x))).kind, .int .i64 (T.map (mins kNetworks (.map dnet) (out1 s x))).num, .string (T.map (mins kNetworks (.map dnet) (out1 s x))).txt, .slice E3 (T.map (mins kNetworks (.map dnet) (out1 s x))).keys.length r3, .slice E4 (T.map (mins kNetworks (.map dnet) (out1 s x))).vals.length r4], .bool ((T.map s).kind == 5)]) (by simp [results, Tryz.results31, go_sem, e0, e1, e2, e3, e4]) rfl ⟨_, _, rfl, hcW.dr, ⟨_, _, _, _, _, _, _, _, _, rfl⟩, fun _ => ⟨rfl, HY.out.2, by have := HKT.out; rwa [HE.out] at this, ?_⟩⟩
                  show Rd o _ (.map (svcS s)) _
                  rw [HY.out.1]
                  exact HRX.out.to (w' := W.drew) fun b _ ho => ⟨ho.1, hne b ho.2.2⟩
      · have hk5' : (t.kind == 5) = false := by simpa using hk5
        have HNK := Lib.hid hk5
        clear hk5
        have hok : ok = true := by
          cases ok
          · exact absurd (HQ5.out.2 rfl) HNK.out
          · rfl
        subst hok
        have htm : t.m = [] := by
          have := HNK.out
          cases t <;> first | rfl | exact absurd rfl this
        have hx0 : ¬ 0 < x.keys.length := by
          have := (HQ5.out.1 rfl).2
          rw [htm] at this
          subst this
          decide
        have HHAS : Hid (∀ k W, Chg [] w W → Calls Tryz.prog 33 #[.agg #[.int .i64 t.kind, .int .i64 t.num, .string t.txt, .slice A3 t.keys.length q3, .slice A4 t.vals.length q4], .string k] W fun e w' => e = .returned (.bool false) ∧ Chg [] W w') :=
          Lib.hid fun k W hc => (has_any t _ k W (h.chg hc) hf.wf.srt hf.len.2.2).mono (by
            rintro e w' ⟨rfl, hc'⟩
            rw [tget_m, htm]
            exact ⟨rfl, hc'⟩)
        obtain ⟨a0, a1, a2, a3, a4, af⟩ := cells5 HN6.out.par
        obtain ⟨x0, x1, x2, x3, x4, xf⟩ := cells5 HX6.out
        clear htm
        go_wp2_with fail
        refine (HHAS.out _ _ HN6.out.chg).mono ?_
        rintro e w8 ⟨rfl, hc8⟩
        have HN8 := Lib.hid (HN6.out.go hc8)
        clear hc8 a0 a1 a2 a3 a4 af x0 x1 x2 x3 x4 xf
        obtain ⟨a0, a1, a2, a3, a4, af⟩ := cells5 HN8.out.par
        go_wp2_with fail
        refine (HHAS.out _ _ HN8.out.chg).mono ?_
        rintro e WX ⟨rfl, hc9⟩
        have HNX := Lib.hid (HN8.out.go hc9)
        clear hc9 a0 a1 a2 a3 a4 af
        go_wp2_with fail
        rename_i K hK
        have HK := Lib.hid hK
        clear hK
        obtain ⟨E7, r7, E8, r8, hdb, hdr⟩ := HNX.out.box
        have HDX := Lib.hid (And.intro hdb hdr)
        have hszx : w5.heap.size + 1 < WX.heap.size := (Array.getElem?_eq_some_iff.1 hdb).1
        clear hdb hdr
        refine wp_region_tail (by rfl) (by kernel_rfl) [7] (by kernel_rfl)
          (fun j u V => match j with
            | 0 => u = .agg #[.int .i64 t.kind, .int .i64 t.num, .string t.txt, .slice E7 t.keys.length r7, .slice E8 t.vals.length r8]
            | 1 => u = .iface 9 (.string ⟨#[100, 101, 102, 97, 117, 108, 116]⟩)
            | 2 => u = .agg #[.int .i64 0, .int .i64 0, .string ⟨#[]⟩, .slice none 0 0, .slice none 0 0]
            | 3 => u = .iface 25 (.agg #[.int .i64 0, .int .i64 0, .string ⟨#[]⟩, .slice none 0 0, .slice none 0 0])
            | 4 => AnyRow (OffB o (w5.heap.size + 1) (w.heap.size + 1)) V [(⟨#[100, 101, 102, 97, 117, 108, 116]⟩, .null)] u
            | 5 => Rd (OffB o (w5.heap.size + 1) (w.heap.size + 1)) V (.map dnet) u
            | 6 => ∃ A n c A2 n2 c2, u = .agg #[.int .i64 5, .int .i64 0, .string ⟨#[]⟩, .slice A n c, .slice A2 n2 c2]
            | _ => True) ?_ ?_ ?_
        · intro j u V V' hc hφ
          rcases j with _ | _ | _ | _ | _ | _ | _ | j
          all_goals first | exact hφ | exact Rd.chg hφ hc | exact AnyRow.chg hφ hc | (obtain ⟨A, c, A2, c2, e⟩ := hφ; exact ⟨A, c, A2, c2, e⟩)
        · intro j oo hj ho a' w' hst hch hdep K2 hK2
          have hsz : WX.heap.size ≤ w'.heap.size := hch.size
          have hcB : Chg [] WX w' := (Chg.refl [] WX).dr.trans hch New.nil
          have hcrw := HNX.out.chg.trans hcB New.nil
          obtain ⟨b0, b1, b2, b3, b4, bf⟩ := cells5 (box5 HDX.out.1 _ hcB)
          have HNO : Hid (∀ b, w'.heap.size ≤ b → OffB o (w5.heap.size + 1) (w.heap.size + 1) b) := Lib.hid fun b hb => ⟨hno b (by have := hcrw.size; omega), by omega, by omega⟩
          have HRD : Hid (Rd (OffB o (w5.heap.size + 1) (w.heap.size + 1)) w' t (.agg #[.int .i64 t.kind, .int .i64 t.num, .string t.txt, .slice E7 t.keys.length r7, .slice E8 t.vals.length r8])) := Lib.hid (HDX.out.2.chg hcB)
          have hj' : j < 7 := hj
          rcases j with _ | _ | _ | _ | _ | _ | _ | j
          · obtain rfl : _ = oo := Option.some.inj ho  -- 0: slot 78
            have h7 := g_eq (t := 7) (v := .pointer (some ⟨w5.heap.size + 1, 0, none⟩)) (hst 7 (by simp))
            unfold Oper.wp
            go_simp
            exact ⟨_, rfl, hK2 _ _ (Chg.refl _ _) rfl⟩
          · obtain rfl : _ = oo := Option.some.inj ho  -- 1: slot 79
            unfold Oper.wp
            go_simp
            exact ⟨_, rfl, hK2 _ _ (Chg.refl _ _) rfl⟩
          · obtain rfl : _ = oo := Option.some.inj ho  -- 2: slot 80
            unfold Oper.wp
            go_simp
            exact ⟨_, rfl, hK2 _ _ (Chg.refl _ _) rfl⟩
          · obtain rfl : _ = oo := Option.some.inj ho  -- 3: slot 81
            have h80 := g_eq (t := 80) (v := .agg #[.int .i64 0, .int .i64 0, .string ⟨#[]⟩, .slice none 0 0, .slice none 0 0]) (hdep 2 (by kernel_rfl))
            unfold Oper.wp
            go_simp
            exact ⟨_, rfl, hK2 _ _ (Chg.refl _ _) rfl⟩
          · obtain rfl : _ = oo := Option.some.inj ho  -- 4: slot 82
            have h79 := g_eq (t := 79) (v := .iface 9 (.string ⟨#[100, 101, 102, 97, 117, 108, 116]⟩)) (hdep 1 (by kernel_rfl))
            have h81 := g_eq (t := 81) (v := .iface 25 (.agg #[.int .i64 0, .int .i64 0, .string ⟨#[]⟩, .slice none 0 0, .slice none 0 0])) (hdep 3 (by kernel_rfl))
            have h79 := g_eq (t := 79) (v := .iface 9 (.string ⟨#[100, 101, 102, 97, 117, 108, 116]⟩)) (hdep 1 (by kernel_rfl))
            have h81 := g_eq (t := 81) (v := .iface 25 (.agg #[.int .i64 0, .int .i64 0, .string ⟨#[]⟩, .slice none 0 0, .slice none 0 0])) (hdep 3 (by kernel_rfl))
            unfold Oper.wp
            go_simp
            exact ⟨_, rfl, hK2 _ _ ((Chg.refl [] w').al _) (AnyRow.one w' (Rd.zero w'))⟩
          · obtain rfl : _ = oo := Option.some.inj ho  -- 5: slot 83
            obtain ⟨g, C, h82, hg, hrow⟩ : AnyRow (OffB o (w5.heap.size + 1) (w.heap.size + 1)) w' [(⟨#[100, 101, 102, 97, 117, 108, 116]⟩, .null)] (Act.g a' 82) := hdep 4 (by kernel_rfl)
            have h82 := g_eq (t := 82) h82
            unfold Oper.wp
            go_simp
            refine (specM [(⟨#[100, 101, 102, 97, 117, 108, 116]⟩, .null)] g C w' hg hrow (by decide) HNO.out).mono ?_
            rintro e w3 ⟨v', rfl, hc3, hr3⟩
            exact ⟨_, rfl, hK2 _ _ hc3 hr3⟩
          · obtain rfl : _ = oo := Option.some.inj ho  -- 6: slot 84
            have h78 := g_eq (t := 78) (v := .agg #[.int .i64 t.kind, .int .i64 t.num, .string t.txt, .slice E7 t.keys.length r7, .slice E8 t.vals.length r8]) (hdep 0 (by kernel_rfl))
            have hr83 : Rd (OffB o (w5.heap.size + 1) (w.heap.size + 1)) w' (.map dnet) (Act.g a' 83) := hdep 5 (by kernel_rfl)
            generalize h83 : Act.g a' 83 = vv at hr83
            have h83 := g_eq (t := 83) h83
            unfold Oper.wp
            go_simp
            refine (with_any (o := OffB o (w5.heap.size + 1) (w.heap.size + 1)) t (.map dnet) _ _ ⟨#[110, 101, 116, 119, 111, 114, 107, 115]⟩ w' HRD.out hr83 hf.len.1 hf.len.2.1 HNO.out).mono ?_
            rintro e w3 ⟨ka', va', rfl, hc3, hrk, hrv⟩
            obtain ⟨Ak, ck, rfl, _⟩ := hrk
            obtain ⟨Av, cv, rfl, _⟩ := hrv
            exact ⟨_, rfl, hK2 _ _ hc3 ⟨_, _, _, _, _, _, rfl⟩⟩
          · omega
        · intro oo ho u w' hch hφ A2 hA2
          obtain rfl : _ = oo := Option.some.inj ho
          have l6 : 6 < 7 := by omega
          obtain ⟨F5, n5, u5, F6, n6, u6, hu⟩ : ∃ A n c A2 n2 c2, u 6 = .agg #[.int .i64 5, .int .i64 0, .string ⟨#[]⟩, .slice A n c, .slice A2 n2 c2] := hφ 6 l6
          have hcB : Chg [] WX w' := (Chg.refl [] WX).dr.trans hch New.nil
          have HNZ := Lib.hid (HNX.out.go hcB)
          have hbz := box5 HDX.out.1 _ hcB
          simp [putAll, dOf, Act.put, hu] at hA2
          subst hA2
          clear hφ l6 ho hu hcB hch
          obtain ⟨W9, hW9, Q9, hne9, hcW9, _⟩ := store5 hbz HNZ.out.chg (by omega : w.heap.size ≤ w5.heap.size + 1) (.int .i64 5) (.int .i64 0) (.string ⟨#[]⟩) (.slice F5 n5 u5) (.slice F6 n6 u6)
          have HW9 := Lib.hid hW9
          obtain ⟨b0, b1, b2, b3, b4, bf⟩ := cells5 hbz
          clear hbz hW9
          unfold Oper.wp
          go_simp
          refine HK.out _ _ ?_
          clear HK b0 b1 b2 b3 b4 bf
          rw [← HW9.out]
          go_wp2_with fail
          have hres := (hne9 _ (by omega)).trans HNZ.out.res
          obtain ⟨b0, b1, b2, b3, b4, bf⟩ := cells5 Q9
          obtain ⟨d0, d1, d2, d3, d4, df⟩ := cells5 hres
          obtain ⟨a0, a1, a2, a3, a4, af⟩ := cells5 ((hne9 _ (by omega)).trans HNZ.out.par)
          go_region
          obtain ⟨W, hW, Q, hne, hcW, _⟩ := store5 hres hcW9 (by omega : w.heap.size ≤ w.heap.size + 1) (.int .i64 5) (.int .i64 0) (.string ⟨#[]⟩) (.slice F5 n5 u5) (.slice F6 n6 u6)
          rw [← hW]
          have Qd : W.drew.heap[w.heap.size + 1]? = _ := Q
          obtain ⟨e0, e1, e2, e3, e4, _⟩ := cells5 Qd
          clear hW
          go_wp2
          exact bodyPost_ret (v := .tuple #[.agg #[.int .i64 5, .int .i64 0, .string ⟨#[]⟩, .slice F5 n5 u5, .slice F6 n6 u6], .bool false]) (by simp [results, Tryz.results31, go_sem, e0, e1, e2, e3, e4]) rfl ⟨_, false, rfl, hcW.dr, ⟨_, _, _, _, _, _, _, _, _, rfl⟩, fun h => by cases h⟩
end Go.Proofs.YtedbfoknfdiadaaGreatDoor
