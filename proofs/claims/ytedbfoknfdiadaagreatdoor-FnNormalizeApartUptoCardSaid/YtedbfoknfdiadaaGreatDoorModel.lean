/- spec.normKeys. Conditions: lengths. -/
import Derived.Test.YtedbfoknfdiadaaGreatDoorSay
import Derived.Deep.DeepCutAuto
set_option linter.unusedVariables false
set_option linter.unusedSimpArgs false
namespace Go.Proofs.YtedbfoknfdiadaaGreatDoor
open Go.RowKit
variable {o : Nat → Prop}
set_option maxRecDepth 100000

def TopQ (s : ByteArray) (x : T) : Prop := (s = kName ∧ x.kind = 3) ∨ (s = kServices ∧ x.kind = 5) ∨ ((s = kNetworks ∨ s = kVolumes) ∧ x.kind = 5 ∧ ResAt x x.keys.length)
/-- What normKeys asks of the first n keys. -/
def TopAt (t : T) (n : Nat) : Prop := ∀ j, j < n → ∀ s x, t.keys[j]? = some s → t.vals[j]? = some x → TopQ s x
theorem TopAt.step {t : T} {n : Nat} (h : TopAt t n) {s : ByteArray} {x : T} (hs : t.keys[n]? = some s) (hx : t.vals[n]? = some x) (hq : TopQ s x) : TopAt t (n + 1) := fun j hj s' x' hs' hx' => by
  rcases Nat.lt_or_ge j n with h' | h'
  · exact h j h' s' x' hs' hx'
  · obtain rfl : j = n := by omega
    rw [hs] at hs'
    rw [hx] at hx'
    cases hs'
    cases hx'
    exact hq
set_option maxHeartbeats 2000000 in
theorem normKeys_any (t : T) (v : Value) (w : World) (h : Rd o w t v) (hf : Fine t) : Calls Tryz.prog 30 #[v] w (SomeQ (t.kind = 5 ∧ TopAt t t.keys.length ∧ (tget kName t).isSome = true ∧ (tget kServices t).isSome = true) w) := by
  obtain ⟨A3, q3, A4, q4, rfl, hk, hv⟩ := h.five
  have hkl := hf.len
  have HHAS : Hid (∀ k W, Chg [] w W → Calls Tryz.prog 33 #[.agg #[.int .i64 t.kind, .int .i64 t.num, .string t.txt, .slice A3 t.keys.length q3, .slice A4 t.vals.length q4], .string k] W fun e w' => e = .returned (.bool (tget k t).isSome) ∧ Chg [] W w') :=
    Lib.hid fun k W hc => has_any t _ k W (h.chg hc) hf.wf.srt hf.len.2.2
  go_enter Tryz.func30, Tryz.ntmps30
  go_wp2_with fail
  go_loopg [3] t.keys.length (fun g i wr => ∃ n : Nat, n ≤ t.keys.length ∧ g = t.keys.length - n ∧ i = .int .i64 n ∧ Chg [] w wr ∧ wr.heap[w.heap.size]? = some (.cells #[.int .i64 t.kind, .int .i64 t.num, .string t.txt, .slice A3 t.keys.length q3, .slice A4 t.vals.length q4] 25) ∧ TopAt t n)
  case atStart => exact ⟨0, Nat.zero_le _, by omega, rfl, (Chg.refl [] w).al _, heap_alloc_new _ _, fun j hj => absurd hj (Nat.not_lt_zero j)⟩
  case round =>
    obtain ⟨n, hn, rfl, rfl, hcr, z1, hat⟩ := hrel
    have HAT := Lib.hid hat
    clear hat
    obtain ⟨a0, a1, a2, a3, a4, af⟩ := cells5 z1
    by_cases hlt : n < t.keys.length
    · obtain ⟨s, hs1⟩ : ∃ s, t.keys[n]? = some s := ⟨_, List.getElem?_eq_getElem hlt⟩
      obtain ⟨x, hx⟩ : ∃ x, t.vals[n]? = some x := ⟨_, List.getElem?_eq_getElem (by omega)⟩
      obtain ⟨gk, ck, ek, hgk, yk⟩ := hk.elem hs1
      obtain ⟨ge, c1, A5, q5, A6, q6, e1, hge, rx, ye⟩ := hv.elem hx
      cases e1
      cases ek
      have hfx := hf.vals (List.mem_of_getElem? hx)
      have hnv : n < t.vals.length := by omega
      have YK := Lib.hid yk
      have HSX := Lib.hid (And.intro hs1 hx)
      have HRX := Lib.hid rx
      obtain ⟨y0, y1, y2, y3, y4⟩ := ye _ hcr
      clear hs1 hx ye yk rx
      go_upto_region 5 with fail
      obtain ⟨W0, hW0⟩ : ∃ W0, W0 = wr.alloc (.cells #[.int .i64 x.kind, .int .i64 x.num, .string x.txt, .slice A5 x.keys.length q5, .slice A6 x.vals.length q6] 25) := ⟨_, rfl⟩
      have hc0 : Chg [] w W0 := hW0 ▸ hcr.al _
      have hx0 : W0.heap[wr.heap.size]? = some (.cells #[.int .i64 x.kind, .int .i64 x.num, .string x.txt, .slice A5 x.keys.length q5, .slice A6 x.vals.length q6] 25) := hW0 ▸ heap_alloc_new wr _
      have z2 : W0.heap[w.heap.size]? = _ := hW0 ▸ (heap_alloc_old wr (.cells #[.int .i64 x.kind, .int .i64 x.num, .string x.txt, .slice A5 x.keys.length q5, .slice A6 x.vals.length q6] 25) _ (Array.getElem?_eq_some_iff.1 z1).1).trans z1
      rw [← hW0]
      clear hW0 a0 a1 a2 a3 a4 af y0 y1 y2 y3 y4
      obtain ⟨a0, a1, a2, a3, a4, af⟩ := cells5 z2
      obtain ⟨x0, x1, x2, x3, x4, xf⟩ := cells5 hx0
      have hyk := YK.out _ hc0
      have hxt := hfx.txt
      by_cases h1 : s = kName
      · subst h1
        by_cases hk3 : x.kind = 3
        · have hk3' : (x.kind != 3) = false := by rw [hk3]; rfl
          have HK3 := Lib.hid hk3
          clear hk3
          by_cases he : x.txt = ⟨#[]⟩
          · have he' : (x.txt.toList == ([] : List UInt8)) = true := by rw [he]; kernel_rfl
            clear he
            go_wp2_with fail
            go_ret
            exact ⟨_, rfl, hc0, fun h => by cases h⟩
          · have he' : (x.txt.toList == ([] : List UInt8)) = false := ne_toList he (by kernel_rfl)
            clear he
            go_wp2_with fail
            refine (nameRight_any x.txt _ hxt).mono ?_
            rintro e w3 ⟨b, rfl, hc3⟩
            have hc := hc0.trans hc3 New.nil
            have z3 := box5 z2 _ hc3
            clear hc3
            cases b
            · go_wp2_with fail
              go_ret
              exact ⟨_, rfl, hc, fun h => by cases h⟩
            · go_wp2_with fail
              go_roundg (t.keys.length - (n + 1))
              case measure => omega
              case rel => exact ⟨n + 1, by omega, rfl, by go_num, hc, z3, HAT.out.step HSX.out.1 HSX.out.2 (.inl ⟨rfl, HK3.out⟩)⟩
        · have hk3' : (x.kind != 3) = true := by simpa using hk3
          clear hk3
          go_wp2_with fail
          go_ret
          exact ⟨_, rfl, hc0, fun h => by cases h⟩
      · have f1 : (s.toList == [110, 97, 109, 101]) = false := ne_toList h1 (by kernel_rfl)
        clear h1
        by_cases h2 : s = kServices
        · subst h2
          by_cases hk5 : x.kind = 5
          · have hk5' : (x.kind != 5) = false := by rw [hk5]; rfl
            have HK5 := Lib.hid hk5
            clear hk5
            go_wp2_with fail
            go_roundg (t.keys.length - (n + 1))
            case measure => omega
            case rel => exact ⟨n + 1, by omega, rfl, by go_num, hc0, z2, HAT.out.step HSX.out.1 HSX.out.2 (.inr (.inl ⟨rfl, HK5.out⟩))⟩
          · have hk5' : (x.kind != 5) = true := by simpa using hk5
            clear hk5
            go_wp2_with fail
            go_ret
            exact ⟨_, rfl, hc0, fun h => by cases h⟩
        · have f2 : (s.toList == [115, 101, 114, 118, 105, 99, 101, 115]) = false := ne_toList h2 (by kernel_rfl)
          clear h2
          by_cases h3 : s = kNetworks ∨ s = kVolumes
          · have H3 := Lib.hid h3
            rcases h3 with rfl | rfl
            all_goals
              go_wp2_with fail
              refine (sayResources_any x _ _ (HRX.out.chg hc0) hfx).mono ?_
              rintro e w3 ⟨b, rfl, hc3, hq⟩
              have hc := hc0.trans hc3 New.nil
              have z3 := box5 z2 _ hc3
              have HX3 := Lib.hid (box5 hx0 _ hc3)
              clear hc3 x0 x1 x2 x3 x4 xf hx0
              cases b
              · clear hq
                go_wp2_with fail
                go_ret
                exact ⟨_, rfl, hc, fun h => by cases h⟩
              · have HQ := Lib.hid (hq (by trivial))
                clear hq
                obtain ⟨x0, x1, x2, x3, x4, xf⟩ := cells5 HX3.out
                by_cases hl0 : x.keys.length = 0
                · have hl0' : ((x.keys.length : Int) == 0) = true := by simp [hl0]
                  clear hl0
                  go_wp2_with fail
                  go_ret
                  exact ⟨_, rfl, hc, fun h => by cases h⟩
                · have hl0' : ((x.keys.length : Int) == 0) = false := by simp; exact fun e => hl0 (by simp [e])
                  clear hl0
                  go_wp2_with fail
                  go_roundg (t.keys.length - (n + 1))
                  case measure => omega
                  case rel => exact ⟨n + 1, by omega, rfl, by go_num, hc, z3, HAT.out.step HSX.out.1 HSX.out.2 (.inr (.inr ⟨by first | exact .inl rfl | exact .inr rfl, HQ.out⟩))⟩
          · simp only [not_or] at h3
            have f3 : (s.toList == [110, 101, 116, 119, 111, 114, 107, 115]) = false := ne_toList h3.1 (by kernel_rfl)
            have f4 : (s.toList == [118, 111, 108, 117, 109, 101, 115]) = false := ne_toList h3.2 (by kernel_rfl)
            clear h3
            go_wp2_with fail
            go_ret
            exact ⟨_, rfl, hc0, fun h => by cases h⟩
    · have HE := Lib.hid (show n = t.keys.length by omega)
      by_cases hk5 : t.kind = 5
      · have hk5' : (t.kind == 5) = true := by rw [hk5]; rfl
        have HK5 := Lib.hid hk5
        clear hk5
        go_wp2_with fail
        refine (HHAS.out _ _ hcr).mono ?_
        rintro e w3 ⟨rfl, hc3⟩
        obtain ⟨b1, hb1⟩ : ∃ b1, (tget ⟨#[110, 97, 109, 101]⟩ t).isSome = b1 := ⟨_, rfl⟩
        rw [hb1]
        have HB1 := Lib.hid hb1
        have hc := hcr.trans hc3 New.nil
        have z3 := box5 z1 _ hc3
        clear hb1 hc3 a0 a1 a2 a3 a4 af
        cases b1
        · go_wp2_with fail
          go_ret
          exact ⟨_, rfl, hc, fun h => by cases h⟩
        · obtain ⟨a0, a1, a2, a3, a4, af⟩ := cells5 z3
          go_wp2_with fail
          refine (HHAS.out _ _ hc).mono ?_
          rintro e w4 ⟨rfl, hc4⟩
          obtain ⟨b2, hb2⟩ : ∃ b2, (tget ⟨#[115, 101, 114, 118, 105, 99, 101, 115]⟩ t).isSome = b2 := ⟨_, rfl⟩
          rw [hb2]
          have HB2 := Lib.hid hb2
          clear hb2
          go_wp2_with fail
          go_ret
          refine ⟨_, rfl, hc.trans hc4 New.nil, fun hb => ⟨HK5.out, ?_, HB1.out, HB2.out.trans hb⟩⟩
          have := HAT.out
          rwa [HE.out] at this
      · have hk5' : (t.kind == 5) = false := by simpa using hk5
        clear hk5
        go_wp2_with fail
        go_ret
        exact ⟨_, rfl, hcr, fun h => by cases h⟩
end Go.Proofs.YtedbfoknfdiadaaGreatDoor
