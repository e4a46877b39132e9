/- Small functions of the program: texts of values, prefixes, cuts at a colon. Conditions: lengths. -/
import Derived.Test.YtedbfoknfdiadaaGreatDoorSay
set_option linter.unusedVariables false
set_option linter.unusedSimpArgs false
namespace Go.Proofs.YtedbfoknfdiadaaGreatDoor
open Go.RowKit
variable {o : Nat → Prop}
set_option maxRecDepth 100000

theorem zzTextVerb_text (s : ByteArray) (w : World) : Calls Tryz.prog 87 #[.iface 9 (.string s)] w fun e w' => e = .returned (.string s) ∧ w = w' := by
  go_enter Tryz.func87, Tryz.ntmps87
  go_wp2
  go_ret
  exact ⟨rfl, rfl⟩
theorem isTrue_bool (b : Bool) (w : World) : Calls Tryz.prog 86 #[.iface 4 (.bool b)] w fun e w' => e = .returned (.bool b) ∧ w = w' := by
  go_enter Tryz.func86, Tryz.ntmps86
  cases b
  all_goals
    go_wp2_with (go_in)
    go_ret
    exact ⟨rfl, rfl⟩
set_option maxHeartbeats 400000 in
theorem hasPrefix_any (s p : ByteArray) (w : World) (hs : s.size ≤ 67108864) (hp : p.size ≤ 67108864) : Calls Tryz.prog 55 #[.string s, .string p] w fun e w' => e = .returned (.bool (isPre p s)) ∧ w = w' := by
  by_cases hle : p.size ≤ s.size
  · have hlt : decide (s.size < p.size) = false := by simp; omega
    have hlt2 : decide (p.size ≤ s.size) = true := by simp [hle]
    obtain ⟨b, hb⟩ : ∃ b, ((s.extract 0 p.size).toList == p.toList) = b := ⟨_, rfl⟩
    have hi : isPre p s = b := by
      rw [← hb]
      unfold isPre
      rw [hlt2, Bool.true_and, eqS]
    rw [hi]
    clear hi
    go_enter Tryz.func55, Tryz.ntmps55
    cases b
    all_goals
      go_wp2_with (go_in)
      go_ret
      exact ⟨rfl, rfl⟩
  · have hlt2 : decide (p.size ≤ s.size) = false := by simp; omega
    have hi : isPre p s = false := by unfold isPre; rw [hlt2]; rfl
    rw [hi]
    go_enter Tryz.func55, Tryz.ntmps55
    go_wp2_with (go_in)
    go_ret
    exact ⟨rfl, rfl⟩
theorem ext_one {s : ByteArray} {n : Nat} (h : n < s.size) : s.extract n (n + 1) = ⟨#[s[n]]⟩ := by
  apply ByteArray.ext
  rw [ByteArray.data_extract]
  have hd : n < s.data.size := h
  apply Array.ext
  · simp
    omega
  · intro i h1 h2
    have hi : i = 0 := by simpa using h2
    subst hi
    simp
    rfl
/-- Where zzIndex finds the first colon. -/
def colonI (s : ByteArray) : Int := if colon s < s.size then (colon s : Int) else -1
set_option maxHeartbeats 400000 in
theorem zzIndex_colon (s : ByteArray) (w : World) (hs : s.size ≤ 67108864) : Calls Tryz.prog 78 #[.string s, .string ⟨#[58]⟩] w fun e w' => e = .returned (.int .i64 (colonI s)) ∧ w = w' := by
  have hcl := colon_le s
  have HC := Lib.hid hcl
  clear hcl
  go_enter Tryz.func78, Tryz.ntmps78
  go_wp2
  go_loopg [5] s.size (fun g i wr => ∃ n : Nat, n ≤ colon s ∧ g = s.size - n ∧ i = .int .i64 n ∧ w = wr)
  case atStart => exact ⟨0, Nat.zero_le _, by omega, rfl, rfl⟩
  case round =>
    obtain ⟨n, hn, rfl, rfl, rfl⟩ := hrel
    have HN := Lib.hid hn
    clear hn
    by_cases hlt : n < s.size
    · have hlt2 : decide ((n : Int) + 1 ≤ s.size) = true := by simp; omega
      by_cases h58 : s[n] = 58
      · have he : ((s.extract n (n + 1)).toList == [58]) = true := by
          rw [ext_one hlt, h58]
          kernel_rfl
        have hc := colon_here HN.out hlt h58
        have HCC := Lib.hid hc
        have hn64 : n ≤ 67108864 := by omega
        clear hc h58
        go_wp2
        go_ret
        refine ⟨?_, rfl⟩
        unfold colonI
        rw [HCC.out, if_pos hlt]
        rfl
      · have he : ((s.extract n (n + 1)).toList == [58]) = false := ne_toList (k := ⟨#[58]⟩) (fun e => by
          rw [ext_one hlt] at e
          have : (#[s[n]] : Array UInt8) = #[58] := congrArg ByteArray.data e
          exact h58 (by simpa using this)) (by kernel_rfl)
        have hc := colon_step HN.out hlt h58
        have HCC := Lib.hid hc
        have hn64 : n ≤ 67108864 := by omega
        clear hc h58
        go_wp2
        go_roundg (s.size - (n + 1))
        case measure => omega
        case rel => exact ⟨n + 1, HCC.out, rfl, by go_num, rfl⟩
    · have hlt2 : decide ((n : Int) + 1 ≤ s.size) = false := by simp; omega
      have hn64 : n ≤ 67108864 := by have := HN.out; have := HC.out; omega
      go_wp2
      go_ret
      refine ⟨?_, rfl⟩
      unfold colonI
      rw [if_neg (by have := HN.out; omega)]
      rfl
/-! ### cuts -/
theorem cnt_eq (s : ByteArray) : ∀ n, n ≤ s.size → cnt s n = (s.data.toList.take n).countP (· == 58)
  | 0, _ => by simp [cnt]
  | n + 1, h => by
    have hn : n < s.data.toList.length := by
      have h' : n < s.data.size := h
      simpa using h'
    rw [cnt_succ (by omega), cnt_eq s n (by omega), List.take_add_one, List.getElem?_eq_getElem hn, List.countP_append]
    simp only [Option.toList_some, List.countP_singleton]
    have : s.data.toList[n] = s[n] := by simp; rfl
    rw [this]
    simp
theorem cnt_all (s : ByteArray) : cnt s s.size = s.data.toList.countP (· == 58) := by
  rw [cnt_eq s s.size (Nat.le_refl _)]
  have : s.size = s.data.toList.length := by simp
  rw [this, List.take_length]
theorem cnt_none {s : ByteArray} (h : colon s = s.size) : cnt s s.size = 0 := by
  rw [cnt_all, List.countP_eq_zero]
  intro b hb
  have : s.data.toList.findIdx (fun b => b == 58) = s.data.toList.length := by simpa [colon] using h
  have := List.findIdx_eq_length.1 this b hb
  simpa using this
theorem cnt_cut {s : ByteArray} (h : colon s < s.size) : cnt s s.size = 1 + cnt (s.extract (colon s + 1) s.size) (s.size - (colon s + 1)) := by
  have hsz : (s.extract (colon s + 1) s.size).size = s.size - (colon s + 1) := by simp
  rw [← hsz, cnt_all, cnt_all, ByteArray.data_extract]
  have hl : s.data.toList = s.data.toList.take (colon s) ++ (58 :: s.data.toList.drop (colon s + 1)) := by
    have hlt : colon s < s.data.toList.length := by simpa using h
    have hg : s.data.toList[colon s] = 58 := by
      have := List.findIdx_getElem (xs := s.data.toList) (p := fun b => b == 58) (w := hlt)
      exact eq_of_beq this
    conv => lhs; rw [← List.take_append_drop (colon s) s.data.toList, List.drop_eq_getElem_cons hlt, hg]
  have h0 : (s.data.toList.take (colon s)).countP (· == 58) = 0 := by
    rw [← cnt_eq s _ (by omega)]
    have : ∀ n, n ≤ colon s → cnt s n = 0 := by
      intro n hn
      induction n with
      | zero => rfl
      | succ n ih =>
        rw [cnt_succ (by omega), ih (by omega)]
        have hne : s[n]'(by omega) ≠ 58 := fun e => by
          have := colon_here (s := s) (n := n) (by omega) (by omega) e
          omega
        rw [if_neg hne]
    exact this _ (Nat.le_refl _)
  have he : (s.data.extract (colon s + 1) s.size).toList = s.data.toList.drop (colon s + 1) := by
    rw [Array.toList_extract]
    show ((s.data.toList.drop (colon s + 1)).take (s.size - (colon s + 1))) = _
    exact List.take_of_length_le (by rw [List.length_drop]; exact Nat.le_refl _)
  rw [he]
  conv => lhs; rw [hl]
  rw [List.countP_append, h0, List.countP_cons]
  simp
  omega
/-- One text more in a row of the call's own. -/
theorem app_str {w wr : World} (hcr : Chg [] w wr) {RA : Option Addr} {RC : Nat} {l : List ByteArray} (hown : wr.ownsRow w.heap.size 9 1 (.slice RA l.length RC) l.length (strC l)) (x : ByteArray) (hl : l.length ≤ 67108864) :
    ∃ R' w2, (Builtin.append_ #[22, 22] 22 #[.slice RA l.length RC, .slice (some ⟨wr.heap.size, 0, none⟩) 1 1]).run Tryz.prog (wr.alloc (.cells #[.string x] 9)) = .ok R' w2 ∧ w2.ownsRow w.heap.size 9 1 R' (l ++ [x]).length (strC (l ++ [x])) ∧ Chg [] w w2 := by
  have hown2 := ownsRow_keep (w' := wr.alloc (.cells #[.string x] 9)) hown fun g hg => heap_alloc_old _ _ _ (ownsRow_own hown hg).2
  obtain ⟨R', w2, hr, ho, hc, _⟩ := run_app (P := Tryz.prog) w.heap.size 22 22 9 _ 1 16 uKs iS rfl (by decide) _ _ _ hown2 (some ⟨wr.heap.size, 0, none⟩) 1 1 [.string x] rfl (fun _ => ⟨_, rfl, fun j u hu => by
    obtain rfl : j = 0 := by
      have := (List.getElem?_eq_some_iff.1 hu).1
      simpa using this
    have hv : Value.string x = u := by simpa using hu
    subst hv
    exact cell_of_row _ wr.heap.size 0 _ _ (0, 0) (heap_alloc_new _ _)⟩) (fun u hu => by
      have : u = .string x := by simpa using hu
      subst this
      rfl) (by omega) (by omega) (by have := hcr.size; simp; omega)
  refine ⟨R', w2, hr, by simpa [strC] using ho, (hcr.al _).trans hc fun x hx => ?_⟩
  have := (ownsRow_own hown (g := x) (by simpa using hx)).1
  exact .inr this
set_option maxHeartbeats 1000000 in
theorem zzSplit_colon (s : ByteArray) (w : World) (hs : s.size ≤ 67108864) : Calls Tryz.prog 54 #[.string s, .string ⟨#[58]⟩] w fun e w' => ∃ v l, e = .returned v ∧ Chg [] w w' ∧ RdK (fun b => w.heap.size ≤ b) w' l v ∧ Parts s l := by
  go_enter Tryz.func54, Tryz.ntmps54
  go_wp2_with fail
  go_loopg [0, 5] s.size (fun g a R wr => ∃ (r : ByteArray) (l : List ByteArray), a = .string r ∧ g = r.size ∧ r.size ≤ s.size ∧ Chg [] w wr ∧ wr.ownsRow w.heap.size 9 1 R l.length (strC l) ∧
    cnt s s.size = l.length + cnt r r.size ∧ (l = [] → r = s) ∧ (l ≠ [] → l[0]? = some (part0 s)) ∧ ∀ x ∈ l, x.size ≤ s.size)
  case atStart => exact ⟨s, [], rfl, rfl, Nat.le_refl _, Chg.refl _ _, World.ownsRow_nil _ _ _ _, by simp, fun _ => rfl, fun h => absurd rfl h, fun x hx => by cases hx⟩
  case round =>
    obtain ⟨r, l, rfl, rfl, hrs, hcr, hown, hcnt, h1, h2, h3⟩ := hrel
    obtain ⟨RA, RC, rfl⟩ := ownsRow_slice hown
    have hll : l.length ≤ 67108864 := by
      have := cnt_le s s.size
      omega
    have H := Lib.hid (And.intro hcnt (And.intro h1 (And.intro h2 h3)))
    have hcol := colon_le r
    have HCOL := Lib.hid hcol
    clear hcnt h1 h2 h3 hcol
    go_wp2_with fail
    refine (zzIndex_colon r _ (by omega)).mono ?_
    rintro e w3 ⟨rfl, rfl⟩
    by_cases hc : colon r < r.size
    · obtain ⟨i, hi⟩ : ∃ i, i = colon r := ⟨_, rfl⟩
      have hci : colonI r = (i : Int) := by unfold colonI; rw [if_pos hc, hi]
      rw [hci]
      have HST := Lib.hid (app_str hcr hown (r.extract 0 i) hll)
      have hilt : i < r.size := by omega
      have HI := Lib.hid hi
      clear hown hci hc hi
      go_wp2_with (first | (at_builtin; refine wpList_app rfl _ _ _ rfl rfl rfl HST.out ?_) | fail)
      intro v' w2 ho hc2
      have hr' : (r.extract (i + 1) r.size).size = r.size - (i + 1) := by simp
      have HR := Lib.hid hr'
      clear hr'
      go_wp2
      go_roundg (r.extract (i + 1) r.size).size
      case measure => rw [HR.out]; omega
      case rel =>
        obtain ⟨hcnt, h1, h2, h3⟩ := H.out
        refine ⟨r.extract (i + 1) r.size, l ++ [r.extract 0 i], rfl, rfl, by rw [HR.out]; omega, hc2, by simpa using ho, ?_, fun h => by simp at h, fun _ => ?_, fun x hx => ?_⟩
        · have := cnt_cut (s := r) (by have := HI.out; omega)
          rw [← HI.out] at this
          rw [HR.out, hcnt, this, List.length_append]
          simp only [List.length_singleton]
          omega
        · by_cases hl : l = []
          · have hrs' := h1 hl
            subst hl
            subst hrs'
            rw [HI.out]
            rfl
          · rw [List.getElem?_append_left (List.length_pos_iff.2 hl)]
            exact h2 hl
        · rcases List.mem_append.1 hx with hx | hx
          · exact h3 x hx
          · have : x = r.extract 0 i := by simpa using hx
            subst this
            simp
            omega
    · have hci : colonI r = -1 := by unfold colonI; rw [if_neg hc]
      rw [hci]
      have HST := Lib.hid (app_str hcr hown r hll)
      have HC := Lib.hid hc
      clear hown hci hc
      go_wp2_with (first | (at_builtin; refine wpList_app rfl _ _ _ rfl rfl rfl HST.out ?_) | fail)
      intro v' w2 ho hc2
      go_wp2
      go_ret
      obtain ⟨hcnt, h1, h2, h3⟩ := H.out
      have hcr0 : colon r = r.size := by have := HC.out; have := HCOL.out; omega
      refine ⟨v', l ++ [r], rfl, hc2, RdK.of_own (fun b hb => hb) (by simpa using ho), ?_, ?_, fun x hx => ?_⟩
      · rw [hcnt, cnt_none hcr0, List.length_append]
        rfl
      · by_cases hl : l = []
        · have hrs' := h1 hl
          subst hl
          subst hrs'
          show some r = some (r.extract 0 (colon r))
          rw [hcr0]
          congr 1
          apply ByteArray.ext
          rw [ByteArray.data_extract]
          exact (Array.extract_size).symm
        · rw [List.getElem?_append_left (List.length_pos_iff.2 hl)]
          exact h2 hl
      · rcases List.mem_append.1 hx with hx | hx
        · exact h3 x hx
        · have : x = r := by simpa using hx
          subst this
          exact hrs
end Go.Proofs.YtedbfoknfdiadaaGreatDoor
