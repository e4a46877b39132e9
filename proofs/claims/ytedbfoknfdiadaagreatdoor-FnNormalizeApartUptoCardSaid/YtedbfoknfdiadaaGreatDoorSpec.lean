/- Contracts of spec's functions on maps: place, Get, Has. No condition. Contracts of spec's small tests on texts: sayIn, sayName, sayExtra. No condition but on lengths. -/
import Derived.Test.YtedbfoknfdiadaaGreatDoorFacts
set_option linter.unusedVariables false
set_option linter.unusedSimpArgs false
namespace Go.Proofs.YtedbfoknfdiadaaGreatDoor
open Go.RowKit
variable {o : Nat → Prop}
set_option maxRecDepth 100000

/-- Where a key stands, or would stand. -/
def posK (k : ByteArray) : List ByteArray → Nat
  | [] => 0
  | a :: r => if blt a k then posK k r + 1 else 0
theorem posK_le (k : ByteArray) : ∀ ks, posK k ks ≤ ks.length
  | [] => Nat.le_refl _
  | a :: r => by unfold posK; split <;> simp [posK_le k r]
theorem posK_lt {k : ByteArray} : ∀ {ks : List ByteArray} {j : Nat} {s : ByteArray}, j < posK k ks → ks[j]? = some s → blt s k = true
  | [], j, s, h, _ => by simp [posK] at h
  | a :: r, j, s, h, hs => by
    unfold posK at h
    split at h
    · rename_i hb
      cases j with
      | zero => simp at hs; subst hs; exact hb
      | succ j => exact posK_lt (ks := r) (j := j) (by omega) (by simpa using hs)
    · omega
theorem posK_at {k : ByteArray} : ∀ {ks : List ByteArray} {s : ByteArray}, ks[posK k ks]? = some s → blt s k = false
  | [], s, h => by simp [posK] at h
  | a :: r, s, h => by
    unfold posK at h
    split at h
    · exact posK_at (by simpa using h)
    · rename_i hb
      simp at h
      subst h
      simpa using hb

set_option maxHeartbeats 400000 in
theorem place_any (t : T) (v : Value) (k : ByteArray) (w : World) (h : Rd o w t v) (hl : t.keys.length ≤ 67108864) :
    Calls Tryz.prog 41 #[v, .string k] w fun e w' => e = .returned (.tuple #[.int .i64 (posK k t.keys), .bool (decide (t.keys[posK k t.keys]? = some k))]) ∧ Chg [] w w' := by
  obtain ⟨ka, va, rfl, hk, hv⟩ := h.open
  obtain ⟨A, c, rfl, hc, hcell⟩ := hk
  have hp := posK_le k t.keys
  go_enter Tryz.func41, Tryz.ntmps41
  go_wp2
  go_loopg [6] t.keys.length (fun g i wr => ∃ n : Nat, n ≤ posK k t.keys ∧ g = t.keys.length - n ∧ i = .int .i64 n ∧ w.alloc (.cells #[.int .i64 t.kind, .int .i64 t.num, .string t.txt, .slice A t.keys.length c, va] 25) = wr)
  case atStart => exact ⟨0, Nat.zero_le _, by omega, rfl, rfl⟩
  case round =>
    obtain ⟨n, hn, rfl, rfl, rfl⟩ := hrel
    by_cases hlt : n < t.keys.length
    · obtain ⟨g, rfl, _, hg⟩ := hcell (by omega)
      obtain ⟨s, hs⟩ : ∃ s, t.keys[n]? = some s := ⟨_, List.getElem?_eq_getElem hlt⟩
      have hx := hg n s hs
      have hgw : g < w.heap.size := World.block_lt_of_cell? w _ hx
      have hx1 : (w.alloc (.cells #[.int .i64 t.kind, .int .i64 t.num, .string t.txt, .slice (some ⟨g, 0, none⟩) t.keys.length c, va] 25)).cell? ⟨g, n, none⟩ = some (.string s) := (World.cell?_alloc_lt w _ _ hgw).trans hx
      clear hg hcell hx
      by_cases hb : Op.bytesLess s.toList k.toList = true
      · have HS := Lib.hid hs
        clear hs
        go_wp2
        have hn1 : n + 1 ≤ posK k t.keys := by
          rcases Nat.lt_or_ge n (posK k t.keys) with h1 | h1
          · exact h1
          · have e : n = posK k t.keys := by omega
            have := posK_at (e ▸ HS.out)
            unfold blt at this
            rw [hb] at this
            cases this
        go_roundg (t.keys.length - (n + 1))
        case measure => omega
        case rel => exact ⟨n + 1, hn1, rfl, by go_num, rfl⟩
      · have hb' : Op.bytesLess s.toList k.toList = false := by simpa using hb
        have HS := Lib.hid hs
        clear hs hb
        go_wp2
        go_quiet (fail)
        go_wp2
        go_ret2
        have e : n = posK k t.keys := by
          rcases Nat.lt_or_ge n (posK k t.keys) with h1 | h1
          · have := posK_lt h1 HS.out
            unfold blt at this
            rw [hb'] at this
            cases this
          · omega
        refine ⟨?_, ?_⟩
        · rw [e] at HS ⊢
          rw [HS.out, eqS]
          simp
        · exact ((Chg.refl [] w).al _).drN _
    · have e : n = t.keys.length := by omega
      have e2 : posK k t.keys = n := by omega
      have HE := Lib.hid e
      have HE2 := Lib.hid e2
      clear e e2
      go_wp2
      go_ret2
      refine ⟨?_, (Chg.refl [] w).al _⟩
      rw [HE2.out, HE.out]
      simp

/-- What Get finds. -/
def tget (k : ByteArray) : T → Option T
  | .map m => mget k m
  | _ => none
theorem pos_get {k : ByteArray} : ∀ {m : List (ByteArray × T)}, Srt m → (mget k m = ((m.map (·.1))[posK k (m.map (·.1))]?).bind (fun s => if s = k then (m.map (·.2))[posK k (m.map (·.1))]? else none))
  | [], _ => by simp [mget, posK]
  | p :: m, hs => by
    simp only [List.map_cons, mget, posK]
    by_cases e : p.1 = k
    · rw [if_pos e, e, blt_irrefl]
      simp
    · rw [if_neg e]
      by_cases hb : blt p.1 k = true
      · rw [if_pos hb, pos_get hs.tail]
        simp
      · have : mget k m = none := get_none.2 fun hm => by
          obtain ⟨q, hq, hqk⟩ := List.mem_map.1 hm
          have := hs.head q hq
          rw [hqk] at this
          exact hb this
        rw [this, if_neg hb]
        simp [e]

set_option maxHeartbeats 400000 in
theorem get_any (t : T) (v : Value) (k : ByteArray) (w : World) (h : Rd o w t v) (hs : ∀ m, t = .map m → Srt m) (hl : t.keys.length ≤ 67108864) :
    Calls Tryz.prog 19 #[v, .string k] w fun e w' => ∃ v', e = .returned (.tuple #[v', .bool (tget k t).isSome]) ∧ Chg [] w w' ∧ Rd o w' ((tget k t).getD .null) v' := by
  by_cases hm : t.kind = 5
  · obtain ⟨m, rfl⟩ : ∃ m, t = .map m := by cases t <;> simp [T.kind] at hm; exact ⟨_, rfl⟩
    obtain ⟨ka, va, rfl, hk, hv⟩ := h.open_map
    have hsm := hs m rfl
    have hpg := pos_get (k := k) hsm
    have hle := posK_le k (m.map (·.1))
    obtain ⟨i, hi⟩ : ∃ i, i = posK k (m.map (·.1)) := ⟨_, rfl⟩
    rw [← hi] at hpg hle
    simp only [List.length_map] at hle
    have hml : m.length ≤ 67108864 := by simpa [T.keys] using hl
    have hpl : ∀ W : World, Chg [] w W → Calls Tryz.prog 41 #[.agg #[.int .i64 5, .int .i64 0, .string ⟨#[]⟩, ka, va], .string k] W fun e w' => e = .returned (.tuple #[.int .i64 i, .bool (mget k m).isSome]) ∧ Chg [] W w' := fun W hW => by
      refine (place_any (.map m) _ k W (h.chg hW) hl).mono ?_
      rintro e w' ⟨rfl, hc⟩
      simp only [T.keys, ← hi]
      refine ⟨?_, hc⟩
      have hd : decide ((m.map (·.1))[i]? = some k) = (mget k m).isSome := ?_
      · rw [hd]
      cases hg : mget k m with
      | none => exact decide_eq_false fun e => get_none.1 hg (List.mem_of_getElem? e)
      | some t' =>
        rw [hg] at hpg
        refine decide_eq_true ?_
        cases hk' : (m.map (·.1))[i]? with
        | none => rw [hk'] at hpg; simp at hpg
        | some s =>
          rw [hk'] at hpg
          simp only [Option.bind_some] at hpg
          by_cases e : s = k
          · rw [e]
          · rw [if_neg e] at hpg; cases hpg
    cases hg : mget k m with
    | none =>
      simp only [hg] at hpl
      have HP := Lib.hid hi
      have HG := Lib.hid hg
      have HL := Lib.hid hpl
      clear hpg hi hg hpl
      go_enter Tryz.func19, Tryz.ntmps19
      go_wp2_with fail
      refine (HL.out _ (((Chg.refl [] w).al _).al _)).mono ?_
      rintro e w1 ⟨rfl, hc1⟩
      obtain ⟨hcw, hfw, hsw⟩ := hc1.cells
      simp at hcw hfw hsw
      go_wp2
      refine bodyPost_ret (v := .tuple #[.agg #[.int .i64 0, .int .i64 0, .string ⟨#[]⟩, .slice none 0 0, .slice none 0 0], .bool false]) (by simp [results, Tryz.results19, go_sem, hcw]) rfl ⟨_, by rw [show tget k (.map m) = none from HG.out]; rfl, ?_, ?_⟩
      · have hsz : w.heap.size ≤ w.heap.size + 1 := by omega
        exact (((((((((Chg.refl [] w).al _).al _).trans hc1 New.nil).st hsz _).st hsz _).st hsz _).st hsz _).st hsz _)
      · rw [show tget k (.map m) = none from HG.out]
        exact Rd.zero _
    | some t' =>
      have hiv : (m.map (·.2))[i]? = some t' := by
        rw [hg] at hpg
        cases hk' : (m.map (·.1))[i]? with
        | none => rw [hk'] at hpg; simp at hpg
        | some s =>
          rw [hk'] at hpg
          simp only [Option.bind_some] at hpg
          by_cases e : s = k
          · rw [if_pos e] at hpg; exact hpg.symm
          · rw [if_neg e] at hpg; cases hpg
      have him : i < m.length := by
        have := (List.getElem?_eq_some_iff.1 hiv).1
        simpa using this
      obtain ⟨g, c, ka', va', hva, hlc, hk', hv', c0, c1, c2, c3, c4⟩ := hv.at_ hiv
      simp only [List.length_map] at hva hlc
      subst hva
      have hgw : g < w.heap.size := World.block_lt_of_cell? w _ c0
      simp only [hg] at hpl
      have HP := Lib.hid (And.intro hi hiv)
      have HG := Lib.hid hg
      have HL := Lib.hid hpl
      have HR := Lib.hid (Rd.mk (t := t') hk' hv')
      obtain ⟨A3, q3, rfl, _, _⟩ := hk'
      obtain ⟨A4, q4, rfl, _, _⟩ := hv'
      clear hpg hi hg hpl hiv
      go_enter Tryz.func19, Tryz.ntmps19
      go_wp2_with fail
      refine (HL.out _ (((Chg.refl [] w).al _).al _)).mono ?_
      rintro e w1 ⟨rfl, hc1⟩
      have hcw1 := ((((Chg.refl [] w).al _).al _).trans hc1 New.nil).cells
      obtain ⟨hcw, hfw, hsw⟩ := hc1.cells
      simp at hcw hfw hsw
      have d0 := (hcw1.1 g (i * 5) hgw).trans c0
      have d1 := (hcw1.1 g (i * 5 + 1) hgw).trans c1
      have d2 := (hcw1.1 g (i * 5 + 2) hgw).trans c2
      have d3 := (hcw1.1 g (i * 5 + 3) hgw).trans c3
      have d4 := (hcw1.1 g (i * 5 + 4) hgw).trans c4
      clear c0 c1 c2 c3 c4 hcw1
      go_wp2
      have hsz : w.heap.size ≤ w.heap.size + 1 := by omega
      have hcf : Chg [] w (((((w1.setCell ⟨w.heap.size + 1, 0, none⟩ (.int .i64 t'.kind)).setCell ⟨w.heap.size + 1, 1, none⟩ (.int .i64 t'.num)).setCell ⟨w.heap.size + 1, 2, none⟩ (.string t'.txt)).setCell ⟨w.heap.size + 1, 3, none⟩ (.slice A3 t'.keys.length q3)).setCell ⟨w.heap.size + 1, 4, none⟩ (.slice A4 t'.vals.length q4)) :=
        (((((((((Chg.refl [] w).al _).al _).trans hc1 New.nil).st hsz _).st hsz _).st hsz _).st hsz _).st hsz _)
      refine bodyPost_ret (v := .tuple #[.agg #[.int .i64 t'.kind, .int .i64 t'.num, .string t'.txt, .slice A3 t'.keys.length q3, .slice A4 t'.vals.length q4], .bool true]) (by simp [results, Tryz.results19, go_sem, hcw]) rfl ⟨_, by rw [show tget k (.map m) = some t' from HG.out]; rfl, hcf, ?_⟩
      rw [show tget k (.map m) = some t' from HG.out]
      exact HR.out.chg hcf
  · have hg : tget k t = none := by cases t <;> first | rfl | exact absurd rfl hm
    have hm' : (t.kind != 5) = true := by simpa using hm
    obtain ⟨ka, va, rfl, hk, hv⟩ := h.open
    rw [hg]
    go_enter Tryz.func19, Tryz.ntmps19
    go_wp2
    refine bodyPost_ret (v := .tuple #[.agg #[.int .i64 0, .int .i64 0, .string ⟨#[]⟩, .slice none 0 0, .slice none 0 0], .bool false]) (by simp [results, Tryz.results19, go_sem]) rfl ⟨_, rfl, ?_, ?_⟩
    · exact ((Chg.refl [] w).al _).al _
    · simp only [Option.getD_none]
      exact Rd.zero _
end Go.Proofs.YtedbfoknfdiadaaGreatDoor
namespace Go.Proofs.YtedbfoknfdiadaaGreatDoor
open Go.RowKit
variable {o : Nat → Prop}
set_option maxRecDepth 100000

set_option maxHeartbeats 400000 in
theorem sayIn_any (s : ByteArray) (l : List ByteArray) (v : Value) (w : World) (h : RdK o w l v) (hl : l.length ≤ 67108864) :
    Calls Tryz.prog 71 #[.string s, v] w fun e w' => e = .returned (.bool (decide (s ∈ l))) ∧ w = w' := by
  obtain ⟨A, c, rfl, hc, hcell⟩ := h
  go_enter Tryz.func71, Tryz.ntmps71
  go_wp2
  go_loopg [5] l.length (fun g i wr => ∃ n : Nat, n ≤ l.length ∧ g = l.length - n ∧ i = .int .i64 n ∧ w = wr ∧ s ∉ l.take n)
  case atStart => exact ⟨0, Nat.zero_le _, by omega, rfl, rfl, by simp⟩
  case round =>
    obtain ⟨n, hn, rfl, rfl, rfl, hnot⟩ := hrel
    by_cases hlt : n < l.length
    · obtain ⟨g, rfl, _, hg⟩ := hcell (by omega)
      obtain ⟨x, hx⟩ : ∃ x, l[n]? = some x := ⟨_, List.getElem?_eq_getElem hlt⟩
      have hxc := hg n x hx
      clear hg hcell
      have HN := Lib.hid hnot
      have HX := Lib.hid hx
      clear hnot hx
      by_cases e : x = s
      · subst e
        have hb : (x.toList == x.toList) = true := by simp
        go_wp2
        go_ret
        have : x ∈ l := List.mem_of_getElem? HX.out
        exact ⟨by simp [this], rfl⟩
      · have hb : (x.toList == s.toList) = false := by rw [eqS]; simp [e]
        go_wp2
        go_roundg (l.length - (n + 1))
        case measure => omega
        case rel =>
          refine ⟨n + 1, by omega, rfl, by go_num, rfl, ?_⟩
          rw [List.take_add_one, HX.out]
          simp only [Option.toList_some, List.mem_append, List.mem_singleton, not_or]
          exact ⟨HN.out, fun h => e h.symm⟩
    · have HN := Lib.hid hnot
      have HE := Lib.hid (show n = l.length by omega)
      clear hnot
      go_wp2
      go_ret
      have : s ∉ l := by
        have := HN.out
        rw [HE.out, List.take_length] at this
        exact this
      exact ⟨by simp [this], rfl⟩

set_option maxHeartbeats 400000 in
theorem has_any (t : T) (v : Value) (k : ByteArray) (w : World) (h : Rd o w t v) (hs : ∀ m, t = .map m → Srt m) (hl : t.keys.length ≤ 67108864) :
    Calls Tryz.prog 33 #[v, .string k] w fun e w' => e = .returned (.bool (tget k t).isSome) ∧ Chg [] w w' := by
  obtain ⟨ka, va, rfl, hk, hv⟩ := h.open
  go_enter Tryz.func33, Tryz.ntmps33
  go_wp2_with fail
  refine (get_any t _ k _ (h.chg ((Chg.refl [] w).al _)) hs hl).mono ?_
  rintro e w1 ⟨v', rfl, hc, hr⟩
  obtain ⟨A3, q3, A4, q4, rfl, _⟩ := hr.five
  go_wp2
  go_ret
  exact ⟨rfl, (((Chg.refl [] w).al _).trans hc New.nil).al _⟩
end Go.Proofs.YtedbfoknfdiadaaGreatDoor
