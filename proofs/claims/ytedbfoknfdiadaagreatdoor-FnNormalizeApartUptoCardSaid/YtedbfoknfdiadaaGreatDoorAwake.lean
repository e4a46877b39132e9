/- laws.normAwake: ProjectName("_A-b") is "a-b". No condition. -/
import Derived.Test.YtedbfoknfdiadaaGreatDoorImplB
import Derived.Laws.IdiomStrings
import Derived.Lib.OthersKept
set_option linter.unusedVariables false
set_option linter.unusedSimpArgs false
namespace Go.Proofs.YtedbfoknfdiadaaGreatDoor
open Go.RowKit
variable {o : Nat → Prop}
set_option maxRecDepth 100000

abbrev sSet : ByteArray := ⟨#[95, 45]⟩
abbrev sLow : ByteArray := ⟨#[95, 97, 45, 98]⟩
theorem iter_chg (w : World) (s : ByteArray) (pos : Nat) : Chg [] w (w.iter s pos) := (Chg.refl [] w).al _
theorem next_at (w : World) (s : ByteArray) (pos : Nat) (ty : TypeId) (h : pos < s.size) {r : Int} {n : Nat} (hr : ((Utf8.decode s pos).1 : Int) = r) (hn : (Utf8.decode s pos).2 = n) :
    (Instr.next (.pointer (some ⟨w.heap.size, 0, none⟩)) true ty).run Tryz.prog (w.iter s pos) = .ok (.tuple #[.bool true, .int .i64 pos, .int .i32 r]) (w.iter s (pos + n)) := by
  have := run_next_any (P := Tryz.prog) w s pos ty h
  rw [hr, hn] at this
  exact this
set_option maxHeartbeats 1000000 in
theorem inSet_one (c : Int) (b : Bool) (hb : (c == 95) = b) (hb2 : (c == 45) = false) (w : World) : Calls Tryz.prog 106 #[.int .i32 c, .string sSet] w fun e w' => e = .returned (.bool b) ∧ Chg [] w w' := by
  have N0 := fun ty => next_at w sSet 0 ty (by decide) (r := 95) (n := 1) (by decide +kernel) (by decide +kernel)
  have N1 := fun ty => next_at w sSet 1 ty (by decide) (r := 45) (n := 1) (by decide +kernel) (by decide +kernel)
  have N2 := fun ty => run_next_end (P := Tryz.prog) w sSet 2 ty (by decide)
  have hc := fun p => iter_chg w sSet p
  have HC := Lib.hid hc
  clear hc
  go_enter Tryz.func106, Tryz.ntmps106
  go_wp2_with fail
  go_loopg [] 2 (fun g wr => ∃ p : Nat, p ≤ 2 ∧ g = 2 - p ∧ (p = 0 ∨ b = false) ∧ wr = w.iter sSet p)
  case atStart => exact ⟨0, by omega, rfl, .inl rfl, rfl⟩
  case round =>
    obtain ⟨p, hp, rfl, hor, rfl⟩ := hrel
    obtain rfl | rfl | rfl : p = 0 ∨ p = 1 ∨ p = 2 := by omega
    · cases b
      all_goals
        go_wp2_with fail
        first
          | (go_ret; exact ⟨rfl, HC.out _⟩)
          | (go_roundg 1
             case measure => omega
             case rel => exact ⟨1, by omega, rfl, .inr (by trivial), rfl⟩)
    · have hbf : b = false := by simpa using hor
      subst hbf
      go_wp2_with fail
      go_roundg 0
      case measure => omega
      case rel => exact ⟨2, by omega, rfl, .inr (by trivial), rfl⟩
    · have hbf : b = false := by simpa using hor
      subst hbf
      go_wp2_with fail
      go_ret
      exact ⟨rfl, HC.out _⟩
set_option maxHeartbeats 1000000 in
theorem trim_low (w : World) : Calls Tryz.prog 76 #[.string sLow, .string sSet] w fun e w' => e = .returned (.string ⟨#[97, 45, 98]⟩) ∧ Chg [] w w' := by
  go_enter Tryz.func76, Tryz.ntmps76
  go_wp2_with fail
  go_loopg [] 1 (fun g wr => ∃ p : Nat, p ≤ 1 ∧ g = 1 - p ∧ wr.heap[w.heap.size]? = some (.stringIter sLow p) ∧ Chg [] w wr)
  case atStart => exact ⟨0, by omega, rfl, heap_alloc_new _ _, iter_chg w sLow 0⟩
  case round =>
    obtain ⟨p, hp, rfl, hk, hc⟩ := hrel
    obtain rfl | rfl : p = 0 ∨ p = 1 := by omega
    · have N0 := fun ty => Lib.run_next_any_at (P := Tryz.prog) wr w.heap.size sLow 0 ty hk (by decide)
      have e1 : ((Utf8.decode sLow 0).1 : Int) = 95 := by decide +kernel
      have e2 : (Utf8.decode sLow 0).2 = 1 := by decide +kernel
      rw [e1, e2] at N0
      obtain ⟨W1, hW1⟩ : ∃ W1, W1 = wr.iterAt w.heap.size sLow (0 + 1) := ⟨_, rfl⟩
      have hlt : w.heap.size < wr.heap.size := (Array.getElem?_eq_some_iff.1 hk).1
      have hk1 : W1.heap[w.heap.size]? = some (.stringIter sLow 1) := by rw [hW1]; simp [World.iterAt, hlt]
      have hc1 : Chg [] w W1 := hc.trans (G := [w.heap.size]) (by
        rw [hW1]
        refine ⟨rfl, rfl, rfl, by simp [World.iterAt], fun i hi hn => ?_⟩
        have : i ≠ w.heap.size := fun e => hn (by simp [e])
        simp [World.iterAt, Ne.symm this]) (fun y hy => .inr (by rw [List.mem_singleton.1 hy]; exact Nat.le_refl _))
      rw [← hW1] at N0
      have HX := Lib.hid (And.intro hk1 hc1)
      clear e1 e2 hk hc hW1 hk1 hc1
      go_wp2_with fail
      refine (inSet_one 95 true rfl rfl _).mono ?_
      rintro e w3 ⟨rfl, hc3⟩
      have HC3 := Lib.hid hc3
      clear hc3
      go_wp2_with fail
      go_roundg 0
      case measure => omega
      case rel => exact ⟨1, by omega, rfl, (HC3.out.block _ (Array.getElem?_eq_some_iff.1 HX.out.1).1 (by simp)).trans HX.out.1, HX.out.2.trans HC3.out New.nil⟩
    · have N0 := fun ty => Lib.run_next_any_at (P := Tryz.prog) wr w.heap.size sLow 1 ty hk (by decide)
      have e1 : ((Utf8.decode sLow 1).1 : Int) = 97 := by decide +kernel
      have e2 : (Utf8.decode sLow 1).2 = 1 := by decide +kernel
      rw [e1, e2] at N0
      obtain ⟨W1, hW1⟩ : ∃ W1, W1 = wr.iterAt w.heap.size sLow (1 + 1) := ⟨_, rfl⟩
      have hc1 : Chg [] w W1 := hc.trans (G := [w.heap.size]) (by
        rw [hW1]
        refine ⟨rfl, rfl, rfl, by simp [World.iterAt], fun i hi hn => ?_⟩
        have : i ≠ w.heap.size := fun e => hn (by simp [e])
        simp [World.iterAt, Ne.symm this]) (fun y hy => .inr (by rw [List.mem_singleton.1 hy]; exact Nat.le_refl _))
      rw [← hW1] at N0
      have HX := Lib.hid hc1
      clear e1 e2 hk hc hW1 hc1
      go_wp2_with fail
      refine (inSet_one 97 false rfl rfl _).mono ?_
      rintro e w3 ⟨rfl, hc3⟩
      have HC3 := Lib.hid hc3
      clear hc3
      go_wp2_with fail
      go_ret
      exact ⟨by rfl, HX.out.trans HC3.out New.nil⟩
theorem uBs : Tryz.prog.underlying 95 = some (.slice 5) := by kernel_rfl
theorem uB8 : Tryz.prog.underlying 5 = some (.int .u8) := by kernel_rfl
theorem iB8 : (Tryz.prog.info? 5).map (fun i => (i.zero, i.size, i.bytes)) = some (some (.int .u8 0), 1, 1) := by kernel_rfl
/-- One byte more in a row of the call's own. -/
theorem app_byte {w wr : World} (hcr : Chg [] w wr) {RA : Option Addr} {n RC : Nat} {xs : List Value} (hown : wr.ownsRow w.heap.size 5 1 (.slice RA n RC) n xs) (x : Int) (hl : n ≤ 67108864) :
    ∃ R' w2, (Builtin.append_ #[95, 95] 95 #[.slice RA n RC, .slice (some ⟨wr.heap.size, 0, none⟩) 1 1]).run Tryz.prog (wr.alloc (.cells #[.int .u8 x] 5)) = .ok R' w2 ∧ Hid (w2.ownsRow w.heap.size 5 1 R' (n + 1) (xs ++ [.int .u8 x]) ∧ Chg [] w w2) := by
  have hown2 := ownsRow_keep (w' := wr.alloc (.cells #[.int .u8 x] 5)) hown fun g hg => heap_alloc_old _ _ _ (ownsRow_own hown hg).2
  obtain ⟨R', w2, hr, ho, hc, _⟩ := run_app (P := Tryz.prog) w.heap.size 95 95 5 _ 1 1 uBs iB8 rfl (by decide) _ _ _ hown2 (some ⟨wr.heap.size, 0, none⟩) 1 1 [.int .u8 x] rfl (fun _ => ⟨_, rfl, fun j u hu => by
    obtain rfl : j = 0 := by
      have := (List.getElem?_eq_some_iff.1 hu).1
      simpa using this
    have hv : Value.int .u8 x = u := by simpa using hu
    subst hv
    exact cell_of_row _ wr.heap.size 0 _ _ (0, 0) (heap_alloc_new _ _)⟩) (fun u hu => by
      have : u = .int .u8 x := by simpa using hu
      subst this
      rfl) (by omega) (by omega) (by have := hcr.size; simp; omega)
  refine ⟨R', w2, hr, Lib.hid ⟨ho, (hcr.al _).trans hc fun x hx => ?_⟩⟩
  have := (ownsRow_own hown (g := x) (by simpa using hx)).1
  exact .inr this
set_option maxHeartbeats 1000000 in
theorem chars_low (w : World) : Calls Tryz.prog 75 #[.string sLow] w fun e w' => e = .returned (.string sLow) ∧ Chg [] w w' := by
  go_enter Tryz.func75, Tryz.ntmps75
  go_wp2_with fail
  go_loopg [3, 4] 4 (fun g v i wr => ∃ (n : Nat), n ≤ 4 ∧ g = 4 - n ∧ i = .int .i64 n ∧ Chg [] w wr ∧ wr.ownsRow w.heap.size 5 1 v n (([95, 97, 45, 98] : List Int).take n |>.map (Value.int .u8)))
  case atStart => exact ⟨0, by omega, rfl, rfl, Chg.refl _ _, World.ownsRow_nil _ _ _ _⟩
  case round =>
    obtain ⟨n, hn, rfl, rfl, hc, hrow⟩ := hrel
    have hbase := hc.size
    obtain ⟨RA, RC, rfl⟩ := ownsRow_slice hrow
    obtain rfl | rfl | rfl | rfl | rfl : n = 0 ∨ n = 1 ∨ n = 2 ∨ n = 3 ∨ n = 4 := by omega
    · have HST := Lib.hid (app_byte hc hrow 95 (by omega))
      clear hrow
      go_wp2_with (first | (at_builtin; refine wpList_app rfl _ _ _ rfl rfl rfl HST.out ?_) | fail)
      intro R' w4 h4
      go_wp2_with fail
      go_roundg 3
      case measure => omega
      case rel => exact ⟨1, by omega, rfl, rfl, h4.out.2, h4.out.1⟩
    · have HST := Lib.hid (app_byte hc hrow 97 (by omega))
      clear hrow
      go_wp2_with (first | (at_builtin; refine wpList_app rfl _ _ _ rfl rfl rfl HST.out ?_) | fail)
      intro R' w4 h4
      go_wp2_with fail
      go_roundg 2
      case measure => omega
      case rel => exact ⟨2, by omega, rfl, rfl, h4.out.2, h4.out.1⟩
    · have HST := Lib.hid (app_byte hc hrow 45 (by omega))
      clear hrow
      go_wp2_with (first | (at_builtin; refine wpList_app rfl _ _ _ rfl rfl rfl HST.out ?_) | fail)
      intro R' w4 h4
      go_wp2_with fail
      go_roundg 1
      case measure => omega
      case rel => exact ⟨3, by omega, rfl, rfl, h4.out.2, h4.out.1⟩
    · have HST := Lib.hid (app_byte hc hrow 98 (by omega))
      clear hrow
      go_wp2_with (first | (at_builtin; refine wpList_app rfl _ _ _ rfl rfl rfl HST.out ?_) | fail)
      intro R' w4 h4
      go_wp2_with fail
      go_roundg 0
      case measure => omega
      case rel => exact ⟨4, by omega, rfl, rfl, h4.out.2, h4.out.1⟩
    · have hs4 : ∃ g, RA = some ⟨g, 0, none⟩ := by
        rcases hrow.2 with ⟨h, _⟩ | ⟨g, cap, cur, h, _⟩
        · injection h with _ h
          cases h
        · injection h with h
          exact ⟨g, h⟩
      obtain ⟨g, rfl⟩ := hs4
      have C1 := run_convert_bytes_back (P := Tryz.prog) wr 95 9 5 ⟨g, 0, none⟩ RC [95, 97, 45, 98] uBs uB8 uS (fun j hj => by
        have hj4 : j < 4 := hj
        have := hrow.cellAt j (by omega)
        rw [show (⟨g, 0, none⟩ : Addr).add j = ⟨g, j, none⟩ by unfold Addr.add; split <;> simp_all, this]
        rcases j with _ | _ | _ | _ | j
        all_goals first | rfl | omega)
      have C2 : (convert 95 9 (.slice (some ⟨g, 0, none⟩) 4 RC)).run Tryz.prog wr = .ok (.string sLow) wr := C1
      clear C1
      go_wp2_with fail
      go_ret
      exact ⟨rfl, hc⟩
set_option maxHeartbeats 1000000 in
theorem normAwake_any (w : World) : Calls Tryz.prog 11 #[] w fun e w' => e = .returned (.bool true) ∧ Chg [] w w' := by
  have hlow : (⟨(Lib.toLowerA (ByteArray.mk #[95, 65, 45, 98]).data.toList).toArray⟩ : ByteArray) = sLow := by rfl
  have HL : Hid (∀ W, Calls Tryz.prog 74 #[.string ⟨#[95, 65, 45, 98]⟩] W fun e w' => e = .returned (.string sLow) ∧ Chg [] W w') := Lib.hid fun W => by
    refine (strings_ToLower_ascii ⟨#[95, 65, 45, 98]⟩ W (by decide) (fun j b hb => ?_)).mono ?_
    · rcases j with _ | _ | _ | _ | j
      all_goals first | (cases hb; decide) | (simp at hb)
    · rintro e w' ⟨rfl, hw⟩
      rw [hlow]
      exact ⟨rfl, Chg.of_below hw []⟩
  clear hlow
  go_enter Tryz.func11, Tryz.ntmps11
  go_wp2_with (first
    | (go_at_call 74; refine (HL.out _).mono ?_; rintro e w1 ⟨rfl, hc1⟩; have HC1 := Lib.hid hc1; clear hc1)
    | (go_at_call 75; refine (chars_low _).mono ?_; rintro e w2 ⟨rfl, hc2⟩; have HC2 := Lib.hid hc2; clear hc2)
    | (go_at_call 76; refine (trim_low _).mono ?_; rintro e w3 ⟨rfl, hc3⟩; have HC3 := Lib.hid hc3; clear hc3)
    | go_in)
  go_ret
  exact ⟨rfl, (HC1.out.trans HC2.out New.nil).trans HC3.out New.nil⟩
end Go.Proofs.YtedbfoknfdiadaaGreatDoor
