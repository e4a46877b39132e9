/- The thin package: impl.DefaultNetworks, impl.Named. Conditions: models of the reference, lengths. -/
import Derived.Test.YtedbfoknfdiadaaGreatDoorImpl
set_option linter.unusedVariables false
set_option linter.unusedSimpArgs false
namespace Go.Proofs.YtedbfoknfdiadaaGreatDoor
open Go.RowKit
variable {o : Nat → Prop}
set_option maxRecDepth 100000

set_option maxHeartbeats 1000000 in
theorem nets_door (b : Nat) (w : World) (F : List Nat) (m : List (ByteArray × T)) (h : Own w (.map m) (vM b) F) (hn : F.Nodup) (hok : ModelOK m) :
    Calls Tryz.prog 44 #[.map (some b)] w fun e w' => e = .returned (.tuple #[]) ∧ Res F w (.map (netsP m)) (vM b) w' := by
  have HI := Lib.hid (networks_any b w F m h hn hok)
  clear h
  go_enter Tryz.func44, Tryz.ntmps44
  go_wp2_with fail
  refine HI.out.mono ?_
  rintro e w1 ⟨rfl, hr⟩
  have HR := Lib.hid hr
  clear hr
  go_wp2_with fail
  go_end0
  exact ⟨rfl, HR.out⟩
set_option maxHeartbeats 1000000 in
theorem implNets_any (m : List (ByteArray × T)) (v : Value) (w : World) (h : Rd o w (.map m) v) (hf : Fine (.map m)) (hfn : Fine (.map (netsP m))) (hok : ModelOK m) :
    Calls Tryz.prog 23 #[v] w fun e w' => ∃ v', e = .returned v' ∧ Chg [] w w' ∧ Rd (fun b => w.heap.size ≤ b) w' (.map (netsP m)) v' := by
  obtain ⟨A3, q3, A4, q4, rfl, hyz⟩ := h.five
  clear hyz
  have HM : Hid (∀ W, Chg [] w W → Calls Tryz.prog 38 #[.agg #[.int .i64 (T.map m).kind, .int .i64 (T.map m).num, .string (T.map m).txt, .slice A3 (T.map m).keys.length q3, .slice A4 (T.map m).vals.length q4]] W fun e w' => ∃ b F, e = .returned (.map (some b)) ∧ Chg [] W w' ∧ Own w' (.map m) (vM b) F ∧ F.Nodup ∧ ∀ x ∈ F, W.heap.size ≤ x) :=
    Lib.hid fun W hc => toMap_any m _ W (h.chg hc) hf
  clear h
  go_enter Tryz.func23, Tryz.ntmps23
  go_wp2_with fail
  refine (HM.out _ (((Chg.refl [] w).al _).al _)).mono ?_
  rintro e w1 ⟨b, F, rfl, hc1, ho1, hn1, hF1⟩
  have hs1 : w.heap.size + 2 ≤ w1.heap.size := by have := hc1.size; simpa using this
  have HO1 := Lib.hid (And.intro hc1 (And.intro ho1 (And.intro hn1 hF1)))
  clear hc1 ho1 hn1 hF1
  go_wp2_with fail
  refine (nets_door b w1 F m  HO1.out.2.1 HO1.out.2.2.1 hok).mono ?_
  rintro e w3 ⟨rfl, F3, ho3, hn3, hN3, hc3⟩
  have HO3 := Lib.hid (And.intro ho3 (And.intro hN3 hc3))
  clear ho3 hn3 hN3 hc3
  go_wp2_with fail
  refine (fromMap_any (netsP m) b w3 F3 HO3.out.1 hfn).mono ?_
  rintro e w4 ⟨v', rfl, hc4, hr4⟩
  obtain ⟨A5, q5, A6, q6, rfl, hyz⟩ := hr4.five
  clear hyz
  obtain ⟨hc1, ho1, hn1, hF1⟩ := HO1.out
  obtain ⟨ho3, hN3, hc3⟩ := HO3.out
  have hs3 := hc3.size
  have hs4 := hc4.size
  have hF2 : ∀ x ∈ F, w.heap.size + 2 ≤ x := fun x hx => by have := hF1 x hx; simpa using this
  obtain ⟨W5, hW5⟩ : ∃ W5, W5 = w4.alloc (.cells #[.int .i64 (T.map (netsP m)).kind, .int .i64 (T.map (netsP m)).num, .string (T.map (netsP m)).txt, .slice A5 (T.map (netsP m)).keys.length q5, .slice A6 (T.map (netsP m)).vals.length q6] 35) := ⟨_, rfl⟩
  have hc45 : Chg [] w4 W5 := hW5 ▸ (Chg.refl [] w4).al _
  have hlow : ∀ x, x < w.heap.size + 2 → W5.heap[x]? = w1.heap[x]? := fun x hx => (hc45.block x (by omega) (by simp)).trans ((hc4.block x (by omega) (by simp)).trans (hc3.block x (by omega) (fun hm => by have := hF2 x hm; omega)))
  have z1 : W5.heap[w.heap.size + 1]? = some (.cells #[.int .i64 0, .int .i64 0, .string ⟨#[]⟩, .slice none 0 0, .slice none 0 0] 35) := (hlow _ (by omega)).trans ((hc1.block _ (by simp) (by simp)).trans (heap_al2 w _ _))
  have hcw1 : Chg [] w w1 := (((Chg.refl [] w).al _).al _).trans hc1 New.nil
  have hcw : Chg [] w W5 := ((hcw1.trans hc3 (fun x hx => .inr (by have := hF2 x hx; omega))).trans hc4 New.nil).trans hc45 New.nil
  obtain ⟨W7, hW7, Q, hne, hcW, _⟩ := store5 z1 hcw (by omega : w.heap.size ≤ w.heap.size + 1) (.int .i64 (T.map (netsP m)).kind) (.int .i64 (T.map (netsP m)).num) (.string (T.map (netsP m)).txt) (.slice A5 (T.map (netsP m)).keys.length q5) (.slice A6 (T.map (netsP m)).vals.length q6)
  have hr7 : Rd (fun b => w.heap.size ≤ b) W7 (.map (netsP m)) (.agg #[.int .i64 (T.map (netsP m)).kind, .int .i64 (T.map (netsP m)).num, .string (T.map (netsP m)).txt, .slice A5 (T.map (netsP m)).keys.length q5, .slice A6 (T.map (netsP m)).vals.length q6]) := hr4.to fun b hb ho => ⟨by omega, (hne b (by omega)).trans (hc45.block b hb (by simp))⟩
  have hbx : W5.heap[w4.heap.size]? = some (.cells #[.int .i64 (T.map (netsP m)).kind, .int .i64 (T.map (netsP m)).num, .string (T.map (netsP m)).txt, .slice A5 (T.map (netsP m)).keys.length q5, .slice A6 (T.map (netsP m)).vals.length q6] 35) := hW5 ▸ heap_alloc_new w4 _
  rw [hW5] at z1 hbx hW7
  have HR7 := Lib.hid (And.intro hr7 (And.intro Q (And.intro hcW hW7)))
  obtain ⟨d0, d1, d2, d3, d4, df⟩ := cells5 z1
  obtain ⟨f0, f1, f2, f3, f4, ff⟩ := cells5 hbx
  clear hr4 hc4 hr7 hne Q hcW hcw hcw1 hlow hc1 ho1 hn1 hF1 ho3 hN3 hc3 hF2 hs3 hW5 hc45 hbx z1 hW7
  go_wp2_with fail
  obtain ⟨h1, Q, h2, hW7⟩ := HR7.out
  rw [← hW7]
  obtain ⟨e0, e1, e2, e3, e4, _⟩ := cells5 Q
  refine bodyPost_ret (v := .agg #[.int .i64 (T.map (netsP m)).kind, .int .i64 (T.map (netsP m)).num, .string (T.map (netsP m)).txt, .slice A5 (T.map (netsP m)).keys.length q5, .slice A6 (T.map (netsP m)).vals.length q6]) (by simp [results, Tryz.results23, go_sem, e0, e1, e2, e3, e4]) rfl ⟨_, rfl, h2, h1⟩
/-- What setNameFromKey asks. -/
structure NameQ (m : List (ByteArray × T)) (p : ByteArray) : Prop where
  srt : Srt m
  name : mget kName m = some (.text p)
  psz : p.size ≤ 67108864
  top : ∀ k ∈ tops, TopOK m k
  key : ∀ k ∈ tops, ∀ tl, mget k m = some (.map tl) → ∀ q ∈ tl, q.1.size ≤ 67108864
theorem StageOK.nameQ {m : List (ByteArray × T)} {p : ByteArray} (h : StageOK m p) : NameQ m p := ⟨h.srt, h.name, h.psz, h.top, h.key⟩
set_option maxHeartbeats 1000000 in
theorem names_door (b : Nat) (w : World) (F : List Nat) (m : List (ByteArray × T)) (p : ByteArray) (h : Own w (.map m) (vM b) F) (hn : F.Nodup) (hq : NameQ m p) :
    Calls Tryz.prog 42 #[.map (some b)] w fun e w' => e = .returned (.tuple #[]) ∧ Res F w (.map (nmUpto p 4 m)) (vM b) w' := by
  have HI := Lib.hid (names_any b w F m p h hn hq.srt hq.name hq.top hq.psz hq.key)
  clear h
  go_enter Tryz.func42, Tryz.ntmps42
  go_wp2_with fail
  refine HI.out.mono ?_
  rintro e w1 ⟨rfl, hr⟩
  have HR := Lib.hid hr
  clear hr
  go_wp2_with fail
  go_end0
  exact ⟨rfl, HR.out⟩
set_option maxHeartbeats 1000000 in
theorem implNamed_any (m : List (ByteArray × T)) (p : ByteArray) (v : Value) (w : World) (h : Rd o w (.map m) v) (hf : Fine (.map m)) (hfn : Fine (.map (nmUpto p 4 m))) (hq : NameQ m p) :
    Calls Tryz.prog 22 #[v] w fun e w' => ∃ v', e = .returned v' ∧ Chg [] w w' ∧ Rd (fun b => w.heap.size ≤ b) w' (.map (nmUpto p 4 m)) v' := by
  obtain ⟨A3, q3, A4, q4, rfl, hyz⟩ := h.five
  clear hyz
  have HM : Hid (∀ W, Chg [] w W → Calls Tryz.prog 38 #[.agg #[.int .i64 (T.map m).kind, .int .i64 (T.map m).num, .string (T.map m).txt, .slice A3 (T.map m).keys.length q3, .slice A4 (T.map m).vals.length q4]] W fun e w' => ∃ b F, e = .returned (.map (some b)) ∧ Chg [] W w' ∧ Own w' (.map m) (vM b) F ∧ F.Nodup ∧ ∀ x ∈ F, W.heap.size ≤ x) :=
    Lib.hid fun W hc => toMap_any m _ W (h.chg hc) hf
  clear h
  go_enter Tryz.func22, Tryz.ntmps22
  go_wp2_with fail
  refine (HM.out _ (((Chg.refl [] w).al _).al _)).mono ?_
  rintro e w1 ⟨b, F, rfl, hc1, ho1, hn1, hF1⟩
  have hs1 : w.heap.size + 2 ≤ w1.heap.size := by have := hc1.size; simpa using this
  have HO1 := Lib.hid (And.intro hc1 (And.intro ho1 (And.intro hn1 hF1)))
  clear hc1 ho1 hn1 hF1
  go_wp2_with fail
  refine (names_door b w1 F m p HO1.out.2.1 HO1.out.2.2.1 hq).mono ?_
  rintro e w3 ⟨rfl, F3, ho3, hn3, hN3, hc3⟩
  have HO3 := Lib.hid (And.intro ho3 (And.intro hN3 hc3))
  clear ho3 hn3 hN3 hc3
  go_wp2_with fail
  refine (fromMap_any (nmUpto p 4 m) b w3 F3 HO3.out.1 hfn).mono ?_
  rintro e w4 ⟨v', rfl, hc4, hr4⟩
  obtain ⟨A5, q5, A6, q6, rfl, hyz⟩ := hr4.five
  clear hyz
  obtain ⟨hc1, ho1, hn1, hF1⟩ := HO1.out
  obtain ⟨ho3, hN3, hc3⟩ := HO3.out
  have hs3 := hc3.size
  have hs4 := hc4.size
  have hF2 : ∀ x ∈ F, w.heap.size + 2 ≤ x := fun x hx => by have := hF1 x hx; simpa using this
  obtain ⟨W5, hW5⟩ : ∃ W5, W5 = w4.alloc (.cells #[.int .i64 (T.map (nmUpto p 4 m)).kind, .int .i64 (T.map (nmUpto p 4 m)).num, .string (T.map (nmUpto p 4 m)).txt, .slice A5 (T.map (nmUpto p 4 m)).keys.length q5, .slice A6 (T.map (nmUpto p 4 m)).vals.length q6] 35) := ⟨_, rfl⟩
  have hc45 : Chg [] w4 W5 := hW5 ▸ (Chg.refl [] w4).al _
  have hlow : ∀ x, x < w.heap.size + 2 → W5.heap[x]? = w1.heap[x]? := fun x hx => (hc45.block x (by omega) (by simp)).trans ((hc4.block x (by omega) (by simp)).trans (hc3.block x (by omega) (fun hm => by have := hF2 x hm; omega)))
  have z1 : W5.heap[w.heap.size + 1]? = some (.cells #[.int .i64 0, .int .i64 0, .string ⟨#[]⟩, .slice none 0 0, .slice none 0 0] 35) := (hlow _ (by omega)).trans ((hc1.block _ (by simp) (by simp)).trans (heap_al2 w _ _))
  have hcw1 : Chg [] w w1 := (((Chg.refl [] w).al _).al _).trans hc1 New.nil
  have hcw : Chg [] w W5 := ((hcw1.trans hc3 (fun x hx => .inr (by have := hF2 x hx; omega))).trans hc4 New.nil).trans hc45 New.nil
  obtain ⟨W7, hW7, Q, hne, hcW, _⟩ := store5 z1 hcw (by omega : w.heap.size ≤ w.heap.size + 1) (.int .i64 (T.map (nmUpto p 4 m)).kind) (.int .i64 (T.map (nmUpto p 4 m)).num) (.string (T.map (nmUpto p 4 m)).txt) (.slice A5 (T.map (nmUpto p 4 m)).keys.length q5) (.slice A6 (T.map (nmUpto p 4 m)).vals.length q6)
  have hr7 : Rd (fun b => w.heap.size ≤ b) W7 (.map (nmUpto p 4 m)) (.agg #[.int .i64 (T.map (nmUpto p 4 m)).kind, .int .i64 (T.map (nmUpto p 4 m)).num, .string (T.map (nmUpto p 4 m)).txt, .slice A5 (T.map (nmUpto p 4 m)).keys.length q5, .slice A6 (T.map (nmUpto p 4 m)).vals.length q6]) := hr4.to fun b hb ho => ⟨by omega, (hne b (by omega)).trans (hc45.block b hb (by simp))⟩
  have hbx : W5.heap[w4.heap.size]? = some (.cells #[.int .i64 (T.map (nmUpto p 4 m)).kind, .int .i64 (T.map (nmUpto p 4 m)).num, .string (T.map (nmUpto p 4 m)).txt, .slice A5 (T.map (nmUpto p 4 m)).keys.length q5, .slice A6 (T.map (nmUpto p 4 m)).vals.length q6] 35) := hW5 ▸ heap_alloc_new w4 _
  rw [hW5] at z1 hbx hW7
  have HR7 := Lib.hid (And.intro hr7 (And.intro Q (And.intro hcW hW7)))
  obtain ⟨d0, d1, d2, d3, d4, df⟩ := cells5 z1
  obtain ⟨f0, f1, f2, f3, f4, ff⟩ := cells5 hbx
  clear hr4 hc4 hr7 hne Q hcW hcw hcw1 hlow hc1 ho1 hn1 hF1 ho3 hN3 hc3 hF2 hs3 hW5 hc45 hbx z1 hW7
  go_wp2_with fail
  obtain ⟨h1, Q, h2, hW7⟩ := HR7.out
  rw [← hW7]
  obtain ⟨e0, e1, e2, e3, e4, _⟩ := cells5 Q
  refine bodyPost_ret (v := .agg #[.int .i64 (T.map (nmUpto p 4 m)).kind, .int .i64 (T.map (nmUpto p 4 m)).num, .string (T.map (nmUpto p 4 m)).txt, .slice A5 (T.map (nmUpto p 4 m)).keys.length q5, .slice A6 (T.map (nmUpto p 4 m)).vals.length q6]) (by simp [results, Tryz.results22, go_sem, e0, e1, e2, e3, e4]) rfl ⟨_, rfl, h2, h1⟩
end Go.Proofs.YtedbfoknfdiadaaGreatDoor
