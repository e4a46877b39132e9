/- The thin package: impl.Normalize, DefaultNetworks, Named. Conditions: models of the reference, lengths. -/
import Derived.Test.YtedbfoknfdiadaaGreatDoorFromAny
import Derived.Test.YtedbfoknfdiadaaGreatDoorPairs
import Derived.Test.YtedbfoknfdiadaaGreatDoorStage
import Derived.Test.YtedbfoknfdiadaaGreatDoorNets
import Derived.Test.YtedbfoknfdiadaaGreatDoorDeps
set_option linter.unusedVariables false
set_option linter.unusedSimpArgs false
namespace Go.Proofs.YtedbfoknfdiadaaGreatDoor
open Go.RowKit
variable {o : Nat → Prop}
set_option maxRecDepth 100000

theorem toMap_any (m : List (ByteArray × T)) (v : Value) (w : World) (h : Rd o w (.map m) v) (hf : Fine (.map m)) :
    Calls Tryz.prog 38 #[v] w fun e w' => ∃ b F, e = .returned (.map (some b)) ∧ Chg [] w w' ∧ Own w' (.map m) (vM b) F ∧ F.Nodup ∧ ∀ x ∈ F, w.heap.size ≤ x := by
  have hsz := hf.size
  exact toMap_step (o := o) (T.size (.map m)) (fun t v w h1 h2 h3 => toAny_any (T.size (.map m)) t v w h1 hsz h2 h3) m v w (by omega) h hf.wf hsz
theorem fromMap_any (m : List (ByteArray × T)) (b : Nat) (w : World) (F : List Nat) (h : Own w (.map m) (vM b) F) (hf : Fine (.map m)) :
    Calls Tryz.prog 43 #[.map (some b)] w (FromR w (.map m)) := by
  have hsz := hf.size
  exact fromMap_step (T.size (.map m)) (fun t v w F h1 h2 h3 => fromAny_any (T.size (.map m)) t v w F h1 hsz h2 h3) m b w F (by omega) h hf.wf hsz
set_option maxHeartbeats 400000 in
theorem model_any (m : List (ByteArray × T)) (b : Nat) (w : World) (F : List Nat) (h : Own w (.map m) (vM b) F) (hf : Fine (.map m)) :
    Calls Tryz.prog 36 #[.map (some b), .nilIface] w (FromR w (.map m)) := by
  have HF : Hid (∀ W, Chg [] w W → Calls Tryz.prog 43 #[.map (some b)] W (FromR W (.map m))) := Lib.hid fun W hc => fromMap_any m b W F (h.frame fun x hx => hc.block x (h.lt x hx) (by simp)) hf
  clear h
  go_enter Tryz.func36, Tryz.ntmps36
  go_wp2_with fail
  refine (HF.out _ ((Chg.refl [] w).al _)).mono ?_
  rintro e w1 ⟨v', rfl, hc1, hr1⟩
  obtain ⟨A5, q5, A6, q6, rfl, hyz⟩ := hr1.five
  clear hyz
  have hcw : Chg [] w w1 := ((Chg.refl [] w).al _).trans hc1 New.nil
  have z1 := box5 (heap_alloc_new w (.cells #[.int .i64 0, .int .i64 0, .string ⟨#[]⟩, .slice none 0 0, .slice none 0 0] 35)) _ hc1
  obtain ⟨W7, hW7, Q, hne, hcW, _⟩ := store5 z1 hcw (Nat.le_refl _) (.int .i64 (T.map m).kind) (.int .i64 (T.map m).num) (.string (T.map m).txt) (.slice A5 (T.map m).keys.length q5) (.slice A6 (T.map m).vals.length q6)
  have hr7 : Rd (fun b => w.heap.size ≤ b) W7 (.map m) (.agg #[.int .i64 (T.map m).kind, .int .i64 (T.map m).num, .string (T.map m).txt, .slice A5 (T.map m).keys.length q5, .slice A6 (T.map m).vals.length q6]) := hr1.to fun b hb ho => by
    have ho : (w.alloc (.cells #[.int .i64 0, .int .i64 0, .string ⟨#[]⟩, .slice none 0 0, .slice none 0 0] 35)).heap.size ≤ b := ho
    simp at ho
    exact ⟨by omega, hne b (by omega)⟩
  have HR7 := Lib.hid (And.intro hr7 (And.intro Q hcW))
  obtain ⟨d0, d1, d2, d3, d4, df⟩ := cells5 z1
  clear hr1 hc1 hr7 hne Q hcW hcw
  go_wp2_with fail
  rw [← hW7]
  obtain ⟨h1, Q, h2⟩ := HR7.out
  obtain ⟨e0, e1, e2, e3, e4, _⟩ := cells5 Q
  refine bodyPost_ret (v := .tuple #[.agg #[.int .i64 (T.map m).kind, .int .i64 (T.map m).num, .string (T.map m).txt, .slice A5 (T.map m).keys.length q5, .slice A6 (T.map m).vals.length q6], .bool true]) (by simp [results, Tryz.results36, go_sem, e0, e1, e2, e3, e4]) rfl ⟨_, rfl, h2, h1⟩
set_option maxHeartbeats 1000000 in
theorem implNorm_any (m : List (ByteArray × T)) (v vp : Value) (n : Nat) (w : World) {o' : Nat → Prop} (h : Rd o w (.map m) v) (hf : Fine (.map m)) (hfn : Fine (.map (normP m))) (hp : RdP o' w n vp) (hn : n ≤ 67108864) (hok : ModelOK m) :
    Calls Tryz.prog 12 #[v, vp] w (FromR w (.map (normP m))) := by
  obtain ⟨A3, q3, A4, q4, rfl, hyz⟩ := h.five
  clear hyz
  have HM : Hid (∀ W, Chg [] w W → Calls Tryz.prog 38 #[.agg #[.int .i64 (T.map m).kind, .int .i64 (T.map m).num, .string (T.map m).txt, .slice A3 (T.map m).keys.length q3, .slice A4 (T.map m).vals.length q4]] W fun e w' => ∃ b F, e = .returned (.map (some b)) ∧ Chg [] W w' ∧ Own w' (.map m) (vM b) F ∧ F.Nodup ∧ ∀ x ∈ F, W.heap.size ≤ x) :=
    Lib.hid fun W hc => toMap_any m _ W (h.chg hc) hf
  have HP : Hid (∀ W, Chg [] w W → Calls Tryz.prog 39 #[vp] W fun e w' => ∃ b, e = .returned (.map (some b)) ∧ Chg [] W w') := Lib.hid fun W hc => pairs_any n vp W (hp.chg hc) hn
  have HST := Lib.hid (stage_of hok hf)
  clear h hp
  go_enter Tryz.func12, Tryz.ntmps12
  go_wp2_with fail
  refine (HM.out _ (((Chg.refl [] w).al _).al _)).mono ?_
  rintro e w1 ⟨b, F, rfl, hc1, ho1, hn1, hF1⟩
  have hs1 : w.heap.size + 2 ≤ w1.heap.size := by have := hc1.size; simpa using this
  have HO1 := Lib.hid (And.intro hc1 (And.intro ho1 (And.intro hn1 hF1)))
  clear hc1 ho1 hn1 hF1
  go_wp2_with fail
  refine (HP.out _ ((((Chg.refl [] w).al _).al _).trans HO1.out.1 New.nil)).mono ?_
  rintro e w2 ⟨be, rfl, hc2⟩
  have HC2 := Lib.hid hc2
  clear hc2
  go_wp2_with fail
  refine (loader_any b be w2 F m (HO1.out.2.1.frame fun x hx => HC2.out.block x (HO1.out.2.1.lt x hx) (by simp)) HO1.out.2.2.1 hok HST.out).mono ?_
  rintro e w3 ⟨rfl, F3, ho3, hn3, hN3, hc3⟩
  have HO3 := Lib.hid (And.intro ho3 (And.intro hN3 hc3))
  clear ho3 hn3 hN3 hc3
  go_wp2_with fail
  refine (model_any (normP m) b w3 F3 HO3.out.1 hfn).mono ?_
  rintro e w4 ⟨v', rfl, hc4, hr4⟩
  obtain ⟨A5, q5, A6, q6, rfl, hyz⟩ := hr4.five
  clear hyz
  obtain ⟨hc1, ho1, hn1, hF1⟩ := HO1.out
  obtain ⟨ho3, hN3, hc3⟩ := HO3.out
  have hs2 := HC2.out.size
  have hs3 := hc3.size
  have hs4 := hc4.size
  have hF2 : ∀ x ∈ F, w.heap.size + 2 ≤ x := fun x hx => by have := hF1 x hx; simpa using this
  have hlow : ∀ x, x < w.heap.size + 2 → w4.heap[x]? = w1.heap[x]? := fun x hx => (hc4.block x (by omega) (by simp)).trans ((hc3.block x (by omega) (fun hm => by have := hF2 x hm; omega)).trans (HC2.out.block x (by omega) (by simp)))
  have z1 : w4.heap[w.heap.size + 1]? = some (.cells #[.int .i64 0, .int .i64 0, .string ⟨#[]⟩, .slice none 0 0, .slice none 0 0] 35) := (hlow _ (by omega)).trans ((hc1.block _ (by simp) (by simp)).trans (heap_al2 w _ _))
  have hcw1 : Chg [] w w1 := (((Chg.refl [] w).al _).al _).trans hc1 New.nil
  have hcw : Chg [] w w4 := ((hcw1.trans HC2.out New.nil).trans hc3 (fun x hx => .inr (by have := hF2 x hx; omega))).trans hc4 New.nil
  obtain ⟨W7, hW7, Q, hne, hcW, _⟩ := store5 z1 hcw (by omega : w.heap.size ≤ w.heap.size + 1) (.int .i64 (T.map (normP m)).kind) (.int .i64 (T.map (normP m)).num) (.string (T.map (normP m)).txt) (.slice A5 (T.map (normP m)).keys.length q5) (.slice A6 (T.map (normP m)).vals.length q6)
  have hr7 : Rd (fun b => w.heap.size ≤ b) W7 (.map (normP m)) (.agg #[.int .i64 (T.map (normP m)).kind, .int .i64 (T.map (normP m)).num, .string (T.map (normP m)).txt, .slice A5 (T.map (normP m)).keys.length q5, .slice A6 (T.map (normP m)).vals.length q6]) := hr4.to fun b hb ho => ⟨by omega, hne b (by omega)⟩
  have HR7 := Lib.hid (And.intro hr7 (And.intro Q hcW))
  obtain ⟨d0, d1, d2, d3, d4, df⟩ := cells5 z1
  clear hr4 hc4 hr7 hne Q hcW hcw hcw1 hlow hc1 ho1 hn1 hF1 ho3 hN3 hc3 hF2 hs2 hs3
  go_wp2_with fail
  rw [← hW7]
  obtain ⟨h1, Q, h2⟩ := HR7.out
  obtain ⟨e0, e1, e2, e3, e4, _⟩ := cells5 Q
  refine bodyPost_ret (v := .tuple #[.agg #[.int .i64 (T.map (normP m)).kind, .int .i64 (T.map (normP m)).num, .string (T.map (normP m)).txt, .slice A5 (T.map (normP m)).keys.length q5, .slice A6 (T.map (normP m)).vals.length q6], .bool true]) (by simp [results, Tryz.results12, go_sem, e0, e1, e2, e3, e4]) rfl ⟨_, rfl, h2, h1⟩
end Go.Proofs.YtedbfoknfdiadaaGreatDoor
