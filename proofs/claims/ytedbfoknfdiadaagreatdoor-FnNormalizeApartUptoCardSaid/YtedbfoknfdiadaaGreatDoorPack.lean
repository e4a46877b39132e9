/- From a walk over readings to what a row of these laws asks. No condition. -/
import Derived.Test.YtedbfoknfdiadaaGreatDoorOpen
import Derived.Test.YtedbfoknfdiadaaGreatDoorCards
import Derived.Test.YtedbfoknfdiadaaGreatDoorTie
import Derived.WalkKit
import Derived.ProofKit
import Derived.OpenShut
import Derived.Deep.DeepHandedRow
import Derived.ChangeStays
set_option linter.unusedVariables false
set_option linter.unusedSimpArgs false
namespace Go.Proofs.YtedbfoknfdiadaaGreatDoor
open Go.ChangeShapes Go.WideShapes Go.ChangeAt Go.RowKit
set_option maxRecDepth 100000

def Ty (t : TypeId) : Prop := t = 3 ∨ t = 9 ∨ t = 22 ∨ t = 23 ∨ t = 25 ∨ t = 26 ∨ t = 52
theorem notStruct {P : Program} {t : TypeId} {l : List (TypeId × Nat)} (h : fieldsOf P t = some l) : ∃ fs : Array Field, P.underlying t = some (.struct fs) ∧ fs.toList.map (fun f => (f.type, f.offset)) = l := by
  unfold fieldsOf at h
  split at h
  · rename_i fs hu
    injection h with h
    exact ⟨fs, hu, h⟩
  · cases h
theorem kids : Kids Tryz.prog Ty := by
  obtain ⟨fv, hv, hvl⟩ := notStruct fVal
  obtain ⟨fp, hp, hpl⟩ := notStruct fPair
  refine ⟨?_, ?_, ?_, ?_, ?_⟩
  · intro t e ht hu
    rcases ht with rfl | rfl | rfl | rfl | rfl | rfl | rfl
    all_goals simp_all [u3, u9, u22, u23, u26]
  · intro t e ht hu
    rcases ht with rfl | rfl | rfl | rfl | rfl | rfl | rfl
    all_goals first | (simp_all [u3, u9]; done) | skip
    · rw [u22] at hu; cases hu; simp [Ty]
    · rw [u23] at hu; cases hu; simp [Ty]
    · rw [u26] at hu; cases hu; simp [Ty]
  · intro t e n ht hu
    rcases ht with rfl | rfl | rfl | rfl | rfl | rfl | rfl
    all_goals simp_all [u3, u9, u22, u23, u26]
  · intro t fs ht hu
    have hst : (t = 25 ∧ fs = fv) ∨ (t = 52 ∧ fs = fp) := by
      rcases ht with rfl | rfl | rfl | rfl | rfl | rfl | rfl
      · rw [u3] at hu; cases hu
      · rw [u9] at hu; cases hu
      · rw [u22] at hu; cases hu
      · rw [u23] at hu; cases hu
      · rw [hv] at hu; cases hu; exact .inl ⟨rfl, rfl⟩
      · rw [u26] at hu; cases hu
      · rw [hp] at hu; cases hu; exact .inr ⟨rfl, rfl⟩
    rcases hst with ⟨rfl, rfl⟩ | ⟨rfl, rfl⟩
    · obtain ⟨l⟩ := fs
      simp only at hvl ⊢
      rcases l with _ | ⟨f0, _ | ⟨f1, _ | ⟨f2, _ | ⟨f3, _ | ⟨f4, _ | ⟨f5, l⟩⟩⟩⟩⟩⟩
      all_goals simp only [List.map_cons, List.map_nil, List.cons.injEq, Prod.mk.injEq, and_true, reduceCtorEq, and_false, false_and] at hvl
      obtain ⟨⟨a0, b0⟩, ⟨a1, b1⟩, ⟨a2, b2⟩, ⟨a3, b3⟩, a4, b4⟩ := hvl
      refine ⟨?_, ?_, ?_⟩
      · intro f hf
        simp only [List.mem_cons, List.not_mem_nil, or_false] at hf
        rcases hf with rfl | rfl | rfl | rfl | rfl
        all_goals simp [Ty, *]
      · simp [a0, a1, a2, a3, a4, c3, c9, c22, c23, c25]
      · intro j f hj
        rcases j with _ | _ | _ | _ | _ | j
        all_goals simp at hj
        all_goals subst hj
        all_goals simp [a0, a1, a2, a3, a4, b0, b1, b2, b3, b4, c3, c9, c22, c23]
    · obtain ⟨l⟩ := fs
      simp only at hpl ⊢
      rcases l with _ | ⟨f0, _ | ⟨f1, _ | ⟨f5, l⟩⟩⟩
      all_goals simp only [List.map_cons, List.map_nil, List.cons.injEq, Prod.mk.injEq, and_true, reduceCtorEq, and_false, false_and] at hpl
      obtain ⟨⟨a0, b0⟩, a1, b1⟩ := hpl
      refine ⟨?_, ?_, ?_⟩
      · intro f hf
        simp only [List.mem_cons, List.not_mem_nil, or_false] at hf
        rcases hf with rfl | rfl
        all_goals simp [Ty, *]
      · simp [a0, a1, c9, c52]
      · intro j f hj
        rcases j with _ | _ | j
        all_goals simp at hj
        all_goals subst hj
        all_goals simp [a0, a1, b0, b1, c9]
  · intro t k e ht hu
    rcases ht with rfl | rfl | rfl | rfl | rfl | rfl | rfl
    all_goals simp_all [u3, u9, u22, u23, u26]
theorem Chg.kept {W W' : World} (h : Chg [] W W') (may : MemPlace → Prop) : W.keptBut W' may := by
  refine ⟨h.os, h.output, fun i hi => ?_⟩
  rw [h.block i hi (by simp)]
  exact (World.keptBut_refl W may).2.2 i hi
theorem sized {t e : TypeId} (ht : Ty t) (hu : Tryz.prog.underlying t = some (.slice e)) : 0 < Tryz.prog.cellsOf e := by
  obtain ⟨fv, hv, _⟩ := notStruct fVal
  obtain ⟨fp, hp, _⟩ := notStruct fPair
  rcases ht with rfl | rfl | rfl | rfl | rfl | rfl | rfl
  · rw [u3] at hu; cases hu
  · rw [u9] at hu; cases hu
  · rw [u22] at hu; cases hu; rw [c9]; decide
  · rw [u23] at hu; cases hu; rw [c25]; decide
  · rw [hv] at hu; cases hu
  · rw [u26] at hu; cases hu; rw [c52]; decide
  · rw [hp] at hu; cases hu

section
variable {H : Type} {enc : TypeId × Value → H} {P : Program}
theorem post_of_chg {f : Func} {s : ChangeSpec} {fresh handsOn again : Bool} {W W' : World} {args : Array Value} {v : Value} {ds gs : List (DataW H)} {before pa pv : List MemPlace}
    (hW : DataW.Whole enc P f.params.toList s.vars false W args.toList ds gs before)
    (hres : ∀ (b : Nat) (sp : Nat → Bool) (hd : Bool), DataW.TrodAll enc P W' b sp hd f.resultTypes.toList (v.resultList f.resultTypes.size) (s.fn H (ds ++ gs)).results [])
    (hargs : ∀ sp : Nat → Bool, (∀ p ∈ before, sp p.block = true) → DataW.TrodAll enc P W' 0 sp true f.params.toList args.toList (s.fn H (ds ++ gs)).args pa)
    (hvars : ∀ sp : Nat → Bool, (∀ p ∈ before, sp p.block = true) → DataW.TrodVars enc P W' sp s.vars (s.fn H (ds ++ gs)).vars pv)
    (hps : before = pa ++ pv) (hc : Chg [] W W')
    (hok : ∀ (j : Nat) (t : TypeId) (r : Value), f.resultTypes[j]? = some t → (v.resultList f.resultTypes.size)[j]? = some r → Value.okWide P W' .any 0 t r) :
    s.post enc P f false fresh handsOn again W args v W' := by
  have hlt := hW.lt
  have hold : ∀ p ∈ before, (fun b => decide (b < W.heap.size)) p.block = true := fun p hp => by simpa using hlt p hp
  refine ⟨ds, gs, before, [], pa, pv, hW, hres _ _ _, hargs _ hold, hvars _ hold, World.keptBut_mono (fun p hp => ⟨hp, ?_⟩) (hc.kept (· ∈ before)), fun _ => ?_⟩
  · rw [hps, List.mem_append] at hp
    exact Or.inr hp
  · obtain ⟨_, _, _, _, _, hz, _⟩ := hW
    refine ⟨hok, _, _, ([] ++ pa) ++ pv, ⟨[] ++ pa, pv, trodAll_append (hargs _ (fun _ _ => rfl)) (hres _ _ _), hvars _ (fun _ _ => rfl), rfl, ?_, fun h => by cases h⟩, ?_⟩
    · intro b off hp
      have hp : MemPlace.cell b off ∈ before := by rw [hps]; simpa using hp
      have h1 := hlt _ hp
      have h2 : W'.frozen? ⟨b, off, none⟩ = W.frozen? ⟨b, off, none⟩ := by
        unfold World.frozen?
        rw [hc.block b h1 (by simp)]
      rw [h2]
      exact hz b off hp
    · intro p hp _
      rw [hps]
      simpa using hp
end
/-- A walk over readings gives what the row asks. -/
theorem contract {fid : FuncId} {f : Func} {s : ChangeSpec} (hp : f.params = #[25, 26]) (hr : f.resultTypes = #[4]) (hv : s.vars = [])
    (walk : ∀ (r : Raw) (n : Nat) (v vp : Value) (w : World), RdR w r v → WFR 1048576 r → Raw.size r ≤ 1048576 → RdP (fun _ => True) w n vp → n ≤ 1048576 → Calls Tryz.prog fid #[v, vp] w fun e w' => e = .returned (.bool true) ∧ Chg [] w w')
    (H : Type) (hfn : ∀ d1 d2, s.fn H [d1, d2] = { results := [.lit (.bool true)], args := [d1, d2] }) (enc : TypeId × Value → H) (W : World) (base : Nat) (args : Array Value) (ds gs : List (DataW H)) (before : List MemPlace)
    (hval : ∀ (j : Nat) t v, f.params[j]? = some t → args[j]? = some v → Value.okWide Tryz.prog W .any base t v)
    (hW : DataW.Whole enc Tryz.prog f.params.toList s.vars false W args.toList ds gs before) (hb : Rows.uptoBulkAll (ds ++ gs) ≤ 1048576) :
    Calls Tryz.prog fid args W fun e W' => ∃ v, e = .returned v ∧ s.post enc Tryz.prog f false true false false W args v W' := by
  have hW' := hW
  obtain ⟨p, q, hA, hV, rfl, hfz, hnd⟩ := hW
  rw [hp] at hA hval
  rw [hv] at hV
  obtain ⟨v0, vs0, d0, ds0, p0, q0, hargs, rfl, rfl, h0, r0⟩ := trodAll_cons hA
  obtain ⟨v1, vs1, d1, ds1, p1, q1, rfl, rfl, rfl, h1, r1⟩ := trodAll_cons r0
  obtain ⟨rfl, rfl, rfl⟩ := trodAll_nil r1
  obtain rfl : args = #[v0, v1] := by cases args; simp_all
  obtain ⟨rfl, rfl⟩ := trodVars_none hV
  obtain ⟨fuel0, t0⟩ := h0
  obtain ⟨fuel1, t1⟩ := h1
  obtain ⟨fv, hfv, _⟩ := notStruct fVal
  obtain ⟨cs, rfl, _⟩ := okWide_struct hfv (hval 0 _ _ rfl rfl)
  obtain ⟨r, vr, e0, hr0, hsz, hwf⟩ := raw_of _ _ _ t0
  obtain ⟨A3, q3, A4, q4, rfl, _⟩ := hr0.five
  have hcs : cs = #[.int .i64 r.kind, .int .i64 r.num, .string r.txt, .slice A3 r.keys.length q3, .slice A4 r.vals.length q4] := by
    have : cs.toList = [.int .i64 r.kind, .int .i64 r.num, .string r.txt, .slice A3 r.keys.length q3, .slice A4 r.vals.length q4] := e0.symm
    exact Array.toList_inj.1 this
  subst hcs
  obtain ⟨vp, n, e1, hrp, hn, A, c, rfl⟩ := pairs_of t1
  obtain ⟨A2, n2, c2, rfl⟩ := okWide_slice u26 (hval 1 _ _ rfl rfl)
  obtain ⟨rfl, rfl, rfl⟩ : A = A2 ∧ n = n2 ∧ c = c2 := by simpa [Value.cells] using e1
  simp only [List.append_nil, Rows.uptoBulkAll] at hb
  simp only at hsz hwf hn
  refine (walk r n _ _ W hr0 (WFR.mono (by omega) hwf) (by omega) hrp (by omega)).mono fun e W' ⟨he, hg⟩ => ?_
  subst he
  simp only [List.append_nil] at hW'
  refine ⟨_, rfl, post_of_chg (pa := p0 ++ (p1 ++ [])) (pv := []) hW' ?_ ?_ ?_ ?_ hg ?_⟩
  · intro b sp hd
    rw [hr, List.append_nil, hfn]
    exact trodAll_cons_mk (shut_bool uB _) trodAll_mk0
  · intro sp hsp
    rw [hp, List.append_nil, hfn]
    have hst : ∀ {t : TypeId} {cs : List Value} {x : DataW H × List MemPlace} {fuel : Nat}, Ty t → DataW.trod enc Tryz.prog W 0 (fun _ => true) true fuel t cs = some x → (∀ p ∈ x.2, p ∈ p0 ++ (p1 ++ [])) → DataW.trod enc Tryz.prog W' 0 sp true fuel t cs = some x := fun ht h hmem => by
      refine DataW.trod_stays kids sized (fun h => by cases h) ht h (fun p hp => ?_) fun p hp => hsp p (by simpa using hmem p hp)
      have hlt := hW'.lt p (by simpa using hmem p hp)
      cases p with
      | cell b off =>
        show W'.cell? ⟨b, off, none⟩ = W.cell? ⟨b, off, none⟩
        unfold World.cell?
        rw [hg.block b hlt (by simp)]
      | map b => exact hg.block b hlt (by simp)
    exact trodAll_cons_mk ⟨fuel0, hst (by simp [Ty]) t0 fun p hp => List.mem_append_left _ hp⟩ (trodAll_cons_mk ⟨fuel1, hst (by simp [Ty]) t1 fun p hp => List.mem_append_right _ (List.mem_append_left _ hp)⟩ trodAll_mk0)
  · intro sp hsp
    rw [hv, List.append_nil, hfn]
    rfl
  · simp
  · exact ok_one hr (by rfl) (okWide_bool_mk uB _)
end Go.Proofs.YtedbfoknfdiadaaGreatDoor
