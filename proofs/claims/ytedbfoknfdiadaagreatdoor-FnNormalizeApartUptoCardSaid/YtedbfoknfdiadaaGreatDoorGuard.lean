/- A region whose order is open, some of its operations guarded, each guard holding. No condition. -/
import Derived.Test.YtedbfoknfdiadaaGreatDoorRegion
set_option linter.unusedVariables false
set_option linter.unusedSimpArgs false
namespace Go.Proofs.YtedbfoknfdiadaaGreatDoor
section
variable {P : Program} {ops : Array Oper} {Q : Exit → Act → World → Prop}
def allFormG (ops : Array Oper) (size : Nat) (st : List Nat) (gs : List (Nat × Bool)) : Bool :=
  ((List.range ops.size).all fun i => match ops[i]? with
    | some o => (match o.guard with | none => true | some p => gs.contains p && waits ops i p.1 && decide (p.1 < ops.size))
    | none => false) &&
  ((List.range ops.size).all fun i => match ops[i]? with
    | some o => (match o.dst with | some d => decide (d < size) && !st.contains d | none => false)
    | none => false) &&
  decide ((List.range ops.size).map (dOf ops)).Nodup
/-- .. some of them guarded; each guard holds. -/
theorem wp_region_allg {id : Nat} {a : Act} {w : World} (hm : P.follows .mixedOrders = true) (hord : ordered ops = true) (st : List Nat) (gs : List (Nat × Bool)) (hform : allFormG ops a.tmps.size st gs = true)
    (φ : Nat → Value → World → Prop) (hgs : ∀ p ∈ gs, ∀ v w', φ p.1 v w' → v = .bool p.2) (mono : ∀ i v w w', Chg [] w w' → φ i v w → φ i v w')
    (step : ∀ (i : Nat) (o : Oper), i < ops.size → ops[i]? = some o → ∀ (a' : Act) (w' : World), (∀ s ∈ st, Act.g a' s = Act.g a s) → Chg [] w.drew w' → (∀ j, waits ops i j = true → φ j (Act.g a' (dOf ops j)) w') →
      ∀ K : Value → World → Prop, (∀ v w'', Chg [] w' w'' → φ i v w'' → K v w'') → o.wp P a' w' (fun a2 w2 => ∃ v, a2 = a'.put o.dst v ∧ K v w2) Q)
    (fin : ∀ (u : Nat → Value) (w' : World), Chg [] w.drew w' → (∀ j, j < ops.size → φ j (u j) w') → ∀ A2, A2 = putAll ops u ops.size a → Q .normal A2 w') : (Code.region id ops true).wp P Q a w := by
  unfold allFormG at hform
  simp only [Bool.and_eq_true, decide_eq_true_eq] at hform
  obtain ⟨⟨hgd, hdst⟩, hnd⟩ := hform
  have guard : ∀ (i : Nat) (o : Oper), ops[i]? = some o → o.guard = none ∨ ∃ j b, o.guard = some (j, b) ∧ (j, b) ∈ gs ∧ waits ops i j = true ∧ j < ops.size := by
    intro i o ho
    have h1 := List.all_eq_true.1 hgd i (List.mem_range.2 (Array.getElem?_eq_some_iff.1 ho).1)
    rw [ho] at h1
    simp only at h1
    cases hg : o.guard with
    | none => exact .inl rfl
    | some p =>
      rw [hg] at h1
      obtain ⟨j, b⟩ := p
      simp only [Bool.and_eq_true, List.contains_eq_mem, decide_eq_true_eq] at h1
      exact .inr ⟨j, b, rfl, h1.1.1, h1.1.2, h1.2⟩
  have head : ∀ i, i < ops.size → ∃ o d, ops[i]? = some o ∧ o.dst = some d ∧ dOf ops i = d ∧ d < a.tmps.size ∧ d ∉ st := by
    intro i hi
    have h1 := List.all_eq_true.1 hdst i (List.mem_range.2 hi)
    have ho : ops[i]? = some (ops[i]'(by omega)) := Array.getElem?_eq_getElem (by omega)
    rw [ho] at h1
    simp only at h1
    cases hd : (ops[i]'(by omega)).dst with
    | none => rw [hd] at h1; simp at h1
    | some d =>
      rw [hd] at h1
      simp only [Bool.and_eq_true, decide_eq_true_eq, Bool.not_eq_true', List.contains_eq_mem, decide_eq_false_iff_not] at h1
      exact ⟨_, d, ho, hd, by unfold dOf; rw [ho]; simp [hd], h1.1, h1.2⟩
  have distinct : ∀ i j, i < ops.size → j < ops.size → i ≠ j → dOf ops i ≠ dOf ops j := by
    intro i j hi hj hij he
    have hp := List.pairwise_iff_getElem.1 hnd
    simp only [List.length_map, List.length_range, List.getElem_map, List.getElem_range] at hp
    rcases Nat.lt_or_gt_of_ne hij with h | h
    · exact hp i j hi hj h he
    · exact hp j i hj hi h he.symm
  refine wp_region_inv hm hord (fun L a' w' => (∀ s, (∀ j, j < ops.size → dOf ops j ≠ s) → Act.g a' s = Act.g a s) ∧ a'.tmps.size = a.tmps.size ∧ a'.defers = a.defers ∧ Chg [] w.drew w' ∧ (∀ j, j < ops.size → L j = true → φ j (Act.g a' (dOf ops j)) w'))
    ⟨fun _ _ => rfl, rfl, rfl, Chg.refl _ _, fun j _ h => by cases h⟩ ?_ ?_
  · intro L i o ho hLi hcl hdeps a' w' ⟨hst, hsz, hdf, hch, hφ⟩
    have hi : i < ops.size := (Array.getElem?_eq_some_iff.1 ho).1
    have hwd : ∀ j, waits ops i j = true → φ j (Act.g a' (dOf ops j)) w' := fun j hj => by
      unfold waits at hj
      rw [ho] at hj
      obtain ⟨e, he, hb⟩ := Array.any_eq_true'.1 hj
      simp only [Bool.and_eq_true, beq_iff_eq] at hb
      have h1 := hdeps e he hb.1
      have h2 := ordered_spec hord ho e he hb.1
      rw [hb.2] at h1 h2
      exact hφ j (by omega) h1
    have hwant : Region.wanted o (yielded ops a'.tmps) = true := by
      rcases guard i o ho with h | ⟨j, b, h, hm1, hw1, hj1⟩
      · simp [Region.wanted, h]
      · have hv := hgs _ hm1 _ _ (hwd j hw1)
        obtain ⟨oj, dj, hoj, hdj, hdoj, hdl, _⟩ := head j hj1
        rw [hdoj] at hv
        have ht : a'.tmps[dj]? = some (.bool b) := by
          have hl : dj < a'.tmps.size := by rw [hsz]; exact hdl
          rw [Array.getElem?_eq_getElem hl]
          unfold Act.g at hv
          rw [Array.getD, dif_pos hl] at hv
          exact congrArg some hv
        simp [Region.wanted, h, yielded, hoj, hdj, ht]
    unfold wpOp
    simp only [ho, hwant, if_true]
    refine .inl ?_
    obtain ⟨o1, d, ho1, hd, hdi, hdl, hds⟩ := head i hi
    obtain rfl : o1 = o := Option.some.inj (ho1.symm.trans ho)
    refine Oper.wp_mono ?_ (step i o1 hi ho a' w' (fun s hs => hst s (fun j hj e => by obtain ⟨_, _, _, _, hd1, _, hds1⟩ := head j hj; exact hds1 (by rw [← hd1, e]; exact hs))) hch (fun j hj => by
      unfold waits at hj
      rw [ho] at hj
      obtain ⟨e, he, hb⟩ := Array.any_eq_true'.1 hj
      simp only [Bool.and_eq_true, beq_iff_eq] at hb
      have h1 := hdeps e he hb.1
      have h2 := ordered_spec hord ho e he hb.1
      rw [hb.2] at h1 h2
      exact hφ j (by omega) h1) (fun v w2 => Chg [] w' w2 ∧ φ i v w2) (fun v w2 h1 h2 => ⟨h1, h2⟩))
    rintro a2 w2 ⟨v, rfl, hc2, hv⟩
    rw [hd]
    refine ⟨fun s hs => ?_, by rw [size_put]; exact hsz, hdf, hch.trans hc2 New.nil, fun j hj hL => ?_⟩
    · rw [g_put_ne _ _ _ _ (fun e => by subst e; exact hs i hi hdi)]
      exact hst s hs
    · by_cases hji : j = i
      · subst hji
        rw [hdi, g_put_same _ _ _ (by rw [hsz]; exact hdl)]
        exact hv
      · have hb : (j == i) = false := by simp [hji]
        rw [g_put_ne _ _ _ _ (by rw [← hdi]; exact distinct j i hj hi hji)]
        exact mono _ _ _ _ hc2 (hφ j hj (by simpa [hb] using hL))
  · intro a' w' ⟨hst, hsz, hdf, hch, hφ⟩
    have hd : ∀ j, j < ops.size → φ j (Act.g a' (dOf ops j)) w' := fun j hj => hφ j hj (by simp [hj])
    refine fin (fun j => Act.g a' (dOf ops j)) w' hch hd a' ?_
    refine act_ext (by rw [putAll_size, hsz]) (by rw [putAll_defers, hdf]) fun s => ?_
    by_cases hs : ∃ j, j < ops.size ∧ dOf ops j = s
    · obtain ⟨j, hj, rfl⟩ := hs
      obtain ⟨o1, d1, _, _, hd1, hdl1, _⟩ := head j hj
      rw [putAll_eq ops _ a j _ hj (fun k hk hkj => distinct k j hk hj hkj) (by rw [hd1]; exact hdl1)]
    · rw [putAll_ne ops _ a s _ (fun j hj e => hs ⟨j, hj, e⟩)]
      exact hst s (fun j hj e => hs ⟨j, hj, e⟩)
end
end Go.Proofs.YtedbfoknfdiadaaGreatDoor
