/- A drawn region with one store that is not last: what only the store waits for need not stand behind it. No condition. -/
import Derived.Test.YtedbfoknfdiadaaGreatDoorTail
set_option linter.unusedVariables false
set_option linter.unusedSimpArgs false
namespace Go.Proofs.YtedbfoknfdiadaaGreatDoor
open Go.RowKit
/-- Every operation but p is waited for by p, or waits for nothing but what is kept. -/
def keepForm (ops : Array Oper) (p : Nat) (keep : Nat → Bool) : Bool :=
  (List.range ops.size).all fun i => i == p || (waits ops p i || (List.range ops.size).all fun j => !(waits ops i j) || (j == p) || keep j)
section
variable {P : Program} {ops : Array Oper} {Q : Exit → Act → World → Prop}
/-- wp_region_put, where what only the store waits for need not stand behind it. -/
theorem wp_region_put2 {id : Nat} {a : Act} {w : World} (hm : P.follows .mixedOrders = true) (hord : ordered ops = true) (st : List Nat) (p : Nat) (hform : putForm ops a.tmps.size st p = true)
    (φ : Nat → Value → World → Prop) (mono : ∀ i v w w', Chg [] w w' → φ i v w → φ i v w') (jb : Nat) (hjb : waits ops p jb = true) (ψ : Value → World → Prop) (monoψ : ∀ v w w', Chg [] w w' → ψ v w → ψ v w') (keep : Nat → Bool) (hkeep : keepForm ops p keep = true)
    (step : ∀ (i : Nat) (o : Oper), i < ops.size → i ≠ p → ops[i]? = some o → ∀ (a' : Act) (w' : World), (∀ s ∈ st, Act.g a' s = Act.g a s) → Chg [] w.drew w' → (∀ j, j ≠ p → waits ops i j = true → φ j (Act.g a' (dOf ops j)) w') →
      ∀ K : Value → World → Prop, (∀ v w'', Chg [] w' w'' → φ i v w'' → K v w'') → o.wp P a' w' (fun a2 w2 => ∃ v, a2 = a'.put o.dst v ∧ K v w2) Q)
    (stepP : ∀ (o : Oper), ops[p]? = some o → ∀ (a' : Act) (w' : World), (∀ s ∈ st, Act.g a' s = Act.g a s) → Chg [] w.drew w' → (∀ j, waits ops p j = true → φ j (Act.g a' (dOf ops j)) w') →
      ∀ K : World → Prop, (∀ w2, Chg [] w.drew w2 → ψ (Act.g a' (dOf ops jb)) w2 → (∀ j v, j ≠ p → keep j = true → φ j v w' → φ j v w2) → K w2) → o.wp P a' w' (fun a2 w2 => a2 = a' ∧ K w2) Q)
    (fin : ∀ (u : Nat → Value) (w' : World), Chg [] w.drew w' → (∀ j, j < ops.size → j ≠ p → keep j = true → φ j (u j) w') → u p = Act.g a 0 → ψ (u jb) w' → ∀ A2, A2 = putAll ops u ops.size a → Q .normal A2 w') : (Code.region id ops true).wp P Q a w := by
  unfold putForm at hform
  simp only [Bool.and_eq_true, decide_eq_true_eq] at hform
  obtain ⟨⟨⟨⟨⟨hgd, hdst⟩, hnd⟩, h0st⟩, h0s⟩, hp⟩ := hform
  have h0st : 0 ∈ st := by simpa using h0st
  have guard : ∀ (i : Nat) (o : Oper), ops[i]? = some o → o.guard = none := by
    intro i o ho
    obtain ⟨hlt, he⟩ := (Array.getElem?_eq_some_iff.1 ho)
    have := Array.all_eq_true.1 hgd i hlt
    rw [he] at this
    simpa using this
  have head : ∀ i, i < ops.size → i ≠ p → ∃ o d, ops[i]? = some o ∧ o.dst = some d ∧ dOf ops i = d ∧ d < a.tmps.size ∧ d ∉ st := by
    intro i hi hip
    have h1 := List.all_eq_true.1 hdst i (List.mem_range.2 hi)
    have ho : ops[i]? = some (ops[i]'(by omega)) := Array.getElem?_eq_getElem (by omega)
    rw [ho] at h1
    simp only at h1
    cases hd : (ops[i]'(by omega)).dst with
    | none => rw [hd] at h1; simp at h1; exact absurd h1 hip
    | some d =>
      rw [hd] at h1
      simp only [Bool.and_eq_true, decide_eq_true_eq, Bool.not_eq_true', List.contains_eq_mem, decide_eq_false_iff_not] at h1
      exact ⟨_, d, ho, hd, by unfold dOf; rw [ho]; simp [hd], h1.1.1, h1.1.2⟩
  have headp : ∃ o, ops[p]? = some o ∧ o.dst = none ∧ dOf ops p = 0 := by
    have h1 := List.all_eq_true.1 hdst p (List.mem_range.2 hp)
    have ho : ops[p]? = some (ops[p]'(by omega)) := Array.getElem?_eq_getElem (by omega)
    rw [ho] at h1
    simp only at h1
    cases hd : (ops[p]'(by omega)).dst with
    | none => exact ⟨_, ho, hd, by unfold dOf; rw [ho]; simp [hd]⟩
    | some d => rw [hd] at h1; simp at h1
  have distinct : ∀ i j, i < ops.size → j < ops.size → i ≠ j → dOf ops i ≠ dOf ops j := by
    intro i j hi hj hij he
    have hp := List.pairwise_iff_getElem.1 hnd
    simp only [List.length_map, List.length_range, List.getElem_map, List.getElem_range] at hp
    rcases Nat.lt_or_gt_of_ne hij with h | h
    · exact hp i j hi hj h he
    · exact hp j i hj hi h he.symm
  refine wp_region_inv hm hord (fun L a' w' => (∀ s, (∀ j, j < ops.size → j ≠ p → dOf ops j ≠ s) → Act.g a' s = Act.g a s) ∧ a'.tmps.size = a.tmps.size ∧ a'.defers = a.defers ∧ Chg [] w.drew w' ∧ (∀ j, j < ops.size → j ≠ p → L j = true → (L p = true → keep j = true) → φ j (Act.g a' (dOf ops j)) w') ∧ (L p = true → ψ (Act.g a' (dOf ops jb)) w'))
    ⟨fun _ _ => rfl, rfl, rfl, Chg.refl _ _, fun j _ _ h _ => (by cases h), fun h => by cases h⟩ ?_ ?_
  · intro L i o ho hLi hcl hdeps a' w' ⟨hst, hsz, hdf, hch, hφ, hψ⟩
    have hi : i < ops.size := (Array.getElem?_eq_some_iff.1 ho).1
    have hwant : Region.wanted o (yielded ops a'.tmps) = true := by simp [Region.wanted, guard i o ho]
    unfold wpOp
    simp only [ho, hwant, if_true]
    refine .inl ?_
    have hst' : ∀ s ∈ st, Act.g a' s = Act.g a s := fun s hs => hst s (fun j hj hjp e => by obtain ⟨_, _, _, _, hd1, _, hds1⟩ := head j hj hjp; exact hds1 (by rw [← hd1, e]; exact hs))
    have hdep : ∀ j, j ≠ p → waits ops i j = true → φ j (Act.g a' (dOf ops j)) w' := fun j hjp hj => by
      have hj' := hj
      unfold waits at hj
      rw [ho] at hj
      obtain ⟨e, he, hb⟩ := Array.any_eq_true'.1 hj
      simp only [Bool.and_eq_true, beq_iff_eq] at hb
      have h1 := hdeps e he hb.1
      have h2 := ordered_spec hord ho e he hb.1
      rw [hb.2] at h1 h2
      refine hφ j (by omega) hjp h1 fun hLp => ?_
      by_cases hip : i = p
      · rw [hip, hLp] at hLi
        cases hLi
      · unfold keepForm at hkeep
        have h3 := List.all_eq_true.1 hkeep i (List.mem_range.2 hi)
        simp only [Bool.or_eq_true, beq_iff_eq, hip, false_or] at h3
        rcases h3 with h3 | h3
        · exfalso
          obtain ⟨op, hop, _, _⟩ := headp
          unfold waits at h3
          rw [hop] at h3
          obtain ⟨e, he, hb⟩ := Array.any_eq_true'.1 h3
          simp only [Bool.and_eq_true, beq_iff_eq] at hb
          have h4 := hcl p op hop hLp e he hb.1
          rw [hb.2, hLi] at h4
          cases h4
        · have h4 := List.all_eq_true.1 h3 j (List.mem_range.2 (by omega))
          simp only [Bool.or_eq_true, Bool.not_eq_true', beq_iff_eq, hjp, or_false] at h4
          rcases h4 with h4 | h4
          · rw [hj'] at h4
            cases h4
          · exact h4
    by_cases hip : i = p
    · subst hip
      obtain ⟨o1, ho1, hd, _⟩ := headp
      obtain rfl : o1 = o := Option.some.inj (ho1.symm.trans ho)
      have hself : ∀ j, waits ops i j = true → j ≠ i := fun j hj e => by
        subst e
        unfold waits at hj
        rw [ho] at hj
        obtain ⟨e, he, hb⟩ := Array.any_eq_true'.1 hj
        simp only [Bool.and_eq_true, beq_iff_eq] at hb
        have h2 := ordered_spec hord ho e he hb.1
        omega
      refine Oper.wp_mono ?_ (stepP o1 ho a' w' hst' hch (fun j hj => hdep j (hself j hj) hj) (fun w2 => Chg [] w.drew w2 ∧ ψ (Act.g a' (dOf ops jb)) w2 ∧ ∀ j v, j ≠ i → keep j = true → φ j v w' → φ j v w2) (fun w2 h1 h2 h3 => ⟨h1, h2, h3⟩))
      rintro a2 w2 ⟨rfl, hc2, hψ2, hj2⟩
      refine ⟨hst, hsz, hdf, hc2, fun j hj hjp hL hk => ?_, fun _ => hψ2⟩
      have hb : (j == i) = false := by simp [hjp]
      exact hj2 _ _ hjp (hk (by simp)) (hφ j hj hjp (by simpa [hb] using hL) fun h => by rw [hLi] at h; cases h)
    · obtain ⟨o1, d, ho1, hd, hdi, hdl, hds⟩ := head i hi hip
      obtain rfl : o1 = o := Option.some.inj (ho1.symm.trans ho)
      refine Oper.wp_mono ?_ (step i o1 hi hip ho a' w' hst' hch hdep (fun v w2 => Chg [] w' w2 ∧ φ i v w2) (fun v w2 h1 h2 => ⟨h1, h2⟩))
      rintro a2 w2 ⟨v, rfl, hc2, hv⟩
      rw [hd]
      refine ⟨fun s hs => ?_, by rw [size_put]; exact hsz, hdf, hch.trans hc2 New.nil, fun j hj hjp hL hk => ?_, fun hL => ?_⟩
      · rw [g_put_ne _ _ _ _ (fun e => by subst e; exact hs i hi hip hdi)]
        exact hst s hs
      · by_cases hji : j = i
        · subst hji
          rw [hdi, g_put_same _ _ _ (by rw [hsz]; exact hdl)]
          exact hv
        · have hb : (j == i) = false := by simp [hji]
          rw [g_put_ne _ _ _ _ (by rw [← hdi]; exact distinct j i hj hi hji)]
          exact mono _ _ _ _ hc2 (hφ j hj hjp (by simpa [hb] using hL) fun h => hk (by simp [h]))
      · have hb : (p == i) = false := by simp [Ne.symm hip]
        have hLp : L p = true := by simpa [hb] using hL
        have hjbp : jb < p ∧ L jb = true := by
          obtain ⟨op, hop, _, _⟩ := headp
          have hw := hjb
          unfold waits at hw
          rw [hop] at hw
          obtain ⟨e, he, hb⟩ := Array.any_eq_true'.1 hw
          simp only [Bool.and_eq_true, beq_iff_eq] at hb
          have h1 := hcl p op hop hLp e he hb.1
          have h2 := ordered_spec hord hop e he hb.1
          rw [hb.2] at h1 h2
          exact ⟨h2, h1⟩
        have hji : jb ≠ i := fun e => by rw [e, hLi] at hjbp; cases hjbp.2
        rw [g_put_ne _ _ _ _ (by rw [← hdi]; exact distinct jb i (by omega) hi hji)]
        exact monoψ _ _ _ hc2 (hψ hLp)
  · intro a' w' ⟨hst, hsz, hdf, hch, hφ, hψ⟩
    have hd : ∀ j, j < ops.size → j ≠ p → keep j = true → φ j (Act.g a' (dOf ops j)) w' := fun j hj hjp hk => hφ j hj hjp (by simp [hj]) fun _ => hk
    obtain ⟨_, _, _, hp0⟩ := headp
    have h0 : Act.g a' 0 = Act.g a 0 := hst 0 (fun j hj hjp e => by obtain ⟨_, _, _, _, hd1, _, hds1⟩ := head j hj hjp; exact hds1 (by rw [← hd1, e]; exact h0st))
    refine fin (fun j => Act.g a' (dOf ops j)) w' hch hd (by show Act.g a' (dOf ops p) = _; rw [hp0, h0]) (hψ (by simp [hp])) a' ?_
    refine act_ext (by rw [putAll_size, hsz]) (by rw [putAll_defers, hdf]) fun s => ?_
    by_cases hs : ∃ j, j < ops.size ∧ dOf ops j = s
    · obtain ⟨j, hj, rfl⟩ := hs
      have hdl1 : dOf ops j < a.tmps.size := by
        by_cases hjp : j = p
        · subst hjp
          rw [hp0]
          exact h0s
        · obtain ⟨o1, d1, _, _, hd1, hdl1, _⟩ := head j hj hjp
          rw [hd1]
          exact hdl1
      rw [putAll_eq ops _ a j _ hj (fun k hk hkj => distinct k j hk hj hkj) hdl1]
    · rw [putAll_ne ops _ a s _ (fun j hj e => hs ⟨j, hj, e⟩)]
      exact hst s (fun j hj _ e => hs ⟨j, hj, e⟩)
/-- A drawn region with one box of its own (operation jb makes it, operation p stores into it, both at any time that the code's dependences let): b tells the box's block, once it is there. -/
theorem wp_region_put3 {id : Nat} {a : Act} {w : World} (hm : P.follows .mixedOrders = true) (hord : ordered ops = true) (st : List Nat) (p jb : Nat) (hform : putForm ops a.tmps.size st p = true) (hjb : waits ops p jb = true) (O : Obj)
    (φ : Nat → Value → Option Nat → World → Prop) (mono : ∀ i v b w w', Chg [] w w' → φ i v b w → φ i v b w') (born : ∀ i v w', φ i v none w' → φ i v (some w'.heap.size) (w'.alloc O)) (ψ : Nat → World → Prop) (monoψ : ∀ B w w', Chg [] w w' → ψ B w → ψ B w') (keep : Nat → Bool)
    (stepB : ∀ (o : Oper), ops[jb]? = some o → ∀ (a' : Act) (w' : World), (∀ s ∈ st, Act.g a' s = Act.g a s) → ∀ K : Value → World → Prop, K (.pointer (some ⟨w'.heap.size, 0, none⟩)) (w'.alloc O) → o.wp P a' w' (fun a2 w2 => ∃ v, a2 = a'.put o.dst v ∧ K v w2) Q)
    (step : ∀ (i : Nat) (o : Oper), i < ops.size → i ≠ p → i ≠ jb → ops[i]? = some o → ∀ (a' : Act) (w' : World) (b : Option Nat), (∀ B, b = some B → w.heap.size ≤ B ∧ B < w'.heap.size) → (∀ s ∈ st, Act.g a' s = Act.g a s) → Chg [] w.drew w' → (∀ j, j ≠ p → j ≠ jb → waits ops i j = true → (waits ops p i = true ∨ keep j = true) → φ j (Act.g a' (dOf ops j)) b w') →
      ∀ K : Value → World → Prop, (∀ v w'', Chg [] w' w'' → φ i v b w'' → K v w'') → o.wp P a' w' (fun a2 w2 => ∃ v, a2 = a'.put o.dst v ∧ K v w2) Q)
    (stepP : ∀ (o : Oper), ops[p]? = some o → ∀ (a' : Act) (w' : World) (B : Nat), Act.g a' (dOf ops jb) = .pointer (some ⟨B, 0, none⟩) → w.heap.size ≤ B → w'.heap[B]? = some O → (∀ s ∈ st, Act.g a' s = Act.g a s) → Chg [] w.drew w' → (∀ j, j ≠ jb → waits ops p j = true → φ j (Act.g a' (dOf ops j)) (some B) w') →
      ∀ K : World → Prop, (∀ w2, Chg [] w.drew w2 → w'.heap.size ≤ w2.heap.size → ψ B w2 → (∀ j v, j ≠ p → j ≠ jb → keep j = true → φ j v (some B) w' → φ j v (some B) w2) → K w2) → o.wp P a' w' (fun a2 w2 => a2 = a' ∧ K w2) Q)
    (fin : ∀ (u : Nat → Value) (w' : World) (B : Nat), Chg [] w.drew w' → u jb = .pointer (some ⟨B, 0, none⟩) → w.heap.size ≤ B → B < w'.heap.size → (∀ j, j < ops.size → j ≠ p → j ≠ jb → keep j = true → φ j (u j) (some B) w') → u p = Act.g a 0 → ψ B w' → ∀ A2, A2 = putAll ops u ops.size a → Q .normal A2 w') : (Code.region id ops true).wp P Q a w := by
  unfold putForm at hform
  simp only [Bool.and_eq_true, decide_eq_true_eq] at hform
  obtain ⟨⟨⟨⟨⟨hgd, hdst⟩, hnd⟩, h0st⟩, h0s⟩, hp⟩ := hform
  have h0st : 0 ∈ st := by simpa using h0st
  have guard : ∀ (i : Nat) (o : Oper), ops[i]? = some o → o.guard = none := by
    intro i o ho
    obtain ⟨hlt, he⟩ := (Array.getElem?_eq_some_iff.1 ho)
    have := Array.all_eq_true.1 hgd i hlt
    rw [he] at this
    simpa using this
  have head : ∀ i, i < ops.size → i ≠ p → ∃ o d, ops[i]? = some o ∧ o.dst = some d ∧ dOf ops i = d ∧ d < a.tmps.size ∧ d ∉ st := by
    intro i hi hip
    have h1 := List.all_eq_true.1 hdst i (List.mem_range.2 hi)
    have ho : ops[i]? = some (ops[i]'(by omega)) := Array.getElem?_eq_getElem (by omega)
    rw [ho] at h1
    simp only at h1
    cases hd : (ops[i]'(by omega)).dst with
    | none => rw [hd] at h1; simp at h1; exact absurd h1 hip
    | some d =>
      rw [hd] at h1
      simp only [Bool.and_eq_true, decide_eq_true_eq, Bool.not_eq_true', List.contains_eq_mem, decide_eq_false_iff_not] at h1
      exact ⟨_, d, ho, hd, by unfold dOf; rw [ho]; simp [hd], h1.1.1, h1.1.2⟩
  have headp : ∃ o, ops[p]? = some o ∧ o.dst = none ∧ dOf ops p = 0 := by
    have h1 := List.all_eq_true.1 hdst p (List.mem_range.2 hp)
    have ho : ops[p]? = some (ops[p]'(by omega)) := Array.getElem?_eq_getElem (by omega)
    rw [ho] at h1
    simp only at h1
    cases hd : (ops[p]'(by omega)).dst with
    | none => exact ⟨_, ho, hd, by unfold dOf; rw [ho]; simp [hd]⟩
    | some d => rw [hd] at h1; simp at h1
  have distinct : ∀ i j, i < ops.size → j < ops.size → i ≠ j → dOf ops i ≠ dOf ops j := by
    intro i j hi hj hij he
    have hp := List.pairwise_iff_getElem.1 hnd
    simp only [List.length_map, List.length_range, List.getElem_map, List.getElem_range] at hp
    rcases Nat.lt_or_gt_of_ne hij with h | h
    · exact hp i j hi hj h he
    · exact hp j i hj hi h he.symm
  have wt : ∀ {i j : Nat} {o : Oper}, ops[i]? = some o → waits ops i j = true → ∃ e ∈ o.after, Region.binds .any e = true ∧ e.on = j := fun {i j o} ho hj => by
    unfold waits at hj
    rw [ho] at hj
    obtain ⟨e, he, hb⟩ := Array.any_eq_true'.1 hj
    simp only [Bool.and_eq_true, beq_iff_eq] at hb
    exact ⟨e, he, hb⟩
  have jlt : ∀ {i j : Nat}, i < ops.size → waits ops i j = true → j < i := fun {i j} hi hj => by
    have ho : ops[i]? = some (ops[i]'hi) := Array.getElem?_eq_getElem hi
    obtain ⟨e, he, hb, rfl⟩ := wt ho hj
    exact ordered_spec hord ho e he hb
  have hjbp : jb < p := jlt hp hjb
  refine wp_region_inv hm hord (fun L a' w' => (∀ s, (∀ j, j < ops.size → j ≠ p → dOf ops j ≠ s) → Act.g a' s = Act.g a s) ∧ a'.tmps.size = a.tmps.size ∧ a'.defers = a.defers ∧ Chg [] w.drew w' ∧
      ∃ b : Option Nat, (L jb = false → b = none) ∧ (L jb = true → ∃ B, b = some B ∧ Act.g a' (dOf ops jb) = .pointer (some ⟨B, 0, none⟩) ∧ w.heap.size ≤ B ∧ B < w'.heap.size ∧ (L p = false → w'.heap[B]? = some O)) ∧
        (∀ j, j < ops.size → j ≠ p → j ≠ jb → L j = true → (L p = true → keep j = true) → φ j (Act.g a' (dOf ops j)) b w') ∧ (L p = true → L jb = true ∧ ∃ B, b = some B ∧ ψ B w'))
    ⟨fun _ _ => rfl, rfl, rfl, Chg.refl _ _, none, fun _ => rfl, fun h => (by cases h), fun j _ _ _ h _ => (by cases h), fun h => (by cases h)⟩ ?_ ?_
  · intro L i o ho hLi hcl hdeps a' w' ⟨hst, hsz, hdf, hch, b, hb0, hb1, hφ, hψ⟩
    have hi : i < ops.size := (Array.getElem?_eq_some_iff.1 ho).1
    have hwant : Region.wanted o (yielded ops a'.tmps) = true := by simp [Region.wanted, guard i o ho]
    unfold wpOp
    simp only [ho, hwant, if_true]
    refine .inl ?_
    have hst' : ∀ s ∈ st, Act.g a' s = Act.g a s := fun s hs => hst s (fun j hj hjp e => by obtain ⟨_, _, _, _, hd1, _, hds1⟩ := head j hj hjp; exact hds1 (by rw [← hd1, e]; exact hs))
    have hbB : ∀ B, b = some B → w.heap.size ≤ B ∧ B < w'.heap.size := fun B hB => by
      cases hL : L jb with
      | false => rw [hb0 hL] at hB; cases hB
      | true =>
        obtain ⟨B', h1, _, h2, h3, _⟩ := hb1 hL
        rw [h1] at hB
        obtain rfl : B' = B := Option.some.inj hB
        exact ⟨h2, h3⟩
    have pnot : ∀ {j}, L p = true → waits ops p j = true → L j = true := fun {j} hLp hj => by
      obtain ⟨op, hop, _, _⟩ := headp
      obtain ⟨e, he, hb, rfl⟩ := wt hop hj
      exact hcl p op hop hLp e he hb
    have hdep : ∀ j, j ≠ p → j ≠ jb → waits ops i j = true → (i = p ∨ waits ops p i = true ∨ keep j = true) → φ j (Act.g a' (dOf ops j)) b w' := fun j hjp hjjb hj hkj => by
      obtain ⟨e, he, hb, rfl⟩ := wt ho hj
      have h1 := hdeps e he hb
      have h2 := jlt hi hj
      refine hφ e.on (by omega) hjp hjjb h1 fun hLp => ?_
      by_cases hip : i = p
      · rw [hip, hLp] at hLi
        cases hLi
      · rcases hkj with h3 | h3 | h3
        · exact absurd h3 hip
        · have := pnot hLp h3
          rw [hLi] at this
          cases this
        · exact h3
    by_cases hip : i = p
    · subst hip
      obtain ⟨o1, ho1, hd, _⟩ := headp
      obtain rfl : o1 = o := Option.some.inj (ho1.symm.trans ho)
      have hLjb : L jb = true := by
        obtain ⟨e, he, hb, rfl⟩ := wt ho hjb
        exact hdeps e he hb
      obtain ⟨B, rfl, hgB, hB1, hB2, hB3⟩ := hb1 hLjb
      refine Oper.wp_mono ?_ (stepP o1 ho a' w' B hgB hB1 (hB3 hLi) hst' hch (fun j hjjb hj => hdep j (by have := jlt hi hj; omega) hjjb hj (.inl rfl)) (fun w2 => Chg [] w.drew w2 ∧ w'.heap.size ≤ w2.heap.size ∧ ψ B w2 ∧ ∀ j v, j ≠ i → j ≠ jb → keep j = true → φ j v (some B) w' → φ j v (some B) w2) (fun w2 h1 h2 h3 h4 => ⟨h1, h2, h3, h4⟩))
      rintro a2 w2 ⟨rfl, hc2, hs2, hψ2, hj2⟩
      have hbj : ∀ {j}, j ≠ i → (j == i) = false := fun h => by simp [h]
      refine ⟨hst, hsz, hdf, hc2, some B, fun h => ?_, fun _ => ⟨B, rfl, hgB, hB1, by omega, fun h => by simp at h⟩, fun j hj hjp hjjb hL hk => ?_, fun _ => ⟨by simp [hLjb], B, rfl, hψ2⟩⟩
      · rw [hLjb] at h
        simp at h
      · exact hj2 _ _ hjp hjjb (hk (by simp)) (hφ j hj hjp hjjb (by simpa [hbj hjp] using hL) fun h => by rw [hLi] at h; cases h)
    · obtain ⟨o1, d, ho1, hd, hdi, hdl, hds⟩ := head i hi hip
      obtain rfl : o1 = o := Option.some.inj (ho1.symm.trans ho)
      have hbp : (p == i) = false := by simp [Ne.symm hip]
      by_cases hijb : i = jb
      · subst hijb
        have hLp : L p = false := by
          cases h : L p with
          | false => rfl
          | true => have := pnot h hjb; rw [hLi] at this; cases this
        obtain rfl := hb0 hLi
        refine Oper.wp_mono ?_ (stepB o1 ho a' w' hst' (fun v w2 => v = .pointer (some ⟨w'.heap.size, 0, none⟩) ∧ w2 = w'.alloc O) ⟨rfl, rfl⟩)
        rintro a2 w2 ⟨v, rfl, rfl, rfl⟩
        rw [hd]
        refine ⟨fun s hs => ?_, by rw [size_put]; exact hsz, hdf, hch.al _, some w'.heap.size, fun h => by simp at h, fun _ => ⟨_, rfl, ?_, ?_, by simp, fun _ => (MapKept.heap_alloc w' O).1⟩, fun j hj hjp hjjb hL _ => ?_, fun hL => ?_⟩
        · rw [g_put_ne _ _ _ _ (fun e => by subst e; exact hs i hi hip hdi)]
          exact hst s hs
        · rw [hdi, g_put_same _ _ _ (by rw [hsz]; exact hdl)]
        · exact hch.size
        · have hb : (j == i) = false := by simp [hjjb]
          rw [g_put_ne _ _ _ _ (by rw [← hdi]; exact distinct j i hj hi hjjb)]
          exact born _ _ _ (hφ j hj hjp hjjb (by simpa [hb] using hL) fun h => by rw [hLp] at h; cases h)
        · simp [hbp, hLp] at hL
      · refine Oper.wp_mono ?_ (step i o1 hi hip hijb ho a' w' b hbB hst' hch (fun j h1 h2 h3 h4 => hdep j h1 h2 h3 (.inr h4)) (fun v w2 => Chg [] w' w2 ∧ φ i v b w2) (fun v w2 h1 h2 => ⟨h1, h2⟩))
        rintro a2 w2 ⟨v, rfl, hc2, hv⟩
        rw [hd]
        have hbjb : (jb == i) = false := by simp [Ne.symm hijb]
        refine ⟨fun s hs => ?_, by rw [size_put]; exact hsz, hdf, hch.trans hc2 New.nil, b, fun h => hb0 (by simpa [hbjb] using h), fun h => ?_, fun j hj hjp hjjb hL hk => ?_, fun hL => ?_⟩
        · rw [g_put_ne _ _ _ _ (fun e => by subst e; exact hs i hi hip hdi)]
          exact hst s hs
        · obtain ⟨B, h1, h2, h3, h4, h5⟩ := hb1 (by simpa [hbjb] using h)
          refine ⟨B, h1, ?_, h3, Nat.lt_of_lt_of_le h4 hc2.size, fun h => (hc2.block B h4 (by simp)).trans (h5 (by simpa [hbp] using h))⟩
          rw [g_put_ne _ _ _ _ (by rw [← hdi]; exact distinct jb i (by omega) hi (Ne.symm hijb))]
          exact h2
        · by_cases hji : j = i
          · subst hji
            rw [hdi, g_put_same _ _ _ (by rw [hsz]; exact hdl)]
            exact hv
          · have hb : (j == i) = false := by simp [hji]
            rw [g_put_ne _ _ _ _ (by rw [← hdi]; exact distinct j i hj hi hji)]
            exact mono _ _ _ _ _ hc2 (hφ j hj hjp hjjb (by simpa [hb] using hL) fun h => hk (by simp [h]))
        · have hLp : L p = true := by simpa [hbp] using hL
          obtain ⟨h1, B, h2, h3⟩ := hψ hLp
          exact ⟨by simp [h1], B, h2, monoψ _ _ _ hc2 h3⟩
  · intro a' w' ⟨hst, hsz, hdf, hch, b, hb0, hb1, hφ, hψ⟩
    have hlt : ∀ {j}, j < ops.size → decide (j < ops.size) = true := fun h => by simp [h]
    obtain ⟨B, rfl, hgB, hB1, hB2, _⟩ := hb1 (hlt (by omega))
    obtain ⟨_, B', hB', hψB⟩ := hψ (hlt hp)
    obtain rfl : B = B' := Option.some.inj hB'
    obtain ⟨_, _, _, hp0⟩ := headp
    have h0 : Act.g a' 0 = Act.g a 0 := hst 0 (fun j hj hjp e => by obtain ⟨_, _, _, _, hd1, _, hds1⟩ := head j hj hjp; exact hds1 (by rw [← hd1, e]; exact h0st))
    refine fin (fun j => Act.g a' (dOf ops j)) w' B hch hgB hB1 hB2 (fun j hj hjp hjjb hk => hφ j hj hjp hjjb (hlt hj) fun _ => hk) (by show Act.g a' (dOf ops p) = _; rw [hp0, h0]) hψB a' ?_
    refine act_ext (by rw [putAll_size, hsz]) (by rw [putAll_defers, hdf]) fun s => ?_
    by_cases hs : ∃ j, j < ops.size ∧ dOf ops j = s
    · obtain ⟨j, hj, rfl⟩ := hs
      have hdl1 : dOf ops j < a.tmps.size := by
        by_cases hjp : j = p
        · subst hjp
          rw [hp0]
          exact h0s
        · obtain ⟨o1, d1, _, _, hd1, hdl1, _⟩ := head j hj hjp
          rw [hd1]
          exact hdl1
      rw [putAll_eq ops _ a j _ hj (fun k hk hkj => distinct k j hk hj hkj) hdl1]
    · rw [putAll_ne ops _ a s _ (fun j hj e => hs ⟨j, hj, e⟩)]
      exact hst s (fun j hj _ e => hs ⟨j, hj, e⟩)
end
/-- Not the box. -/
def Av (o : Nat → Prop) (b : Option Nat) (x : Nat) : Prop := o x ∧ ∀ B, b = some B → x ≠ B
theorem Rd.av_born {o : Nat → Prop} {w : World} {O : Obj} {t : T} {u : Value} (h : Rd (Av o none) w t u) : Rd (Av o (some w.heap.size)) (w.alloc O) t u :=
  h.to fun x hx ho => ⟨⟨ho.1, fun B hB => by cases hB; omega⟩, (MapKept.heap_alloc w O).2 x hx⟩
theorem Rd.av_new {o o' : Nat → Prop} {w w' : World} {b : Option Nat} {l : Nat} {t : T} {u : Value} (hb : ∀ B, b = some B → l ≤ B ∧ B < w.heap.size) (hn : ∀ x, w.heap.size ≤ x → o x) (h : Rd (fun x => w.heap.size ≤ x ∧ o' x) w' t u) : Rd (Av o b) w' t u :=
  h.weak fun x hx => ⟨hn x hx.1, fun B hB => by have h1 := (hb B hB).2; have h2 := hx.1; omega⟩
theorem Rd.av_low {o : Nat → Prop} {w : World} {b : Option Nat} {l m : Nat} {t : T} {u : Value} (hb : ∀ B, b = some B → l ≤ B ∧ B < m) (h : Rd (fun x => o x ∧ x < l) w t u) : Rd (Av o b) w t u :=
  h.weak fun x hx => ⟨hx.1, fun B hB => by have h1 := (hb B hB).1; have h2 := hx.2; omega⟩
theorem Rd.av_none {o : Nat → Prop} {w : World} {t : T} {u : Value} {b : Option Nat} (h : Rd (Av o b) w t u) : Rd o w t u := h.weak fun _ hx => hx.1
end Go.Proofs.YtedbfoknfdiadaaGreatDoor
