/- Loops and cuts over a frame of many slots: what is forgotten stands behind one function. No condition. -/
import Derived.Test.YtedbfoknfdiadaaGreatDoorRegion
import Derived.Deep.Cut
set_option linter.unusedVariables false
set_option linter.unusedSimpArgs false
namespace Go.Proofs.YtedbfoknfdiadaaGreatDoor
open Go.RowKit

/-- A frame: 'none' keeps a slot, 'some k' forgets slot k. -/
def frL : List (Option Nat) → List Value → (Nat → Value) → List Value
  | none :: bs, v :: vs, f => v :: frL bs vs f
  | some k :: bs, _ :: vs, f => f k :: frL bs vs f
  | [], vs, _ => vs
  | _ :: _, [], _ => []
def agL : List (Option Nat) → List Value → List Value → Prop
  | none :: bs, v :: vs, u :: us => u = v ∧ agL bs vs us
  | some _ :: bs, _ :: vs, _ :: us => agL bs vs us
  | [], vs, us => us = vs
  | _ :: _, [], us => us = []
  | _ :: _, _ :: _, [] => False
def okB : List (Option Nat) → Nat → Bool
  | none :: bs, n => okB bs (n + 1)
  | some k :: bs, n => k == n && okB bs (n + 1)
  | [], _ => true
theorem agL_refl : ∀ (bs : List (Option Nat)) (vs : List Value), agL bs vs vs
  | [], vs => by simp [agL]
  | b :: bs, [] => by cases b <;> simp [agL]
  | none :: bs, v :: vs => by simp only [agL]; exact ⟨trivial, agL_refl bs vs⟩
  | some k :: bs, v :: vs => by simp only [agL]; exact agL_refl bs vs
theorem ag_fr : ∀ (bs : List (Option Nat)) (vs us : List Value) (n : Nat) (f : Nat → Value), okB bs n = true → agL bs vs us → (∀ j, f (n + j) = us.getD j undef) → us = frL bs vs f
  | [], vs, us, n, f, _, h, _ => by simp only [agL] at h; rw [h]; simp [frL]
  | b :: bs, [], us, n, f, _, h, _ => by
    have h : us = [] := by cases b <;> simpa [agL] using h
    subst h
    cases b <;> simp [frL]
  | none :: bs, v :: vs, [], n, f, _, h, _ => by simp [agL] at h
  | some k :: bs, v :: vs, [], n, f, _, h, _ => by simp [agL] at h
  | none :: bs, v :: vs, u :: us, n, f, ho, h, hf => by
    simp only [agL] at h
    simp only [frL]
    rw [h.1, ← ag_fr bs vs us (n + 1) f ho h.2 fun j => by have := hf (j + 1); rw [show n + 1 + j = n + (j + 1) by omega, this]; simp]
  | some k :: bs, v :: vs, u :: us, n, f, ho, h, hf => by
    simp only [agL] at h
    simp only [okB, Bool.and_eq_true, beq_iff_eq] at ho
    simp only [frL]
    obtain ⟨rfl, ho⟩ := ho
    have h0 := hf 0
    simp only [Nat.add_zero, List.getD_cons_zero] at h0
    rw [h0, ← ag_fr bs vs us (k + 1) f ho h fun j => by have := hf (j + 1); rw [show k + 1 + j = k + (j + 1) by omega, this]; simp]
def fr (bs : List (Option Nat)) (a : Act) (f : Nat → Value) : Act := ⟨(frL bs a.tmps.toList f).toArray, a.defers⟩
def Ag (bs : List (Option Nat)) (a a2 : Act) : Prop := agL bs a.tmps.toList a2.tmps.toList ∧ a2.defers = a.defers
theorem Ag.refl (bs : List (Option Nat)) (a : Act) : Ag bs a a := ⟨agL_refl _ _, rfl⟩
theorem Ag.eq {bs : List (Option Nat)} {a a2 : Act} (hok : okB bs 0 = true) (h : Ag bs a a2) : a2 = fr bs a (Act.g a2) := by
  obtain ⟨h1, h2⟩ := h
  obtain ⟨⟨us⟩, d⟩ := a2
  simp only at h1 h2
  unfold fr
  rw [h2, ← ag_fr bs a.tmps.toList us 0 _ hok h1 fun j => by simp [Act.g]]
theorem Ag.mk {bs : List (Option Nat)} {l1 l2 : List Value} {d : List Deferred} (h : agL bs l1 l2) : Ag bs ⟨l1.toArray, d⟩ ⟨l2.toArray, d⟩ := ⟨h, rfl⟩
theorem fr_mk {bs : List (Option Nat)} {l : List Value} {d : List Deferred} {f : Nat → Value} : fr bs ⟨l.toArray, d⟩ f = ⟨(frL bs l f).toArray, d⟩ := rfl
theorem wp_loop_fr {P : Program} {Q : Exit → Act → World → Prop} {a : Act} {w : World} {c : Code} (bs : List (Option Nat)) (hok : okB bs 0 = true) (R : Nat → (Nat → Value) → World → Prop) (n₀ : Nat) (h₀ : R n₀ (Act.g a) w)
    (round : ∀ n f w, R n f w → ∀ (J : Nat → Act → World → Prop) (K : Act → World → Prop), (∀ k a2 w', Ag bs a a2 → R k (Act.g a2) w' → J k a2 w') → (∀ a' w', Handed J n a' w' → K a' w') → c.wp P (Exit.then K Q) (fr bs a f) w) : (Code.loop c).wp P Q a w :=
  wp_loop_ghost_k (fun n a' w' => Ag bs a a' ∧ R n (Act.g a') w') n₀ ⟨Ag.refl _ _, h₀⟩ fun n a' w' h J K hJ hK => by
    rw [h.1.eq hok]
    exact round n _ w' h.2 J K (fun k a2 w'' h1 h2 => hJ k a2 w'' ⟨h1, h2⟩) hK
theorem wp_cut_fr {P : Program} {s : Code} {K : Act → World → Prop} {Q' : Exit → Act → World → Prop} {a : Act} {w : World} (bs : List (Option Nat)) (hok : okB bs 0 = true) (R : (Nat → Value) → World → Prop)
    (first : ∀ (J K' : Act → World → Prop), (∀ a2 w', Ag bs a a2 → R (Act.g a2) w' → J a2 w') → (∀ a' w', Met J a' w' → K' a' w') → s.wp P (Exit.then K' Q') a w)
    (rest : ∀ f w', R f w' → K (fr bs a f) w') : s.wp P (Exit.then K Q') a w :=
  wp_cut (fun a' w' => Ag bs a a' ∧ R (Act.g a') w') (fun a' w' h => by rw [h.1.eq hok]; exact rest _ w' h.2)
    fun J K' hJ hK => first J K' (fun a2 w' h1 h2 => hJ a2 w' ⟨h1, h2⟩) hK
end Go.Proofs.YtedbfoknfdiadaaGreatDoor
