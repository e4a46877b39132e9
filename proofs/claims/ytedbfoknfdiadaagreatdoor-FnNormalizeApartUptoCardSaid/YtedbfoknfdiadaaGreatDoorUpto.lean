/- Maps that are turned value by value, in the order of their keys. No condition. -/
import Derived.Test.YtedbfoknfdiadaaGreatDoorNeeds
set_option linter.unusedVariables false
set_option linter.unusedSimpArgs false
namespace Go.Proofs.YtedbfoknfdiadaaGreatDoor
open Go.RowKit
variable {o : Nat → Prop}

/-- The first n values turned. -/
def mapTo (f : ByteArray → T → T) (m : List (ByteArray × T)) (n : Nat) : List (ByteArray × T) := (m.take n).map (fun q => (q.1, f q.1 q.2)) ++ m.drop n
theorem mapTo_zero {f : ByteArray → T → T} {m : List (ByteArray × T)} : mapTo f m 0 = m := by simp [mapTo]
theorem mapTo_all {f : ByteArray → T → T} {m : List (ByteArray × T)} : mapTo f m m.length = m.map (fun q => (q.1, f q.1 q.2)) := by simp [mapTo]
theorem mapTo_keys {f : ByteArray → T → T} {m : List (ByteArray × T)} {n : Nat} : (mapTo f m n).map (·.1) = m.map (·.1) := by
  have h : (fun (q : ByteArray × T) => (q.1, f q.1 q.2).1) = fun q => q.1 := rfl
  unfold mapTo
  rw [List.map_append, List.map_map]
  show (m.take n).map (fun q => q.1) ++ _ = _
  rw [← List.map_append, List.take_append_drop]
theorem mapTo_length {f : ByteArray → T → T} {m : List (ByteArray × T)} {n : Nat} : (mapTo f m n).length = m.length := by
  have := congrArg List.length (mapTo_keys (f := f) (m := m) (n := n))
  simpa using this
theorem srt_of_keys {α β : Type} : ∀ {m : List (ByteArray × α)} {m' : List (ByteArray × β)}, m.map (·.1) = m'.map (·.1) → Srt m → Srt m' := by
  intro m m' h hs
  have h1 : (m.map (·.1)).Pairwise (fun a b => blt a b = true) := List.pairwise_map.2 hs
  rw [h] at h1
  exact List.pairwise_map.1 h1
theorem mapTo_srt {f : ByteArray → T → T} {m : List (ByteArray × T)} {n : Nat} (h : Srt m) : Srt (mapTo f m n) := srt_of_keys mapTo_keys.symm h
theorem ins_at {k : ByteArray} {x y : T} : ∀ {m : List (ByteArray × T)} {n : Nat}, Srt m → m[n]? = some (k, x) → mins k y m = m.set n (k, y)
  | [], n, _, h => by simp at h
  | p :: m, 0, _, h => by
    simp at h
    subst h
    simp [mins]
  | p :: m, n + 1, hs, h => by
    simp at h
    have hb := hs.head _ (List.mem_of_getElem? h)
    have hne : p.1 ≠ k := fun e => by rw [e, blt_irrefl] at hb; cases hb
    simp only [mins, hne, if_false, hb, if_true, List.set_cons_succ]
    rw [ins_at hs.tail h]
theorem mapTo_at {f : ByteArray → T → T} {m : List (ByteArray × T)} {n : Nat} {q : ByteArray × T} (h : m[n]? = some q) : (mapTo f m n)[n]? = some q := by
  have hn := (List.getElem?_eq_some_iff.1 h).1
  unfold mapTo
  rw [List.getElem?_append_right (by simp; omega)]
  simp
  have : n - min n m.length = 0 := by omega
  rw [this]
  simpa using h
theorem mapTo_step {f : ByteArray → T → T} {m : List (ByteArray × T)} {n : Nat} {k : ByteArray} {x : T} (hs : Srt m) (h : m[n]? = some (k, x)) : mins k (f k x) (mapTo f m n) = mapTo f m (n + 1) := by
  have hn := (List.getElem?_eq_some_iff.1 h).1
  rw [ins_at (mapTo_srt hs) (mapTo_at h)]
  unfold mapTo
  have h1 : m.drop n = (k, x) :: m.drop (n + 1) := by
    rw [List.drop_eq_getElem_cons hn]
    congr 1
    exact (List.getElem?_eq_some_iff.1 h).2
  rw [h1, take_snoc h, List.map_append, List.append_assoc]
  rw [List.set_append_right _ _ (by simp; omega)]
  congr 1
  have : n - ((m.take n).map fun q => (q.1, f q.1 q.2)).length = 0 := by simp; omega
  rw [this]
  rfl
theorem mapTo_same {f : ByteArray → T → T} {m : List (ByteArray × T)} {n : Nat} {k : ByteArray} {x : T} (h : m[n]? = some (k, x)) (he : f k x = x) : mapTo f m (n + 1) = mapTo f m n := by
  have hn := (List.getElem?_eq_some_iff.1 h).1
  unfold mapTo
  have h1 : m.drop n = (k, x) :: m.drop (n + 1) := by
    rw [List.drop_eq_getElem_cons hn]
    congr 1
    exact (List.getElem?_eq_some_iff.1 h).2
  rw [h1, take_snoc h, List.map_append, List.append_assoc]
  simp [he]

theorem RdV.lo_elem {w : World} {l : List T} {v : Value} {n : Nat} {x : T} (hv : RdV o w l v) (hx : l[n]? = some x) : ∃ g c A5 q5 A6 q6, v = .slice (some ⟨g, 0, none⟩) l.length c ∧ g < w.heap.size ∧
    Rd (fun b => o b ∧ b < w.heap.size) w x (.agg #[.int .i64 x.kind, .int .i64 x.num, .string x.txt, .slice A5 x.keys.length q5, .slice A6 x.vals.length q6]) ∧
    ∀ W, Chg [] w W → W.cell? ⟨g, n * 5, none⟩ = some (.int .i64 x.kind) ∧ W.cell? ⟨g, n * 5 + 1, none⟩ = some (.int .i64 x.num) ∧ W.cell? ⟨g, n * 5 + 2, none⟩ = some (.string x.txt) ∧
      W.cell? ⟨g, n * 5 + 3, none⟩ = some (.slice A5 x.keys.length q5) ∧ W.cell? ⟨g, n * 5 + 4, none⟩ = some (.slice A6 x.vals.length q6) :=
  (hv.to (o' := fun b => o b ∧ b < w.heap.size) fun _ hb ho => ⟨⟨ho, hb⟩, rfl⟩).elem hx
/-- With on nothing, or on a map. -/
theorem with_mn (t x : T) (v vx : Value) (k : ByteArray) (w : World) (h : Rd o w t v) (ht : t = .null ∨ ∃ r, t = .map r ∧ Srt r) (hx : Rd o w x vx) (hl : t.vals.length ≤ 67108864) (hno : ∀ b, w.heap.size ≤ b → o b) :
    Calls Tryz.prog 20 #[v, .string k, vx] w fun e w' => ∃ v', e = .returned v' ∧ Chg [] w w' ∧ Rd o w' (.map (mins k x t.m)) v' := by
  rcases ht with rfl | ⟨r, rfl, hs⟩
  · refine (with_any .null x v vx k w h hx hl (Nat.le_refl _) hno).mono ?_
    rintro e w' ⟨ka, va, rfl, hc, hk, hv⟩
    refine ⟨_, rfl, hc, Rd.mk_map (m := [(k, x)]) ?_ ?_⟩
    · simpa [T.keys, withK, posK] using hk
    · simpa [T.keys, T.vals, withV, posK] using hv
  · exact with_map r x v vx k w h hs hx (by simpa [T.vals] using hl) hno
end Go.Proofs.YtedbfoknfdiadaaGreatDoor
