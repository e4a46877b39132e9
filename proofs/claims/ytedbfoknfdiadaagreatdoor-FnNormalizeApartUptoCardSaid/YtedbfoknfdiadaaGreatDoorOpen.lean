/- The laws' arguments: data of spec.Val and []Pair, opened. No condition. -/
import Derived.Test.YtedbfoknfdiadaaGreatDoorLawN
import Derived.Test.YtedbfoknfdiadaaGreatDoorRows
import Derived.ChangeArms
set_option linter.unusedVariables false
set_option linter.unusedSimpArgs false
namespace Go.Proofs.YtedbfoknfdiadaaGreatDoor
open Go.RowKit
set_option maxRecDepth 100000

def fieldsOf (P : Program) (t : TypeId) : Option (List (TypeId × Nat)) := match P.underlying t with
  | some (.struct fs) => some (fs.toList.map fun f => (f.type, f.offset))
  | _ => none
theorem fVal : fieldsOf Tryz.prog 25 = some [(3, 0), (3, 1), (9, 2), (22, 3), (23, 4)] := by kernel_rfl
theorem fields_open {P : Program} {t : TypeId} {l : List (TypeId × Nat)} (h : fieldsOf P t = some l) : ∃ fs : Array Field, P.underlying t = some (.struct fs) ∧ fs.size = l.length ∧ ∀ (i : Nat) ty off, l[i]? = some (ty, off) → ∃ f, fs[i]? = some f ∧ f.type = ty ∧ f.offset = off := by
  unfold fieldsOf at h
  split at h
  · rename_i fs hu
    injection h with h
    subst h
    refine ⟨fs, hu, by simp, fun i ty off hi => ?_⟩
    simp only [List.getElem?_map, Option.map_eq_some_iff] at hi
    obtain ⟨f, hf, he⟩ := hi
    injection he with h1 h2
    exact ⟨f, by simpa using hf, h1, h2⟩
  · cases h
theorem c3 : Tryz.prog.cellsOf 3 = 1 := by kernel_rfl
theorem c9 : Tryz.prog.cellsOf 9 = 1 := by kernel_rfl
theorem c22 : Tryz.prog.cellsOf 22 = 1 := by kernel_rfl
theorem c23 : Tryz.prog.cellsOf 23 = 1 := by kernel_rfl
theorem c25 : Tryz.prog.cellsOf 25 = 5 := by kernel_rfl
theorem u3 : Tryz.prog.underlying 3 = some (.int .i64) := by kernel_rfl
theorem u9 : Tryz.prog.underlying 9 = some .string := by kernel_rfl
theorem c52 : Tryz.prog.cellsOf 52 = 2 := by kernel_rfl
theorem u26 : Tryz.prog.underlying 26 = some (.slice 52) := by kernel_rfl
theorem fPair : fieldsOf Tryz.prog 52 = some [(9, 0), (9, 1)] := by kernel_rfl
theorem u22 : Tryz.prog.underlying 22 = some (.slice 9) := by kernel_rfl
theorem u23 : Tryz.prog.underlying 23 = some (.slice 25) := by kernel_rfl

section
variable {H : Type} {enc : TypeId × Value → H} {W : World} {base : Nat} {sp : Nat → Bool} {held : Bool}
theorem list_of {α : Type} {p : Nat → α → Prop} : ∀ (n : Nat), (∀ i, i < n → ∃ r, p i r) → ∃ l : List α, l.length = n ∧ ∀ i r, l[i]? = some r → p i r
  | 0, _ => ⟨[], rfl, fun i r h => by simp at h⟩
  | n + 1, h => by
    obtain ⟨l, hl, hp⟩ := list_of n fun i hi => h i (by omega)
    obtain ⟨r, hr⟩ := h n (by omega)
    refine ⟨l ++ [r], by simp [hl], fun i x hx => ?_⟩
    rcases Nat.lt_or_ge i n with hi | hi
    · rw [List.getElem?_append_left (by omega)] at hx
      exact hp i x hx
    · rw [List.getElem?_append_right (by omega)] at hx
      have hi' : i - l.length = 0 := by
        rcases Nat.eq_zero_or_pos (i - l.length) with e | e
        · exact e
        · rw [List.getElem?_eq_none (by simp; omega)] at hx
          cases hx
      rw [hi'] at hx
      simp at hx
      subst hx
      obtain rfl : i = n := by omega
      exact hr
theorem cells_get {a : Addr} {n : Nat} {cs : List Value} (h : W.cells? base a n = some cs) : cs.length = n ∧ ∀ i, i < n → W.cell? (a.add i) = cs[i]? := by
  unfold World.cells? at h
  split at h
  · exact ⟨by simpa using mapM_some_length h, fun i hi => mapM_some_get h i i (by simp [hi])⟩
  · cases h
theorem spot_none {a : Addr} {v : Value} (h : W.cell? a = some v) : a.spot = none := by
  unfold World.cell? at h
  split at h
  · split at h
    · cases h
    · rename_i hs
      cases hsp : a.spot with
      | none => rfl
      | some x => simp [hsp] at hs
  · cases h
theorem bulk_pos (d : DataW H) : 1 ≤ Rows.uptoBulk d := by
  cases d with
  | lit l => cases l <;> simp [Rows.uptoBulk]
  | _ => simp [Rows.uptoBulk]
theorem bulkAll_at : ∀ {l : List (DataW H × List MemPlace)} {i : Nat} {y : DataW H × List MemPlace}, l[i]? = some y → Rows.uptoBulk y.1 ≤ Rows.uptoBulkAll (l.map (·.1))
  | x :: l, 0, y, h => by
    simp at h
    subst h
    simp only [List.map_cons, Rows.uptoBulkAll]
    omega
  | x :: l, i + 1, y, h => by
    simp at h
    have := bulkAll_at h
    simp only [List.map_cons, Rows.uptoBulkAll]
    omega
theorem bulkAll_len : ∀ (l : List (DataW H × List MemPlace)), l.length ≤ Rows.uptoBulkAll (l.map (·.1))
  | [] => Nat.zero_le _
  | x :: l => by
    have h1 := bulkAll_len l
    have h2 := bulk_pos x.1
    simp only [List.length_cons, List.map_cons, Rows.uptoBulkAll]
    omega
/-- A slice of texts. -/
theorem texts_of {fuel : Nat} {cs : List Value} {x : DataW H × List MemPlace} (h : DataW.trod enc Tryz.prog W base sp held fuel 22 cs = some x) :
    ∃ ks A c, cs = [.slice A ks.length c] ∧ RkO W ks (.slice A ks.length c) ∧ ks.length ≤ Rows.uptoBulk x.1 ∧ ∀ k ∈ ks, k.size ≤ Rows.uptoBulk x.1 := by
  rcases DataW.trod_slice u22 h with ⟨rfl, rfl⟩ | ⟨a, len, cap, elems, rest, n, rfl, rfl, rfl, hb, hlc, hcm, hel, hat, _⟩
  · exact ⟨[], none, 0, rfl, ⟨none, 0, rfl, Nat.le_refl _, fun h => absurd h (Nat.lt_irrefl _)⟩, Nat.zero_le _, fun k hk => by cases hk⟩
  · have hone : ∀ i, i < len → ∃ s : ByteArray, W.cell? (a.add i) = some (.string s) ∧ ∃ y, elems[i]? = some y ∧ y.1 = .lit (.string s.data.toList) := fun i hi => by
      have h1 := hat i hi
      rw [List.getElem?_eq_getElem (by omega)] at h1
      rw [c9, Nat.mul_one] at h1
      obtain ⟨cs, hcs, hy⟩ := Option.bind_eq_some_iff.1 h1
      obtain ⟨s, rfl, hx, _⟩ := DataW.trod_string u9 hy
      obtain ⟨_, hg⟩ := cells_get hcs
      have h2 := hg 0 (by omega)
      simp only [Addr.add, Nat.add_zero, List.getElem?_cons_zero] at h2
      exact ⟨s, h2, _, List.getElem?_eq_getElem (by omega), by rw [hx]⟩
    obtain ⟨ks, hkl, hks⟩ := list_of (p := fun i (s : ByteArray) => W.cell? (a.add i) = some (.string s) ∧ ∃ y, elems[i]? = some y ∧ y.1 = .lit (.string s.data.toList)) len hone
    refine ⟨ks, some a, cap, by rw [hkl], ⟨some a, cap, rfl, by omega, fun h0 => ?_⟩, ?_, ?_⟩
    · obtain ⟨k0, hk0⟩ : ∃ k0, ks[0]? = some k0 := ⟨_, List.getElem?_eq_getElem h0⟩
      have hsp := spot_none (hks 0 k0 hk0).1
      obtain ⟨g, off, spot⟩ := a
      simp only [Addr.add] at hsp
      subst hsp
      exact ⟨g, off, rfl, fun j s hj => by
        have := (hks j s hj).1
        rcases j with _ | j
        · simpa [Addr.add] using this
        · simpa [Addr.add] using this⟩
    · have := bulkAll_len elems
      simp only [Rows.uptoBulk]
      omega
    · intro k hk
      obtain ⟨i, hi, rfl⟩ := List.mem_iff_getElem.1 hk
      obtain ⟨_, y, hy, he⟩ := hks i _ (List.getElem?_eq_getElem hi)
      have h1 := bulkAll_at hy
      rw [he] at h1
      simp only [Rows.uptoBulk] at h1 ⊢
      have h2 : (ks[i].data.toList).length = ks[i].size := Array.length_toList
      omega
theorem rdRL_of {g off : Nat} : ∀ {l : List Raw} {j : Nat}, (∀ (i : Nat) (r : Raw), l[i]? = some r → ∃ v, RdR W r v ∧ ∀ m u, v.cells[m]? = some u → W.cell? ⟨g, off + (j + i) * 5 + m, none⟩ = some u) → RdRL W g off l j
  | [], _, _ => by simp only [RdRL]
  | r :: l, j, h => by
    simp only [RdRL]
    refine ⟨?_, rdRL_of (j := j + 1) fun i r hr => ?_⟩
    · obtain ⟨v, h1, h2⟩ := h 0 r rfl
      exact ⟨v, h1, h2⟩
    · obtain ⟨v, h1, h2⟩ := h (i + 1) r hr
      exact ⟨v, h1, by rw [show j + 1 + i = j + (i + 1) by omega]; exact h2⟩
theorem sizeL_of : ∀ {l : List Raw} {xs : List (DataW H × List MemPlace)}, l.length ≤ xs.length → (∀ (i : Nat) (r : Raw), l[i]? = some r → ∃ y : DataW H × List MemPlace, xs[i]? = some y ∧ Raw.size r ≤ Rows.uptoBulk y.1) → Raw.sizeL l ≤ Rows.uptoBulkAll (xs.map (·.1))
  | [], _, _, _ => by simp [Raw.sizeL]
  | r :: l, [], h, _ => by simp at h
  | r :: l, x :: xs, hl, h => by
    obtain ⟨y, hy, h1⟩ := h 0 r rfl
    simp at hy
    subst hy
    have ih := sizeL_of (l := l) (xs := xs) (by simpa using hl) fun i r hr => h (i + 1) r hr
    simp only [Raw.sizeL, List.map_cons, Rows.uptoBulkAll]
    omega
/-- A Val. -/
theorem raw_of : ∀ (fuel : Nat) (cs : List Value) (x : DataW H × List MemPlace), DataW.trod enc Tryz.prog W base sp held fuel 25 cs = some x →
    ∃ r v, v.cells.toList = cs ∧ RdR W r v ∧ Raw.size r ≤ Rows.uptoBulk x.1 ∧ WFR (Rows.uptoBulk x.1) r := by
  intro fuel
  induction fuel using Nat.strongRecOn with
  | _ fuel0 ih =>
    intro cs x h
    obtain ⟨fs, hu, hsz, hf⟩ := fields_open fVal
    obtain ⟨xs, fuel, e, rfl, hcl, hxl, hat⟩ := DataW.trod_struct hu h
    rw [c25] at hcl
    obtain ⟨a, b, c, d, e, rfl⟩ : ∃ a b c d e, cs = [a, b, c, d, e] := by
      rcases cs with _ | ⟨a, _ | ⟨b, _ | ⟨c, _ | ⟨d, _ | ⟨e, _ | ⟨f, cs⟩⟩⟩⟩⟩⟩
      all_goals first | exact ⟨_, _, _, _, _, rfl⟩ | simp at hcl
    have hxl : xs.length = 5 := hxl.trans hsz
    obtain ⟨x0, x1, x2, x3, x4, rfl⟩ : ∃ a b c d e, xs = [a, b, c, d, e] := by
      rcases xs with _ | ⟨a, _ | ⟨b, _ | ⟨c, _ | ⟨d, _ | ⟨e, _ | ⟨f, cs⟩⟩⟩⟩⟩⟩
      all_goals first | exact ⟨_, _, _, _, _, rfl⟩ | simp at hxl
    have get : ∀ (i : Nat) ty off, [(3, 0), (3, 1), (9, 2), (22, 3), (23, 4)][i]? = some (ty, off) → DataW.trod enc Tryz.prog W base sp held fuel ty (([a, b, c, d, e].drop off).take (Tryz.prog.cellsOf ty)) = [x0, x1, x2, x3, x4][i]? := fun i ty off hi => by
      obtain ⟨f, hfi, rfl, rfl⟩ := hf i ty off hi
      exact hat i f hfi
    have g0 := get 0 _ _ rfl
    have g1 := get 1 _ _ rfl
    have g2 := get 2 _ _ rfl
    have g3 := get 3 _ _ rfl
    have g4 := get 4 _ _ rfl
    rw [c3] at g0 g1
    rw [c9] at g2
    rw [c22] at g3
    rw [c23] at g4
    simp only [List.drop, List.take, List.getElem?_cons_zero, List.getElem?_cons_succ] at g0 g1 g2 g3 g4
    obtain ⟨kn, h0, e0, _⟩ := DataW.trod_int u3 g0
    obtain ⟨nn, h1, e1, _⟩ := DataW.trod_int u3 g1
    obtain ⟨st, h2, e2, _⟩ := DataW.trod_string u9 g2
    obtain ⟨ks, A, ca, h3, hk, hkl, hks⟩ := texts_of g3
    cases h0
    cases h1
    cases h2
    cases h3
    have hb : Rows.uptoBulk (DataW.agg ([x0, x1, x2, x3, x4].map (·.1))) = Rows.uptoBulk x0.1 + (Rows.uptoBulk x1.1 + (Rows.uptoBulk x2.1 + (Rows.uptoBulk x3.1 + (Rows.uptoBulk x4.1 + 0)))) + 1 := rfl
    have hst : st.size ≤ Rows.uptoBulk x2.1 := by
      rw [e2]
      simp only [Rows.uptoBulk]
      have h2 : (st.data.toList).length = st.size := Array.length_toList
      omega
    simp only [hb]
    rcases DataW.trod_slice u23 g4 with ⟨h4, hx4⟩ | ⟨ad, len, cap, elems, rest, n2, hn2, h4, hx4, hbb, hlc, hcm, hel, hat4, _⟩
    · cases h4
      refine ⟨.mk kn nn st ks [], .agg #[.int .i64 kn, .int .i64 nn, .string st, .slice A ks.length ca, .slice none 0 0], rfl, ?_, ?_, ?_⟩
      · simp only [RdR]
        exact ⟨_, none, 0, rfl, hk, Nat.le_refl _, fun h => absurd h (Nat.lt_irrefl _)⟩
      · simp only [Raw.size, Raw.sizeL]
        omega
      · simp only [WFR, WFRL]
        exact ⟨by omega, by omega, Nat.zero_le _, fun k hk' => by have := hks k hk'; omega, trivial⟩
    · cases h4
      have hone : ∀ i, i < len → ∃ r : Raw, ∃ y v, elems[i]? = some y ∧ RdR W r v ∧ Raw.size r ≤ Rows.uptoBulk y.1 ∧ WFR (Rows.uptoBulk y.1) r ∧ v.cells.toList.length = 5 ∧ ∀ m, m < 5 → W.cell? ((ad.add (i * 5)).add m) = v.cells.toList[m]? := fun i hi => by
        have h1 := hat4 i hi
        rw [List.getElem?_eq_getElem (by omega)] at h1
        rw [c25] at h1
        obtain ⟨cs, hcs, hy⟩ := Option.bind_eq_some_iff.1 h1
        obtain ⟨hcl5, hg⟩ := cells_get hcs
        obtain ⟨r, v, hv, hr, hs, hw⟩ := ih n2 (by omega) cs _ hy
        exact ⟨r, _, v, List.getElem?_eq_getElem (by omega), hr, hs, hw, by rw [hv]; exact hcl5, fun m hm => by rw [hv]; exact hg m hm⟩
      obtain ⟨vs, hvl, hvs⟩ := list_of (p := fun i (r : Raw) => ∃ (y : DataW H × List MemPlace) (v : Value), elems[i]? = some y ∧ RdR W r v ∧ Raw.size r ≤ Rows.uptoBulk y.1 ∧ WFR (Rows.uptoBulk y.1) r ∧ v.cells.toList.length = 5 ∧ ∀ m, m < 5 → W.cell? ((ad.add (i * 5)).add m) = v.cells.toList[m]?) len hone
      have hb4 : Rows.uptoBulk x4.1 = Rows.uptoBulkAll (elems.map (·.1)) + Rows.uptoBulkAll (rest.map (·.1)) + 1 := by
        rw [hx4]
        simp only [Rows.uptoBulk]
      have hsl := sizeL_of (l := vs) (xs := elems) (by omega) fun i r hr => by
        obtain ⟨y, v, h1, _, h3, _⟩ := hvs i r hr
        exact ⟨y, h1, h3⟩
      have hel2 := bulkAll_len elems
      refine ⟨.mk kn nn st ks vs, .agg #[.int .i64 kn, .int .i64 nn, .string st, .slice A ks.length ca, .slice (some ad) vs.length cap], by rw [hvl]; rfl, ?_, ?_, ?_⟩
      · simp only [RdR]
        refine ⟨_, some ad, cap, rfl, hk, by omega, fun h0 => ?_⟩
        obtain ⟨r0, hr0⟩ : ∃ r0, vs[0]? = some r0 := ⟨_, List.getElem?_eq_getElem h0⟩
        obtain ⟨y, v, _, _, _, _, hl5, hc⟩ := hvs 0 r0 hr0
        have hc0 := hc 0 (by omega)
        rw [List.getElem?_eq_getElem (by omega)] at hc0
        have hsp := spot_none hc0
        obtain ⟨g, off, spot⟩ := ad
        have hsp : spot = none := by simpa [Addr.add] using hsp
        subst hsp
        refine ⟨g, off, rfl, rdRL_of fun i r hr => ?_⟩
        obtain ⟨y, v, _, hrr, _, _, hl5, hc⟩ := hvs i r hr
        refine ⟨v, hrr, fun m u hu => ?_⟩
        have hm : m < 5 := by
          have := (Array.getElem?_eq_some_iff.1 hu).1
          rw [Array.length_toList] at hl5
          omega
        have h1 := hc m hm
        rw [Array.getElem?_toList, hu] at h1
        rw [← h1]
        simp only [Addr.add]
        split <;> split <;> simp_all
      · simp only [Raw.size]
        omega
      · simp only [WFR]
        refine ⟨by omega, by omega, by omega, fun k hk' => by have := hks k hk'; omega, WFRL_iff.2 fun r hr => ?_⟩
        obtain ⟨i, hi, rfl⟩ := List.mem_iff_getElem.1 hr
        obtain ⟨y, v, h1, _, _, hw, _⟩ := hvs i _ (List.getElem?_eq_getElem hi)
        have := bulkAll_at h1
        exact WFR.mono (by omega) hw
/-- A slice of pairs of texts. -/
theorem pairs_of {fuel : Nat} {cs : List Value} {x : DataW H × List MemPlace} (h : DataW.trod enc Tryz.prog W base sp held fuel 26 cs = some x) :
    ∃ v n, v.cells.toList = cs ∧ RdP (fun _ => True) W n v ∧ n ≤ Rows.uptoBulk x.1 ∧ ∃ A c, v = .slice A n c := by
  rcases DataW.trod_slice u26 h with ⟨rfl, rfl⟩ | ⟨a, len, cap, elems, rest, n, rfl, rfl, rfl, hb, hlc, hcm, hel, hat, _⟩
  · exact ⟨.slice none 0 0, 0, rfl, ⟨none, 0, rfl, Nat.le_refl _, fun h => absurd h (Nat.lt_irrefl _)⟩, Nat.zero_le _, _, _, rfl⟩
  · obtain ⟨fs, hu, hsz, hf⟩ := fields_open fPair
    have hone : ∀ i, i < len → ∃ s s' : ByteArray, W.cell? ((a.add (i * 2)).add 0) = some (.string s) ∧ W.cell? ((a.add (i * 2)).add 1) = some (.string s') := fun i hi => by
      have h1 := hat i hi
      rw [List.getElem?_eq_getElem (by omega)] at h1
      rw [c52] at h1
      obtain ⟨cs, hcs, hy⟩ := Option.bind_eq_some_iff.1 h1
      obtain ⟨hcl, hg⟩ := cells_get hcs
      obtain ⟨xs, n2, e, _, hcl2, hxl, hat2⟩ := DataW.trod_struct hu hy
      obtain ⟨p, q, rfl⟩ : ∃ p q, cs = [p, q] := by
        rcases cs with _ | ⟨p, _ | ⟨q, _ | ⟨f, cs⟩⟩⟩
        all_goals first | exact ⟨_, _, rfl⟩ | simp at hcl
      have hxl : xs.length = 2 := hxl.trans hsz
      obtain ⟨x0, x1, rfl⟩ : ∃ a b, xs = [a, b] := by
        rcases xs with _ | ⟨p, _ | ⟨q, _ | ⟨f, cs⟩⟩⟩
        all_goals first | exact ⟨_, _, rfl⟩ | simp at hxl
      obtain ⟨f0, hf0, ht0, ho0⟩ := hf 0 _ _ rfl
      obtain ⟨f1, hf1, ht1, ho1⟩ := hf 1 _ _ rfl
      have g0 := hat2 0 f0 hf0
      have g1 := hat2 1 f1 hf1
      rw [ht0, ho0, c9] at g0
      rw [ht1, ho1, c9] at g1
      simp only [List.drop, List.take, List.getElem?_cons_zero, List.getElem?_cons_succ] at g0 g1
      obtain ⟨s, h0, _, _⟩ := DataW.trod_string u9 g0
      obtain ⟨s', h1', _, _⟩ := DataW.trod_string u9 g1
      cases h0
      cases h1'
      exact ⟨s, s', hg 0 (by omega), hg 1 (by omega)⟩
    refine ⟨.slice (some a) len cap, len, rfl, ⟨some a, cap, rfl, hlc, fun h0 => ?_⟩, ?_, _, _, rfl⟩
    · obtain ⟨s, s', h1, _⟩ := hone 0 h0
      have hsp := spot_none h1
      obtain ⟨g, off, spot⟩ := a
      have hsp : spot = none := by simpa [Addr.add] using hsp
      subst hsp
      refine ⟨g, off, rfl, trivial, fun j hj => ?_⟩
      obtain ⟨s, s', h1, h2⟩ := hone j hj
      refine ⟨s, s', ?_, ?_⟩
      · rw [← h1]
        rcases j with _ | j <;> simp [Addr.add]
      · rw [← h2]
        rcases j with _ | j <;> simp [Addr.add]
    · have := bulkAll_len elems
      simp only [Rows.uptoBulk]
      omega
end
end Go.Proofs.YtedbfoknfdiadaaGreatDoor
