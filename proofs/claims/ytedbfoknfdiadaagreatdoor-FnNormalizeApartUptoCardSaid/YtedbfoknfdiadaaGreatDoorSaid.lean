/- What the reference's yes says of a model: plain law. No condition. -/
import Derived.Test.YtedbfoknfdiadaaGreatDoorService
import Derived.Test.YtedbfoknfdiadaaGreatDoorModel
set_option linter.unusedVariables false
set_option linter.unusedSimpArgs false
namespace Go.Proofs.YtedbfoknfdiadaaGreatDoor
open Go.RowKit
set_option maxRecDepth 100000

/-- The number of a key. -/
theorem get_idx {k : ByteArray} {x : T} {m : List (ByteArray × T)} (h : mget k m = some x) : ∃ j, j < (T.map m).keys.length ∧ (T.map m).keys[j]? = some k ∧ (T.map m).vals[j]? = some x := by
  obtain ⟨j, hj, e⟩ := List.mem_iff_getElem.1 (get_some h)
  refine ⟨j, by simp [T.keys, hj], ?_, ?_⟩
  · simp [T.keys, List.getElem?_eq_getElem hj, e]
  · simp [T.vals, List.getElem?_eq_getElem hj, e]
theorem kind_map {t : T} (h : t.kind = 5) : ∃ m, t = .map m := by
  cases t <;> first | exact ⟨_, rfl⟩ | cases h
theorem kind_text {t : T} (h : t.kind = 3) : ∃ s, t = .text s := by
  cases t <;> first | exact ⟨_, rfl⟩ | cases h
theorem kind_bool {t : T} (h : t.kind = 1) : ∃ b, t = .bool b := by
  cases t <;> first | exact ⟨_, rfl⟩ | cases h
theorem kind_null {t : T} (h : t.kind = 0) : t = .null := by
  cases t <;> first | rfl | cases h
theorem ban_no {k : ByteArray} (hk : k ∈ bans) (h : KeyOK k) : False := by
  simp only [bans, List.mem_cons, List.not_mem_nil, or_false] at hk
  rcases hk with rfl | rfl | rfl | rfl | rfl | rfl | rfl | rfl | rfl | rfl
  all_goals
    rcases h with h | h | h | ⟨h1, h2⟩
    · revert h
      decide
    · revert h
      decide
    · revert h
      decide
    · first
        | (revert h1; decide)
        | (revert h2; decide +kernel)
theorem svcOK_of {B : Nat} {s : List (ByteArray × T)} (hw : WF B (.map s)) (hk : KeysTo (.map s) (T.map s).keys.length) (hn : NeedsOK s) : SvcOK s where
  srt := hw.1
  dep t ht := by
    obtain ⟨d, rfl, hd⟩ := hn.dep t ht
    exact ⟨d, rfl, hd, (hw.of_get ht).1⟩
  net t ht := by
    obtain ⟨j, hj, h1, h2⟩ := get_idx ht
    obtain ⟨h5, h0⟩ := (hk j hj _ _ h1 h2).2 rfl
    obtain ⟨n, rfl⟩ := kind_map h5
    refine ⟨n, rfl, fun e => ?_, (hw.of_get ht).1⟩
    subst e
    simp [T.keys] at h0
  mode t ht := (hn.mode t ht).1
  both hm := by
    cases hg : mget kNetworkMode s with
    | none => rw [hasK, hg] at hm; cases hm
    | some t => exact (hn.mode t hg).2
  link := hn.link
  from_ := hn.from_
  ban k hkb := by
    cases hg : mget k s with
    | none => rfl
    | some x =>
      obtain ⟨j, hj, h1, h2⟩ := get_idx hg
      exact (ban_no hkb (hk j hj _ _ h1 h2).1).elim
theorem topOK_of {B : Nat} {m : List (ByteArray × T)} {k : ByteArray} (hw : WF B (.map m)) (h : ∀ t, mget k m = some t → t.kind = 5 ∧ ResAt t t.keys.length) : TopOK m k := by
  intro t ht
  obtain ⟨h5, hr⟩ := h t ht
  obtain ⟨tl, rfl⟩ := kind_map h5
  have hwt := hw.of_get ht
  refine ⟨tl, rfl, hwt.1, fun q hq => ?_⟩
  obtain ⟨j, hj, e⟩ := List.mem_iff_getElem.1 hq
  have hv : (T.map tl).vals[j]? = some q.2 := by simp [T.vals, List.getElem?_eq_getElem hj, e]
  rcases hr j (by simp [T.keys, hj]) q.2 hv with h0 | ⟨h5', hkn⟩
  · rw [kind_null h0]
    trivial
  · obtain ⟨r, hr⟩ := kind_map h5'
    rw [hr] at hkn ⊢
    have hwr : WF B (.map r) := by
      have := (WFM_iff.1 hwt.2 q hq).2
      rwa [hr] at this
    refine ⟨hwr.1, fun y hy => ?_, fun y hy => ?_⟩
    · obtain ⟨i, hi, h1, h2⟩ := get_idx hy
      rcases hkn i hi _ _ h1 h2 with ⟨_, h3⟩ | ⟨h3, _⟩
      · exact kind_text h3
      · exfalso
        revert h3
        decide
    · obtain ⟨i, hi, h1, h2⟩ := get_idx hy
      rcases hkn i hi _ _ h1 h2 with ⟨h3, _⟩ | ⟨_, h3⟩
      · exfalso
        revert h3
        decide
      · exact kind_bool h3
theorem top_get {m : List (ByteArray × T)} (h : TopAt (.map m) (T.map m).keys.length) {k : ByteArray} {x : T} (hg : mget k m = some x) : TopQ k x := by
  obtain ⟨j, hj, h1, h2⟩ := get_idx hg
  exact h j hj _ _ h1 h2
theorem modelOK_of {B : Nat} {m : List (ByteArray × T)} (hw : WF B (.map m)) (ht : TopAt (.map m) (T.map m).keys.length) (hn : (tget kName (.map m)).isSome = true) (hs : (tget kServices (.map m)).isSome = true)
    (hall : ∀ q ∈ svcs m, ∃ s, q.2 = .map s ∧ SvcOK s) : ModelOK m where
  srt := hw.1
  name := by
    obtain ⟨x, hx⟩ := Option.isSome_iff_exists.1 hn
    have hx : mget kName m = some x := hx
    rcases top_get ht hx with ⟨_, h⟩ | ⟨h, _⟩ | ⟨h, _⟩
    · obtain ⟨s, rfl⟩ := kind_text h
      exact ⟨s, hx⟩
    · exfalso
      revert h
      decide
    · exfalso
      revert h
      decide
  svc := by
    obtain ⟨x, hx⟩ := Option.isSome_iff_exists.1 hs
    have hx : mget kServices m = some x := hx
    rcases top_get ht hx with ⟨h, _⟩ | ⟨_, h⟩ | ⟨h, _⟩
    · exfalso
      revert h
      decide
    · obtain ⟨l, rfl⟩ := kind_map h
      rw [svcs_of hx] at hall
      exact ⟨l, hx, (hw.of_get hx).1, hall⟩
    · exfalso
      revert h
      decide
  net := topOK_of hw fun t hg => by
    rcases top_get ht hg with ⟨h, _⟩ | ⟨h, _⟩ | ⟨_, h⟩
    · exfalso
      revert h
      decide
    · exfalso
      revert h
      decide
    · exact h
  vol := topOK_of hw fun t hg => by
    rcases top_get ht hg with ⟨h, _⟩ | ⟨h, _⟩ | ⟨_, h⟩
    · exfalso
      revert h
      decide
    · exfalso
      revert h
      decide
    · exact h
  cfg := by
    cases hg : mget kConfigs m with
    | none => rfl
    | some x =>
      rcases top_get ht hg with ⟨h, _⟩ | ⟨h, _⟩ | ⟨h, _⟩
      all_goals
        exfalso
        revert h
        decide
  sec := by
    cases hg : mget kSecrets m with
    | none => rfl
    | some x =>
      rcases top_get ht hg with ⟨h, _⟩ | ⟨h, _⟩ | ⟨h, _⟩
      all_goals
        exfalso
        revert h
        decide
  job := by
    cases hg : mget kJobs m with
    | none => rfl
    | some x =>
      rcases top_get ht hg with ⟨h, _⟩ | ⟨h, _⟩ | ⟨h, _⟩
      all_goals
        exfalso
        revert h
        decide
end Go.Proofs.YtedbfoknfdiadaaGreatDoor
