/- What the loops of spec.Normalize and of the statement's own normBare come to: plain law. No condition. -/
import Derived.Test.YtedbfoknfdiadaaGreatDoorPlain
import Derived.Test.YtedbfoknfdiadaaGreatDoorSaid
import Derived.Test.YtedbfoknfdiadaaGreatDoorNets
set_option linter.unusedVariables false
set_option linter.unusedSimpArgs false
namespace Go.Proofs.YtedbfoknfdiadaaGreatDoor

/-! ### spec.Normalize -/
def svcF (_ : ByteArray) (t : T) : T := .map (svcS t.m)
def netN (m : List (ByteArray × T)) (n : Nat) : List (ByteArray × T) := if ((svcs m).take n).any (fun p => hasDef (netsOf p.2.m)) && !hasK kDefault (nets0 m) then mins kDefault .null (nets0 m) else nets0 m
theorem netN_zero {m : List (ByteArray × T)} : netN m 0 = nets0 m := by simp [netN]
theorem netN_all {m : List (ByteArray × T)} {n : Nat} (h : n = (svcs m).length) : netN m n = nets1 m := by
  subst h
  unfold netN nets1
  rw [List.take_length]
theorem hasDef_svcS {s : List (ByteArray × T)} : hasDef (svcS s) = hasDef (netsOf s) := by
  have h : ∀ s' : List (ByteArray × T), mget kNetworkMode s' = mget kNetworkMode s → mget kNetworks s' = mget kNetworks s → hasDef (netsOf s') = hasDef (netsOf s) := fun s' h1 h2 => by
    unfold hasDef netsOf
    rw [hasK_of_get h1, hasK_of_get h2]
    by_cases hc : (hasK kNetworkMode s || hasK kNetworks s) = true
    · rw [if_pos hc, if_pos hc, h2]
    · rw [if_neg hc, if_neg hc, get_ins, get_ins]
  unfold svcS
  split
  · rfl
  · exact h _ (get_ins_ne (by decide)) (get_ins_ne (by decide))
theorem netN_step {m : List (ByteArray × T)} {n : Nat} {k : ByteArray} {t : T} (h : (svcs m)[n]? = some (k, t)) :
    netN m (n + 1) = if hasDef (svcS t.m) && !hasK kDefault (netN m n) then mins kDefault .null (netN m n) else netN m n := by
  unfold netN
  rw [take_snoc h, List.any_append, hasDef_svcS]
  simp only [List.any_cons, List.any_nil, Bool.or_false]
  cases ha : ((svcs m).take n).any (fun p => hasDef (netsOf p.2.m)) <;> cases hb : hasDef (netsOf t.m) <;> cases hc : hasK kDefault (nets0 m) <;> simp [hc, hasK_ins]
theorem svcF_all {l : List (ByteArray × T)} {n : Nat} (h : n = l.length) : mapTo svcF l n = onS svcS l := by
  subst h
  rw [mapTo_all]
  rfl
/-- Has at 'default' of what Get gives of a service's networks. -/
theorem hasDef_get {s : List (ByteArray × T)} : (tget kDefault ((tget kNetworks (.map s)).getD .null)).isSome = hasDef s := by
  unfold hasDef
  rw [show tget kNetworks (.map s) = mget kNetworks s from rfl]
  cases hg : mget kNetworks s with
  | none => rfl
  | some t => cases t <;> rfl
theorem netN_len {m : List (ByteArray × T)} {n : Nat} : (netN m n).length ≤ (nets0 m).length + 1 := by
  unfold netN
  split
  · exact ins_len_le
  · omega
theorem netN_srt {m : List (ByteArray × T)} {n : Nat} (h : Srt (nets0 m)) : Srt (netN m n) := by
  unfold netN
  split
  · exact h.srt_ins
  · exact h
theorem norm_out {m : List (ByteArray × T)} (h : ModelOK m) :
    normS m = (match mget kVolumes m with
      | some t => mins kVolumes (.map (named (prj m) t.m)) (normS2 m)
      | none => normS2 m) := by
  unfold normS
  cases hg : mget kVolumes m with
  | none => rfl
  | some t =>
    obtain ⟨tl, rfl, _⟩ := h.vol t hg
    rfl

/-! ### normBare -/
def ownD (was : List (ByteArray × T)) (k : ByteArray) : List (ByteArray × T) := dep0 ((mget k (svcs was)).getD .null).m
/-- What the statement's normBare asks of what it is given. -/
def BareOK (was v : List (ByteArray × T)) : Prop := ∀ q ∈ svcs v, ∃ s, q.2 = .map s ∧ Srt s ∧ ∀ t, mget kDependsOn s = some t → ∃ d, t = .map d ∧ Srt d ∧ ∀ p ∈ d, hasK p.1 (ownD was q.1) = false → ∃ r, p.2 = impP r
def bareF (was : List (ByteArray × T)) (k : ByteArray) (t : T) : T := .map (bareS (((mget k (svcs was)).getD .null).m) t.m)
def needF (own : List (ByteArray × T)) (k : ByteArray) (t : T) : T := if hasK k own then t else without t
theorem bareTop_eq {was v : List (ByteArray × T)} {n : Nat} (h : n = (svcs v).length) : bareTop was v = mins kServices (.map (mapTo (bareF was) (svcs v) n)) v := by
  subst h
  rw [mapTo_all]
  rfl
theorem bareD_eq {own d : List (ByteArray × T)} {n : Nat} (h : n = d.length) : bareD own d = mapTo (needF own) d n := by
  subst h
  rw [mapTo_all]
  rfl
theorem bareF_none {was : List (ByteArray × T)} {k : ByteArray} {s : List (ByteArray × T)} (h : mget kDependsOn s = none) : bareF was k (.map s) = .map s := by
  unfold bareF bareS
  simp only [T.m]
  rw [h]
theorem bareF_some {was : List (ByteArray × T)} {k : ByteArray} {s d : List (ByteArray × T)} (h : mget kDependsOn s = some (.map d)) : bareF was k (.map s) = .map (mins kDependsOn (.map (bareD (ownD was k) d)) s) := by
  unfold bareF bareS
  simp only [T.m]
  rw [h]
  rfl
theorem own_get {was : List (ByteArray × T)} {k : ByteArray} {y : ByteArray} : (tget y ((tget kDependsOn ((tget k ((tget kServices (.map was)).getD .null)).getD .null)).getD .null)).isSome = hasK y (ownD was k) := by
  unfold ownD hasK
  have h1 : tget k ((tget kServices (.map was)).getD .null) = mget k (svcs was) := by
    unfold svcs
    rw [show tget kServices (.map was) = mget kServices was from rfl]
    cases hg : mget kServices was with
    | none => rfl
    | some t => cases t <;> rfl
  rw [h1]
  generalize (mget k (svcs was)).getD .null = b
  unfold dep0
  rw [← tget_m]
  cases hg : tget kDependsOn b with
  | none => rfl
  | some t => cases t <;> rfl
theorem depsP_imp {s : List (ByteArray × T)} (hs : Srt (dep0 s)) : ∀ p ∈ depsP s, hasK p.1 (dep0 s) = false → ∃ r, p.2 = impP r := by
  intro p hp hk
  have hsd := (deps_srt (m := s) hs).1
  have hg := get_of_srt hsd (k := p.1) (x := p.2) hp
  simp only [depsP, needs_get, needs_has, hk, Bool.false_or] at hg
  by_cases h1 : p.1 ∈ lnk kLinks s
  · simp [h1] at hg
    exact ⟨true, hg.symm⟩
  · by_cases h2 : p.1 ∈ nmode s
    · simp [h1, h2] at hg
      exact ⟨true, hg.symm⟩
    · by_cases h3 : p.1 ∈ lnk kVolumesFrom s
      · simp [h1, h2, h3] at hg
        exact ⟨false, hg.symm⟩
      · simp [h1, h2, h3] at hg
theorem bare_norm {m : List (ByteArray × T)} (h : ModelOK m) : BareOK m (normP m) := by
  obtain ⟨l, hl, hsl, hsv⟩ := h.svc
  have hsvl : svcs m = l := svcs_of hl
  intro q hq
  rw [svcs_normP, hsvl] at hq
  obtain ⟨p, hp, rfl⟩ := List.mem_map.1 hq
  obtain ⟨s, hps, hok⟩ := hsv p hp
  have hm : p.2.m = s := by rw [hps]; rfl
  refine ⟨svcP p.2.m, rfl, svcP_srt (by rw [hm]; exact hok.srt), fun t ht => ?_⟩
  have hown : ownD m p.1 = dep0 s := by
    unfold ownD
    rw [hsvl, get_of_srt hsl (k := p.1) (x := p.2) hp]
    simp only [Option.getD_some, hm]
  rw [hm] at ht
  have hsd := dep0_srt hok
  rw [svcP_dep] at ht
  by_cases hd : depsP s = []
  · rw [if_pos hd] at ht
    obtain ⟨d, rfl, hd1, hd2⟩ := hok.dep t ht
    refine ⟨d, rfl, hd2, fun y hy hk => ?_⟩
    have hdd : dep0 s = d := by unfold dep0; rw [ht]
    rw [hown, hdd] at hk
    have := hasK_mem.2 (List.mem_map.2 ⟨y, hy, rfl⟩)
    rw [hk] at this
    cases this
  · rw [if_neg hd] at ht
    cases ht
    refine ⟨depsP s, rfl, (deps_srt hsd).1, fun y hy hk => ?_⟩
    rw [hown] at hk
    exact depsP_imp hsd y hy hk
end Go.Proofs.YtedbfoknfdiadaaGreatDoor
