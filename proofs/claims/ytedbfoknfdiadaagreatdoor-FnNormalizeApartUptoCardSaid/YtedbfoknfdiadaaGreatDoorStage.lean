/- What loader.Normalize's stages ask, of a model of the reference: plain law. Conditions: lengths. -/
import Derived.Test.YtedbfoknfdiadaaGreatDoorPlain
import Derived.Test.YtedbfoknfdiadaaGreatDoorDepsC
set_option linter.unusedVariables false
set_option linter.unusedSimpArgs false
namespace Go.Proofs.YtedbfoknfdiadaaGreatDoor

theorem WF.len {B : Nat} {l : List T} (h : T.size (.list l) ≤ B) : l.length ≤ B := by
  have := sizeL_len' l
  simp only [T.size] at h
  omega
theorem lnkOK_of {k : ByteArray} {s : List (ByteArray × T)} (hf : Fine (.map s)) (h : ∀ t, mget k s = some t → ∃ l, t = .list l ∧ ∀ x ∈ l, ∃ a, x = .text a ∧ part0 a ≠ kContainer ∧ cnt a a.size ≤ 1) : LnkOK k s where
  all t ht := by
    obtain ⟨l, rfl, hl⟩ := h t ht
    have hfl : Fine (.list l) := hf.get (t := .map s) ht
    refine ⟨l, rfl, WF.len hfl.size, fun x hx => ?_⟩
    obtain ⟨a, rfl, h1, h2⟩ := hl x hx
    exact ⟨a, rfl, (hfl.vals hx).txt, h1, h2⟩
theorem depQ_of {s : List (ByteArray × T)} (hf : Fine (.map s)) (h : SvcOK s) : DepQ (netsOf s) where
  srt := netsOf_srt h.srt
  dep t ht := h.dep t ((netsOf_get (by decide)).symm.trans ht)
  mode t ht := by
    rw [netsOf_get (by decide)] at ht
    obtain ⟨x, rfl⟩ := h.mode t ht
    exact ⟨x, rfl, (hf.get (t := .map s) ht).txt⟩
  link := ⟨fun t ht => (lnkOK_of hf h.link).all t ((netsOf_get (by decide)).symm.trans ht)⟩
  from_ := ⟨fun t ht => (lnkOK_of hf h.from_).all t ((netsOf_get (by decide)).symm.trans ht)⟩
  ban k hk := by
    have hne : k ≠ kNetworks := fun e => by
      subst e
      revert hk
      decide
    rw [netsOf_get hne]
    exact h.ban k hk
theorem stage_of {m : List (ByteArray × T)} (h : ModelOK m) (hf : Fine (.map m)) : StageOK (netsP m) (prj m) where
  srt := netsP_srt h.srt
  svc := by
    obtain ⟨l, hl, hsl, hsv⟩ := h.svc
    have hsvl : svcs m = l := svcs_of hl
    refine ⟨_, netsP_svc, srt_onS (by rw [hsvl]; exact hsl), fun q hq => ?_⟩
    rw [hsvl] at hq
    obtain ⟨p, hp, rfl⟩ := List.mem_map.1 hq
    obtain ⟨s, hps, hok⟩ := hsv p hp
    have hm : p.2.m = s := by rw [hps]; rfl
    have hfl : Fine (.map l) := hf.get (t := .map m) hl
    have hfs : Fine (.map s) := hps ▸ hfl.vals (List.mem_map.2 ⟨p, hp, rfl⟩)
    exact ⟨netsOf p.2.m, rfl, by rw [hm]; exact depQ_of hfs hok⟩
  job := (netsP_ne (by decide) (by decide)).trans h.job
  name := by
    obtain ⟨p, hp⟩ := h.name
    rw [netsP_ne (by decide) (by decide), hp]
    unfold prj
    rw [hp]
  psz := prj_wf hf.wf
  top k hk := by
    simp only [tops, List.mem_cons, List.not_mem_nil, or_false] at hk
    rcases hk with rfl | rfl | rfl | rfl
    · intro t ht
      rw [netsP_net] at ht
      by_cases hn : nets1 m = []
      · rw [if_pos hn] at ht
        exact h.net t ht
      · rw [if_neg hn] at ht
        cases ht
        have := nets1_ok h
        exact ⟨_, rfl, this.1, this.2⟩
    · intro t ht
      rw [netsP_ne (by decide) (by decide)] at ht
      exact h.vol t ht
    · intro t ht
      rw [netsP_ne (by decide) (by decide), h.cfg] at ht
      cases ht
    · intro t ht
      rw [netsP_ne (by decide) (by decide), h.sec] at ht
      cases ht
  key k hk tl ht q hq := (WFM_iff.1 ((netsP_wf (by decide) hf.wf).of_get ht).2 q hq).1
end Go.Proofs.YtedbfoknfdiadaaGreatDoor
