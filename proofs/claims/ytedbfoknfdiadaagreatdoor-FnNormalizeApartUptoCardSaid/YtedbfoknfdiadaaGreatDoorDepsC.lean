/- A container and what it depends on, under way in loader.Normalize: two maps of one tree, or of two. No condition. Texts ahead of a colon, lists of texts in memory, what loader.Normalize asks of its second stage. No condition. A container under way in loader.Normalize: its lists, an implied dependency, its end. No condition. -/
import Derived.Test.YtedbfoknfdiadaaGreatDoorNets
set_option linter.unusedVariables false
set_option linter.unusedSimpArgs false
namespace Go.Proofs.YtedbfoknfdiadaaGreatDoor
open Go.RowKit
variable {o : Nat → Prop}
set_option maxRecDepth 100000

/-- A value of the program's type map[string]any. -/
abbrev vM (b : Nat) : Value := .iface 63 (.map (some b))
def DS (w2 : World) (F2 : List Nat) (bv bd : Nat) (ks : List (ByteArray × Value)) (s d : List (ByteArray × T)) (w : World) : Prop :=
  ∃ Fd Fr, MapAt w bv ks ∧ OwnM w (mrem kDependsOn s) ks Fr ∧ Own w (.map d) (vM bd) Fd ∧ (bv :: (Fd ++ Fr)).Nodup ∧ Chg F2 w2 w ∧ New w2 F2 (bv :: (Fd ++ Fr)) ∧
    ks.length = s.length ∧ (∀ y, y ∈ ks.map (·.1) ↔ y ∈ s.map (·.1))
section
variable {w2 w w' : World} {F2 : List Nat} {bv bd : Nat} {ks : List (ByteArray × Value)} {s d : List (ByteArray × T)}
theorem DS.start_some (h : Own w2 (.map s) (vM bv) F2) (hn : F2.Nodup) (hs : Srt s) (hg : mget kDependsOn s = some (.map d)) :
    ∃ ks bd, MapAt w2 bv ks ∧ mlook kDependsOn ks = some (vM bd) ∧ DS w2 F2 bv bd ks s d w2 := by
  obtain ⟨ks, F', hm, hl, ho, rfl⟩ := h.mapAt
  obtain ⟨v, F1, Fr, hlk, h1, hr, hp⟩ := ho.take hs.nodup hg
  obtain ⟨bd, rfl⟩ := h1.block
  have hp' : (bv :: F').Perm (bv :: (F1 ++ Fr)) := hp.cons bv
  exact ⟨ks, bd, hm, hlk, F1, Fr, hm, hr, h1, hp'.nodup hn, Chg.refl _ _, fun x hx => .inl (hp'.mem_iff.2 hx), hl, ho.keys hs.nodup hm.nodup hl⟩
theorem DS.start_none (h : Own w2 (.map s) (vM bv) F2) (hn : F2.Nodup) (hs : Srt s) (hg : mget kDependsOn s = none) :
    ∃ ks, MapAt w2 bv ks ∧ mlook kDependsOn ks = none ∧ DS w2 F2 bv w2.heap.size ks s [] (w2.alloc (.map #[] 0)) := by
  obtain ⟨ks, F', hm, hl, ho, rfl⟩ := h.mapAt
  have hkeys := ho.keys hs.nodup hm.nodup hl
  have hlt := h.lt
  refine ⟨ks, hm, look_none.2 fun hk => get_none.1 hg ((hkeys _).1 hk), [w2.heap.size], F', hm.frame ((Chg.alloc [] w2 _).block bv hm.lt (by simp)), ?_, ?_, ?_, Chg.alloc _ _ _, ?_, hl, hkeys⟩
  · rw [rem_of_not (get_none.1 hg)]
    exact ho.frame fun b hb => (Chg.alloc [] w2 _).block b (ho.lt b hb) (by simp)
  · simp only [Own]
    exact ⟨_, [], [], rfl, MapAt.new w2, rfl, by simp [OwnM], rfl⟩
  · obtain ⟨h1, h2⟩ := List.nodup_cons.1 hn
    simp only [List.cons_append, List.nil_append, List.nodup_cons, List.mem_cons, not_or]
    exact ⟨⟨by have := hm.lt; omega, h1⟩, fun hx => by have := ho.lt _ hx; omega, h2⟩
  · intro x hx
    simp only [List.cons_append, List.nil_append, List.mem_cons] at hx
    rcases hx with rfl | rfl | hx
    · exact .inl (by simp)
    · exact .inr (Nat.le_refl _)
    · exact .inl (by simp [hx])
theorem DS.go (h : DS w2 F2 bv bd ks s d w) (hc : Chg [] w w') : DS w2 F2 bv bd ks s d w' := by
  obtain ⟨Fd, Fr, h1, h2, h3, h4, h5, h6, h7⟩ := h
  exact ⟨Fd, Fr, h1.frame (hc.block _ h1.lt (by simp)), h2.frame fun b hb => hc.block b (h2.lt b hb) (by simp), h3.frame fun b hb => hc.block b (h3.lt b hb) (by simp), h4, h5.trans hc New.nil, h6, h7⟩
theorem DS.map (h : DS w2 F2 bv bd ks s d w) : MapAt w bv ks := by
  obtain ⟨Fd, Fr, h1, _⟩ := h
  exact h1
theorem DS.lo (h : DS w2 F2 bv bd ks s d w) : ∃ F, Chg F2 w2 w ∧ New w2 F2 F ∧ ∀ b, b ∉ F → True := by
  obtain ⟨Fd, Fr, h1, h2, h3, h4, h5, h6, h7⟩ := h
  exact ⟨_, h5, h6, fun _ _ => trivial⟩
theorem DS.chg (h : DS w2 F2 bv bd ks s d w) : Chg F2 w2 w := by
  obtain ⟨Fd, Fr, h1, h2, h3, h4, h5, h6, h7⟩ := h
  exact h5
theorem DS.leaf (h : DS w2 F2 bv bd ks s d w) {y : ByteArray} {t : T} (hy : y ≠ kDependsOn) (hg : mget y s = some t) : ∃ v F1, mlook y ks = some v ∧ Own w t v F1 := by
  obtain ⟨Fd, Fr, h1, h2, h3, h4, h5, h6, h7⟩ := h
  obtain ⟨v, F1, a1, a2⟩ := h2.leaf (k := y) (t := t) (by rw [get_rem_ne hy]; exact hg)
  exact ⟨v, F1, a1, a2⟩
theorem DS.miss (h : DS w2 F2 bv bd ks s d w) {y : ByteArray} (hg : mget y s = none) : mlook y ks = none := by
  obtain ⟨Fd, Fr, h1, h2, h3, h4, h5, h6, h7, h8⟩ := h
  exact look_none.2 fun hk => get_none.1 hg ((h8 y).1 hk)
theorem DS.dlook (h : DS w2 F2 bv bd ks s d w) (hs : Srt d) :
    ∃ kd, MapAt w bd kd ∧ kd.length = d.length ∧ ∀ k, (mlook k kd).isSome = hasK k d := by
  obtain ⟨Fd, Fr, h1, h2, h3, h4⟩ := h
  obtain ⟨kd, a1, a2, a3, a4⟩ := h3.look hs
  refine ⟨kd, a1, a2, fun k => ?_⟩
  unfold hasK
  cases hg : mget k d with
  | some t =>
    obtain ⟨v, _, hv, _⟩ := a3 k t hg
    rw [hv]
    rfl
  | none =>
    rw [a4 k hg]
    rfl
theorem DS.need (h : DS w2 F2 bv bd ks s d w) (hs : Srt d) {k : ByteArray} (hc : Chg [] w w') {t : T} {v : Value} {x : Nat} (ho : Own w' t v [x]) (hx : w.heap.size ≤ x) :
    ∃ w3, (Instr.mapUpdate 63 (.map (some bd)) (.string k) v).run Tryz.prog w' = .ok () w3 ∧ DS w2 F2 bv bd ks s (mins k t d) w3 ∧ Only w' w3 bd := by
  have hlt : ∀ Fd Fr, MapAt w bv ks → OwnM w (mrem kDependsOn s) ks Fr → Own w (.map d) (vM bd) Fd → ∀ y ∈ bv :: (Fd ++ Fr), y < w.heap.size := fun Fd Fr a1 a2 a3 y hy => by
    rcases List.mem_cons.1 hy with rfl | hy
    · exact a1.lt
    · rcases List.mem_append.1 hy with hy | hy
      · exact a3.lt y hy
      · exact a2.lt y hy
  obtain ⟨Fd, Fr, h1, h2, h3, h4, h5, h6, h7⟩ := h
  have hlt := hlt Fd Fr h1 h2 h3
  have h3' : Own w' (.map d) (vM bd) Fd := h3.frame fun b hb => hc.block b (h3.lt b hb) (by simp)
  obtain ⟨hb1, hb2⟩ := List.nodup_cons.1 h4
  obtain ⟨n1, n2, n3⟩ := perm_nodup_append hb2
  obtain ⟨w3, F', hrun, ho3, hn3, hs3, hon, _⟩ := h3'.store (P := Tryz.prog) (k := k) uM uS hs ho (List.nodup_append.2 ⟨n1, by simp, fun a ha c hc e => by
    rw [List.mem_singleton.1 hc] at e
    have := h3.lt a ha
    omega⟩)
  have hbd : bd ∈ Fd := h3.mem_block
  have hF' : ∀ y ∈ bd :: F', y ∈ Fd ∨ y = x := fun y hy => by
    rcases List.mem_cons.1 hy with rfl | hy
    · exact .inl hbd
    · exact (hs3 y hy).imp id (fun h => List.mem_singleton.1 h)
  have hws := hc.size
  have hne : ∀ y ∈ bv :: Fr, y ≠ bd := fun y hy e => by
    rcases List.mem_cons.1 hy with rfl | hy
    · exact hb1 (List.mem_append_left _ (e ▸ hbd))
    · exact n3 bd hbd (e ▸ hy)
  have hxl : ∀ y ∈ bv :: (Fd ++ Fr), y ≠ x := fun y hy e => by have := hlt y hy; omega
  refine ⟨w3, hrun, ⟨bd :: F', Fr, ?_, ?_, ho3, ?_, ?_, ?_, h7⟩, hon⟩
  · exact (h1.frame (hc.block _ h1.lt (by simp))).frame (hon.block _ (hne bv (by simp)))
  · exact h2.frame fun b hb => (hon.block b (hne b (by simp [hb]))).trans (hc.block b (h2.lt b hb) (by simp))
  · refine List.nodup_cons.2 ⟨fun hy => ?_, List.nodup_append.2 ⟨hn3, n2, fun a ha c hc' e => ?_⟩⟩
    · rcases List.mem_append.1 hy with hy | hy
      · rcases hF' _ hy with h | h
        · exact hb1 (List.mem_append_left _ h)
        · exact hxl bv (by simp) h
      · exact hb1 (List.mem_append_right _ hy)
    · subst e
      rcases hF' _ ha with h | h
      · exact n3 a h hc'
      · exact hxl a (by simp [hc']) h
  · exact (h5.trans hc New.nil).trans (Chg.only hon (List.mem_singleton.2 rfl)) (fun y hy => by
      rw [List.mem_singleton.1 hy]
      exact h6 bd (by simp [hbd]))
  · refine New.cons (h6 bv (by simp)) fun y hy => ?_
    rcases List.mem_append.1 hy with hy | hy
    · rcases hF' y hy with h | h
      · exact h6 y (by simp [h])
      · rw [h]
        exact .inr (Nat.le_trans h5.size hx)
    · exact h6 y (by simp [hy])
theorem DS.finish (h : DS w2 F2 bv bd ks s d w) (hs : Srt s) :
    ∃ w3 F', (Instr.mapUpdate 63 (.map (some bv)) (.string kDependsOn) (vM bd)).run Tryz.prog w = .ok () w3 ∧ Own w3 (.map (mins kDependsOn (.map d) s)) (vM bv) F' ∧ F'.Nodup ∧ Chg F2 w2 w3 ∧ New w2 F2 F' ∧ MapAt w3 bv (mupd kDependsOn (vM bd) ks) := by
  obtain ⟨Fd, Fr, h1, h2, h3, h4, h5, h6, h7, h8⟩ := h
  obtain ⟨w3, hrun, hm3, hon, _⟩ := run_update (P := Tryz.prog) h1 uM uS kDependsOn (vM bd)
  obtain ⟨F', hF', hp⟩ := OwnM.put h3 h2 hs
  obtain ⟨hb1, hb2⟩ := List.nodup_cons.1 h4
  have hbF : bv ∉ F' := fun hb => hb1 (hp.mem_iff.1 hb)
  refine ⟨w3, bv :: F', hrun, ?_, List.nodup_cons.2 ⟨hbF, hp.symm.nodup hb2⟩, ?_, New.cons (h6 bv (by simp)) fun x hx => h6 x (List.mem_cons_of_mem _ (hp.mem_iff.1 hx)), hm3⟩
  · simp only [Own]
    refine ⟨bv, _, F', rfl, hm3, ?_, hF'.frame fun x hx => hon.block x (fun e => hbF (e ▸ hx)), rfl⟩
    by_cases hk : kDependsOn ∈ s.map (·.1)
    · rw [upd_length_old ((h8 _).2 hk), ins_length hs hk]; exact h7
    · rw [upd_length_new (fun h => hk ((h8 _).1 h)), ins_length_new hk, h7]
  · exact h5.trans (Chg.only hon (List.mem_singleton.2 rfl)) (fun x hx => by rw [List.mem_singleton.1 hx]; exact h6 bv (by simp))
theorem DS.unset (h : DS w2 F2 bv bd ks s d w) (hg : mget kDependsOn s = none) :
    ∃ F', Own w (.map s) (vM bv) F' ∧ F'.Nodup ∧ Chg F2 w2 w ∧ New w2 F2 F' := by
  obtain ⟨Fd, Fr, h1, h2, h3, h4, h5, h6, h7, h8⟩ := h
  rw [rem_of_not (get_none.1 hg)] at h2
  obtain ⟨hb1, hb2⟩ := List.nodup_cons.1 h4
  refine ⟨bv :: Fr, ?_, List.nodup_cons.2 ⟨fun h => hb1 (List.mem_append_right _ h), (perm_nodup_append hb2).2.1⟩, h5, New.cons (h6 bv (by simp)) fun x hx => h6 x (by simp [hx])⟩
  simp only [Own]
  exact ⟨bv, ks, Fr, rfl, h1, h7, h2, rfl⟩
end
/-- The map of an implied dependency, as it is made. -/
theorem imp_own (r : Bool) (w : World) : ∃ w1 w2 w3, (Instr.mapUpdate 63 (.map (some w.heap.size)) (.string kCondition) (.iface 9 (.string kStarted))).run Tryz.prog (w.alloc (.map #[] 0)) = .ok () w1 ∧
    (Instr.mapUpdate 63 (.map (some w.heap.size)) (.string kRestart) (.iface 4 (.bool r))).run Tryz.prog w1 = .ok () w2 ∧
    (Instr.mapUpdate 63 (.map (some w.heap.size)) (.string kRequired) (.iface 4 (.bool true))).run Tryz.prog w2 = .ok () w3 ∧
    Own w3 (impP r) (vM w.heap.size) [w.heap.size] ∧ Chg [] w w3 := by
  obtain ⟨w1, r1, m1, o1, _⟩ := run_update (P := Tryz.prog) (MapAt.new w) uM uS kCondition (.iface 9 (.string kStarted))
  obtain ⟨w2, r2, m2, o2, _⟩ := run_update (P := Tryz.prog) m1 uM uS kRestart (.iface 4 (.bool r))
  obtain ⟨w3, r3, m3, o3, _⟩ := run_update (P := Tryz.prog) m2 uM uS kRequired (.iface 4 (.bool true))
  refine ⟨w1, w2, w3, r1, r2, r3, ?_, ?_⟩
  · unfold impP
    simp only [Own]
    refine ⟨w.heap.size, _, [], rfl, m3, rfl, ?_, rfl⟩
    simp only [OwnM]
    refine ⟨.iface 9 (.string kStarted), [], [], by simp [mupd, mlook], by simp [Own], ⟨.iface 4 (.bool true), [], [], by simp [mupd, mlook], by simp [Own], ⟨.iface 4 (.bool r), [], [], by simp [mupd, mlook], by simp [Own], rfl, rfl⟩, rfl⟩, rfl⟩
  · have h1 : Chg [w.heap.size] (w.alloc (.map #[] 0)) w3 := ((Chg.only o1 (List.mem_singleton.2 rfl)).trans (Chg.only o2 (List.mem_singleton.2 rfl)) (New.refl _ _)).trans (Chg.only o3 (List.mem_singleton.2 rfl)) (New.refl _ _)
    exact (Chg.alloc [] w _).trans h1 fun x hx => by rw [List.mem_singleton.1 hx]; exact .inr (Nat.le_refl _)
theorem dneeds_snoc {f : T} {d : List (ByteArray × T)} {ks : List ByteArray} {k : ByteArray} : needs f d (ks ++ [k]) = need f (needs f d ks) k := by simp [needs, List.foldl_append]
set_option maxHeartbeats 400000 in
theorem preStart_none {w : World} {b : Nat} {ks : List (ByteArray × Value)} (h : MapAt w b ks) (hk : mlook kPreStart ks = none) : Calls Tryz.prog 57 #[.map (some b)] w fun e w' => e = .returned .nilIface ∧ w = w' := by
  have L1 := run_lookup_plain (P := Tryz.prog) h uM uS (zA w) kPreStart
  rw [hk] at L1
  simp only [Option.getD_none] at L1
  go_enter Tryz.func57, Tryz.ntmps57
  go_wp2_with fail
  go_ret
  exact ⟨rfl, rfl⟩
end Go.Proofs.YtedbfoknfdiadaaGreatDoor
namespace Go.Proofs.YtedbfoknfdiadaaGreatDoor
open Go.RowKit
variable {o : Nat → Prop}
set_option maxRecDepth 100000

theorem cnt_zero {s : ByteArray} : ∀ {n : Nat}, n ≤ s.size → cnt s n = 0 → n ≤ colon s
  | 0, _, _ => Nat.zero_le _
  | n + 1, hn, h => by
    have hlt : n < s.size := by omega
    rw [cnt_succ hlt] at h
    have h0 : cnt s n = 0 := by omega
    have hne : s[n] ≠ 58 := fun e => by rw [if_pos e] at h; omega
    exact colon_step (cnt_zero (by omega) h0) hlt hne
theorem part0_all {s : ByteArray} (h : cnt s s.size = 0) : part0 s = s := by
  have h1 := cnt_zero (Nat.le_refl _) h
  have h2 := colon_le s
  unfold part0
  have : colon s = s.size := by omega
  rw [this]
  exact ByteArray.extract_zero_size
theorem not_container {s : ByteArray} (h : part0 s ≠ kContainer) : isPre kContainerP s = false := by
  cases hp : isPre kContainerP s with
  | false => rfl
  | true =>
    exfalso
    unfold isPre at hp
    simp only [Bool.and_eq_true, decide_eq_true_eq] at hp
    obtain ⟨hle, he⟩ := hp
    have hsz : kContainerP.size = 10 := rfl
    rw [hsz] at he hle
    have hget : ∀ (i : Nat) (hi : i < 10), s[i]'(by omega) = (kContainerP[i]'(by rw [hsz]; exact hi)) := fun i hi => by
      have h1 : i < (s.extract 0 10).size := by rw [he]; exact hi
      have h2 : (s.extract 0 10)[i]'h1 = s[i]'(by omega) := by
        rw [ByteArray.getElem_extract]
        simp
      rw [← h2]
      congr 1
    have hne : ∀ (i : Nat) (hi : i < 9), (kContainerP[i]'(by rw [hsz]; omega)) ≠ 58 := by
      intro i hi
      rcases i with _ | _ | _ | _ | _ | _ | _ | _ | _ | i
      · exact (by decide : (99 : UInt8) ≠ 58)
      · exact (by decide : (111 : UInt8) ≠ 58)
      · exact (by decide : (110 : UInt8) ≠ 58)
      · exact (by decide : (116 : UInt8) ≠ 58)
      · exact (by decide : (97 : UInt8) ≠ 58)
      · exact (by decide : (105 : UInt8) ≠ 58)
      · exact (by decide : (110 : UInt8) ≠ 58)
      · exact (by decide : (101 : UInt8) ≠ 58)
      · exact (by decide : (114 : UInt8) ≠ 58)
      · omega
    have hst : ∀ n, n ≤ 9 → n ≤ colon s := by
      intro n
      induction n with
      | zero => exact fun _ => Nat.zero_le _
      | succ n ih =>
        intro hn
        refine colon_step (ih (by omega)) (by omega) ?_
        rw [hget n (by omega)]
        exact hne n (by omega)
    have h9 : colon s = 9 := colon_here (hst 9 (by omega)) (by omega) (by rw [hget 9 (by omega)]; rfl)
    apply h
    unfold part0
    rw [h9]
    have : s.extract 0 9 = (s.extract 0 10).extract 0 9 := by
      rw [ByteArray.extract_extract]
      rfl
    rw [this, he]
    rfl
/-- A list in memory, read at one place. -/
theorem Own.list_at {w : World} {l : List T} {v : Value} {F : List Nat} (h : Own w (.list l) v F) : ∃ g cap, v = .iface 74 (.slice (some ⟨g, 0, none⟩) l.length cap) ∧
    ∀ n a, l[n]? = some (.text a) → w.cell? ⟨g, n, none⟩ = some (.iface 9 (.string a)) := by
  simp only [Own] at h
  obtain ⟨g, cap, cs, F', rfl, hr, hl, rfl⟩ := h
  refine ⟨g, cap, rfl, fun n a hn => ?_⟩
  rcases hr.2 with ⟨h1, _⟩ | ⟨g', cap', cur, h1, _, hh, _, _, _, htk⟩
  · cases h1
  · injection h1 with h1 h2 h3
    injection h1 with h1
    injection h1 with h1
    subst h1
    rw [cell_of_row w g n cur _ _ hh]
    have hc : ∀ {l : List T} {cs : List Value} {F : List Nat} {n : Nat}, OwnL w l cs F → l[n]? = some (.text a) → cs[n]? = some (.iface 9 (.string a)) := by
      intro l
      induction l with
      | nil => intro cs F n _ hn; simp at hn
      | cons x l ih =>
        intro cs F n h hn
        simp only [OwnL] at h
        obtain ⟨v, r, F1, F2, rfl, h1, h2, rfl⟩ := h
        cases n with
        | zero =>
          simp only [List.getElem?_cons_zero, Option.some.injEq] at hn
          subst hn
          simp only [List.getElem?_cons_zero]
          rw [h1.text_inv.1]
        | succ n =>
          simp only [List.getElem?_cons_succ] at hn ⊢
          exact ih h2 hn
    have := hc hl hn
    rw [← htk, List.getElem?_take] at this
    split at this
    · rw [Array.getElem?_toList] at this
      exact this
    · cases this
structure LnkOK (k : ByteArray) (s : List (ByteArray × T)) : Prop where
  all : ∀ t, mget k s = some t → ∃ l, t = .list l ∧ l.length ≤ 67108864 ∧ ∀ x ∈ l, ∃ a, x = .text a ∧ a.size ≤ 67108864 ∧ part0 a ≠ kContainer ∧ cnt a a.size ≤ 1
structure DepQ (s : List (ByteArray × T)) : Prop where
  srt : Srt s
  dep : ∀ t, mget kDependsOn s = some t → ∃ d, t = .map d ∧ d ≠ [] ∧ Srt d
  mode : ∀ t, mget kNetworkMode s = some t → ∃ x, t = .text x ∧ x.size ≤ 67108864
  link : LnkOK kLinks s
  from_ : LnkOK kVolumesFrom s
  ban : ∀ k ∈ bans, mget k s = none
structure StageOK (m : List (ByteArray × T)) (p : ByteArray) : Prop where
  srt : Srt m
  svc : ∃ l, mget kServices m = some (.map l) ∧ Srt l ∧ ∀ q ∈ l, ∃ s, q.2 = .map s ∧ DepQ s
  job : mget kJobs m = none
  name : mget kName m = some (.text p)
  psz : p.size ≤ 67108864
  top : ∀ k ∈ tops, TopOK m k
  key : ∀ k ∈ tops, ∀ tl, mget k m = some (.map tl) → ∀ q ∈ tl, q.1.size ≤ 67108864
@[go_sem] theorem eqs_nil (v : Value) (w : World) : (binOp .eql 20 .nilIface (.iface 9 v)).run Tryz.prog w = .ok (.bool false) w := by kernel_rfl
/-- What a look-up of a container under way finds. -/
theorem DS.run {w2 w : World} {F2 : List Nat} {bv bd : Nat} {ks : List (ByteArray × Value)} {s d : List (ByteArray × T)} (h : DS w2 F2 bv bd ks s d w) (y : ByteArray) :
    (Instr.lookup 63 (.map (some bv)) (.string y) true).run Tryz.prog w = .ok (.tuple #[(mlook y ks).getD .nilIface, .bool (mlook y ks).isSome]) w :=
  run_lookup_ok (P := Tryz.prog) h.map uM uS (zA w) y
theorem DS.drun {w2 w : World} {F2 : List Nat} {bv bd : Nat} {ks : List (ByteArray × Value)} {s d : List (ByteArray × T)} (h : DS w2 F2 bv bd ks s d w) (hs : Srt d) (y : ByteArray) :
    ∃ v, (Instr.lookup 63 (.map (some bd)) (.string y) true).run Tryz.prog w = .ok (.tuple #[v, .bool (hasK y d)]) w := by
  obtain ⟨kd, a1, a2, a3⟩ := h.dlook hs
  have h1 := run_lookup_ok (P := Tryz.prog) a1 uM uS (zA w) y
  rw [a3] at h1
  exact ⟨_, h1⟩
end Go.Proofs.YtedbfoknfdiadaaGreatDoor
namespace Go.Proofs.YtedbfoknfdiadaaGreatDoor
open Go.RowKit
variable {o : Nat → Prop}
set_option maxRecDepth 100000

section
variable {w2 w w' : World} {F2 : List Nat} {bv bd : Nat} {ks : List (ByteArray × Value)} {s d : List (ByteArray × T)}
/-- A look-up of a list of the container. -/
theorem DS.list (h : DS w2 F2 bv bd ks s d w) {k : ByteArray} (hk : k ≠ kDependsOn) (hl : LnkOK k s) :
    ∃ v b, (Instr.lookup 63 (.map (some bv)) (.string k) true).run Tryz.prog w = .ok (.tuple #[v, .bool b]) w ∧
      ((b = false ∧ mget k s = none) ∨ (b = true ∧ ∃ l g c, mget k s = some (.list l) ∧ v = .iface 74 (.slice (some ⟨g, 0, none⟩) l.length c) ∧ mlook k ks = some v)) := by
  have P := h.run k
  cases hg : mget k s with
  | none =>
    rw [h.miss hg] at P
    exact ⟨_, _, P, .inl ⟨rfl, rfl⟩⟩
  | some t =>
    obtain ⟨l, rfl, _⟩ := hl.all t hg
    obtain ⟨v, F1, hlk, hov⟩ := h.leaf hk hg
    rw [hlk] at P
    obtain ⟨g, c, rfl, _⟩ := hov.list_at
    exact ⟨_, _, P, .inr ⟨rfl, l, g, c, rfl, rfl, hlk⟩⟩
/-- .. one of its texts. -/
theorem DS.elem (h : DS w2 F2 bv bd ks s d w) {k : ByteArray} (hk : k ≠ kDependsOn) {l : List T} {g c n : Nat} {a : ByteArray} (hg : mget k s = some (.list l)) (hlk : mlook k ks = some (.iface 74 (.slice (some ⟨g, 0, none⟩) l.length c))) (hx : l[n]? = some (.text a)) :
    w.cell? ⟨g, n, none⟩ = some (.iface 9 (.string a)) := by
  obtain ⟨v, F1, h1, h2⟩ := h.leaf hk hg
  rw [hlk] at h1
  cases h1
  obtain ⟨g', c', e, h3⟩ := h2.list_at
  injection e with _ e
  injection e with e
  injection e with e
  injection e with e
  subst e
  exact h3 n a hx
/-- An implied dependency is made and stored. -/
theorem DS.imp (h : DS w2 F2 bv bd ks s d w) (hs : Srt d) (r : Bool) (k : ByteArray) :
    ∃ wa wb wc wd, (Instr.mapUpdate 63 (.map (some w.heap.size)) (.string kCondition) (.iface 9 (.string kStarted))).run Tryz.prog (w.alloc (.map #[] 0)) = .ok () wa ∧
      (Instr.mapUpdate 63 (.map (some w.heap.size)) (.string kRestart) (.iface 4 (.bool r))).run Tryz.prog wa = .ok () wb ∧
      (Instr.mapUpdate 63 (.map (some w.heap.size)) (.string kRequired) (.iface 4 (.bool true))).run Tryz.prog wb = .ok () wc ∧
      (Instr.mapUpdate 63 (.map (some bd)) (.string k) (vM w.heap.size)).run Tryz.prog wc = .ok () wd ∧
      DS w2 F2 bv bd ks s (mins k (impP r) d) wd ∧ Chg [bd] w wd := by
  obtain ⟨wa, wb, wc, r1, r2, r3, ho, hc⟩ := imp_own r w
  obtain ⟨wd, r4, hD, hon⟩ := h.need hs hc ho (Nat.le_refl _)
  exact ⟨wa, wb, wc, wd, r1, r2, r3, r4, hD, (hc.mono (by simp)).trans (Chg.only hon (List.mem_singleton.2 rfl)) (New.refl _ _)⟩
theorem DS.bdlt (h : DS w2 F2 bv bd ks s d w) : bd < w.heap.size := by
  obtain ⟨Fd, Fr, h1, h2, h3, _⟩ := h
  exact h3.lt bd h3.mem_block
end
theorem lnk_step {f : T} {d : List (ByteArray × T)} {k : ByteArray} {s : List (ByteArray × T)} {l : List T} {n : Nat} {a : ByteArray} (hg : mget k s = some (.list l)) (hx : l[n]? = some (.text a)) :
    needs f d ((lnk k s).take (n + 1)) = need f (needs f d ((lnk k s).take n)) (part0 a) := by
  have h1 : (lnk k s)[n]? = some (part0 a) := by
    unfold lnk
    rw [hg]
    simp [hx, T.txt]
  rw [take_snoc h1, dneeds_snoc]
theorem lnk_all {k : ByteArray} {s : List (ByteArray × T)} {l : List T} {n : Nat} (hg : mget k s = some (.list l)) (hn : n = l.length) : (lnk k s).take n = lnk k s := by
  unfold lnk
  rw [hg]
  exact List.take_of_length_le (by simp [hn])
theorem lnk_none {k : ByteArray} {s : List (ByteArray × T)} (hg : mget k s = none) : lnk k s = [] := by
  unfold lnk
  rw [hg]
theorem need_old {f : T} {d : List (ByteArray × T)} {k : ByteArray} (h : hasK k d = true) : need f d k = d := by unfold need; rw [if_pos h]
theorem need_new {f : T} {d : List (ByteArray × T)} {k : ByteArray} (h : hasK k d = false) : need f d k = mins k f d := by unfold need; rw [if_neg (by rw [h]; simp)]
theorem depQ_srt {s : List (ByteArray × T)} (h : DepQ s) : Srt (dep0 s) := by
  unfold dep0
  split
  · rename_i d hg
    obtain ⟨d', e, _, h2⟩ := h.dep _ hg
    cases e
    exact h2
  · exact List.Pairwise.nil
theorem depQ_none {s : List (ByteArray × T)} (h : DepQ s) (hd : depsP s = []) : mget kDependsOn s = none := by
  cases hg : mget kDependsOn s with
  | none => rfl
  | some t =>
    obtain ⟨d, rfl, h1, _⟩ := h.dep t hg
    have h2 : dep0 s = d := by unfold dep0; rw [hg]
    have h3 := (needs_nil.1 (needs_nil.1 (needs_nil.1 hd).1).1).1
    rw [h2] at h3
    exact absurd h3 h1
/-- The names in the modes. -/
abbrev fiveK : List ByteArray := [kNetworkMode, kIpc, kPid, kUts, kCgroup]
theorem nmode_none {s : List (ByteArray × T)} (h : mget kNetworkMode s = none) : nmode s = [] := by
  unfold nmode
  rw [h]
theorem nmode_some {s : List (ByteArray × T)} {x : ByteArray} (h : mget kNetworkMode s = some (.text x)) : nmode s = if isPre kServiceP x then [x.extract 8 x.size] else [] := by
  unfold nmode
  rw [h]
end Go.Proofs.YtedbfoknfdiadaaGreatDoor
