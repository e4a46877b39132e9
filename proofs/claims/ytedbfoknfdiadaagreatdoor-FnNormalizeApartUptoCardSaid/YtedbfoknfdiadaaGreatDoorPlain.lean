/- The texts that stand in the code. No condition. The plain law of Normalize: what the program makes of a model, without the restart of what is understood, is what the reference makes. No condition. Sizes and lengths of what loader.Normalize makes: plain law. No condition. -/
import Derived.Test.YtedbfoknfdiadaaGreatDoorCore
set_option linter.unusedVariables false
set_option linter.unusedSimpArgs false
namespace Go.Proofs.YtedbfoknfdiadaaGreatDoor
abbrev kNetworks : ByteArray := ⟨#[110, 101, 116, 119, 111, 114, 107, 115]⟩
abbrev kVolumes : ByteArray := ⟨#[118, 111, 108, 117, 109, 101, 115]⟩
abbrev kConfigs : ByteArray := ⟨#[99, 111, 110, 102, 105, 103, 115]⟩
abbrev kSecrets : ByteArray := ⟨#[115, 101, 99, 114, 101, 116, 115]⟩
abbrev kName : ByteArray := ⟨#[110, 97, 109, 101]⟩
abbrev kExternal : ByteArray := ⟨#[101, 120, 116, 101, 114, 110, 97, 108]⟩
abbrev kServices : ByteArray := ⟨#[115, 101, 114, 118, 105, 99, 101, 115]⟩
abbrev kJobs : ByteArray := ⟨#[106, 111, 98, 115]⟩
abbrev kDefault : ByteArray := ⟨#[100, 101, 102, 97, 117, 108, 116]⟩
abbrev kNetworkMode : ByteArray := ⟨#[110, 101, 116, 119, 111, 114, 107, 95, 109, 111, 100, 101]⟩
abbrev kDependsOn : ByteArray := ⟨#[100, 101, 112, 101, 110, 100, 115, 95, 111, 110]⟩
abbrev kLinks : ByteArray := ⟨#[108, 105, 110, 107, 115]⟩
abbrev kVolumesFrom : ByteArray := ⟨#[118, 111, 108, 117, 109, 101, 115, 95, 102, 114, 111, 109]⟩
abbrev kCondition : ByteArray := ⟨#[99, 111, 110, 100, 105, 116, 105, 111, 110]⟩
abbrev kStarted : ByteArray := ⟨#[115, 101, 114, 118, 105, 99, 101, 95, 115, 116, 97, 114, 116, 101, 100]⟩
abbrev kRequired : ByteArray := ⟨#[114, 101, 113, 117, 105, 114, 101, 100]⟩
abbrev kRestart : ByteArray := ⟨#[114, 101, 115, 116, 97, 114, 116]⟩
abbrev kServiceP : ByteArray := ⟨#[115, 101, 114, 118, 105, 99, 101, 58]⟩
abbrev kContainerP : ByteArray := ⟨#[99, 111, 110, 116, 97, 105, 110, 101, 114, 58]⟩
abbrev kContainer : ByteArray := ⟨#[99, 111, 110, 116, 97, 105, 110, 101, 114]⟩
abbrev kImage : ByteArray := ⟨#[105, 109, 97, 103, 101]⟩
abbrev kUser : ByteArray := ⟨#[117, 115, 101, 114]⟩
abbrev kHostname : ByteArray := ⟨#[104, 111, 115, 116, 110, 97, 109, 101]⟩
abbrev kCommand : ByteArray := ⟨#[99, 111, 109, 109, 97, 110, 100]⟩
abbrev kPrivileged : ByteArray := ⟨#[112, 114, 105, 118, 105, 108, 101, 103, 101, 100]⟩
abbrev kCapAdd : ByteArray := ⟨#[99, 97, 112, 95, 97, 100, 100]⟩
abbrev kLabels : ByteArray := ⟨#[108, 97, 98, 101, 108, 115]⟩
abbrev kPullPolicy : ByteArray := ⟨#[112, 117, 108, 108, 95, 112, 111, 108, 105, 99, 121]⟩
abbrev kBuild : ByteArray := ⟨#[98, 117, 105, 108, 100]⟩
abbrev kEnvironment : ByteArray := ⟨#[101, 110, 118, 105, 114, 111, 110, 109, 101, 110, 116]⟩
abbrev kIpc : ByteArray := ⟨#[105, 112, 99]⟩
abbrev kPid : ByteArray := ⟨#[112, 105, 100]⟩
abbrev kUts : ByteArray := ⟨#[117, 116, 115]⟩
abbrev kCgroup : ByteArray := ⟨#[99, 103, 114, 111, 117, 112]⟩
abbrev kPreStart : ByteArray := ⟨#[112, 114, 101, 95, 115, 116, 97, 114, 116]⟩
abbrev kProvider : ByteArray := ⟨#[112, 114, 111, 118, 105, 100, 101, 114]⟩
abbrev kDriver : ByteArray := ⟨#[100, 114, 105, 118, 101, 114]⟩
abbrev kFile : ByteArray := ⟨#[102, 105, 108, 101]⟩
abbrev kHost : ByteArray := ⟨#[104, 111, 115, 116]⟩
abbrev kNone : ByteArray := ⟨#[110, 111, 110, 101]⟩
abbrev kBridge : ByteArray := ⟨#[98, 114, 105, 100, 103, 101]⟩
abbrev kUnder : ByteArray := ⟨#[95]⟩
abbrev kColon : ByteArray := ⟨#[58]⟩
abbrev kHealthy : ByteArray := ⟨#[115, 101, 114, 118, 105, 99, 101, 95, 104, 101, 97, 108, 116, 104, 121]⟩
abbrev kCompleted : ByteArray := ⟨#[115, 101, 114, 118, 105, 99, 101, 95, 99, 111, 109, 112, 108, 101, 116, 101, 100, 95, 115, 117, 99, 99, 101, 115, 115, 102, 117, 108, 108, 121]⟩
end Go.Proofs.YtedbfoknfdiadaaGreatDoor
namespace Go.Proofs.YtedbfoknfdiadaaGreatDoor

section
variable {α : Type}
def hasK (k : ByteArray) (m : List (ByteArray × α)) : Bool := (mget k m).isSome
theorem hasK_ins {k : ByteArray} {x : α} {m : List (ByteArray × α)} : hasK k (mins k x m) = true := by simp [hasK, get_ins]
theorem hasK_ins_ne {k y : ByteArray} {x : α} {m : List (ByteArray × α)} (h : y ≠ k) : hasK y (mins k x m) = hasK y m := by simp [hasK, get_ins_ne h]
theorem hasK_false {k : ByteArray} {m : List (ByteArray × α)} (h : hasK k m = false) : mget k m = none := by simpa [hasK] using h
theorem hasK_some {k : ByteArray} {m : List (ByteArray × α)} {x : α} (h : mget k m = some x) : hasK k m = true := by simp [hasK, h]
theorem hasK_mem {k : ByteArray} {m : List (ByteArray × α)} : hasK k m = true ↔ k ∈ m.map (·.1) := by
  cases h : mget k m with
  | none => simp only [hasK, h]; simpa using get_none.1 h
  | some x => simp only [hasK, h]; exact ⟨fun _ => List.mem_map.2 ⟨_, get_some h, rfl⟩, fun _ => rfl⟩
theorem get_map {β : Type} {f : ByteArray → α → β} {y : ByteArray} : ∀ {m : List (ByteArray × α)}, mget y (m.map fun p => (p.1, f p.1 p.2)) = (mget y m).map (f y)
  | [] => rfl
  | p :: m => by
    simp only [List.map_cons, mget]
    split
    · rename_i e; subst e; rfl
    · exact get_map
theorem srt_map {β : Type} {f : ByteArray → α → β} {m : List (ByteArray × α)} (h : Srt m) : Srt (m.map fun p => (p.1, f p.1 p.2)) := List.Pairwise.map _ (fun _ _ h => h) h
theorem ins_ne_nil {k : ByteArray} {x : α} {m : List (ByteArray × α)} : mins k x m ≠ [] := fun h => by
  have := get_ins (k := k) (x := x) (m := m)
  rw [h] at this
  cases this
end

def T.m : T → List (ByteArray × T)
  | .map m => m
  | _ => []
/-! ### what is asked of every tree: maps that rise; texts and keys up to B bytes; 'Fine': up to 2^26 values, too -/
mutual
def WF (B : Nat) : T → Prop
  | .text s => s.size ≤ B
  | .list l => WFL B l
  | .map m => Srt m ∧ WFM B m
  | _ => True
def WFL (B : Nat) : List T → Prop
  | [] => True
  | t :: l => WF B t ∧ WFL B l
def WFM (B : Nat) : List (ByteArray × T) → Prop
  | [] => True
  | p :: m => p.1.size ≤ B ∧ WF B p.2 ∧ WFM B m
end
theorem WFL_iff {B : Nat} : ∀ {l : List T}, WFL B l ↔ ∀ x ∈ l, WF B x
  | [] => by simp [WFL]
  | t :: l => by simp [WFL, WFL_iff (l := l)]
theorem WFM_iff {B : Nat} : ∀ {m : List (ByteArray × T)}, WFM B m ↔ ∀ p ∈ m, p.1.size ≤ B ∧ WF B p.2
  | [] => by simp [WFM]
  | p :: m => by
    simp only [WFM, WFM_iff (m := m), List.forall_mem_cons]
    exact ⟨fun ⟨a, b, c⟩ => ⟨⟨a, b⟩, c⟩, fun ⟨⟨a, b⟩, c⟩ => ⟨a, b, c⟩⟩
theorem WF.vals {B : Nat} {t : T} (h : WF B t) : ∀ x ∈ t.vals, WF B x := by
  cases t with
  | list l => exact WFL_iff.1 h
  | map m =>
    intro x hx
    obtain ⟨p, hp, rfl⟩ := List.mem_map.1 hx
    exact (WFM_iff.1 h.2 p hp).2
  | _ => intro x hx; cases hx
theorem WF.keys {B : Nat} {t : T} (h : WF B t) : ∀ k ∈ t.keys, k.size ≤ B := by
  cases t with
  | map m =>
    intro x hx
    obtain ⟨p, hp, rfl⟩ := List.mem_map.1 hx
    exact (WFM_iff.1 h.2 p hp).1
  | _ => intro x hx; cases hx
theorem WF.txt {B : Nat} {t : T} (h : WF B t) : t.txt.size ≤ B := by
  cases t with
  | text s => exact h
  | _ => exact Nat.zero_le _
theorem WF.srt {B : Nat} {t : T} (h : WF B t) : ∀ m, t = .map m → Srt m := fun m e => by
  subst e
  exact h.1
theorem WF.of_get {B : Nat} {m : List (ByteArray × T)} {k : ByteArray} {x : T} (h : WF B (.map m)) (hg : mget k m = some x) : WF B x := (WFM_iff.1 h.2 _ (get_some hg)).2
theorem WF.ins {B : Nat} {m : List (ByteArray × T)} {k : ByteArray} {x : T} (h : WF B (.map m)) (hk : k.size ≤ B) (hx : WF B x) : WF B (.map (mins k x m)) :=
  ⟨h.1.srt_ins, WFM_iff.2 fun p hp => by
    rcases mem_ins hp with rfl | hp
    · exact ⟨hk, hx⟩
    · exact WFM_iff.1 h.2 p hp⟩
/-- What is depended on with one more. -/
def need (f : T) (d : List (ByteArray × T)) (k : ByteArray) : List (ByteArray × T) := if hasK k d then d else mins k f d
def needs (f : T) (d : List (ByteArray × T)) (ks : List ByteArray) : List (ByteArray × T) := ks.foldl (need f) d
theorem need_srt {f : T} {d : List (ByteArray × T)} {k : ByteArray} (h : Srt d) : Srt (need f d k) := by
  unfold need
  split
  · exact h
  · exact h.srt_ins
theorem needs_srt {f : T} : ∀ {ks : List ByteArray} {d : List (ByteArray × T)}, Srt d → Srt (needs f d ks)
  | [], _, h => h
  | _ :: ks, _, h => needs_srt (ks := ks) (need_srt h)
theorem need_get {f : T} {d : List (ByteArray × T)} {k y : ByteArray} : mget y (need f d k) = if hasK y d then mget y d else if y = k then some f else none := by
  unfold need
  by_cases hk : hasK k d = true
  · rw [if_pos hk]
    by_cases hy : hasK y d = true
    · rw [if_pos hy]
    · rw [if_neg hy, if_neg (show ¬ y = k from fun e => hy (e ▸ hk)), hasK_false (by simpa using hy)]
  · rw [if_neg hk]
    by_cases e : y = k
    · subst e
      rw [if_neg hk, if_pos rfl, get_ins]
    · rw [get_ins_ne e, if_neg e]
      by_cases hy : hasK y d = true
      · rw [if_pos hy]
      · rw [if_neg hy, hasK_false (by simpa using hy)]
theorem need_has {f : T} {d : List (ByteArray × T)} {k y : ByteArray} : hasK y (need f d k) = (hasK y d || decide (y = k)) := by
  show (mget y (need f d k)).isSome = _
  rw [need_get]
  by_cases hy : hasK y d = true
  · rw [if_pos hy, hy]; exact hy
  · rw [if_neg hy]
    by_cases e : y = k <;> simp [e, hy]
theorem needs_get {f : T} {y : ByteArray} : ∀ {ks : List ByteArray} {d : List (ByteArray × T)}, mget y (needs f d ks) = if hasK y d then mget y d else if y ∈ ks then some f else none
  | [], d => by
    by_cases hy : hasK y d = true
    · rw [if_pos hy]; rfl
    · rw [if_neg hy]
      show mget y d = _
      rw [hasK_false (by simpa using hy)]; simp
  | k :: ks, d => by
    show mget y (needs f (need f d k) ks) = _
    rw [needs_get, need_has, need_get]
    by_cases hy : hasK y d = true
    · simp [hy]
    · by_cases e : y = k <;> simp [hy, e]
theorem needs_has {f : T} {y : ByteArray} {ks : List ByteArray} {d : List (ByteArray × T)} : hasK y (needs f d ks) = (hasK y d || decide (y ∈ ks)) := by
  show (mget y (needs f d ks)).isSome = _
  rw [needs_get]
  by_cases hy : hasK y d = true
  · rw [if_pos hy, hy]; exact hy
  · rw [if_neg hy]
    by_cases e : y ∈ ks <;> simp [e, hy]
theorem needs_nil {f : T} {ks : List ByteArray} {d : List (ByteArray × T)} : needs f d ks = [] ↔ d = [] ∧ ks = [] := by
  constructor
  · intro h
    have hn : ∀ y, hasK y (needs f d ks) = false := fun y => by rw [h]; rfl
    constructor
    · cases d with
      | nil => rfl
      | cons p d =>
        have := hn p.1
        rw [needs_has] at this
        simp [hasK, mget] at this
    · cases ks with
      | nil => rfl
      | cons k ks =>
        have := hn k
        rw [needs_has] at this
        simp at this
  · rintro ⟨rfl, rfl⟩
    rfl

/-- The value of an implied dependency: the program's, the reference's. -/
def impP (r : Bool) : T := .map [(kCondition, .text kStarted), (kRequired, .bool true), (kRestart, .bool r)]
def impS : T := .map [(kCondition, .text kStarted), (kRequired, .bool true)]
def dnet : List (ByteArray × T) := [(kDefault, .null)]
/-- Where the first colon stands; what stands ahead of it. -/
def colon (s : ByteArray) : Nat := s.data.toList.findIdx (· == 58)
def part0 (s : ByteArray) : ByteArray := s.extract 0 (colon s)
/-- How many colons stand among the first n bytes. -/
def cnt (s : ByteArray) : Nat → Nat
  | 0 => 0
  | n + 1 => cnt s n + (if s.data.toList[n]? = some 58 then 1 else 0)
def isPre (p s : ByteArray) : Bool := decide (p.size ≤ s.size) && decide (s.extract 0 p.size = p)
def dep0 (m : List (ByteArray × T)) : List (ByteArray × T) := match mget kDependsOn m with
  | some (.map d) => d
  | _ => []
def lnk (k : ByteArray) (m : List (ByteArray × T)) : List ByteArray := match mget k m with
  | some (.list l) => l.map (fun t => part0 t.txt)
  | _ => []
def nmode (m : List (ByteArray × T)) : List ByteArray := match mget kNetworkMode m with
  | some (.text s) => if isPre kServiceP s then [s.extract 8 s.size] else []
  | _ => []
def depsP (m : List (ByteArray × T)) : List (ByteArray × T) := needs (impP false) (needs (impP true) (needs (impP true) (dep0 m) (lnk kLinks m)) (nmode m)) (lnk kVolumesFrom m)
def depsS (m : List (ByteArray × T)) : List (ByteArray × T) := needs impS (needs impS (needs impS (dep0 m) (nmode m)) (lnk kLinks m)) (lnk kVolumesFrom m)
def without : T → T
  | .map r => .map (mrem kRestart r)
  | t => t
theorem without_imp (r : Bool) : without (impP r) = impS := by
  show T.map (mrem kRestart [(kCondition, .text kStarted), (kRequired, .bool true), (kRestart, .bool r)]) = _
  simp [mrem, impS]
def bareD (own d : List (ByteArray × T)) : List (ByteArray × T) := d.map fun p => (p.1, if hasK p.1 own then p.2 else without p.2)
theorem bareD_get {own d : List (ByteArray × T)} {y : ByteArray} : mget y (bareD own d) = (mget y d).map (fun v => if hasK y own then v else without v) := get_map (f := fun k v => if hasK k own then v else without v)
theorem deps_srt {m : List (ByteArray × T)} (h : Srt (dep0 m)) : Srt (depsP m) ∧ Srt (depsS m) := ⟨needs_srt (needs_srt (needs_srt h)), needs_srt (needs_srt (needs_srt h))⟩
theorem deps_eq {m : List (ByteArray × T)} (h : Srt (dep0 m)) : bareD (dep0 m) (depsP m) = depsS m := by
  refine Srt.ext (srt_map (f := fun k v => if hasK k (dep0 m) then v else without v) (deps_srt h).1) (deps_srt h).2 fun y => ?_
  rw [bareD_get]
  simp only [depsP, depsS, needs_get, needs_has]
  by_cases h0 : hasK y (dep0 m) = true
  · simp [h0]
  · by_cases h1 : y ∈ lnk kLinks m <;> by_cases h2 : y ∈ nmode m <;> by_cases h3 : y ∈ lnk kVolumesFrom m <;> simp [h0, h1, h2, h3, without_imp]
theorem deps_nil {m : List (ByteArray × T)} : depsP m = [] ↔ depsS m = [] := by
  simp only [depsP, depsS, needs_nil]
  constructor <;> rintro ⟨⟨⟨h1, h2⟩, h3⟩, h4⟩ <;> exact ⟨⟨⟨h1, h3⟩, h2⟩, h4⟩

/-! ### a service -/
def netsOf (s : List (ByteArray × T)) : List (ByteArray × T) := if hasK kNetworkMode s || hasK kNetworks s then s else mins kNetworks (.map dnet) s
def svcP (s : List (ByteArray × T)) : List (ByteArray × T) := if depsP s = [] then netsOf s else mins kDependsOn (.map (depsP s)) (netsOf s)
def svcS (s : List (ByteArray × T)) : List (ByteArray × T) := netsOf (if depsS s = [] then s else mins kDependsOn (.map (depsS s)) s)
def bareS (was x : List (ByteArray × T)) : List (ByteArray × T) := match mget kDependsOn x with
  | some t => mins kDependsOn (.map (bareD (dep0 was) t.m)) x
  | none => x
/-- What normNeeds asks. -/
def LinksOK (k : ByteArray) (s : List (ByteArray × T)) : Prop := ∀ t, mget k s = some t → ∃ l, t = .list l ∧ ∀ x ∈ l, ∃ a, x = .text a ∧ part0 a ≠ kContainer ∧ cnt a a.size ≤ 1
structure NeedsOK (s : List (ByteArray × T)) : Prop where
  dep : ∀ t, mget kDependsOn s = some t → ∃ d, t = .map d ∧ d ≠ []
  mode : ∀ t, mget kNetworkMode s = some t → (∃ x, t = .text x) ∧ hasK kNetworks s = false
  link : LinksOK kLinks s
  from_ : LinksOK kVolumesFrom s
theorem need_len {f : T} {d : List (ByteArray × T)} {k : ByteArray} : (need f d k).length ≤ d.length + 1 := by
  unfold need
  split
  · omega
  · have : ∀ m : List (ByteArray × T), (mins k f m).length ≤ m.length + 1 := by
      intro m
      induction m with
      | nil => simp [mins]
      | cons p m ih =>
        unfold mins
        split
        · simp
        · split
          · simp
            omega
          · simp
    exact this d
theorem needs_len {f : T} : ∀ {ks : List ByteArray} {d : List (ByteArray × T)}, (needs f d ks).length ≤ d.length + ks.length
  | [], _ => Nat.le_refl _
  | k :: ks, d => by
    have h1 := needs_len (f := f) (ks := ks) (d := need f d k)
    have h2 := need_len (f := f) (d := d) (k := k)
    show (needs f (need f d k) ks).length ≤ _
    simp only [List.length_cons]
    omega
/-- Attributes that no service has. -/
def bans : List ByteArray := [kPullPolicy, kBuild, kEnvironment, kIpc, kPid, kUts, kCgroup, kVolumes, kPreStart, kProvider]
/-- What is asked of a service's attributes that are looked at. -/
structure SvcOK (s : List (ByteArray × T)) : Prop where
  srt : Srt s
  dep : ∀ t, mget kDependsOn s = some t → ∃ d, t = .map d ∧ d ≠ [] ∧ Srt d
  net : ∀ t, mget kNetworks s = some t → ∃ n, t = .map n ∧ n ≠ [] ∧ Srt n
  mode : ∀ t, mget kNetworkMode s = some t → ∃ x, t = .text x
  both : hasK kNetworkMode s = true → hasK kNetworks s = false
  link : ∀ t, mget kLinks s = some t → ∃ l, t = .list l ∧ ∀ x ∈ l, ∃ a, x = .text a ∧ part0 a ≠ kContainer ∧ cnt a a.size ≤ 1
  from_ : ∀ t, mget kVolumesFrom s = some t → ∃ l, t = .list l ∧ ∀ x ∈ l, ∃ a, x = .text a ∧ part0 a ≠ kContainer ∧ cnt a a.size ≤ 1
  ban : ∀ k ∈ bans, mget k s = none
theorem dep0_srt {s : List (ByteArray × T)} (h : SvcOK s) : Srt (dep0 s) := by
  unfold dep0
  cases hd : mget kDependsOn s with
  | none => exact List.Pairwise.nil
  | some t =>
    obtain ⟨d, rfl, _, hs⟩ := h.dep t hd
    exact hs
theorem netsOf_srt {s : List (ByteArray × T)} (h : Srt s) : Srt (netsOf s) := by
  unfold netsOf
  split
  · exact h
  · exact h.srt_ins
theorem netsOf_get {s : List (ByteArray × T)} {y : ByteArray} (h : y ≠ kNetworks) : mget y (netsOf s) = mget y s := by
  unfold netsOf
  split
  · rfl
  · exact get_ins_ne h
theorem svc_eq {s : List (ByteArray × T)} (h : SvcOK s) : bareS s (svcP s) = svcS s := by
  unfold svcP svcS
  by_cases hd : depsP s = []
  · rw [if_pos hd, if_pos (deps_nil.1 hd)]
    unfold bareS
    rw [netsOf_get (by decide)]
    have h0 : dep0 s = [] := by
      simp only [depsP, needs_nil] at hd
      exact hd.1.1.1
    have hn : mget kDependsOn s = none := by
      cases hg : mget kDependsOn s with
      | none => rfl
      | some t =>
        obtain ⟨d, rfl, hne, _⟩ := h.dep t hg
        rw [dep0, hg] at h0
        exact absurd h0 hne
    rw [hn]
  · rw [if_neg hd, if_neg (fun e => hd (deps_nil.2 e))]
    unfold bareS
    rw [get_ins]
    show mins kDependsOn (T.map (bareD (dep0 s) (depsP s))) _ = _
    rw [deps_eq (dep0_srt h)]
    refine Srt.ext ((netsOf_srt h.srt).srt_ins).srt_ins (netsOf_srt h.srt.srt_ins) fun y => ?_
    by_cases e : y = kDependsOn
    · subst e
      rw [get_ins, netsOf_get (by decide), get_ins]
    · rw [get_ins_ne e, get_ins_ne e]
      unfold netsOf
      rw [hasK_ins_ne (by decide), hasK_ins_ne (by decide)]
      split
      · rw [get_ins_ne e]
      · by_cases e2 : y = kNetworks
        · subst e2
          rw [get_ins, get_ins]
        · rw [get_ins_ne e2, get_ins_ne e2, get_ins_ne e]
/-- The program's second stage alone. -/
def depOf (s : List (ByteArray × T)) : List (ByteArray × T) := if depsP s = [] then s else mins kDependsOn (.map (depsP s)) s
theorem depsP_get {s s' : List (ByteArray × T)} (h1 : mget kDependsOn s' = mget kDependsOn s) (h2 : mget kLinks s' = mget kLinks s) (h3 : mget kNetworkMode s' = mget kNetworkMode s) (h4 : mget kVolumesFrom s' = mget kVolumesFrom s) : depsP s' = depsP s := by
  simp only [depsP, dep0, lnk, nmode, h1, h2, h3, h4]
theorem depsP_nets {s : List (ByteArray × T)} : depsP (netsOf s) = depsP s :=
  depsP_get (netsOf_get (by decide)) (netsOf_get (by decide)) (netsOf_get (by decide)) (netsOf_get (by decide))
theorem depOf_nets {s : List (ByteArray × T)} : depOf (netsOf s) = svcP s := by
  unfold depOf svcP
  rw [depsP_nets]

/-! ### a model -/
def svcs (m : List (ByteArray × T)) : List (ByteArray × T) := match mget kServices m with
  | some (.map l) => l
  | _ => []
def nets0 (m : List (ByteArray × T)) : List (ByteArray × T) := match mget kNetworks m with
  | some (.map l) => l
  | _ => []
def prj (m : List (ByteArray × T)) : ByteArray := match mget kName m with
  | some (.text s) => s
  | _ => ⟨#[]⟩
def hasDef (s : List (ByteArray × T)) : Bool := match mget kNetworks s with
  | some (.map n) => hasK kDefault n
  | _ => false
def nets1 (m : List (ByteArray × T)) : List (ByteArray × T) := if (svcs m).any (fun p => hasDef (netsOf p.2.m)) && !hasK kDefault (nets0 m) then mins kDefault .null (nets0 m) else nets0 m
def onS (f : List (ByteArray × T) → List (ByteArray × T)) (l : List (ByteArray × T)) : List (ByteArray × T) := l.map fun p => (p.1, .map (f p.2.m))
def netsP (m : List (ByteArray × T)) : List (ByteArray × T) :=
  if nets1 m = [] then mins kServices (.map (onS netsOf (svcs m))) m else mins kNetworks (.map (nets1 m)) (mins kServices (.map (onS netsOf (svcs m))) m)
def depStage (m : List (ByteArray × T)) : List (ByteArray × T) := mins kServices (.map (onS depOf (svcs m))) m
/-- A resource's name. -/
def nmName (p key : ByteArray) (r : List (ByteArray × T)) : ByteArray := match mget kExternal r with
  | some (.bool true) => key
  | _ => p ++ kUnder ++ key
def nmRes (p key : ByteArray) : T → T
  | .map r => match mget kName r with
    | none => .map (mins kName (.text (nmName p key r)) r)
    | some _ => .map r
  | _ => .map [(kName, .text (p ++ kUnder ++ key))]
def named (p : ByteArray) (l : List (ByteArray × T)) : List (ByteArray × T) := l.map fun q => (q.1, nmRes p q.1 q.2)
def nmTop (p k : ByteArray) (m : List (ByteArray × T)) : List (ByteArray × T) := match mget k m with
  | some (.map tl) => mins k (.map (named p tl)) m
  | _ => m
def tops : List ByteArray := [kNetworks, kVolumes, kConfigs, kSecrets]
def nmUpto (p : ByteArray) (n : Nat) (m : List (ByteArray × T)) : List (ByteArray × T) := (tops.take n).foldl (fun m k => nmTop p k m) m
def normP (m : List (ByteArray × T)) : List (ByteArray × T) := nmUpto (prj m) 4 (depStage (netsP m))
def normS2 (m : List (ByteArray × T)) : List (ByteArray × T) :=
  if nets1 m = [] then mins kServices (.map (onS svcS (svcs m))) m else mins kNetworks (.map (named (prj m) (nets1 m))) (mins kServices (.map (onS svcS (svcs m))) m)
def normS (m : List (ByteArray × T)) : List (ByteArray × T) := match mget kVolumes m with
  | some (.map vs) => mins kVolumes (.map (named (prj m) vs)) (normS2 m)
  | _ => normS2 m
def bareTop (was v : List (ByteArray × T)) : List (ByteArray × T) := mins kServices (.map ((svcs v).map fun p => (p.1, .map (bareS (((mget p.1 (svcs was)).getD .null).m) p.2.m)))) v
/-- What is asked of a resource. -/
def ResOK : T → Prop
  | .null => True
  | .map r => Srt r ∧ (∀ t, mget kName r = some t → ∃ s, t = .text s) ∧ (∀ t, mget kExternal r = some t → ∃ x, t = .bool x)
  | _ => False
def TopOK (m : List (ByteArray × T)) (k : ByteArray) : Prop := ∀ t, mget k m = some t → ∃ tl, t = .map tl ∧ Srt tl ∧ ∀ q ∈ tl, ResOK q.2
structure ModelOK (m : List (ByteArray × T)) : Prop where
  srt : Srt m
  name : ∃ p, mget kName m = some (.text p)
  svc : ∃ l, mget kServices m = some (.map l) ∧ Srt l ∧ ∀ q ∈ l, ∃ s, q.2 = .map s ∧ SvcOK s
  net : TopOK m kNetworks
  vol : TopOK m kVolumes
  cfg : mget kConfigs m = none
  sec : mget kSecrets m = none
  job : mget kJobs m = none

theorem nmTop_srt {p k : ByteArray} {m : List (ByteArray × T)} (h : Srt m) : Srt (nmTop p k m) := by
  unfold nmTop
  split
  · exact h.srt_ins
  · exact h
theorem nmTop_ne {p k y : ByteArray} {m : List (ByteArray × T)} (h : y ≠ k) : mget y (nmTop p k m) = mget y m := by
  unfold nmTop
  split
  · exact get_ins_ne h
  · rfl
theorem nmTop_none {p k : ByteArray} {m : List (ByteArray × T)} (h : mget k m = none) : nmTop p k m = m := by
  unfold nmTop
  rw [h]
theorem nmTop_some {p k : ByteArray} {m tl : List (ByteArray × T)} (h : mget k m = some (.map tl)) : mget k (nmTop p k m) = some (.map (named p tl)) := by
  unfold nmTop
  rw [h]
  exact get_ins
theorem netsP_srt {m : List (ByteArray × T)} (h : Srt m) : Srt (netsP m) := by
  unfold netsP
  split
  · exact h.srt_ins
  · exact h.srt_ins.srt_ins
theorem netsP_ne {m : List (ByteArray × T)} {y : ByteArray} (h1 : y ≠ kServices) (h2 : y ≠ kNetworks) : mget y (netsP m) = mget y m := by
  unfold netsP
  split
  · exact get_ins_ne h1
  · rw [get_ins_ne h2, get_ins_ne h1]
theorem netsP_svc {m : List (ByteArray × T)} : mget kServices (netsP m) = some (.map (onS netsOf (svcs m))) := by
  unfold netsP
  split
  · exact get_ins
  · rw [get_ins_ne (by decide), get_ins]
theorem netsP_net {m : List (ByteArray × T)} : mget kNetworks (netsP m) = if nets1 m = [] then mget kNetworks m else some (.map (nets1 m)) := by
  unfold netsP
  split
  · rw [get_ins_ne (by decide)]
  · exact get_ins
theorem onS_onS {f g : List (ByteArray × T) → List (ByteArray × T)} {l : List (ByteArray × T)} : onS f (onS g l) = onS (fun s => f (g s)) l := by simp [onS, T.m]
theorem svcs_of {m l : List (ByteArray × T)} (h : mget kServices m = some (.map l)) : svcs m = l := by simp [svcs, h]
theorem depStage_svc {m : List (ByteArray × T)} : mget kServices (depStage (netsP m)) = some (.map (onS svcP (svcs m))) := by
  unfold depStage
  rw [get_ins, svcs_of netsP_svc, onS_onS]
  simp only [depOf_nets]
theorem depStage_ne {m : List (ByteArray × T)} {y : ByteArray} (h : y ≠ kServices) : mget y (depStage m) = mget y m := get_ins_ne h
theorem normP_eq {m : List (ByteArray × T)} : normP m = nmTop (prj m) kSecrets (nmTop (prj m) kConfigs (nmTop (prj m) kVolumes (nmTop (prj m) kNetworks (depStage (netsP m))))) := rfl
theorem normP_srt {m : List (ByteArray × T)} (h : Srt m) : Srt (normP m) := by
  rw [normP_eq]
  exact nmTop_srt (nmTop_srt (nmTop_srt (nmTop_srt (netsP_srt h).srt_ins)))
theorem normP_svc {m : List (ByteArray × T)} : mget kServices (normP m) = some (.map (onS svcP (svcs m))) := by
  rw [normP_eq, nmTop_ne (by decide), nmTop_ne (by decide), nmTop_ne (by decide), nmTop_ne (by decide), depStage_svc]
theorem normP_net {m : List (ByteArray × T)} (h : ModelOK m) : mget kNetworks (normP m) = if nets1 m = [] then mget kNetworks m else some (.map (named (prj m) (nets1 m))) := by
  rw [normP_eq, nmTop_ne (by decide), nmTop_ne (by decide), nmTop_ne (by decide)]
  by_cases hn : nets1 m = []
  · rw [if_pos hn]
    have h2 : mget kNetworks (depStage (netsP m)) = mget kNetworks m := by rw [depStage_ne (by decide), netsP_net, if_pos hn]
    cases hg : mget kNetworks m with
    | none => rw [nmTop_none (by rw [h2, hg]), h2, hg]
    | some t =>
      obtain ⟨tl, rfl, _, _⟩ := h.net t hg
      rw [nmTop_some (by rw [h2, hg])]
      have : tl = [] := by
        have h0 : nets0 m = tl := by simp [nets0, hg]
        unfold nets1 at hn
        rw [h0] at hn
        by_cases hc : ((svcs m).any (fun p => hasDef (netsOf p.2.m)) && !hasK kDefault tl) = true
        · rw [if_pos hc] at hn
          exact absurd hn ins_ne_nil
        · rwa [if_neg hc] at hn
      subst this
      rfl
  · rw [if_neg hn]
    exact nmTop_some (by rw [depStage_ne (by decide), netsP_net, if_neg hn])
theorem normP_vol {m : List (ByteArray × T)} (h : ModelOK m) : mget kVolumes (normP m) = (mget kVolumes m).map (fun t => .map (named (prj m) t.m)) := by
  rw [normP_eq, nmTop_ne (by decide), nmTop_ne (by decide)]
  have h2 : mget kVolumes (nmTop (prj m) kNetworks (depStage (netsP m))) = mget kVolumes m := by rw [nmTop_ne (by decide), depStage_ne (by decide), netsP_ne (by decide) (by decide)]
  cases hg : mget kVolumes m with
  | none => rw [nmTop_none (by rw [h2, hg]), h2, hg]; rfl
  | some t =>
    obtain ⟨tl, rfl, _, _⟩ := h.vol t hg
    rw [nmTop_some (by rw [h2, hg])]
    rfl
theorem normP_ne {m : List (ByteArray × T)} (h : ModelOK m) {y : ByteArray} (h1 : y ≠ kServices) (h2 : y ≠ kNetworks) (h3 : y ≠ kVolumes) : mget y (normP m) = mget y m := by
  have hc : mget kConfigs (nmTop (prj m) kVolumes (nmTop (prj m) kNetworks (depStage (netsP m)))) = none := by
    rw [nmTop_ne (by decide), nmTop_ne (by decide), depStage_ne (by decide), netsP_ne (by decide) (by decide), h.cfg]
  have hs : mget kSecrets (nmTop (prj m) kVolumes (nmTop (prj m) kNetworks (depStage (netsP m)))) = none := by
    rw [nmTop_ne (by decide), nmTop_ne (by decide), depStage_ne (by decide), netsP_ne (by decide) (by decide), h.sec]
  rw [normP_eq, nmTop_none (p := prj m) (k := kConfigs) hc, nmTop_none hs, nmTop_ne h3, nmTop_ne h2, depStage_ne h1, netsP_ne h1 h2]
theorem srt_onS {f : List (ByteArray × T) → List (ByteArray × T)} {l : List (ByteArray × T)} (h : Srt l) : Srt (onS f l) := srt_map (f := fun _ (t : T) => T.map (f t.m)) h
theorem get_onS {f : List (ByteArray × T) → List (ByteArray × T)} {l : List (ByteArray × T)} {y : ByteArray} : mget y (onS f l) = (mget y l).map (fun t => .map (f t.m)) := get_map (f := fun _ (t : T) => T.map (f t.m))
/-- THE LAW of FnNormalize. -/
theorem norm_eq {m : List (ByteArray × T)} (h : ModelOK m) : bareTop m (normP m) = normS m := by
  obtain ⟨l, hl, hsl, hok⟩ := h.svc
  have hs2 : Srt (normS2 m) := by
    unfold normS2
    split
    · exact h.srt.srt_ins
    · exact h.srt.srt_ins.srt_ins
  have hsS : Srt (normS m) := by
    unfold normS
    split
    · exact hs2.srt_ins
    · exact hs2
  have hbar : (svcs (normP m)).map (fun p => (p.1, T.map (bareS (((mget p.1 (svcs m)).getD .null).m) p.2.m))) = onS svcS (svcs m) := by
    rw [svcs_of normP_svc, svcs_of hl]
    simp only [onS, List.map_map]
    refine List.map_congr_left fun q hq => ?_
    obtain ⟨s, hs, hsok⟩ := hok q hq
    have hg : mget q.1 l = some q.2 := by
      have : ∀ {l : List (ByteArray × T)}, Srt l → q ∈ l → mget q.1 l = some q.2 := by
        intro l
        induction l with
        | nil => intro _ h; cases h
        | cons p l ih =>
          intro hs h
          rcases List.mem_cons.1 h with rfl | h
          · simp [mget]
          · have hb := hs.head q h
            have : p.1 ≠ q.1 := fun e => by rw [e, blt_irrefl] at hb; cases hb
            simp only [mget, this, if_false]
            exact ih hs.tail h
      exact this hsl hq
    simp only [Function.comp_apply, hg, Option.getD_some, hs, T.m]
    rw [svc_eq hsok]
  refine Srt.ext (normP_srt h.srt).srt_ins hsS fun y => ?_
  unfold bareTop
  rw [hbar]
  have hS2 : ∀ z, z ≠ kVolumes → mget z (normS m) = mget z (normS2 m) := fun z hz => by
    unfold normS
    split
    · exact get_ins_ne hz
    · rfl
  by_cases e1 : y = kServices
  · subst e1
    rw [get_ins, hS2 _ (by decide)]
    unfold normS2
    split
    · rw [get_ins]
    · rw [get_ins_ne (by decide), get_ins]
  · rw [get_ins_ne e1]
    by_cases e2 : y = kNetworks
    · subst e2
      rw [normP_net h, hS2 _ (by decide)]
      unfold normS2
      split
      · rw [get_ins_ne (by decide)]
      · rw [get_ins]
    · have hn2 : mget y (normS2 m) = mget y m := by
        unfold normS2
        split
        · rw [get_ins_ne e1]
        · rw [get_ins_ne e2, get_ins_ne e1]
      by_cases e3 : y = kVolumes
      · subst e3
        rw [normP_vol h]
        unfold normS
        cases hg : mget kVolumes m with
        | none => rw [hn2, hg]; rfl
        | some t =>
          obtain ⟨tl, rfl, _, _⟩ := h.vol t hg
          show _ = mget kVolumes (mins kVolumes _ _)
          rw [get_ins]
          rfl
      · rw [normP_ne h e1 e2 e3, hS2 _ e3, hn2]

/-! ### twice -/
theorem need_of_has {f : T} {d : List (ByteArray × T)} {k : ByteArray} (h : hasK k d = true) : need f d k = d := by
  unfold need
  rw [if_pos h]
theorem needs_of_has {f : T} {d : List (ByteArray × T)} : ∀ {ks : List ByteArray}, (∀ k ∈ ks, hasK k d = true) → needs f d ks = d
  | [], _ => rfl
  | k :: ks, h => by
    show needs f (need f d k) ks = d
    rw [need_of_has (h k List.mem_cons_self)]
    exact needs_of_has fun y hy => h y (List.mem_cons_of_mem _ hy)
theorem ins_same {k : ByteArray} {x : T} {m : List (ByteArray × T)} (hs : Srt m) (h : mget k m = some x) : mins k x m = m := by
  refine Srt.ext hs.srt_ins hs fun y => ?_
  by_cases e : y = k
  · subst e
    rw [get_ins, h]
  · rw [get_ins_ne e]
theorem svcP_srt {s : List (ByteArray × T)} (h : Srt s) : Srt (svcP s) := by
  unfold svcP
  split
  · exact netsOf_srt h
  · exact (netsOf_srt h).srt_ins
theorem svcP_get {s : List (ByteArray × T)} {y : ByteArray} (h1 : y ≠ kDependsOn) (h2 : y ≠ kNetworks) : mget y (svcP s) = mget y s := by
  unfold svcP
  split
  · exact netsOf_get h2
  · rw [get_ins_ne h1, netsOf_get h2]
theorem svcP_net {s : List (ByteArray × T)} : mget kNetworks (svcP s) = mget kNetworks (netsOf s) := by
  unfold svcP
  split
  · rfl
  · rw [get_ins_ne (by decide)]
theorem svcP_dep {s : List (ByteArray × T)} : mget kDependsOn (svcP s) = if depsP s = [] then mget kDependsOn s else some (.map (depsP s)) := by
  unfold svcP
  split
  · exact netsOf_get (by decide)
  · exact get_ins
theorem netsOf_has {s : List (ByteArray × T)} : (hasK kNetworkMode (netsOf s) || hasK kNetworks (netsOf s)) = true := by
  unfold netsOf
  split
  · assumption
  · rw [hasK_ins, Bool.or_true]
theorem hasK_of_get {α : Type} {k : ByteArray} {m m' : List (ByteArray × α)} (h : mget k m = mget k m') : hasK k m = hasK k m' := by unfold hasK; rw [h]
theorem netsOf_svcP {s : List (ByteArray × T)} : netsOf (svcP s) = svcP s := by
  have : (hasK kNetworkMode (svcP s) || hasK kNetworks (svcP s)) = true := by
    rw [hasK_of_get (svcP_net (s := s)), hasK_of_get (m' := netsOf s) ((svcP_get (s := s) (y := kNetworkMode) (by decide) (by decide)).trans (netsOf_get (by decide)).symm)]
    exact netsOf_has
  unfold netsOf
  rw [if_pos this]
theorem depsP_svcP {s : List (ByteArray × T)} : depsP (svcP s) = depsP s := by
  by_cases hd : depsP s = []
  · exact depsP_get (by rw [svcP_dep, if_pos hd]) (svcP_get (by decide) (by decide)) (svcP_get (by decide) (by decide)) (svcP_get (by decide) (by decide))
  · have h1 : dep0 (svcP s) = depsP s := by unfold dep0; rw [svcP_dep, if_neg hd]
    have h2 : ∀ k, lnk k (svcP s) = match mget k (svcP s) with
      | some (.list l) => l.map (fun t => part0 t.txt)
      | _ => [] := fun _ => rfl
    have hl : lnk kLinks (svcP s) = lnk kLinks s := by unfold lnk; rw [svcP_get (by decide) (by decide)]
    have hv : lnk kVolumesFrom (svcP s) = lnk kVolumesFrom s := by unfold lnk; rw [svcP_get (by decide) (by decide)]
    have hm : nmode (svcP s) = nmode s := by unfold nmode; rw [svcP_get (by decide) (by decide)]
    have hall : ∀ k, (k ∈ lnk kLinks s ∨ k ∈ nmode s ∨ k ∈ lnk kVolumesFrom s) → hasK k (depsP s) = true := fun k hk => by
      simp only [depsP, needs_has]
      rcases hk with h | h | h <;> simp [h]
    show needs (impP false) (needs (impP true) (needs (impP true) (dep0 (svcP s)) (lnk kLinks (svcP s))) (nmode (svcP s))) (lnk kVolumesFrom (svcP s)) = _
    rw [h1, hl, hm, hv, needs_of_has (fun k hk => hall k (.inl hk)), needs_of_has (fun k hk => hall k (.inr (.inl hk))), needs_of_has (fun k hk => hall k (.inr (.inr hk)))]
theorem svcP_svcP {s : List (ByteArray × T)} (h : Srt s) : svcP (svcP s) = svcP s := by
  show (if depsP (svcP s) = [] then netsOf (svcP s) else mins kDependsOn (.map (depsP (svcP s))) (netsOf (svcP s))) = svcP s
  rw [depsP_svcP, netsOf_svcP]
  split
  · rfl
  · rename_i hd
    exact ins_same (svcP_srt h) (by rw [svcP_dep, if_neg hd])
theorem svcP_ok {s : List (ByteArray × T)} (h : SvcOK s) : SvcOK (svcP s) where
  srt := svcP_srt h.srt
  dep t ht := by
    rw [svcP_dep] at ht
    by_cases hd : depsP s = []
    · rw [if_pos hd] at ht
      exact h.dep t ht
    · rw [if_neg hd] at ht
      injection ht with ht
      exact ⟨_, ht.symm, hd, (deps_srt (dep0_srt h)).1⟩
  net t ht := by
    rw [svcP_net] at ht
    unfold netsOf at ht
    split at ht
    · exact h.net t ht
    · rw [get_ins] at ht
      injection ht with ht
      exact ⟨_, ht.symm, by simp [dnet], by simp [dnet, Srt]⟩
  mode t ht := by
    rw [svcP_get (by decide) (by decide)] at ht
    exact h.mode t ht
  both hm := by
    rw [hasK_of_get (svcP_get (s := s) (y := kNetworkMode) (by decide) (by decide))] at hm
    rw [hasK_of_get (svcP_net (s := s))]
    unfold netsOf
    rw [hm, Bool.true_or, if_pos rfl]
    exact h.both hm
  link t ht := by
    rw [svcP_get (by decide) (by decide)] at ht
    exact h.link t ht
  from_ t ht := by
    rw [svcP_get (by decide) (by decide)] at ht
    exact h.from_ t ht
  ban k hk := by
    rw [svcP_get (fun e => by subst e; revert hk; decide) (fun e => by subst e; revert hk; decide)]
    exact h.ban k hk

theorem nmRes_ok {p k : ByteArray} {t : T} (h : ResOK t) : ResOK (nmRes p k t) ∧ nmRes p k (nmRes p k t) = nmRes p k t := by
  cases t with
  | map r =>
    obtain ⟨hs, hn, he⟩ := h
    cases hg : mget kName r with
    | none =>
      have e1 : nmRes p k (.map r) = .map (mins kName (.text (nmName p k r)) r) := by simp [nmRes, hg]
      rw [e1]
      refine ⟨⟨hs.srt_ins, fun t ht => ?_, fun t ht => ?_⟩, ?_⟩
      · rw [get_ins] at ht
        injection ht with ht
        exact ⟨_, ht.symm⟩
      · rw [get_ins_ne (by decide)] at ht
        exact he t ht
      · simp [nmRes, get_ins]
    | some t =>
      have e1 : nmRes p k (.map r) = .map r := by simp [nmRes, hg]
      rw [e1, e1]
      exact ⟨⟨hs, hn, he⟩, rfl⟩
  | null =>
    have e1 : nmRes p k .null = .map [(kName, .text (p ++ kUnder ++ k))] := rfl
    rw [e1]
    refine ⟨⟨by simp [Srt], fun t ht => ?_, fun t ht => ?_⟩, ?_⟩
    · simp only [mget, if_true] at ht
      injection ht with ht
      exact ⟨_, ht.symm⟩
    · have : kName ≠ kExternal := by decide
      simp only [mget, this, if_false] at ht
      cases ht
    · simp [nmRes, mget]
  | bool _ => exact h.elim
  | int _ => exact h.elim
  | text _ => exact h.elim
  | list _ => exact h.elim
theorem named_ok {p : ByteArray} {l : List (ByteArray × T)} (h : ∀ q ∈ l, ResOK q.2) : (∀ q ∈ named p l, ResOK q.2) ∧ named p (named p l) = named p l := by
  constructor
  · intro q hq
    obtain ⟨x, hx, rfl⟩ := List.mem_map.1 hq
    exact (nmRes_ok (h x hx)).1
  · simp only [named, List.map_map]
    refine List.map_congr_left fun q hq => ?_
    simp only [Function.comp_apply]
    rw [(nmRes_ok (h q hq)).2]
theorem named_srt {p : ByteArray} {l : List (ByteArray × T)} (h : Srt l) : Srt (named p l) := srt_map (f := fun k t => nmRes p k t) h
theorem named_has {p k : ByteArray} {l : List (ByteArray × T)} : hasK k (named p l) = hasK k l := by
  have : mget k (named p l) = (mget k l).map (nmRes p k) := get_map (f := fun k t => nmRes p k t)
  unfold hasK
  rw [this]
  cases mget k l <;> rfl
theorem ins_mem {k : ByteArray} {x : T} {l : List (ByteArray × T)} {P : T → Prop} (hx : P x) (h : ∀ q ∈ l, P q.2) : ∀ q ∈ mins k x l, P q.2 := fun q hq => by
  rcases mem_ins hq with rfl | hq
  · exact hx
  · exact h q hq
theorem nets1_ok {m : List (ByteArray × T)} (h : ModelOK m) : Srt (nets1 m) ∧ ∀ q ∈ nets1 m, ResOK q.2 := by
  have h0 : Srt (nets0 m) ∧ ∀ q ∈ nets0 m, ResOK q.2 := by
    unfold nets0
    cases hg : mget kNetworks m with
    | none => exact ⟨List.Pairwise.nil, fun q hq => by cases hq⟩
    | some t =>
      obtain ⟨tl, rfl, h1, h2⟩ := h.net t hg
      exact ⟨h1, h2⟩
  unfold nets1
  split
  · exact ⟨h0.1.srt_ins, ins_mem (by trivial) h0.2⟩
  · exact h0
theorem normP_ok {m : List (ByteArray × T)} (h : ModelOK m) : ModelOK (normP m) where
  srt := normP_srt h.srt
  name := by
    rw [normP_ne h (by decide) (by decide) (by decide)]
    exact h.name
  svc := by
    obtain ⟨l, hl, hsl, hok⟩ := h.svc
    refine ⟨_, normP_svc, ?_, fun q hq => ?_⟩
    · rw [svcs_of hl]
      exact srt_onS hsl
    · rw [svcs_of hl] at hq
      obtain ⟨x, hx, rfl⟩ := List.mem_map.1 hq
      obtain ⟨s, hs, hsok⟩ := hok x hx
      exact ⟨_, rfl, by rw [hs]; exact svcP_ok hsok⟩
  net t ht := by
    rw [normP_net h] at ht
    split at ht
    · exact h.net t ht
    · injection ht with ht
      exact ⟨_, ht.symm, named_srt (nets1_ok h).1, (named_ok (nets1_ok h).2).1⟩
  vol t ht := by
    rw [normP_vol h] at ht
    cases hg : mget kVolumes m with
    | none => rw [hg] at ht; cases ht
    | some t0 =>
      rw [hg] at ht
      obtain ⟨tl, rfl, h1, h2⟩ := h.vol t0 hg
      injection ht with ht
      exact ⟨_, ht.symm, named_srt h1, (named_ok h2).1⟩
  cfg := by
    rw [normP_ne h (by decide) (by decide) (by decide)]
    exact h.cfg
  sec := by
    rw [normP_ne h (by decide) (by decide) (by decide)]
    exact h.sec
  job := by
    rw [normP_ne h (by decide) (by decide) (by decide)]
    exact h.job
theorem prj_normP {m : List (ByteArray × T)} (h : ModelOK m) : prj (normP m) = prj m := by
  unfold prj
  rw [normP_ne h (by decide) (by decide) (by decide)]
theorem nets0_normP {m : List (ByteArray × T)} (h : ModelOK m) : nets0 (normP m) = named (prj m) (nets1 m) := by
  unfold nets0
  rw [normP_net h]
  split
  · rename_i t l heq
    split at heq
    · rename_i hn
      have h0 : nets0 m = l := by simp [nets0, heq]
      unfold nets1 at hn ⊢
      rw [h0] at hn ⊢
      split at hn
      · exact absurd hn ins_ne_nil
      · rename_i hc
        rw [if_neg hc, hn]
        rfl
    · injection heq with heq
      injection heq with heq
      exact heq.symm
  · rename_i hne
    by_cases hn : nets1 m = []
    · rw [hn]; rfl
    · rw [if_neg hn] at hne
      exact absurd rfl (hne _)
theorem svcs_normP {m : List (ByteArray × T)} : svcs (normP m) = onS svcP (svcs m) := svcs_of normP_svc
theorem hasDef_svcP {s : List (ByteArray × T)} : hasDef (netsOf (svcP s)) = hasDef (netsOf s) := by
  rw [netsOf_svcP]
  unfold hasDef
  rw [svcP_net]
theorem nets1_normP {m : List (ByteArray × T)} (h : ModelOK m) : nets1 (normP m) = named (prj m) (nets1 m) := by
  have hany : (svcs (normP m)).any (fun p => hasDef (netsOf p.2.m)) = (svcs m).any (fun p => hasDef (netsOf p.2.m)) := by
    rw [svcs_normP]
    simp only [onS, List.any_map]
    congr 1
    funext q
    exact hasDef_svcP
  have e : nets1 (normP m) = if (svcs m).any (fun p => hasDef (netsOf p.2.m)) && !hasK kDefault (nets1 m) then mins kDefault .null (named (prj m) (nets1 m)) else named (prj m) (nets1 m) := by
    rw [show nets1 (normP m) = if (svcs (normP m)).any (fun p => hasDef (netsOf p.2.m)) && !hasK kDefault (nets0 (normP m)) then mins kDefault .null (nets0 (normP m)) else nets0 (normP m) from rfl, hany, nets0_normP h, named_has]
  rw [e]
  by_cases hu : (svcs m).any (fun p => hasDef (netsOf p.2.m)) = true
  · have : hasK kDefault (nets1 m) = true := by
      unfold nets1
      rw [hu, Bool.true_and]
      split
      · exact hasK_ins
      · rename_i hc
        simpa using hc
    rw [this]
    simp
  · rw [Bool.not_eq_true] at hu
    rw [hu]
    simp
/-- THE LAW of FnNormalizeTwice. -/
theorem norm_twice {m : List (ByteArray × T)} (h : ModelOK m) : normP (normP m) = normP m := by
  obtain ⟨l, hl, hsl, hok⟩ := h.svc
  have h' := normP_ok h
  refine Srt.ext (normP_srt h'.srt) h'.srt fun y => ?_
  by_cases e1 : y = kServices
  · subst e1
    rw [normP_svc, svcs_normP, onS_onS, normP_svc, svcs_of hl]
    congr 2
    refine List.map_congr_left fun q hq => ?_
    obtain ⟨s, hs, hsok⟩ := hok q hq
    rw [hs]
    simp only [T.m]
    rw [svcP_svcP hsok.srt]
  · by_cases e2 : y = kNetworks
    · subst e2
      rw [normP_net h', nets1_normP h, prj_normP h, (named_ok (nets1_ok h).2).2]
      split
      · rfl
      · rename_i hn
        rw [normP_net h, if_neg (fun e => hn (by rw [e]; rfl))]
    · by_cases e3 : y = kVolumes
      · subst e3
        rw [normP_vol h', prj_normP h, normP_vol h]
        cases hg : mget kVolumes m with
        | none => rfl
        | some t =>
          obtain ⟨tl, rfl, h1, h2⟩ := h.vol t hg
          simp only [Option.map_some, T.m]
          rw [(named_ok h2).2]
      · rw [normP_ne h' e1 e2 e3]

/-! ### apart -/
/-- The model with one service alone. -/
def oneSvc (k : ByteArray) (t : T) (m : List (ByteArray × T)) : List (ByteArray × T) := mins kServices (.map [(k, t)]) m
theorem oneSvc_ok {m : List (ByteArray × T)} (h : ModelOK m) {k : ByteArray} {t : T} (hg : mget k (svcs m) = some t) : ModelOK (oneSvc k t m) where
  srt := h.srt.srt_ins
  name := by
    unfold oneSvc
    rw [get_ins_ne (by decide)]
    exact h.name
  svc := by
    obtain ⟨l, hl, hsl, hok⟩ := h.svc
    rw [svcs_of hl] at hg
    refine ⟨_, get_ins, by simp [Srt], fun q hq => ?_⟩
    have := hok _ (get_some hg)
    simp at hq
    subst hq
    exact this
  net := by
    unfold oneSvc TopOK
    rw [get_ins_ne (by decide)]
    exact h.net
  vol := by
    unfold oneSvc TopOK
    rw [get_ins_ne (by decide)]
    exact h.vol
  cfg := by
    unfold oneSvc
    rw [get_ins_ne (by decide)]
    exact h.cfg
  sec := by
    unfold oneSvc
    rw [get_ins_ne (by decide)]
    exact h.sec
  job := by
    unfold oneSvc
    rw [get_ins_ne (by decide)]
    exact h.job
/-- THE LAW of FnNormalizeApart. -/
theorem norm_apart {m : List (ByteArray × T)} {k : ByteArray} {t : T} (hg : mget k (svcs m) = some t) :
    mget k (svcs (normP (oneSvc k t m))) = some (.map (svcP t.m)) ∧ mget k (svcs (normP m)) = some (.map (svcP t.m)) := by
  constructor
  · rw [svcs_normP, get_onS, show svcs (oneSvc k t m) = [(k, t)] from svcs_of get_ins]
    simp [mget]
  · rw [svcs_normP, get_onS, hg]
    rfl

/-! ### roads -/
theorem prj_netsP {m : List (ByteArray × T)} : prj (netsP m) = prj m := by
  unfold prj
  rw [netsP_ne (by decide) (by decide)]
theorem nmTop_congr {p k : ByteArray} {m m' : List (ByteArray × T)} (h : mget k m = mget k m') : mget k (nmTop p k m) = mget k (nmTop p k m') := by
  cases hg : mget k m' with
  | none => rw [nmTop_none (h.trans hg), nmTop_none hg, h]
  | some t =>
    cases t with
    | map tl => rw [nmTop_some (h.trans hg), nmTop_some hg]
    | _ =>
      unfold nmTop
      rw [h, hg]
      simp only
      rw [h, hg]
/-- THE LAW of FnNormalizeRoads. -/
theorem norm_roads {m : List (ByteArray × T)} (h : ModelOK m) (y : ByteArray) (hy : y = kNetworks ∨ y = kVolumes) : mget y (nmUpto (prj (netsP m)) 4 (netsP m)) = mget y (normP m) := by
  rw [prj_netsP, normP_eq]
  show mget y (nmTop (prj m) kSecrets (nmTop (prj m) kConfigs (nmTop (prj m) kVolumes (nmTop (prj m) kNetworks (netsP m))))) = _
  have hne : ∀ z, z ≠ kServices → mget z (netsP m) = mget z (depStage (netsP m)) := fun z hz => (depStage_ne hz).symm
  rcases hy with rfl | rfl
  · rw [nmTop_ne (by decide), nmTop_ne (by decide), nmTop_ne (by decide)]
    refine (nmTop_congr (hne _ (by decide))).trans ?_
    rw [nmTop_ne (y := kNetworks) (k := kSecrets) (by decide), nmTop_ne (y := kNetworks) (k := kConfigs) (by decide), nmTop_ne (y := kNetworks) (k := kVolumes) (by decide)]
  · rw [nmTop_ne (by decide), nmTop_ne (by decide)]
    refine (nmTop_congr (m' := nmTop (prj m) kNetworks (depStage (netsP m))) ?_).trans ?_
    · rw [nmTop_ne (by decide), nmTop_ne (by decide), hne _ (by decide)]
    · rw [nmTop_ne (y := kVolumes) (k := kSecrets) (by decide), nmTop_ne (y := kVolumes) (k := kConfigs) (by decide)]
end Go.Proofs.YtedbfoknfdiadaaGreatDoor
namespace Go.Proofs.YtedbfoknfdiadaaGreatDoor

theorem one_le_size (t : T) : 1 ≤ T.size t := by cases t <;> simp [T.size]
theorem size_m (t : T) : T.sizeM t.m + 1 ≤ T.size t := by
  cases t <;> simp [T.size, T.m, T.sizeM] <;> omega
theorem sizeM_ins {k : ByteArray} {x : T} : ∀ {m : List (ByteArray × T)}, T.sizeM (mins k x m) ≤ T.sizeM m + T.size x
  | [] => by simp [mins, T.sizeM]
  | p :: m => by
    unfold mins
    split
    · simp only [T.sizeM]
      omega
    · split
      · have := sizeM_ins (k := k) (x := x) (m := m)
        simp only [T.sizeM]
        omega
      · simp only [T.sizeM]
        omega
theorem sizeM_get {k : ByteArray} {x : T} : ∀ {m : List (ByteArray × T)}, mget k m = some x → T.size x ≤ T.sizeM m
  | [], h => by simp [mget] at h
  | p :: m, h => by
    unfold mget at h
    simp only [T.sizeM]
    split at h
    · cases h
      omega
    · have := sizeM_get h
      omega
theorem sizeM_put {k : ByteArray} {x y : T} : ∀ {m : List (ByteArray × T)}, Srt m → mget k m = some y → T.sizeM (mins k x m) + T.size y = T.sizeM m + T.size x
  | [], _, h => by simp [mget] at h
  | p :: m, hs, h => by
    unfold mget at h
    unfold mins
    by_cases e : p.1 = k
    · rw [if_pos e] at h ⊢
      cases h
      simp only [T.sizeM]
      omega
    · rw [if_neg e] at h ⊢
      have hb := hs.head _ (get_some h)
      rw [if_pos hb]
      have := sizeM_put (x := x) hs.tail h
      simp only [T.sizeM]
      omega
theorem sizeM_need {f : T} {d : List (ByteArray × T)} {k : ByteArray} : T.sizeM (need f d k) ≤ T.sizeM d + T.size f := by
  unfold need
  split
  · omega
  · exact sizeM_ins
theorem sizeM_needs {f : T} : ∀ {ks : List ByteArray} {d : List (ByteArray × T)}, T.sizeM (needs f d ks) ≤ T.sizeM d + ks.length * T.size f
  | [], _ => by simp [needs]
  | k :: ks, d => by
    have h1 := sizeM_needs (f := f) (ks := ks) (d := need f d k)
    have h2 := sizeM_need (f := f) (d := d) (k := k)
    have h3 : (ks.length + 1) * T.size f = ks.length * T.size f + T.size f := by rw [Nat.add_mul, Nat.one_mul]
    show T.sizeM (needs f (need f d k) ks) ≤ _
    simp only [List.length_cons]
    omega
theorem size_imp (r : Bool) : T.size (impP r) = 4 := rfl
theorem sizeL_len' : ∀ (l : List T), l.length ≤ T.sizeL l
  | [] => Nat.le_refl _
  | t :: l => by
    have := one_le_size t
    have := sizeL_len' l
    simp only [T.sizeL, List.length_cons]
    omega
theorem lnk_le {k : ByteArray} {s : List (ByteArray × T)} : (lnk k s).length ≤ T.sizeM s := by
  unfold lnk
  split
  · rename_i l h
    have h1 := sizeM_get h
    have h2 := sizeL_len' l
    simp only [T.size] at h1
    simp only [List.length_map]
    omega
  · exact Nat.zero_le _
theorem nmode_le {s : List (ByteArray × T)} : (nmode s).length ≤ 1 := by
  unfold nmode
  split
  · split <;> simp
  · simp
theorem dep0_le {s : List (ByteArray × T)} : T.sizeM (dep0 s) ≤ T.sizeM s := by
  unfold dep0
  split
  · rename_i d h
    have h1 := sizeM_get h
    simp only [T.size] at h1
    omega
  · exact Nat.zero_le _
theorem depsP_le {s : List (ByteArray × T)} : T.sizeM (depsP s) ≤ 9 * T.sizeM s + 4 := by
  have h0 := dep0_le (s := s)
  have h1 := lnk_le (k := kLinks) (s := s)
  have h2 := lnk_le (k := kVolumesFrom) (s := s)
  have h3 := nmode_le (s := s)
  have a1 := sizeM_needs (f := impP true) (d := dep0 s) (ks := lnk kLinks s)
  have a2 := sizeM_needs (f := impP true) (d := needs (impP true) (dep0 s) (lnk kLinks s)) (ks := nmode s)
  have a3 := sizeM_needs (f := impP false) (d := needs (impP true) (needs (impP true) (dep0 s) (lnk kLinks s)) (nmode s)) (ks := lnk kVolumesFrom s)
  rw [size_imp] at a1 a2 a3
  unfold depsP
  omega
theorem netsOf_le {s : List (ByteArray × T)} : T.sizeM (netsOf s) ≤ T.sizeM s + 2 := by
  unfold netsOf
  split
  · omega
  · have := sizeM_ins (k := kNetworks) (x := .map dnet) (m := s)
    have h : T.size (.map dnet) = 2 := rfl
    omega
theorem svcP_le {s : List (ByteArray × T)} : T.sizeM (svcP s) ≤ 10 * T.sizeM s + 7 := by
  have h1 := netsOf_le (s := s)
  have h2 := depsP_le (s := s)
  unfold svcP
  split
  · omega
  · have := sizeM_ins (k := kDependsOn) (x := .map (depsP s)) (m := netsOf s)
    have h : T.size (.map (depsP s)) = 1 + T.sizeM (depsP s) := rfl
    omega
theorem onS_le {f : List (ByteArray × T) → List (ByteArray × T)} {c : Nat} (h : ∀ s, T.sizeM (f s) + 1 ≤ c * (T.sizeM s + 1)) : ∀ {l : List (ByteArray × T)}, T.sizeM (onS f l) ≤ c * T.sizeM l
  | [] => by simp [onS, T.sizeM]
  | p :: l => by
    have ih := onS_le h (l := l)
    have h1 := h p.2.m
    have h2 := size_m p.2
    have h3 : c * (T.sizeM p.2.m + 1) ≤ c * T.size p.2 := Nat.mul_le_mul_left _ h2
    have h4 : c * (T.size p.2 + T.sizeM l) = c * T.size p.2 + c * T.sizeM l := Nat.mul_add _ _ _
    have e : onS f (p :: l) = (p.1, .map (f p.2.m)) :: onS f l := rfl
    rw [e]
    simp only [T.sizeM, T.size]
    omega
theorem onS_svcP {l : List (ByteArray × T)} : T.sizeM (onS svcP l) ≤ 10 * T.sizeM l := onS_le fun s => by
  have := svcP_le (s := s)
  omega
theorem onS_nets {l : List (ByteArray × T)} : T.sizeM (onS netsOf l) ≤ 3 * T.sizeM l := onS_le fun s => by
  have := netsOf_le (s := s)
  omega
theorem nmRes_le {p k : ByteArray} {t : T} : T.size (nmRes p k t) ≤ T.size t + 1 := by
  have h0 := one_le_size t
  cases t with
  | map r =>
    simp only [nmRes]
    split
    · have := sizeM_ins (k := kName) (x := .text (nmName p k r)) (m := r)
      have h : T.size (.text (nmName p k r)) = 1 := rfl
      simp only [T.size]
      omega
    · omega
  | _ => simp [nmRes, T.size, T.sizeM] <;> omega
theorem named_le {p : ByteArray} : ∀ {l : List (ByteArray × T)}, T.sizeM (named p l) ≤ 2 * T.sizeM l
  | [] => by simp [named, T.sizeM]
  | q :: l => by
    have ih := named_le (p := p) (l := l)
    have h1 := nmRes_le (p := p) (k := q.1) (t := q.2)
    have h2 := one_le_size q.2
    have e : named p (q :: l) = (q.1, nmRes p q.1 q.2) :: named p l := rfl
    rw [e]
    simp only [T.sizeM]
    omega
theorem svcs_le {m : List (ByteArray × T)} : T.sizeM (svcs m) ≤ T.sizeM m := by
  unfold svcs
  split
  · rename_i l h
    have := sizeM_get h
    simp only [T.size] at this
    omega
  · exact Nat.zero_le _
theorem nets0_le {m : List (ByteArray × T)} : T.sizeM (nets0 m) ≤ T.sizeM m := by
  unfold nets0
  split
  · rename_i l h
    have := sizeM_get h
    simp only [T.size] at this
    omega
  · exact Nat.zero_le _
theorem nets1_le {m : List (ByteArray × T)} : T.sizeM (nets1 m) ≤ T.sizeM m + 1 := by
  have h0 := nets0_le (m := m)
  unfold nets1
  split
  · have := sizeM_ins (k := kDefault) (x := .null) (m := nets0 m)
    have h : T.size .null = 1 := rfl
    omega
  · omega
theorem netsP_le {m : List (ByteArray × T)} : T.sizeM (netsP m) ≤ 5 * T.sizeM m + 3 := by
  have h0 := svcs_le (m := m)
  have h1 := onS_nets (l := svcs m)
  have h2 := nets1_le (m := m)
  have h3 := sizeM_ins (k := kServices) (x := .map (onS netsOf (svcs m))) (m := m)
  have h4 : T.size (.map (onS netsOf (svcs m))) = 1 + T.sizeM (onS netsOf (svcs m)) := rfl
  unfold netsP
  split
  · omega
  · have h5 := sizeM_ins (k := kNetworks) (x := .map (nets1 m)) (m := mins kServices (.map (onS netsOf (svcs m))) m)
    have h6 : T.size (.map (nets1 m)) = 1 + T.sizeM (nets1 m) := rfl
    omega
theorem svcs_netsP {m : List (ByteArray × T)} : svcs (netsP m) = onS netsOf (svcs m) := svcs_of netsP_svc
theorem depStage_le {m : List (ByteArray × T)} : T.sizeM (depStage (netsP m)) ≤ 15 * T.sizeM m + 4 := by
  have h0 := svcs_le (m := m)
  have h1 := netsP_le (m := m)
  have h2 := onS_svcP (l := svcs m)
  unfold depStage
  rw [svcs_netsP, onS_onS]
  have e : onS (fun s => depOf (netsOf s)) (svcs m) = onS svcP (svcs m) := by
    unfold onS
    simp only [depOf_nets]
  rw [e]
  have h3 := sizeM_ins (k := kServices) (x := .map (onS svcP (svcs m))) (m := netsP m)
  have h4 : T.size (.map (onS svcP (svcs m))) = 1 + T.sizeM (onS svcP (svcs m)) := rfl
  omega
theorem nmTop_le {p k : ByteArray} {m : List (ByteArray × T)} (hs : Srt m) : T.sizeM (nmTop p k m) ≤ 2 * T.sizeM m := by
  unfold nmTop
  split
  · rename_i tl h
    have h1 := sizeM_put (x := .map (named p tl)) hs h
    have h2 := named_le (p := p) (l := tl)
    have h3 := sizeM_get h
    simp only [T.size] at h1 h3
    omega
  · omega
theorem normP_le {m : List (ByteArray × T)} (h : ModelOK m) : T.sizeM (normP m) ≤ 60 * T.sizeM m + 16 := by
  rw [normP_eq]
  have h0 := depStage_le (m := m)
  have s0 : Srt (depStage (netsP m)) := (netsP_srt h.srt).srt_ins
  have h1 := nmTop_le (p := prj m) (k := kNetworks) s0
  have s1 := nmTop_srt (p := prj m) (k := kNetworks) s0
  have h2 := nmTop_le (p := prj m) (k := kVolumes) s1
  have hc : mget kConfigs (nmTop (prj m) kVolumes (nmTop (prj m) kNetworks (depStage (netsP m)))) = none := by
    rw [nmTop_ne (by decide), nmTop_ne (by decide), depStage_ne (by decide), netsP_ne (by decide) (by decide)]
    exact h.cfg
  have hsx : mget kSecrets (nmTop (prj m) kVolumes (nmTop (prj m) kNetworks (depStage (netsP m)))) = none := by
    rw [nmTop_ne (by decide), nmTop_ne (by decide), depStage_ne (by decide), netsP_ne (by decide) (by decide)]
    exact h.sec
  rw [nmTop_none hc, nmTop_none hsx]
  omega

/-! ### lengths -/
mutual
theorem WF.mono {B C : Nat} (h : B ≤ C) : ∀ {t : T}, WF B t → WF C t
  | .null, _ => trivial
  | .bool _, _ => trivial
  | .int _, _ => trivial
  | .text _, hw => Nat.le_trans hw h
  | .list _, hw => WFL.mono h hw
  | .map _, hw => ⟨hw.1, WFM.mono h hw.2⟩
theorem WFL.mono {B C : Nat} (h : B ≤ C) : ∀ {l : List T}, WFL B l → WFL C l
  | [], _ => trivial
  | _ :: _, hw => ⟨WF.mono h hw.1, WFL.mono h hw.2⟩
theorem WFM.mono {B C : Nat} (h : B ≤ C) : ∀ {m : List (ByteArray × T)}, WFM B m → WFM C m
  | [], _ => trivial
  | _ :: _, hw => ⟨Nat.le_trans hw.1 h, WF.mono h hw.2.1, WFM.mono h hw.2.2⟩
end
theorem WF.need {B : Nat} {f : T} {d : List (ByteArray × T)} {k : ByteArray} (hd : WF B (.map d)) (hf : WF B f) (hk : k.size ≤ B) : WF B (.map (need f d k)) := by
  unfold Go.Proofs.YtedbfoknfdiadaaGreatDoor.need
  split
  · exact hd
  · exact hd.ins hk hf
theorem WF.needs {B : Nat} {f : T} (hf : WF B f) : ∀ {ks : List ByteArray} {d : List (ByteArray × T)}, WF B (.map d) → (∀ k ∈ ks, k.size ≤ B) → WF B (.map (needs f d ks))
  | [], _, hd, _ => hd
  | k :: ks, d, hd, hk => WF.needs hf (ks := ks) (hd.need hf (hk k (by simp))) (fun y hy => hk y (by simp [hy]))
theorem extract_size_le (s : ByteArray) (a b : Nat) : (s.extract a b).size ≤ s.size := by
  rw [ByteArray.size_extract]
  omega
theorem WF.empty {B : Nat} : WF B (.map []) := ⟨List.Pairwise.nil, trivial⟩
theorem dep0_wf {B : Nat} {s : List (ByteArray × T)} (h : WF B (.map s)) : WF B (.map (dep0 s)) := by
  unfold dep0
  split
  · rename_i d hg
    exact h.of_get hg
  · exact WF.empty
theorem lnk_wf {B : Nat} {k : ByteArray} {s : List (ByteArray × T)} (h : WF B (.map s)) : ∀ y ∈ lnk k s, y.size ≤ B := by
  unfold lnk
  split
  · rename_i l hg
    intro y hy
    obtain ⟨t, ht, rfl⟩ := List.mem_map.1 hy
    have hl : WF B (.list l) := h.of_get hg
    exact Nat.le_trans (extract_size_le _ _ _) (WFL_iff.1 hl t ht).txt
  · intro y hy
    cases hy
theorem nmode_wf {B : Nat} {s : List (ByteArray × T)} (h : WF B (.map s)) : ∀ y ∈ nmode s, y.size ≤ B := by
  unfold nmode
  split
  · rename_i x hg
    have hx : x.size ≤ B := h.of_get hg
    split
    · intro y hy
      rw [List.mem_singleton.1 hy]
      exact Nat.le_trans (extract_size_le _ _ _) hx
    · intro y hy
      cases hy
  · intro y hy
    cases hy
theorem imp_wf {B : Nat} (hB : 64 ≤ B) (r : Bool) : WF B (impP r) := by
  have h1 : kCondition.size = 9 := rfl
  have h2 : kStarted.size = 15 := rfl
  have h3 : kRequired.size = 8 := rfl
  have h4 : kRestart.size = 7 := rfl
  have c1 : kCondition.size ≤ B := by omega
  have c3 : kRequired.size ≤ B := by omega
  have c4 : kRestart.size ≤ B := by omega
  refine ⟨?_, ?_⟩
  · have b1 : blt kCondition kRequired = true := by decide +kernel
    have b2 : blt kCondition kRestart = true := by decide +kernel
    have b3 : blt kRequired kRestart = true := by decide +kernel
    simp [Srt, b1, b2, b3]
  · refine ⟨c1, ?_, c3, trivial, c4, trivial, trivial⟩
    show kStarted.size ≤ B
    omega
theorem depsP_wf {B : Nat} (hB : 64 ≤ B) {s : List (ByteArray × T)} (h : WF B (.map s)) : WF B (.map (depsP s)) :=
  WF.needs (imp_wf hB _) (WF.needs (imp_wf hB _) (WF.needs (imp_wf hB _) (dep0_wf h) (lnk_wf h)) (nmode_wf h)) (lnk_wf h)
theorem netsOf_wf {B : Nat} (hB : 64 ≤ B) {s : List (ByteArray × T)} (h : WF B (.map s)) : WF B (.map (netsOf s)) := by
  unfold netsOf
  split
  · exact h
  · have h1 : kNetworks.size = 8 := rfl
    have h2 : kDefault.size = 7 := rfl
    have c2 : kDefault.size ≤ B := by omega
    exact h.ins (by omega) ⟨by simp [dnet, Srt], c2, trivial, trivial⟩
theorem svcP_wf {B : Nat} (hB : 64 ≤ B) {s : List (ByteArray × T)} (h : WF B (.map s)) : WF B (.map (svcP s)) := by
  unfold svcP
  split
  · exact netsOf_wf hB h
  · have h1 : kDependsOn.size = 10 := rfl
    exact (netsOf_wf hB h).ins (by omega) (depsP_wf hB h)
theorem WF.m {B : Nat} {t : T} (h : WF B t) : WF B (.map t.m) := by
  cases t <;> first | exact h | exact WF.empty
theorem onS_wf {B : Nat} {f : List (ByteArray × T) → List (ByteArray × T)} (hf : ∀ s, WF B (.map s) → WF B (.map (f s))) {l : List (ByteArray × T)} (h : WF B (.map l)) : WF B (.map (onS f l)) := by
  refine ⟨srt_onS h.1, WFM_iff.2 fun q hq => ?_⟩
  obtain ⟨p, hp, rfl⟩ := List.mem_map.1 hq
  have := WFM_iff.1 h.2 p hp
  exact ⟨this.1, hf _ this.2.m⟩
theorem svcs_wf {B : Nat} {m : List (ByteArray × T)} (h : WF B (.map m)) : WF B (.map (svcs m)) := by
  unfold svcs
  split
  · rename_i l hg
    exact h.of_get hg
  · exact WF.empty
theorem nets0_wf {B : Nat} {m : List (ByteArray × T)} (h : WF B (.map m)) : WF B (.map (nets0 m)) := by
  unfold nets0
  split
  · rename_i l hg
    exact h.of_get hg
  · exact WF.empty
theorem nets1_wf {B : Nat} (hB : 64 ≤ B) {m : List (ByteArray × T)} (h : WF B (.map m)) : WF B (.map (nets1 m)) := by
  unfold nets1
  split
  · have h2 : kDefault.size = 7 := rfl
    exact (nets0_wf h).ins (by omega) trivial
  · exact nets0_wf h
theorem netsP_wf {B : Nat} (hB : 64 ≤ B) {m : List (ByteArray × T)} (h : WF B (.map m)) : WF B (.map (netsP m)) := by
  have h1 : kServices.size = 8 := rfl
  have h2 : kNetworks.size = 8 := rfl
  have h3 := h.ins (k := kServices) (by omega) (onS_wf (fun s hs => netsOf_wf hB hs) (svcs_wf h))
  unfold netsP
  split
  · exact h3
  · exact h3.ins (by omega) (nets1_wf hB h)
theorem depStage_wf {B : Nat} (hB : 64 ≤ B) {m : List (ByteArray × T)} (h : WF B (.map m)) : WF B (.map (depStage (netsP m))) := by
  have h1 : kServices.size = 8 := rfl
  unfold depStage
  rw [svcs_netsP, onS_onS]
  have e : onS (fun s => depOf (netsOf s)) (svcs m) = onS svcP (svcs m) := by
    unfold onS
    simp only [depOf_nets]
  rw [e]
  exact (netsP_wf hB h).ins (by omega) (onS_wf (fun s hs => svcP_wf hB hs) (svcs_wf h))
/-- Keys up to B bytes. -/
def KeysB (B : Nat) (m : List (ByteArray × T)) (k : ByteArray) : Prop := ∀ tl, mget k m = some (.map tl) → ∀ q ∈ tl, q.1.size ≤ B
theorem nmRes_wf {B C : Nat} {p k : ByteArray} {t : T} (hC : 64 ≤ C) (hp : p.size ≤ B) (hk : k.size ≤ B) (hBC : 2 * B + 1 ≤ C) (h : WF C t) : WF C (nmRes p k t) := by
  have h1 : kName.size = 4 := rfl
  have hu : (p ++ kUnder ++ k).size ≤ C := by
    rw [ByteArray.size_append, ByteArray.size_append]
    have : kUnder.size = 1 := rfl
    omega
  have hn : ∀ r, (nmName p k r).size ≤ C := fun r => by
    unfold nmName
    split
    · omega
    · exact hu
  cases t with
  | map r =>
    simp only [nmRes]
    split
    · exact h.ins (by omega) (hn r)
    · exact h
  | _ =>
    have c1 : kName.size ≤ C := by omega
    exact ⟨by simp [Srt], c1, hu, trivial⟩
theorem named_wf {B C : Nat} {p : ByteArray} (hC : 64 ≤ C) (hp : p.size ≤ B) (hBC : 2 * B + 1 ≤ C) {l : List (ByteArray × T)} (h : WF C (.map l)) (hk : ∀ q ∈ l, q.1.size ≤ B) : WF C (.map (named p l)) := by
  refine ⟨named_srt h.1, WFM_iff.2 fun q hq => ?_⟩
  obtain ⟨r, hr, rfl⟩ := List.mem_map.1 hq
  have := WFM_iff.1 h.2 r hr
  exact ⟨this.1, nmRes_wf hC hp (hk r hr) hBC this.2⟩
theorem nmTop_wf {B C : Nat} {p k : ByteArray} (hC : 64 ≤ C) (hp : p.size ≤ B) (hBC : 2 * B + 1 ≤ C) (hkC : k.size ≤ C) {m : List (ByteArray × T)} (h : WF C (.map m)) (hk : KeysB B m k) : WF C (.map (nmTop p k m)) := by
  unfold nmTop
  split
  · rename_i tl hg
    exact h.ins hkC (named_wf hC hp hBC (h.of_get hg) (hk tl hg))
  · exact h
theorem prj_wf {B : Nat} {m : List (ByteArray × T)} (h : WF B (.map m)) : (prj m).size ≤ B := by
  unfold prj
  split
  · rename_i s hg
    exact h.of_get hg
  · exact Nat.zero_le _
theorem normP_wf {B C : Nat} {m : List (ByteArray × T)} (h : ModelOK m) (hB : 64 ≤ B) (hBC : 2 * B + 1 ≤ C) (hw : WF B (.map m)) : WF C (.map (normP m)) := by
  rw [normP_eq]
  have hC : 64 ≤ C := by omega
  have hp := prj_wf hw
  have hd := depStage_wf hB hw
  have hdC : WF C (.map (depStage (netsP m))) := hd.mono (by omega)
  have n1 : kNetworks.size = 8 := rfl
  have n2 : kVolumes.size = 7 := rfl
  have k1 : KeysB B (depStage (netsP m)) kNetworks := fun tl hg q hq => (WFM_iff.1 (hd.of_get hg).2 q hq).1
  have k2 : KeysB B (nmTop (prj m) kNetworks (depStage (netsP m))) kVolumes := fun tl hg q hq => by
    rw [nmTop_ne (by decide)] at hg
    exact (WFM_iff.1 (hd.of_get hg).2 q hq).1
  have h1 := nmTop_wf hC hp hBC (by omega) hdC k1
  have h2 := nmTop_wf hC hp hBC (by omega) h1 k2
  have hc : mget kConfigs (nmTop (prj m) kVolumes (nmTop (prj m) kNetworks (depStage (netsP m)))) = none := by
    rw [nmTop_ne (by decide), nmTop_ne (by decide), depStage_ne (by decide), netsP_ne (by decide) (by decide)]
    exact h.cfg
  have hsx : mget kSecrets (nmTop (prj m) kVolumes (nmTop (prj m) kNetworks (depStage (netsP m)))) = none := by
    rw [nmTop_ne (by decide), nmTop_ne (by decide), depStage_ne (by decide), netsP_ne (by decide) (by decide)]
    exact h.sec
  rw [nmTop_none hc, nmTop_none hsx]
  exact h2
end Go.Proofs.YtedbfoknfdiadaaGreatDoor
