/- impl.pairs: a map of an environment. Conditions: lengths. Any Val of the reference's package, as it comes in; the size tests. Conditions: lengths. laws.pairsTo: the thin package's pairs. Conditions: lengths. (Printed by wip/gen/mkPairsB.py.) -/
import Derived.Test.YtedbfoknfdiadaaGreatDoorFromAny
import Derived.ChangeArms
set_option linter.unusedVariables false
set_option linter.unusedSimpArgs false
namespace Go.Proofs.YtedbfoknfdiadaaGreatDoor
open Go.RowKit
variable {o : Nat → Prop}
set_option maxRecDepth 100000

/-- A slice of n pairs of texts that is read. -/
def RdP (o : Nat → Prop) (w : World) (n : Nat) (v : Value) : Prop := ∃ A c, v = .slice A n c ∧ n ≤ c ∧ (0 < n → ∃ g off, A = some ⟨g, off, none⟩ ∧ o g ∧ ∀ j, j < n → ∃ s s', w.cell? ⟨g, off + j * 2, none⟩ = some (.string s) ∧ w.cell? ⟨g, off + j * 2 + 1, none⟩ = some (.string s'))
theorem RdP.chg {w w' : World} {n : Nat} {v : Value} (h : RdP o w n v) (hc : Chg [] w w') : RdP o w' n v := by
  obtain ⟨A, c, rfl, hnc, h⟩ := h
  refine ⟨A, c, rfl, hnc, fun h0 => ?_⟩
  obtain ⟨g, off, rfl, ho, hg⟩ := h h0
  refine ⟨g, off, rfl, ho, fun j hj => ?_⟩
  obtain ⟨s, s', h1, h2⟩ := hg j hj
  have hgl := World.block_lt_of_cell? w _ h1
  exact ⟨s, s', (hc.cells.1 _ _ hgl).trans h1, (hc.cells.1 _ _ hgl).trans h2⟩
theorem uMS : Tryz.prog.underlying 69 = some (.map 9 9) := by kernel_rfl
@[go_sem] theorem mkMS_hint (n : Int) (w : World) : (Instr.makeMap 69 (some (.int .i64 n))).run Tryz.prog w = .ok (.map (some w.heap.size)) (w.alloc (.map #[] 0)) := by
  simp [Instr.makeMap, run_underlying uMS, asInt, asIntOf, Result.andThen]
set_option maxHeartbeats 1000000 in
theorem pairs_any (n : Nat) (v : Value) (w : World) (h : RdP o w n v) (hn : n ≤ 67108864) : Calls Tryz.prog 39 #[v] w fun e w' => ∃ b, e = .returned (.map (some b)) ∧ Chg [] w w' := by
  obtain ⟨A, c, rfl, hnc, hg⟩ := h
  have HG := Lib.hid hg
  clear hg
  go_enter Tryz.func39, Tryz.ntmps39
  go_wp2_with fail
  go_loopg [11] n (fun g i wr => ∃ k : Nat, k ≤ n ∧ g = n - k ∧ i = .int .i64 k ∧ Chg [] w wr ∧ ∃ ks, MapAt wr w.heap.size ks)
  case atStart => exact ⟨0, Nat.zero_le _, by omega, rfl, (Chg.refl [] w).al _, [], MapAt.new w⟩
  case round =>
    obtain ⟨k, hk, rfl, rfl, hcr, ks, hma⟩ := hrel
    by_cases hlt : k < n
    · obtain ⟨g, off, rfl, _, hgc⟩ := HG.out (by omega)
      obtain ⟨s, s', h1, h2⟩ := hgc k hlt
      have hgl := World.block_lt_of_cell? w _ h1
      have hgl : g < w.heap.size := hgl
      have c1 := (hcr.cells.1 _ _ hgl).trans h1
      have c2 := (hcr.cells.1 _ _ hgl).trans h2
      have hszr := hma.lt
      obtain ⟨W1, hW1⟩ : ∃ W1, W1 = wr.alloc (.cells #[.string s, .string s'] 71) := ⟨_, rfl⟩
      obtain ⟨w3, hup, hm3, hon3, _⟩ := run_update (P := Tryz.prog) (hma.frame (w' := W1) (hW1 ▸ heap_alloc_old _ _ _ hszr)) uMS uS s (.string s')
      have hc3 : Chg [] w w3 := (hcr.trans (hW1 ▸ (Chg.refl [] wr).al _) New.nil).trans (Chg.only hon3 (List.mem_singleton.2 rfl)) (fun y hy => .inr (by rw [List.mem_singleton.1 hy]; exact Nat.le_refl _))
      rw [hW1] at hup
      have HX := Lib.hid (And.intro hc3 hm3)
      clear hm3 hon3 hc3 hW1 hma hcr hgc h1 h2
      go_wp2_with fail
      go_roundg (n - (k + 1))
      case measure => omega
      case rel => exact ⟨k + 1, by omega, rfl, by go_num, HX.out.1, _, HX.out.2⟩
    · go_wp2_with fail
      go_ret
      exact ⟨_, rfl, hcr⟩
end Go.Proofs.YtedbfoknfdiadaaGreatDoor
namespace Go.Proofs.YtedbfoknfdiadaaGreatDoor
open Go.RowKit
variable {o : Nat → Prop}
set_option maxRecDepth 100000

/-- A Val of whatever kind. -/
inductive Raw where
  | mk (kind num : Int) (txt : ByteArray) (keys : List ByteArray) (vals : List Raw)
  deriving Inhabited
def Raw.kind : Raw → Int | .mk k _ _ _ _ => k
def Raw.num : Raw → Int | .mk _ n _ _ _ => n
def Raw.txt : Raw → ByteArray | .mk _ _ s _ _ => s
def Raw.keys : Raw → List ByteArray | .mk _ _ _ ks _ => ks
def Raw.vals : Raw → List Raw | .mk _ _ _ _ vs => vs
mutual
def Raw.size : Raw → Nat
  | .mk _ _ _ _ vs => 1 + Raw.sizeL vs
def Raw.sizeL : List Raw → Nat
  | [] => 0
  | r :: l => Raw.size r + Raw.sizeL l
end
mutual
/-- Texts and keys up to B bytes, rows up to B elements. -/
def WFR (B : Nat) : Raw → Prop
  | .mk _ _ s ks vs => s.size ≤ B ∧ ks.length ≤ B ∧ vs.length ≤ B ∧ (∀ k ∈ ks, k.size ≤ B) ∧ WFRL B vs
def WFRL (B : Nat) : List Raw → Prop
  | [] => True
  | r :: l => WFR B r ∧ WFRL B l
end
theorem WFRL_iff {B : Nat} : ∀ {l : List Raw}, WFRL B l ↔ ∀ x ∈ l, WFR B x
  | [] => by simp [WFRL]
  | t :: l => by simp [WFRL, WFRL_iff (l := l)]
theorem Raw.sizeL_at {l : List Raw} {j : Nat} {t : Raw} (h : l[j]? = some t) : Raw.size t ≤ Raw.sizeL l := by
  induction l generalizing j with
  | nil => simp at h
  | cons x l ih =>
    cases j with
    | zero =>
      simp at h
      subst h
      simp only [Raw.sizeL]
      omega
    | succ j =>
      simp at h
      have := ih h
      simp only [Raw.sizeL]
      omega
theorem Raw.size_vals (r : Raw) : Raw.size r = 1 + Raw.sizeL r.vals := by cases r; rfl
/-- A slice of texts, wherever it begins. -/
def RkO (w : World) (ks : List ByteArray) (v : Value) : Prop := ∃ A c, v = .slice A ks.length c ∧ ks.length ≤ c ∧ (0 < ks.length → ∃ g off, A = some ⟨g, off, none⟩ ∧ ∀ j s, ks[j]? = some s → w.cell? ⟨g, off + j, none⟩ = some (.string s))
mutual
def RdR (w : World) : Raw → Value → Prop
  | .mk k n s ks vs, v => ∃ ka A c, v = .agg #[.int .i64 k, .int .i64 n, .string s, ka, .slice A vs.length c] ∧ RkO w ks ka ∧ vs.length ≤ c ∧ (0 < vs.length → ∃ g off, A = some ⟨g, off, none⟩ ∧ RdRL w g off vs 0)
def RdRL (w : World) (g off : Nat) : List Raw → Nat → Prop
  | [], _ => True
  | r :: l, j => (∃ v, RdR w r v ∧ ∀ i u, v.cells[i]? = some u → w.cell? ⟨g, off + j * 5 + i, none⟩ = some u) ∧ RdRL w g off l (j + 1)
end
theorem RkO.chg {w w' : World} {ks : List ByteArray} {v : Value} (h : RkO w ks v) (hc : Chg [] w w') : RkO w' ks v := by
  obtain ⟨A, c, rfl, hlc, h⟩ := h
  refine ⟨A, c, rfl, hlc, fun h0 => ?_⟩
  obtain ⟨g, off, rfl, hg⟩ := h h0
  exact ⟨g, off, rfl, fun j s hs => (World.cell?_of_block (a := ⟨g, off + j, none⟩) (hc.block g (World.block_lt_of_cell? w _ (hg j s hs)) (by simp))).trans (hg j s hs)⟩
mutual
theorem RdR.chg {w w' : World} (hc : Chg [] w w') : ∀ {r : Raw} {v : Value}, RdR w r v → RdR w' r v
  | .mk k n s ks vs, v, h => by
    simp only [RdR] at h ⊢
    obtain ⟨ka, A, c, rfl, hk, hlc, h⟩ := h
    refine ⟨ka, A, c, rfl, hk.chg hc, hlc, fun h0 => ?_⟩
    obtain ⟨g, off, rfl, hg⟩ := h h0
    exact ⟨g, off, rfl, RdRL.chg hc hg⟩
theorem RdRL.chg {w w' : World} (hc : Chg [] w w') {g off : Nat} : ∀ {l : List Raw} {j : Nat}, RdRL w g off l j → RdRL w' g off l j
  | [], _, _ => by simp [RdRL]
  | r :: l, j, h => by
    simp only [RdRL] at h ⊢
    obtain ⟨⟨v, h1, h2⟩, h3⟩ := h
    exact ⟨⟨v, RdR.chg hc h1, fun i u hu => (World.cell?_of_block (a := ⟨g, off + j * 5 + i, none⟩) (hc.block g (World.block_lt_of_cell? w _ (h2 i u hu)) (by simp))).trans (h2 i u hu)⟩, RdRL.chg hc h3⟩
end
mutual
/-- What lies below the world's end is all that is read. -/
theorem RdR.low {w w' : World} (hc : ∀ b, b < w.heap.size → w'.heap[b]? = w.heap[b]?) : ∀ {r : Raw} {v : Value}, RdR w r v → RdR w' r v
  | .mk k n s ks vs, v, h => by
    simp only [RdR] at h ⊢
    obtain ⟨ka, A, c, rfl, ⟨A3, c3, rfl, hlc3, hk⟩, hlc, h⟩ := h
    refine ⟨_, A, c, rfl, ⟨A3, c3, rfl, hlc3, fun h0 => ?_⟩, hlc, fun h0 => ?_⟩
    · obtain ⟨g, off, rfl, hg⟩ := hk h0
      exact ⟨g, off, rfl, fun j s hs => (World.cell?_of_block (a := ⟨g, off + j, none⟩) (hc g (World.block_lt_of_cell? w _ (hg j s hs)))).trans (hg j s hs)⟩
    · obtain ⟨g, off, rfl, hg⟩ := h h0
      exact ⟨g, off, rfl, RdRL.low hc hg⟩
theorem RdRL.low {w w' : World} (hc : ∀ b, b < w.heap.size → w'.heap[b]? = w.heap[b]?) {g off : Nat} : ∀ {l : List Raw} {j : Nat}, RdRL w g off l j → RdRL w' g off l j
  | [], _, _ => by simp [RdRL]
  | r :: l, j, h => by
    simp only [RdRL] at h ⊢
    obtain ⟨⟨v, h1, h2⟩, h3⟩ := h
    exact ⟨⟨v, RdR.low hc h1, fun i u hu => (World.cell?_of_block (a := ⟨g, off + j * 5 + i, none⟩) (hc g (World.block_lt_of_cell? w _ (h2 i u hu)))).trans (h2 i u hu)⟩, RdRL.low hc h3⟩
end
theorem RdRL.at_ {w : World} {g off : Nat} : ∀ {l : List Raw} {j0 j : Nat} {t : Raw}, RdRL w g off l j0 → l[j]? = some t → ∃ v, RdR w t v ∧ ∀ i u, v.cells[i]? = some u → w.cell? ⟨g, off + (j0 + j) * 5 + i, none⟩ = some u
  | [], _, _, _, _, h => by simp at h
  | x :: l, j0, 0, t, h, hj => by
    simp only [RdRL] at h
    simp at hj
    subst hj
    exact h.1
  | x :: l, j0, j + 1, t, h, hj => by
    simp only [RdRL] at h
    simp at hj
    obtain ⟨v, h1, h2⟩ := RdRL.at_ h.2 hj
    exact ⟨v, h1, fun i u hu => by have := h2 i u hu; rwa [show j0 + 1 + j = j0 + (j + 1) by omega] at this⟩
/-- THE FIVE FIELDS. -/
theorem RdR.five {w : World} {r : Raw} {v : Value} (h : RdR w r v) : ∃ A3 q3 A4 q4, v = .agg #[.int .i64 r.kind, .int .i64 r.num, .string r.txt, .slice A3 r.keys.length q3, .slice A4 r.vals.length q4] ∧ RkO w r.keys (.slice A3 r.keys.length q3) ∧
    r.vals.length ≤ q4 ∧ (0 < r.vals.length → ∃ g off, A4 = some ⟨g, off, none⟩ ∧ RdRL w g off r.vals 0) := by
  cases r with
  | mk k n s ks vs =>
    simp only [RdR] at h
    obtain ⟨ka, A, c, rfl, ⟨A3, q3, rfl, h1, h2⟩, hlc, h⟩ := h
    exact ⟨A3, q3, A, c, rfl, ⟨A3, q3, rfl, h1, h2⟩, hlc, h⟩
theorem RkO.elem {w : World} {l : List ByteArray} {A : Option Addr} {n q : Nat} {s : ByteArray} (hv : RkO w l (.slice A l.length q)) (hx : l[n]? = some s) : ∃ g off, A = some ⟨g, off, none⟩ ∧ g < w.heap.size ∧ l.length ≤ q ∧ ∀ W, Chg [] w W → W.cell? ⟨g, off + n, none⟩ = some (.string s) := by
  obtain ⟨A', c, e, hc, k0⟩ := hv
  injection e with e1 e2 e3
  subst e1; subst e3
  have hlt : n < l.length := (List.getElem?_eq_some_iff.1 hx).1
  obtain ⟨g, off, rfl, hg⟩ := k0 (by omega)
  have h1 := hg n s hx
  have hgl : g < w.heap.size := World.block_lt_of_cell? w _ h1
  exact ⟨g, off, rfl, hgl, hc, fun W hc => (hc.cells.1 _ _ hgl).trans h1⟩

/-! ### the size tests -/
set_option maxHeartbeats 1000000 in
theorem fits2_any (ks : List ByteArray) (v : Value) (w : World) (h : RkO w ks v) (hl : ks.length ≤ 67108864) : Calls Tryz.prog 24 #[v] w (SomeB w) := by
  obtain ⟨A, c, rfl, hlc, hk⟩ := h
  have HK : Hid (RkO w ks (.slice A ks.length c)) := Lib.hid ⟨A, c, rfl, hlc, hk⟩
  clear hk
  go_enter Tryz.func24, Tryz.ntmps24
  go_wp2_with fail
  go_loopg [10] ks.length (fun g i wr => ∃ n : Nat, n ≤ ks.length ∧ g = ks.length - n ∧ i = .int .i64 n ∧ wr = w)
  case atStart => exact ⟨0, Nat.zero_le _, by omega, rfl, rfl⟩
  case round =>
    obtain ⟨n, hn, rfl, rfl, rfl⟩ := hrel
    by_cases hlt : n < ks.length
    · obtain ⟨s, hs⟩ : ∃ s, ks[n]? = some s := ⟨_, List.getElem?_eq_getElem hlt⟩
      obtain ⟨g, off, rfl, hg, _, hcell⟩ := HK.out.elem hs
      have c0 := hcell _ (Chg.refl _ _)
      clear hs hcell
      by_cases h2 : s.size ≤ 2147483647
      · have h2b : ¬ 2147483647 < s.size := by omega
        go_wp2_with fail
        go_roundg (ks.length - (n + 1))
        case measure => omega
        case rel => exact ⟨n + 1, by omega, rfl, by go_num, rfl⟩
      · have h2b : 2147483647 < s.size := by omega
        go_wp2_with fail
        go_ret
        exact ⟨false, rfl, Chg.refl _ _⟩
    · go_wp2_with fail
      go_ret
      exact ⟨true, rfl, Chg.refl _ _⟩
set_option maxHeartbeats 1000000 in
theorem fits1_any (r : Raw) (v : Value) (w : World) (h : RdR w r v) (hw : WFR 67108864 r) : Calls Tryz.prog 7 #[v] w (SomeB w) := by
  obtain ⟨A3, q3, A4, q4, rfl, hk, hlc, hv⟩ := h.five
  obtain ⟨h1, h2, h3⟩ : r.txt.size ≤ 67108864 ∧ r.keys.length ≤ 67108864 ∧ r.vals.length ≤ 67108864 := by
    cases r
    simp only [WFR] at hw
    exact ⟨hw.1, hw.2.1, hw.2.2.1⟩
  have HK := Lib.hid hk
  have t1 : ¬ 2147483647 < r.txt.size := by omega
  have t2 : ¬ 2147483647 < r.vals.length := by omega
  clear hk hv
  go_enter Tryz.func7, Tryz.ntmps7
  go_wp2_with fail
  refine (fits2_any r.keys _ _ (HK.out.chg ((Chg.refl [] w).al _)) h2).mono ?_
  rintro e w1 ⟨b, rfl, hc⟩
  have z1 := box5 (heap_alloc_new w (.cells #[.int .i64 r.kind, .int .i64 r.num, .string r.txt, .slice A3 r.keys.length q3, .slice A4 r.vals.length q4] 25)) _ hc
  have hcw : Chg [] w w1 := ((Chg.refl [] w).al _).trans hc New.nil
  obtain ⟨d0, d1, d2, d3, d4, df⟩ := cells5 z1
  have HC := Lib.hid hcw
  clear hc hcw z1
  cases b
  all_goals
    go_wp2_with fail
    go_ret
    exact ⟨_, rfl, HC.out⟩
set_option maxHeartbeats 1000000 in
theorem fits4_any (s s' : ByteArray) (w : World) : Calls Tryz.prog 25 #[.agg #[.string s, .string s']] w (SomeB w) := by
  by_cases h1 : 2147483647 < s.size
  · go_enter Tryz.func25, Tryz.ntmps25
    go_wp2_with fail
    go_ret
    exact ⟨_, rfl, (Chg.refl [] w).al _⟩
  · by_cases h2 : 2147483647 < s'.size
    all_goals
      go_enter Tryz.func25, Tryz.ntmps25
      go_wp2_with fail
      go_ret
      exact ⟨_, rfl, (Chg.refl [] w).al _⟩
set_option maxHeartbeats 1000000 in
theorem fits3_any (n : Nat) (v : Value) (w : World) (h : RdP o w n v) (hn : n ≤ 67108864) : Calls Tryz.prog 8 #[v] w (SomeB w) := by
  obtain ⟨A, c, rfl, hnc, hg⟩ := h
  have HG := Lib.hid hg
  clear hg
  go_enter Tryz.func8, Tryz.ntmps8
  go_wp2_with fail
  go_loopg [10] n (fun g i wr => ∃ k : Nat, k ≤ n ∧ g = n - k ∧ i = .int .i64 k ∧ Chg [] w wr)
  case atStart => exact ⟨0, Nat.zero_le _, by omega, rfl, Chg.refl _ _⟩
  case round =>
    obtain ⟨k, hk, rfl, rfl, hcr⟩ := hrel
    by_cases hlt : k < n
    · obtain ⟨g, off, rfl, _, hgc⟩ := HG.out (by omega)
      obtain ⟨s, s', h1, h2⟩ := hgc k hlt
      have hgl := World.block_lt_of_cell? w _ h1
      have hgl : g < w.heap.size := hgl
      have c1 := (hcr.cells.1 _ _ hgl).trans h1
      have c2 := (hcr.cells.1 _ _ hgl).trans h2
      have HC := Lib.hid hcr
      clear h1 h2 hgc hcr
      go_wp2_with fail
      refine (fits4_any s s' _).mono ?_
      rintro e w1 ⟨b, rfl, hc⟩
      have hcw : Chg [] w w1 := (HC.out.al _).trans hc New.nil
      have HW := Lib.hid hcw
      clear hc hcw
      cases b
      · go_wp2_with fail
        go_ret
        exact ⟨_, rfl, HW.out⟩
      · go_wp2_with fail
        go_roundg (n - (k + 1))
        case measure => omega
        case rel => exact ⟨k + 1, by omega, rfl, by go_num, HW.out⟩
    · go_wp2_with fail
      go_ret
      exact ⟨_, rfl, hcr⟩
end Go.Proofs.YtedbfoknfdiadaaGreatDoor
namespace Go.Proofs.YtedbfoknfdiadaaGreatDoor
open Go.RowKit
variable {o : Nat → Prop}
set_option maxRecDepth 100000

/-- A row of the call's own that holds n pairs of texts. -/
def PRow (w : World) (base : Nat) (e : TypeId) (R : Value) (n : Nat) : Prop := ∃ xs, w.ownsRow base e 2 R n xs ∧ ∀ x ∈ xs, ∃ s, x = Value.string s
theorem PRow.slice {w : World} {base n : Nat} {e : TypeId} {R : Value} (h : PRow w base e R n) : ∃ A c, R = .slice A n c := by
  obtain ⟨xs, h, _⟩ := h
  exact ownsRow_slice h
theorem PRow.own {w : World} {base n g : Nat} {e : TypeId} {R : Value} (h : PRow w base e R n) (hg : R.ownBlock = some g) : base ≤ g ∧ g < w.heap.size := by
  obtain ⟨xs, h, _⟩ := h
  exact ownsRow_own h hg
theorem PRow.keep {w w' : World} {base n : Nat} {e : TypeId} {R : Value} (h : PRow w base e R n) (hf : ∀ g, R.ownBlock = some g → w'.heap[g]? = w.heap[g]?) : PRow w' base e R n := by
  obtain ⟨xs, h, hx⟩ := h
  exact ⟨xs, ownsRow_keep h hf, hx⟩
/-- .. read. -/
theorem PRow.rd {w : World} {base n : Nat} {e : TypeId} {R : Value} (h : PRow w base e R n) (ho : ∀ b, base ≤ b → o b) : RdP o w n R := by
  obtain ⟨xs, h, hx⟩ := h
  rcases h.2 with ⟨rfl, h0⟩ | ⟨g, cap, cur, rfl, hb, hg, hnc, _⟩
  · exact ⟨none, 0, by rw [h0], by omega, fun h => by omega⟩
  · refine ⟨_, cap, rfl, hnc, fun h0 => ⟨g, 0, rfl, ho g hb, fun j hj => ?_⟩⟩
    have hlen := h.1
    have key : ∀ i, i < n * 2 → ∃ s, w.cell? ⟨g, i, none⟩ = some (.string s) := fun i hi => by
      have h1 := h.cellAt i hi
      obtain ⟨x, hx1⟩ : ∃ x, xs[i]? = some x := ⟨_, List.getElem?_eq_getElem (by omega)⟩
      obtain ⟨s, hs⟩ := hx x (List.mem_of_getElem? hx1)
      subst hs
      exact ⟨s, h1.trans hx1⟩
    obtain ⟨s, h1⟩ := key (j * 2) (by omega)
    obtain ⟨s', h2⟩ := key (j * 2 + 1) (by omega)
    exact ⟨s, s', by rw [Nat.zero_add]; exact h1, by rw [Nat.zero_add]; exact h2⟩
theorem PRow.nil (w : World) (base : Nat) (e : TypeId) : PRow w base e (.slice none 0 0) 0 := ⟨[], World.ownsRow_nil _ _ _ _, by simp⟩
theorem uPI : Tryz.prog.underlying 39 = some (.slice 71) := by kernel_rfl
theorem iPI : (Tryz.prog.info? 71).map (fun i => (i.zero, i.size, i.bytes)) = some (some (.agg #[.string ⟨#[]⟩, .string ⟨#[]⟩]), 2, 32) := by kernel_rfl
theorem app_pair {P : Program} {w : World} {base n : Nat} {t ty e : TypeId} {z : Value} (ht : P.underlying t = some (.slice e)) (hinfo : (P.info? e).map (fun i => (i.zero, i.size, i.bytes)) = some (some z, 2, 32)) (hzs : z.cells.size = 2) {R : Value} (hown : PRow w base e R n) {g1 c1 : Nat} {s s' : ByteArray}
    (h0 : w.cell? ⟨g1, 0, none⟩ = some (.string s)) (h1 : w.cell? ⟨g1, 1, none⟩ = some (.string s')) (hbase : base ≤ w.heap.size) (hl : n ≤ 67108864) :
    ∃ R' w', (Builtin.append_ #[t, t] ty #[R, .slice (some ⟨g1, 0, none⟩) 1 c1]).run P w = .ok R' w' ∧ PRow w' base e R' (n + 1) ∧ Chg R.ownBlock.toList w w' ∧ (∃ g c', R' = .slice (some ⟨g, 0, none⟩) (n + 1) c' ∧ base ≤ g ∧ g < w'.heap.size) := by
  obtain ⟨xs, ho, hx⟩ := hown
  obtain ⟨R', w', hr, ho', hc, hor⟩ := run_app (P := P) base t ty e z 2 32 ht hinfo hzs (by omega) R n xs ho (some ⟨g1, 0, none⟩) 1 c1 [.string s, .string s'] rfl (fun _ => ⟨_, rfl, fun j u hu => by
    rcases j with _ | _ | j
    · cases hu; exact h0
    · cases hu; exact h1
    · simp at hu⟩) (fun u hu => by
      simp only [List.mem_cons, List.not_mem_nil, or_false] at hu
      rcases hu with rfl | rfl <;> rfl) (by omega) (by omega) hbase
  refine ⟨R', w', hr, ⟨_, ho', fun x hx' => ?_⟩, hc, ?_⟩
  · rcases List.mem_append.1 hx' with h | h
    · exact hx x h
    · simp only [List.mem_cons, List.not_mem_nil, or_false] at h
      rcases h with rfl | rfl
      · exact ⟨s, rfl⟩
      · exact ⟨s', rfl⟩
  · rcases hor with ⟨_, h, _⟩ | ⟨g, c', h1, h2, h3, _⟩
    · omega
    · exact ⟨g, c', h1, h2, h3⟩
set_option maxHeartbeats 1000000 in
theorem pairsTo_any (n : Nat) (v : Value) (w : World) (h : RdP o w n v) (hn : n ≤ 67108864) : Calls Tryz.prog 14 #[v] w fun e w' => ∃ v', e = .returned v' ∧ Chg [] w w' ∧ RdP (fun b => w.heap.size ≤ b) w' n v' := by
  obtain ⟨A, c, rfl, hnc, hg⟩ := h
  have HG := Lib.hid hg
  clear hg
  go_enter Tryz.func14, Tryz.ntmps14
  go_wp2_with fail
  go_loopg [3, 4] n (fun g s3 i wr => ∃ (k : Nat) (R : Value), k ≤ n ∧ g = n - k ∧ R = s3 ∧ i = .int .i64 k ∧ Chg [] w wr ∧ PRow wr w.heap.size 71 R k)
  case atStart => exact ⟨0, _, Nat.zero_le _, by omega, rfl, rfl, Chg.refl _ _, PRow.nil _ _ _⟩
  case round =>
    obtain ⟨k, R, hk, rfl, rfl, rfl, hcr, hR⟩ := hrel
    by_cases hlt : k < n
    · have hn64 : k ≤ 67108864 := by omega
      obtain ⟨g, off, rfl, _, hgc⟩ := HG.out (by omega)
      obtain ⟨s, s', h1, h2⟩ := hgc k hlt
      have hgl := World.block_lt_of_cell? w _ h1
      have hgl : g < w.heap.size := hgl
      have HRR := Lib.hid hR
      have hRo : ∀ y, R.ownBlock = some y → w.heap.size ≤ y ∧ y < wr.heap.size := fun y hy => hR.own hy
      have HRO := Lib.hid hRo
      have HC := Lib.hid hcr
      have H12 := Lib.hid (And.intro h1 h2)
      have hszw := hcr.size
      clear h1 h2 hgc hcr hR hRo
      go_wp2
      rename_i K hK
      have HK := Lib.hid hK
      clear hK
      refine wp_region_call (by rfl) (by kernel_rfl) [0, 3, 4] (by kernel_rfl) 13 (by decide) R.ownBlock.toList
        (fun j u V => match j with
          | 0 => u = R
          | 1 => u = .slice (some ⟨g, off, none⟩) n c
          | 2 => u = .int .i64 ↑k
          | 3 => u = .pointer (some ⟨g, off + k * 2, none⟩)
          | 4 => u = .pointer (some ⟨g, off + k * 2, none⟩)
          | 5 => u = .string s
          | 6 => u = .slice (some ⟨g, off, none⟩) n c
          | 7 => u = .int .i64 ↑k
          | 8 => u = .pointer (some ⟨g, off + k * 2, none⟩)
          | 9 => u = .pointer (some ⟨g, off + k * 2 + 1, none⟩)
          | 10 => u = .string s'
          | 11 => u = .agg #[.string s, .string s']
          | 12 => ∃ g1, u = .slice (some ⟨g1, 0, none⟩) 1 1 ∧ wr.heap.size ≤ g1 ∧ V.cell? ⟨g1, 0, none⟩ = some (.string s) ∧ V.cell? ⟨g1, 1, none⟩ = some (.string s')
          | 13 => PRow V w.heap.size 71 u (k + 1) ∧ ∃ g1 c1, u = .slice (some ⟨g1, 0, none⟩) (k + 1) c1 ∧ w.heap.size ≤ g1 ∧ g1 < V.heap.size
          | _ => True) ?_ ?_ ?_ ?_ ?_
      · intro j u V V' hc hφ
        rcases j with _ | _ | _ | _ | _ | _ | _ | _ | _ | _ | _ | _ | _ | _ | j
        all_goals first | exact hφ | skip
        · obtain ⟨g1, rfl, hg1, c1, c2⟩ := hφ
          have hl := World.block_lt_of_cell? V _ c1
          exact ⟨g1, rfl, hg1, (hc.cells.1 _ _ hl).trans c1, (hc.cells.1 _ _ hl).trans c2⟩
        · obtain ⟨hp, g1, c1, rfl, hg1, hg2⟩ := hφ
          exact ⟨hp.keep fun y hy => hc.block y (hp.own hy).2 (by simp), g1, c1, rfl, hg1, Nat.lt_of_lt_of_le hg2 hc.size⟩
      · intro j u V V' hjp hc hφ
        rcases j with _ | _ | _ | _ | _ | _ | _ | _ | _ | _ | _ | _ | _ | _ | j
        all_goals first | exact hφ | skip
        · obtain ⟨g1, rfl, hg1, c1, c2⟩ := hφ
          have hl : g1 < V.heap.size := World.block_lt_of_cell? V _ c1
          have hb := hc.block g1 hl (fun hm => by
            have := (HRO.out g1 (by simpa using hm)).2
            omega)
          exact ⟨g1, rfl, hg1, (World.cell?_of_block (a := ⟨g1, 0, none⟩) hb).trans c1, (World.cell?_of_block (a := ⟨g1, 1, none⟩) hb).trans c2⟩
        · exact absurd rfl hjp
      · intro j oo hj hjp ho a' w' hst hch hpre hdep K2 hK2
        have hsz : wr.heap.size ≤ w'.heap.size := hch.size
        have hgo : w'.heap[g]? = w.heap[g]? := (hch.block g (by show g < wr.heap.size; omega) (fun hm => by
          have := (HRO.out g (by simpa using hm)).1
          omega)).trans (HC.out.block g hgl (by simp))
        have y1 := (World.cell?_of_block (a := ⟨g, off + k * 2, none⟩) hgo).trans H12.out.1
        have y2 := (World.cell?_of_block (a := ⟨g, off + k * 2 + 1, none⟩) hgo).trans H12.out.2
        clear hgo
        have hj' : j < 14 := hj
        rcases j with _ | _ | _ | _ | _ | _ | _ | _ | _ | _ | _ | _ | _ | _ | j
        · obtain rfl : _ = oo := Option.some.inj ho  -- 0: slot 11
          have h3 := g_eq (t := 3) (v := R) (hst 3 (by simp))
          unfold Oper.wp
          go_simp
          exact ⟨_, rfl, hK2 _ _ (Chg.refl _ _) rfl⟩
        · obtain rfl : _ = oo := Option.some.inj ho  -- 1: slot 12
          have h0 := g_eq (t := 0) (v := .slice (some ⟨g, off, none⟩) n c) (hst 0 (by simp))
          unfold Oper.wp
          go_simp
          exact ⟨_, rfl, hK2 _ _ (Chg.refl _ _) rfl⟩
        · obtain rfl : _ = oo := Option.some.inj ho  -- 2: slot 13
          have h4 := g_eq (t := 4) (v := .int .i64 ↑k) (hst 4 (by simp))
          unfold Oper.wp
          go_simp
          exact ⟨_, rfl, hK2 _ _ (Chg.refl _ _) rfl⟩
        · obtain rfl : _ = oo := Option.some.inj ho  -- 3: slot 14
          have h12 := g_eq (t := 12) (v := .slice (some ⟨g, off, none⟩) n c) (hdep 1 (by kernel_rfl))
          have h13 := g_eq (t := 13) (v := .int .i64 ↑k) (hdep 2 (by kernel_rfl))
          unfold Oper.wp
          go_simp
          exact ⟨_, rfl, hK2 _ _ (Chg.refl _ _) rfl⟩
        · obtain rfl : _ = oo := Option.some.inj ho  -- 4: slot 15
          have h14 := g_eq (t := 14) (v := .pointer (some ⟨g, off + k * 2, none⟩)) (hdep 3 (by kernel_rfl))
          unfold Oper.wp
          go_simp
          exact ⟨_, rfl, hK2 _ _ (Chg.refl _ _) rfl⟩
        · obtain rfl : _ = oo := Option.some.inj ho  -- 5: slot 16
          have h15 := g_eq (t := 15) (v := .pointer (some ⟨g, off + k * 2, none⟩)) (hdep 4 (by kernel_rfl))
          unfold Oper.wp
          go_simp
          exact ⟨_, rfl, hK2 _ _ (Chg.refl _ _) rfl⟩
        · obtain rfl : _ = oo := Option.some.inj ho  -- 6: slot 17
          have h0 := g_eq (t := 0) (v := .slice (some ⟨g, off, none⟩) n c) (hst 0 (by simp))
          unfold Oper.wp
          go_simp
          exact ⟨_, rfl, hK2 _ _ (Chg.refl _ _) rfl⟩
        · obtain rfl : _ = oo := Option.some.inj ho  -- 7: slot 18
          have h4 := g_eq (t := 4) (v := .int .i64 ↑k) (hst 4 (by simp))
          unfold Oper.wp
          go_simp
          exact ⟨_, rfl, hK2 _ _ (Chg.refl _ _) rfl⟩
        · obtain rfl : _ = oo := Option.some.inj ho  -- 8: slot 19
          have h17 := g_eq (t := 17) (v := .slice (some ⟨g, off, none⟩) n c) (hdep 6 (by kernel_rfl))
          have h18 := g_eq (t := 18) (v := .int .i64 ↑k) (hdep 7 (by kernel_rfl))
          unfold Oper.wp
          go_simp
          exact ⟨_, rfl, hK2 _ _ (Chg.refl _ _) rfl⟩
        · obtain rfl : _ = oo := Option.some.inj ho  -- 9: slot 20
          have h19 := g_eq (t := 19) (v := .pointer (some ⟨g, off + k * 2, none⟩)) (hdep 8 (by kernel_rfl))
          unfold Oper.wp
          go_simp
          exact ⟨_, rfl, hK2 _ _ (Chg.refl _ _) rfl⟩
        · obtain rfl : _ = oo := Option.some.inj ho  -- 10: slot 21
          have h20 := g_eq (t := 20) (v := .pointer (some ⟨g, off + k * 2 + 1, none⟩)) (hdep 9 (by kernel_rfl))
          unfold Oper.wp
          go_simp
          exact ⟨_, rfl, hK2 _ _ (Chg.refl _ _) rfl⟩
        · obtain rfl : _ = oo := Option.some.inj ho  -- 11: slot 22
          have h16 := g_eq (t := 16) (v := .string s) (hdep 5 (by kernel_rfl))
          have h21 := g_eq (t := 21) (v := .string s') (hdep 10 (by kernel_rfl))
          unfold Oper.wp
          go_simp
          exact ⟨_, rfl, hK2 _ _ (Chg.refl _ _) rfl⟩
        · obtain rfl : _ = oo := Option.some.inj ho  -- 12: slot 23
          have h22 := g_eq (t := 22) (v := .agg #[.string s, .string s']) (hdep 11 (by kernel_rfl))
          have h22 := g_eq (t := 22) (v := .agg #[.string s, .string s']) (hdep 11 (by kernel_rfl))
          unfold Oper.wp
          go_simp
          refine ⟨_, rfl, hK2 _ _ ((Chg.refl [] w').al _) ⟨w'.heap.size, rfl, hsz, ?_, ?_⟩⟩
          · exact cell_of_row _ w'.heap.size 0 _ _ (0, 0) (heap_alloc_new _ _)
          · exact cell_of_row _ w'.heap.size 1 _ _ (0, 0) (heap_alloc_new _ _)
        · exact absurd rfl hjp
        · omega
      · intro oo ho a' w' hst hch hdep
        obtain rfl : _ = oo := Option.some.inj ho
        have hsz : wr.heap.size ≤ w'.heap.size := hch.size
        have h11 := g_eq (t := 11) (v := R) (hdep 0 (by kernel_rfl))
        obtain ⟨g1, h23, hg1, c1, c2⟩ : ∃ g1, Act.g a' 23 = .slice (some ⟨g1, 0, none⟩) 1 1 ∧ wr.heap.size ≤ g1 ∧ w'.cell? ⟨g1, 0, none⟩ = some (.string s) ∧ w'.cell? ⟨g1, 1, none⟩ = some (.string s') := hdep 12 (by kernel_rfl)
        have h23 := g_eq (t := 23) h23
        obtain ⟨R', w2, hrun, hp, hc, hx⟩ := app_pair (P := Tryz.prog) (ty := 39) (c1 := 1) uPI iPI rfl (HRR.out.keep (w' := w') fun y hy => hch.block y (HRO.out y hy).2 (by simp)) c1 c2 (by omega) (by omega)
        exact ⟨_, w2, by simp [execOp, resolve, invoke, builtin, Act.eval, h11, h23, hrun, Result.andThen], hc, hp, hx⟩
      · intro oo ho u w' hch hφ A2 hA2
        obtain rfl : _ = oo := Option.some.inj ho
        have l13 : 13 < 14 := by omega
        obtain ⟨hp, g1, c1, hu13, hg1, hg2⟩ : PRow w' w.heap.size 71 (u 13) (k + 1) ∧ ∃ g1 c1, u 13 = .slice (some ⟨g1, 0, none⟩) (k + 1) c1 ∧ w.heap.size ≤ g1 ∧ g1 < w'.heap.size := hφ 13 l13
        rw [hu13] at hp
        have hcw : Chg [] w w' := HC.out.trans ((Chg.refl R.ownBlock.toList wr).dr.trans hch (New.refl _ _)) (fun y hy => .inr (HRO.out y (by simpa using hy)).1)
        have HX := Lib.hid (And.intro hp hcw)
        simp [putAll, dOf, Act.put, hu13] at hA2
        subst hA2
        clear hφ l13 ho hu13 hch hp hcw
        unfold Oper.wp
        go_simp
        refine HK.out _ _ ?_
        clear HK
        go_wp2
        go_roundg (n - (k + 1))
        case measure => omega
        case rel => exact ⟨k + 1, _, by omega, rfl, rfl, by go_num, HX.out.2, HX.out.1⟩
    · have hE : k = n := by omega
      have HE := Lib.hid hE
      obtain ⟨RA, RC, rfl⟩ := hR.slice
      have HX := Lib.hid (And.intro hR hcr)
      clear hE hR hcr
      go_wp2_with fail
      go_ret
      have hx := HX.out.1
      rw [HE.out] at hx
      exact ⟨_, rfl, HX.out.2, by rw [HE.out]; exact hx.rd fun b hb => hb⟩
end Go.Proofs.YtedbfoknfdiadaaGreatDoor
