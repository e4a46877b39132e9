/- Laws on the maps of a tree in memory: a child kept without a store, the length, what a store leaves. No condition. loader.normalizeNetworks: services and the model get the default network. Conditions: a model of the reference, lengths. -/
import Derived.Test.YtedbfoknfdiadaaGreatDoorNames
set_option linter.unusedVariables false
set_option linter.unusedSimpArgs false
namespace Go.Proofs.YtedbfoknfdiadaaGreatDoor
open Go.RowKit
variable {o : Nat → Prop}
set_option maxRecDepth 100000

theorem MapAt.uniq {w : World} {b : Nat} {ks ks' : List (ByteArray × Value)} (h : MapAt w b ks) (h' : MapAt w b ks') : ks = ks' := by
  obtain ⟨es, c, h1, R1⟩ := h
  obtain ⟨es', c', h2, R2⟩ := h'
  rw [h1] at h2
  injection h2 with h2
  injection h2 with h2 h3
  subst h2
  have hkv := R1.kv.symm.trans R2.kv
  have : ∀ {a c : List (ByteArray × Value)}, a.map (fun p => (Value.string p.1, p.2)) = c.map (fun p => (Value.string p.1, p.2)) → a = c := by
    intro a
    induction a with
    | nil => intro c hc; cases c with | nil => rfl | cons => simp at hc
    | cons x a ih =>
      intro c hc
      cases c with
      | nil => simp at hc
      | cons y c =>
        simp only [List.map_cons, List.cons.injEq, Prod.mk.injEq, Value.string.injEq] at hc
        rw [ih hc.2, Prod.ext hc.1.1 hc.1.2]
  exact this hkv
theorem run_len_at {w : World} {b : Nat} {ks : List (ByteArray × Value)} (h : MapAt w b ks) (ty : TypeId) : (Builtin.len_ #[63] ty #[.map (some b)]).run Tryz.prog w = .ok (goInt ks.length) w := by
  obtain ⟨es, c, h1, R1⟩ := h
  have hl := congrArg List.length R1.kv
  simp only [List.length_map, Array.length_toList] at hl
  rw [← hl]
  exact run_len_map w 63 ty b es c uM h1
theorem store_look {w w3 : World} {b : Nat} {ks : List (ByteArray × Value)} (h : MapAt w b ks) {k : ByteArray} {v : Value} (hr : (Instr.mapUpdate 63 (.map (some b)) (.string k) v).run Tryz.prog w = .ok () w3) : MapAt w3 b (mupd k v ks) := by
  obtain ⟨w', hrun, hm, _⟩ := run_update (P := Tryz.prog) h uM uS k v
  rw [hrun] at hr
  injection hr with _ hr
  exact hr ▸ hm
theorem RH.keep {w : World} {F0 : List Nat} {it bt : Nat} {tl : List (ByteArray × T)} {f : ByteArray → T → T} {left : List ByteArray} {k : ByteArray} {v : Value} {t : T} {F1 : List Nat} {w1 : World} (hs : Srt tl) (hg : mget k tl = some t)
    (h : RH w F0 it bt tl f left k v F1 w1) (ho2 : Own w1 (f k t) v F1) : RM w F0 it bt tl f (mdel k left) w1 := by
  obtain ⟨hnd, hmem, hin, hnew, hchg, ks, Fr, hit, hl, hlk, hof, hn, hN⟩ := h
  have hput := OwnM.put ho2 hof (stM_srt hs)
  rw [stM_del hnd hin hs hg, upd_same hlk] at hput
  obtain ⟨F, hF, hp⟩ := hput
  have hndel : (k :: mdel k left).Nodup := (del_perm hin).nodup hnd
  exact ⟨(List.nodup_cons.1 hndel).2, fun x hx => hmem x (mem_of_del hx), hnew, hchg, ks, F, hit, hl, hF, ((hp.symm.cons bt).cons it).nodup hn, hN.sub fun x hx => ((hp.cons bt).mem_iff).1 hx⟩
/-- What look-ups of a map of a tree find. -/
theorem Own.look {w : World} {b : Nat} {m : List (ByteArray × T)} {F : List Nat} (h : Own w (.map m) (.iface 63 (.map (some b))) F) (hs : Srt m) :
    ∃ ks, MapAt w b ks ∧ ks.length = m.length ∧ (∀ k t, mget k m = some t → ∃ v F1, mlook k ks = some v ∧ Own w t v F1) ∧ (∀ k, mget k m = none → mlook k ks = none) := by
  obtain ⟨ks, F', hm, hl, ho, _⟩ := h.mapAt
  refine ⟨ks, hm, hl, fun k t hg => ?_, fun k hg => ?_⟩
  · obtain ⟨ks', v, F1, a1, a2, a3⟩ := h.leaf hg
    cases a1.uniq hm
    exact ⟨v, F1, a2, a3⟩
  · obtain ⟨ks', a1, a2⟩ := h.missing hs hg
    cases a1.uniq hm
    exact a2
/-- The networks of a model in memory: the model's own child, or a new map. -/
def NetsAt (w : World) (b : Nat) (m nl : List (ByteArray × T)) (bn : Nat) (F : List Nat) : Prop :=
  (mget kNetworks m = some (.map nl) ∧ ∃ ks, MapAt w b ks ∧ mlook kNetworks ks = some (.iface 63 (.map (some bn)))) ∨ (mget kNetworks m = none ∧ nl = [] ∧ bn ∉ F ∧ MapAt w bn [])
theorem get_of_srt {k : ByteArray} {x : T} : ∀ {m : List (ByteArray × T)}, Srt m → (k, x) ∈ m → mget k m = some x
  | [], _, h => by cases h
  | p :: m, hs, h => by
    rcases List.mem_cons.1 h with rfl | h
    · simp [mget]
    · have hb := hs.head _ h
      have hne : p.1 ≠ k := fun e => by rw [e] at hb; simp [blt_irrefl] at hb
      simp only [mget]
      rw [if_neg (by first | exact hne | exact fun e => hne e.symm)]
      exact get_of_srt hs.tail h
def defIn (left : List ByteArray) (l : List (ByteArray × T)) : Bool := l.any fun q => decide (q.1 ∉ left) && hasDef (netsOf q.2.m)
theorem defIn_all {left : List ByteArray} {l : List (ByteArray × T)} (h : ∀ q ∈ l, q.1 ∈ left) : defIn left l = false := by
  unfold defIn
  rw [List.any_eq_false]
  intro q hq
  simp [h q hq]
theorem defIn_nil {l : List (ByteArray × T)} : defIn [] l = l.any fun q => hasDef (netsOf q.2.m) := by simp [defIn]
theorem mem_mdel {k x : ByteArray} : ∀ {l : List ByteArray}, l.Nodup → k ∈ l → (x ∈ mdel k l ↔ x ∈ l ∧ x ≠ k) := by
  intro l hn hk
  have hp := del_perm hk
  have hnd : (k :: mdel k l).Nodup := hp.nodup hn
  constructor
  · intro hx
    exact ⟨mem_of_del hx, fun e => (List.nodup_cons.1 hnd).1 (e ▸ hx)⟩
  · intro ⟨hx, hne⟩
    rcases List.mem_cons.1 (hp.mem_iff.1 hx) with e | h
    · exact absurd e hne
    · exact h
theorem defIn_del {left : List ByteArray} {k : ByteArray} {t : T} : ∀ {l : List (ByteArray × T)}, Srt l → left.Nodup → k ∈ left → mget k l = some t → defIn (mdel k left) l = (defIn left l || hasDef (netsOf t.m)) := by
  intro l hs hn hk hg
  have hiff : ∀ a c : Bool, (a = true ↔ c = true) → a = c := by decide
  apply hiff
  unfold defIn
  simp only [Bool.or_eq_true, List.any_eq_true, Bool.and_eq_true, decide_eq_true_eq, mem_mdel hn hk]
  constructor
  · rintro ⟨q, hq, h1, h2⟩
    by_cases he : q.1 = k
    · right
      have := get_of_srt hs (k := q.1) (x := q.2) hq
      rw [he, hg] at this
      injection this with this
      rw [this]
      exact h2
    · exact .inl ⟨q, hq, fun h => h1 ⟨h, he⟩, h2⟩
  · rintro (⟨q, hq, h1, h2⟩ | h)
    · exact ⟨q, hq, fun h => h1 h.1, h2⟩
    · exact ⟨(k, t), get_some hg, fun h => h.2 rfl, h⟩
end Go.Proofs.YtedbfoknfdiadaaGreatDoor
namespace Go.Proofs.YtedbfoknfdiadaaGreatDoor
open Go.RowKit
variable {o : Nat → Prop}
set_option maxRecDepth 100000

def mmN (n : Nat) (m : List (ByteArray × T)) : List (ByteArray × T) := if n = 0 then m else mins kServices (.map (onS netsOf (svcs m))) m
def flN (n : Nat) (m : List (ByteArray × T)) : Bool := if n = 0 then false else (svcs m).any fun p => hasDef (netsOf p.2.m)
theorem pos_len {α β : Type} {a : List α} {c : List β} (h : a.length = c.length) (hc : c ≠ []) : decide (0 < a.length) = true := by
  have := List.length_pos_iff.2 hc
  rw [decide_eq_true_eq]
  omega
set_option maxHeartbeats 1000000 in
theorem networks_any (b : Nat) (w : World) (F : List Nat) (m : List (ByteArray × T)) (h : Own w (.map m) (.iface 63 (.map (some b))) F) (hn : F.Nodup) (hok : ModelOK m) :
   Calls Tryz.prog 51 #[.map (some b)] w fun e w' => e = .returned (.tuple #[]) ∧ Res F w (.map (netsP m)) (.iface 63 (.map (some b))) w' := by
  have hs := hok.srt
  obtain ⟨l, hgs, hsl, hsv⟩ := hok.svc
  have hsvl : svcs m = l := svcs_of hgs
  have HJ := Lib.hid hok.job
  have HNO := Lib.hid hok.net
  obtain ⟨vv, bb, L1, hbb⟩ : ∃ vv bb, (Instr.lookup 63 (.map (some b)) (.string kNetworks) true).run Tryz.prog w = .ok (.tuple #[vv, .bool bb]) w ∧
      ((bb = false ∧ mget kNetworks m = none) ∨ (bb = true ∧ ∃ nl bn, mget kNetworks m = some (.map nl) ∧ vv = .iface 63 (.map (some bn)) ∧ bn < w.heap.size ∧ ∃ ks, MapAt w b ks ∧ mlook kNetworks ks = some vv)) := by
    cases hg : mget kNetworks m with
    | none =>
      obtain ⟨ks, hma, hlk⟩ := h.missing hs hg
      have L1 := run_lookup_ok (P := Tryz.prog) hma uM uS (zA w) kNetworks
      rw [hlk] at L1
      exact ⟨_, _, L1, .inl ⟨rfl, rfl⟩⟩
    | some t =>
      obtain ⟨nl, rfl, hsn, hrn⟩ := hok.net t hg
      obtain ⟨ks, v, Fv, hma, hlk, hov⟩ := h.leaf hg
      obtain ⟨bn, rfl⟩ := hov.block
      have L1 := run_lookup_ok (P := Tryz.prog) hma uM uS (zA w) kNetworks
      rw [hlk] at L1
      exact ⟨_, _, L1, .inr ⟨rfl, nl, bn, rfl, rfl, hov.lt bn hov.mem_block, ks, hma, hlk⟩⟩
  have HBB := Lib.hid hbb
  clear hbb
  go_enter Tryz.func51, Tryz.ntmps51
  go_upto_if 30 with fail
  go_cut [2] (fun s2 wx => ∃ bn, s2 = .map (some bn) ∧ Chg [] w wx ∧ NetsAt wx b m (nets0 m) bn F ∧ bn < wx.heap.size ∧ (mget kNetworks m = none → w.heap.size ≤ bn))
  case first =>
    have hmk := @run_makeMap Tryz.prog
    rcases HBB.out with ⟨rfl, hg⟩ | ⟨rfl, nl, bn, hg, rfl, hbl, ks, hma, hlk⟩
    · have HG := Lib.hid hg
      clear hg
      go_wp2_with fail
      go_meet
      have hn0 : nets0 m = [] := by simp [nets0, HG.out]
      exact ⟨_, rfl, (Chg.refl [] w).al _, .inr ⟨HG.out, hn0, fun hb => absurd (h.lt _ hb) (Nat.lt_irrefl _), MapAt.new w⟩, by simp, fun _ => Nat.le_refl _⟩
    · have HG := Lib.hid (And.intro hg (And.intro hma hlk))
      clear hg hma hlk
      go_wp2_with fail
      go_meet
      have hn0 : nets0 m = nl := by simp [nets0, HG.out.1]
      exact ⟨_, rfl, Chg.refl [] w, .inl ⟨by rw [hn0]; exact HG.out.1, ks, HG.out.2⟩, hbl, fun h0 => by rw [HG.out.1] at h0; cases h0⟩
  case rest =>
    obtain ⟨bn, rfl, hcx, hnx, hbl, hbnew⟩ := hcut
    obtain ⟨W0, hW0⟩ : ∃ W0, W0 = wc.alloc (.cells #[.string kServices, .string kJobs] 9) := ⟨_, rfl⟩
    have hFw : ∀ x ∈ F, x < w.heap.size := h.lt
    have hws := hcx.size
    have hW1 : W0.heap[wc.heap.size]? = some (.cells #[.string kServices, .string kJobs] 9) := by rw [hW0]; exact heap_alloc_new _ _
    have hW2 : Chg [] wc W0 := by rw [hW0]; exact (Chg.refl [] wc).al _
    have hW3 : W0.heap.size = wc.heap.size + 1 := by rw [hW0]; simp
    have hcw : Chg [] w W0 := hcx.trans hW2 New.nil
    have hcellW : ∀ wr, Chg F W0 wr → ∀ j, j < 2 → wr.cell? ⟨wc.heap.size, j, none⟩ = some (.string ([kServices, kJobs].getD j ⟨#[]⟩)) := by
      intro wr hc j hj
      have hb := (hc.block wc.heap.size (by omega) (fun hx => by have := hFw _ hx; omega)).trans hW1
      rw [cell_of_row wr _ j _ _ (0, 0) hb]
      rcases j with _ | _ | j
      · rfl
      · rfl
      · omega
    have hown0 : Own W0 (.map m) (.iface 63 (.map (some b))) F := h.frame fun x hx => hcw.block x (hFw x hx) (by simp)
    have hnx0 : NetsAt W0 b m (nets0 m) bn F := by
      rcases hnx with ⟨h1, ks, h2, h3⟩ | ⟨h1, h2, h3, h4⟩
      · exact .inl ⟨h1, ks, h2.frame (hW2.block b h2.lt (by simp)), h3⟩
      · exact .inr ⟨h1, h2, h3, h4.frame (hW2.block bn hbl (by simp))⟩
    have HNX := Lib.hid hnx0
    clear hnx hnx0
    go_wp2
    rw [← hW0]
    go_loopg [36, 5] 2 (fun g i s5 wr => ∃ (n : Nat) (F' : List Nat), n ≤ 2 ∧ g = 2 - n ∧ i = .int .i64 n ∧ s5 = .bool (flN n m) ∧ Own wr (.map (mmN n m)) (.iface 63 (.map (some b))) F' ∧ F'.Nodup ∧ New W0 F F' ∧ Chg F W0 wr ∧ NetsAt wr b (mmN n m) (nets0 m) bn F')
    case atStart => exact ⟨0, F, by omega, rfl, rfl, rfl, hown0, hn, New.refl _ _, Chg.refl _ _, HNX.out⟩
    case round =>
      obtain ⟨n, F', hn2, rfl, rfl, rfl, hown, hnd, hnew, hchg, hnet⟩ := hrel
      have hcell := hcellW wr hchg
      have hs1 : Srt (mmN 1 m) := hs.srt_ins
      obtain rfl | rfl | rfl : n = 0 ∨ n = 1 ∨ n = 2 := by omega
      · have hc := hcell 0 (by omega)
        clear hcell hcellW
        have hm0 : mmN 0 m = m := rfl
        rw [hm0] at hown hnet
        obtain ⟨v, F1, Fr, ho1, hn1, hH, hp⟩ := hown.found hnd hs hgs
        obtain ⟨bs, rfl⟩ := ho1.block
        obtain ⟨ks, hma, hln, hlk, hHo, hHn⟩ := id hH
        have L2 := run_lookup_ok (P := Tryz.prog) hma uM uS (zA wr) kServices
        rw [hlk] at L2
        simp only [Option.getD_some, Option.isSome_some] at L2
        obtain ⟨w1, left, hrun, hll, hlm, hRM⟩ := RM.start (P := Tryz.prog) uM ho1 hn1 hsl (fun _ t => .map (netsOf t.m))
        have hsub : ∀ x ∈ F1 ++ Fr, x ∈ F' := fun x hx => hp.mem_iff.2 (List.mem_cons_of_mem _ hx)
        have hbF := hown.mem_block
        have HALL : Hid (∀ q ∈ l, q.1 ∈ left) := Lib.hid fun q hq => (hlm q.1).2 (List.mem_map.2 ⟨q, hq, rfl⟩)
        have HSV := Lib.hid hsv
        clear hlk hln hma hHo hlm hsv hll
        have hNP : flN 0 m = false := rfl
        rw [hNP]
        go_wp2_with fail
        go_loopg [5] left.length (fun g s5 wx => ∃ left, g = left.length ∧ s5 = .bool (defIn left l) ∧ RM wr F1 wr.heap.size bs l (fun _ t => .map (netsOf t.m)) left wx)
        case atStart => exact ⟨left, rfl, by rw [defIn_all HALL.out], hRM⟩
        case round =>
          obtain ⟨left, rfl, rfl, hRM⟩ := hrel
          rcases hRM.next (P := Tryz.prog) hsl 0 with ⟨rfl, hnx⟩ | ⟨k, v, w2, t, F2, hk, hgk, hnx, hent, ho2, hn2, hRH⟩
          · obtain ⟨F2, ho2, hn2, hN2, hc2⟩ := hRM.done
            obtain ⟨w3, F3, hup, ho3, hn3, hp3, hon3, _⟩ := hH.store (P := Tryz.prog) uM uS hs hc2 ho2 hn2 hN2
            have hHn' := hHn
            simp only [List.nodup_cons, List.mem_append, not_or] at hHn'
            have hnetw : NetsAt w3 b (mmN 1 m) (nets0 m) bn (b :: F3) := by
              rcases hnet with ⟨h1, ksA, h2, h3⟩ | ⟨h1, h2, h3, h4⟩
              · exact .inl ⟨(get_ins_ne (by decide)).trans h1, _, store_look (h2.frame (hc2.block b h2.lt hHn'.1.1)) hup, (look_upd_ne (by decide)).trans h3⟩
              · have hb1 : bn ∉ F1 := fun h => h3 (hsub _ (List.mem_append_left _ h))
                have hbne : bn ≠ b := fun e => h3 (e ▸ hbF)
                refine .inr ⟨(get_ins_ne (by decide)).trans h1, h2, fun hx => ?_, (h4.frame (hc2.block bn h4.lt hb1)).frame (hon3.block bn hbne)⟩
                rcases List.mem_cons.1 hx with h | h
                · exact hbne h
                · rcases List.mem_append.1 (hp3.mem_iff.1 h) with h | h
                  · rcases hN2 _ h with h | h
                    · exact hb1 h
                    · have := h4.lt
                      omega
                  · exact h3 (hsub _ (List.mem_append_right _ h))
            have hme : mins kServices (.map (l.map fun p => (p.1, T.map (netsOf p.2.m)))) m = mmN 1 m := by rw [← hsvl]; rfl
            rw [hme] at ho3
            have hfl : defIn [] l = flN 1 m := by rw [defIn_nil, ← hsvl]; rfl
            have hN3 : New W0 F (b :: F3) := New.cons (hnew b hbF) fun x hx => by
              rcases List.mem_append.1 (hp3.mem_iff.1 hx) with h | h
              · rcases hN2 _ h with h | h
                · exact hnew x (hsub x (List.mem_append_left _ h))
                · exact .inr (Nat.le_trans hchg.size h)
              · exact hnew x (hsub x (List.mem_append_right _ h))
            have hC3 : Chg F W0 w3 := (hchg.trans (hc2.mono (fun x hx => hsub x (List.mem_append_left _ hx))) hnew).trans (Chg.only hon3 (List.mem_singleton.2 rfl)) (fun x hx => by rw [List.mem_singleton.1 hx]; exact hnew b hbF)
            have HX := Lib.hid (And.intro ho3 (And.intro hn3 (And.intro hN3 (And.intro hC3 hnetw))))
            clear hRM hH ho2 hc2 ho3 hon3 hme hnetw hHn' hN3 hC3 hnet hown ho1 hchg
            go_wp2_with fail
            go_roundg 1
            case measure => omega
            case rel =>
              obtain ⟨x1, x2, x3, x4, x5⟩ := HX.out
              exact ⟨1, b :: F3, by omega, rfl, rfl, by rw [hfl], x1, x2, x3, x4, x5⟩
          · obtain ⟨s, hts, hso⟩ := HSV.out (k, t) (get_some hgk)
            simp only at hts
            subst hts
            have hdel := defIn_del (left := left) hsl hRM.nodup hk hgk
            simp only [T.m] at hdel
            have HD := Lib.hid hdel
            have HK := Lib.hid (And.intro hk hgk)
            obtain ⟨bv, rfl⟩ := ho2.block
            obtain ⟨ksv, hmv, hlv, hyv, hzv⟩ := ho2.look hso.srt
            have P1 := run_lookup_ok (P := Tryz.prog) hmv uM uS (zA w2) kProvider
            rw [hzv _ (hso.ban _ (by decide))] at P1
            simp only [Option.getD_none, Option.isSome_none] at P1
            have P2 := run_lookup_ok (P := Tryz.prog) hmv uM uS (zA w2) kNetworkMode
            have P3 := run_lookup_ok (P := Tryz.prog) hmv uM uS (zA w2) kNetworks
            clear hdel hk hRM hmv hlv
            cases hgm : mget kNetworkMode s with
            | some tm =>
              obtain ⟨z, F4, hz, _⟩ := hyv _ _ hgm
              rw [hz] at P2
              simp only [Option.getD_some, Option.isSome_some] at P2
              have hnm : netsOf s = s := by unfold netsOf; rw [hasK_some hgm]; rfl
              have hnn : mget kNetworks s = none := hasK_false (hso.both (hasK_some hgm))
              have hde : hasDef (netsOf s) = false := by rw [hnm]; unfold hasDef; rw [hnn]
              have hRM4 := hRH.keep hsl HK.out.2 (by show Own w2 (.map (netsOf s)) _ _; rw [hnm]; exact ho2)
              clear hRH ho2 hyv hzv hgm hz hgk
              go_wp2_with fail
              have hk := HK.out.1
              go_roundg (mdel k left).length
              case measure => have := del_length hk; omega
              case rel => exact ⟨_, rfl, by rw [HD.out, hde, Bool.or_false], hRM4⟩
            | none =>
              rw [hzv _ hgm] at P2
              simp only [Option.getD_none, Option.isSome_none] at P2
              cases hgn : mget kNetworks s with
              | none =>
                rw [hzv _ hgn] at P3
                simp only [Option.getD_none, Option.isSome_none] at P3
                have hnm : netsOf s = mins kNetworks (.map dnet) s := by unfold netsOf; simp [hasK, hgm, hgn]
                have hde : hasDef (netsOf s) = true := by rw [hnm]; unfold hasDef; rw [get_ins]; rfl
                have hmk := @run_makeMap Tryz.prog
                obtain ⟨w3, hup3, hm3, hon3, _⟩ := run_update (P := Tryz.prog) (MapAt.new w2) uM uS kDefault .nilIface
                have hc23 : Chg [] w2 w3 := ((Chg.alloc [] w2 _).trans (G := [w2.heap.size]) (Chg.only hon3 (by simp)) (fun x hx => by simp at hx; exact .inr (by omega)))
                have ho3 : Own w3 (.map dnet) (.iface 63 (.map (some w2.heap.size))) [w2.heap.size] := by
                  simp only [Own]
                  refine ⟨w2.heap.size, _, [], rfl, hm3, rfl, ?_, rfl⟩
                  simp only [dnet, OwnM]
                  exact ⟨_, [], [], by simp [mupd, mlook], ⟨rfl, rfl⟩, rfl, rfl⟩
                have ho23 : Own w3 (.map s) (.iface 63 (.map (some bv))) F2 := ho2.frame fun x hx => hc23.block x (ho2.lt x hx) (by simp)
                obtain ⟨w4, F4, hup4, ho4, hn4, hs4, hon4, _⟩ := ho23.store (P := Tryz.prog) (k := kNetworks) uM uS hso.srt ho3 (List.nodup_append.2 ⟨hn2, by simp, fun x hx y hy e => by
                  rw [List.mem_singleton.1 hy] at e
                  have := ho2.lt x hx
                  omega⟩)
                have hc24 : Chg F2 w2 w4 := (hc23.mono (by simp)).trans (Chg.only hon4 ho2.mem_block) (New.refl _ _)
                obtain ⟨w5, hup5, hRM5⟩ := hRH.put (P := Tryz.prog) uM uS hsl HK.out.2 hc24 (by show Own w4 (.map (netsOf s)) _ _; rw [hnm]; exact ho4) hn4 (New.cons (.inl ho2.mem_block) fun x hx => by
                  rcases hs4 x hx with h | h
                  · exact .inl h
                  · rw [List.mem_singleton.1 h]
                    exact .inr (Nat.le_refl _))
                clear hRH ho2 hyv hzv hgm hgn hm3 hon3 hc23 ho3 ho23 ho4 hon4 hc24 hgk
                go_wp2_with fail
                have hk := HK.out.1
                go_roundg (mdel k left).length
                case measure => have := del_length hk; omega
                case rel => exact ⟨_, rfl, by rw [HD.out, hde, Bool.or_true], hRM5⟩
              | some tn =>
                obtain ⟨nn, rfl, hne, hsn⟩ := hso.net tn hgn
                obtain ⟨z, F4, hz, hoz⟩ := hyv _ _ hgn
                obtain ⟨bz, rfl⟩ := hoz.block
                rw [hz] at P3
                simp only [Option.getD_some, Option.isSome_some] at P3
                have hnm : netsOf s = s := by unfold netsOf; rw [hasK_some hgn, Bool.or_true]; rfl
                obtain ⟨ksz, hmz, hlz, hyz, hzz⟩ := hoz.look hsn
                have P4 := run_lookup_ok (P := Tryz.prog) hmz uM uS (zA w2) kDefault
                have P5 := fun ty => run_len_at hmz ty
                have hpos : (ksz.length == 0) = false := by
                  have := List.length_pos_iff.2 hne
                  rw [beq_eq_false_iff_ne]
                  omega
                obtain ⟨w5, hup5, hRM5⟩ := hRH.put (P := Tryz.prog) uM uS hsl HK.out.2 (Chg.refl _ _) (by show Own w2 (.map (netsOf s)) _ _; rw [hnm]; exact ho2) hn2 (New.refl _ _)
                have hde : hasDef (netsOf s) = hasK kDefault nn := by rw [hnm]; unfold hasDef; rw [hgn]
                cases hgd : mget kDefault nn with
                | some td =>
                  obtain ⟨zz, _, hzz2, _⟩ := hyz _ _ hgd
                  rw [hzz2] at P4
                  simp only [Option.getD_some, Option.isSome_some] at P4
                  rw [hasK_some hgd] at hde
                  have HDE := Lib.hid hde
                  clear hRH ho2 hyv hzv hgm hgn hz hoz hmz hlz hyz hzz hgd hzz2 hnm hgk hde
                  go_wp2_with fail
                  have hk := HK.out.1
                  go_roundg (mdel k left).length
                  case measure => have := del_length hk; omega
                  case rel => exact ⟨_, rfl, by rw [HD.out, HDE.out, Bool.or_true], hRM5⟩
                | none =>
                  rw [hzz _ hgd] at P4
                  simp only [Option.getD_none, Option.isSome_none] at P4
                  have hde2 : hasDef (netsOf s) = false := by rw [hde]; unfold hasK; rw [hgd]; rfl
                  have HDE := Lib.hid hde2
                  clear hRH ho2 hyv hzv hgm hgn hz hoz hmz hlz hyz hzz hgd hnm hgk hde hde2
                  go_wp2_with fail
                  have hk := HK.out.1
                  go_roundg (mdel k left).length
                  case measure => have := del_length hk; omega
                  case rel => exact ⟨_, rfl, by rw [HD.out, HDE.out, Bool.or_false], hRM5⟩
      · have hc := hcell 1 (by omega)
        clear hcell hcellW
        have hgj : mget kJobs (mmN 1 m) = none := (get_ins_ne (by decide)).trans HJ.out
        obtain ⟨ks, hma, hlk⟩ := hown.missing hs1 hgj
        have L2 := run_lookup_ok (P := Tryz.prog) hma uM uS (zA wr) kJobs
        rw [hlk] at L2
        simp only [Option.getD_none, Option.isSome_none] at L2
        clear hlk hma hgj
        go_wp2_with fail
        go_roundg 0
        case measure => omega
        case rel => exact ⟨2, F', by omega, rfl, rfl, rfl, hown, hnd, hnew, hchg, hnet⟩
      · have hm2 : mmN 2 m = mmN 1 m := rfl
        rw [hm2] at hown hnet
        clear hcell hcellW
        have hfin : ∀ W F3, Own W (.map (netsP m)) (.iface 63 (.map (some b))) F3 → F3.Nodup → New W0 F F3 → Chg F W0 W → Res F w (.map (netsP m)) (.iface 63 (.map (some b))) W :=
          fun W F3 a1 a2 a3 a4 => ⟨F3, a1, a2, fun x hx => (a3 x hx).imp id (fun h => by omega), (hcw.mono (by simp)).trans a4 (New.refl _ _)⟩
        have HF := Lib.hid hfin
        clear hfin
        rcases hnet with ⟨hgn, ks, hma, hlk⟩ | ⟨hgn, hnl, hbn, hma⟩
        · obtain ⟨v, Fn, Fr, hon, hnn, hH, hp⟩ := hown.found hnd hs1 hgn
          obtain ⟨ks', hma', _, hlk', _, _⟩ := id hH
          cases hma.uniq hma'
          cases Option.some.inj (hlk.symm.trans hlk')
          obtain ⟨ksn, Fn', hman, hlen, _, _⟩ := hon.mapAt
          have hgn0 : mget kNetworks m = some (.map (nets0 m)) := (get_ins_ne (by decide)).symm.trans hgn
          have hsn : Srt (nets0 m) := by
            obtain ⟨tl, h1, h2, _⟩ := HNO.out _ hgn0
            injection h1 with h1
            rw [h1]
            exact h2
          have hN1 : nets1 m = if flN 2 m && !hasK kDefault (nets0 m) then mins kDefault .null (nets0 m) else nets0 m := rfl
          have hNP : netsP m = if nets1 m = [] then mmN 1 m else mins kNetworks (.map (nets1 m)) (mmN 1 m) := rfl
          obtain ⟨fl, hfl⟩ : ∃ fl, flN 2 m = fl := ⟨_, rfl⟩
          rw [hfl] at hN1 ⊢
          generalize nets0 m = nl at hgn hon hlen hN1 hsn hgn0
          have hsub : ∀ x ∈ Fn ++ Fr, x ∈ F' := fun x hx => hp.mem_iff.2 (List.mem_cons_of_mem _ hx)
          have hbF := hown.mem_block
          have HLK : Hid (∀ u, mget kDefault nl = some u → ∃ z, mlook kDefault ksn = some z) := Lib.hid fun u hu => by
            obtain ⟨ks', v', F1, a1, a2, a3⟩ := hon.leaf hu
            cases a1.uniq hman
            exact ⟨v', a2⟩
          have HLN : Hid (mget kDefault nl = none → mlook kDefault ksn = none) := Lib.hid fun hu => by
            obtain ⟨ks', a1, a2⟩ := hon.missing hsn hu
            cases a1.uniq hman
            exact a2
          have L2 := run_lookup_ok (P := Tryz.prog) hman uM uS (zA wr) kDefault
          have L3 := fun ty => run_len_at hman ty
          cases hd : mget kDefault nl with
          | some td =>
            obtain ⟨z, hz⟩ := HLK.out td hd
            rw [hz] at L2
            simp only [Option.getD_some, Option.isSome_some] at L2
            have hne : nl ≠ [] := fun e => by rw [e] at hd; cases hd
            have hpos := pos_len hlen hne
            obtain ⟨w3, F3, hup, ho3, hn3, hp3, hon3, _⟩ := hH.store (P := Tryz.prog) uM uS hs1 (Chg.refl _ _) hon hnn (New.refl _ _)
            have hres : Res F w (.map (netsP m)) (.iface 63 (.map (some b))) w3 := by
              have e1 : nets1 m = nl := by rw [hN1, hasK_some hd]; simp
              refine HF.out w3 (b :: F3) ?_ hn3 (New.cons (hnew b hbF) fun x hx => hnew x (hsub x (hp3.mem_iff.1 hx))) (hchg.trans (Chg.only hon3 hbF) hnew)
              rw [hNP, e1, if_neg hne]
              exact ho3
            have HRES := Lib.hid hres
            clear hres hH hon ho3 hp3 hon3 hown hNP hN1 hlen
            go_wp2_with fail
            go_end0
            exact ⟨rfl, HRES.out⟩
          | none =>
            have hlk0 := HLN.out hd
            rw [hlk0] at L2
            simp only [Option.getD_none, Option.isSome_none] at L2
            cases fl with
            | true =>
              obtain ⟨w2, F2, hup2, ho2, hn2, hs2, hon2, _⟩ := hon.store (P := Tryz.prog) (k := kDefault) (t := .null) (v := .nilIface) (Fv := []) uM uS hsn (ownNull _) (by simpa using hnn)
              have hFn : ∀ x ∈ bn :: F2, x ∈ Fn := fun x hx => by
                rcases List.mem_cons.1 hx with rfl | hx
                · exact hon.mem_block
                · exact (hs2 x hx).resolve_right (by simp)
              obtain ⟨w3, F3, hup, ho3, hn3, hp3, hon3, _⟩ := hH.store (P := Tryz.prog) uM uS hs1 (Chg.only hon2 hon.mem_block) ho2 hn2 (fun x hx => .inl (hFn x hx))
              obtain ⟨ks2, _, hm2', hl2, _, _⟩ := ho2.mapAt
              have L4 := fun ty => run_len_at hm2' ty
              have hpos := pos_len hl2 ins_ne_nil
              have hres : Res F w (.map (netsP m)) (.iface 63 (.map (some b))) w3 := by
                have e1 : nets1 m = mins kDefault .null nl := by rw [hN1]; simp [hasK, hd]
                have hc2 : Chg F' wr w3 := (Chg.only hon2 (hsub _ (List.mem_append_left _ hon.mem_block))).trans (Chg.only hon3 hbF) (New.refl _ _)
                refine HF.out w3 (b :: F3) ?_ hn3 (New.cons (hnew b hbF) fun x hx => hnew x (hsub x ?_)) (hchg.trans hc2 hnew)
                · rw [hNP, e1, if_neg ins_ne_nil]
                  exact ho3
                · rcases List.mem_append.1 (hp3.mem_iff.1 hx) with h | h
                  · exact List.mem_append_left _ (hFn x h)
                  · exact List.mem_append_right _ h
              have HRES := Lib.hid hres
              clear hres hH hon ho3 hp3 hon3 hown hNP hN1 L3 ho2 hon2 hm2' hl2 hma hma' hman hlen
              go_wp2_with fail
              go_end0
              exact ⟨rfl, HRES.out⟩
            | false =>
              have e1 : nets1 m = nl := by rw [hN1]; simp
              by_cases hne : nl = []
              · have hz : ksn.length = 0 := by rw [hlen, hne]; rfl
                have hpos : decide (0 < ksn.length) = false := by simp [hz]
                have hres : Res F w (.map (netsP m)) (.iface 63 (.map (some b))) wr := by
                  refine HF.out wr F' ?_ hnd hnew hchg
                  rw [hNP, e1, if_pos hne]
                  exact hown
                have HRES := Lib.hid hres
                clear hres hH hon hown hNP hN1 hma hma' hman hlen
                go_wp2_with fail
                go_end0
                exact ⟨rfl, HRES.out⟩
              · have hpos := pos_len hlen hne
                obtain ⟨w3, F3, hup, ho3, hn3, hp3, hon3, _⟩ := hH.store (P := Tryz.prog) uM uS hs1 (Chg.refl _ _) hon hnn (New.refl _ _)
                have hres : Res F w (.map (netsP m)) (.iface 63 (.map (some b))) w3 := by
                  refine HF.out w3 (b :: F3) ?_ hn3 (New.cons (hnew b hbF) fun x hx => hnew x (hsub x (hp3.mem_iff.1 hx))) (hchg.trans (Chg.only hon3 hbF) hnew)
                  rw [hNP, e1, if_neg hne]
                  exact ho3
                have HRES := Lib.hid hres
                clear hres hH hon ho3 hp3 hon3 hown hNP hN1 hma hma' hman hlen
                go_wp2_with fail
                go_end0
                exact ⟨rfl, HRES.out⟩
        · have hN1 : nets1 m = if flN 2 m && !hasK kDefault (nets0 m) then mins kDefault .null (nets0 m) else nets0 m := rfl
          have hNP : netsP m = if nets1 m = [] then mmN 1 m else mins kNetworks (.map (nets1 m)) (mmN 1 m) := rfl
          obtain ⟨fl, hfl⟩ : ∃ fl, flN 2 m = fl := ⟨_, rfl⟩
          rw [hfl] at hN1 ⊢
          rw [hnl] at hN1
          have hbF := hown.mem_block
          have L2 := run_lookup_ok (P := Tryz.prog) hma uM uS (zA wr) kDefault
          simp only [mlook, Option.getD_none, Option.isSome_none] at L2
          cases fl with
          | true =>
            obtain ⟨w2, hup2, hm2, hon2, _⟩ := run_update (P := Tryz.prog) hma uM uS kDefault .nilIface
            have ho2 : Own w2 (.map dnet) (.iface 63 (.map (some bn))) [bn] := by
              simp only [Own]
              refine ⟨bn, _, [], rfl, hm2, rfl, ?_, rfl⟩
              simp only [dnet, OwnM]
              exact ⟨_, [], [], by simp [mupd, mlook], ⟨rfl, rfl⟩, rfl, rfl⟩
            have hownw : Own w2 (.map (mmN 1 m)) (.iface 63 (.map (some b))) F' := hown.frame fun x hx => hon2.block x (fun e => hbn (e ▸ hx))
            obtain ⟨w3, F3, hup, ho3, hn3, hs3, hon3, _⟩ := hownw.store (P := Tryz.prog) (k := kNetworks) uM uS hs1 ho2 (List.nodup_append.2 ⟨hnd, by simp, fun x hx y hy e => by
              rw [List.mem_singleton.1 hy] at e
              exact hbn (e ▸ hx)⟩)
            have L3 := fun ty => run_len_at hm2 ty
            have hpos : decide (0 < (mupd kDefault Value.nilIface []).length) = true := by decide
            have hres : Res F w (.map (netsP m)) (.iface 63 (.map (some b))) w3 := by
              have e1 : nets1 m = dnet := by rw [hN1]; rfl
              refine ⟨b :: F3, ?_, hn3, ?_, ?_⟩
              · rw [hNP, e1, if_neg (by simp [dnet])]
                exact ho3
              · have hbw := hbnew ((get_ins_ne (by decide)).symm.trans hgn)
                refine New.cons ((hnew b hbF).imp id (fun h => by omega)) fun x hx => ?_
                rcases hs3 x hx with h | h
                · exact (hnew x h).imp id (fun h => by omega)
                · rw [List.mem_singleton.1 h]
                  exact .inr hbw
              · have hbw := hbnew ((get_ins_ne (by decide)).symm.trans hgn)
                have h1 : Chg F w wr := (hcw.mono (by simp)).trans hchg (New.refl _ _)
                have h2 : Chg F w w2 := h1.trans (Chg.only hon2 (List.mem_singleton.2 rfl)) (fun x hx => by rw [List.mem_singleton.1 hx]; exact .inr hbw)
                exact h2.trans (Chg.only hon3 (List.mem_singleton.2 rfl)) (fun x hx => by rw [List.mem_singleton.1 hx]; exact (hnew b hbF).imp id (fun h => by omega))
            have HRES := Lib.hid hres
            clear hres hown hownw ho3 hon3 hNP hN1 ho2 hm2 hon2 hma
            go_wp2_with fail
            go_end0
            exact ⟨rfl, HRES.out⟩
          | false =>
            have hres : Res F w (.map (netsP m)) (.iface 63 (.map (some b))) wr := by
              have e1 : nets1 m = [] := by rw [hN1]; simp
              refine HF.out wr F' ?_ hnd hnew hchg
              rw [hNP, if_pos e1]
              exact hown
            have L3 := fun ty => run_len_at hma ty
            have HRES := Lib.hid hres
            clear hres hown hNP hN1 hma
            go_wp2_with fail
            go_end0
            exact ⟨rfl, HRES.out⟩
end Go.Proofs.YtedbfoknfdiadaaGreatDoor
