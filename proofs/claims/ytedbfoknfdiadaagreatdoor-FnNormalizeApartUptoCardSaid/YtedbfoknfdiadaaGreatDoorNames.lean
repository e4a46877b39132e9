/- loader.setNameFromKey: networks, volumes, configs and secrets get names. Conditions: a model of the reference, lengths. -/
import Derived.Test.YtedbfoknfdiadaaGreatDoorToAny
set_option linter.unusedVariables false
set_option linter.unusedSimpArgs false
namespace Go.Proofs.YtedbfoknfdiadaaGreatDoor
open Go.RowKit
variable {o : Nat → Prop}
set_option maxRecDepth 100000

theorem top_at {p : ByteArray} {m : List (ByteArray × T)} {n : Nat} (hn : n < 4) {r : ByteArray} (hr : r = tops.getD n ⟨#[]⟩) :
    mget r (nmUpto p n m) = mget r m ∧ kName ≠ r ∧ nmUpto p (n + 1) m = nmTop p r (nmUpto p n m) ∧ mget kName (nmUpto p n m) = mget kName m ∧ r ∈ tops := by
  subst hr
  rcases n with _ | _ | _ | _ | n
  · exact ⟨rfl, by decide, rfl, rfl, by decide⟩
  · exact ⟨nmTop_ne (by decide), by decide, rfl, nmTop_ne (by decide), by decide⟩
  · exact ⟨(nmTop_ne (by decide)).trans (nmTop_ne (by decide)), by decide, rfl, (nmTop_ne (by decide)).trans (nmTop_ne (by decide)), by decide⟩
  · exact ⟨(nmTop_ne (by decide)).trans ((nmTop_ne (by decide)).trans (nmTop_ne (by decide))), by decide, rfl, (nmTop_ne (by decide)).trans ((nmTop_ne (by decide)).trans (nmTop_ne (by decide))), by decide⟩
  · omega
theorem nmUpto_srt {p : ByteArray} {m : List (ByteArray × T)} (hs : Srt m) : ∀ n, Srt (nmUpto p n m) := by
  intro n
  have : ∀ (l : List ByteArray) (m : List (ByteArray × T)), Srt m → Srt (l.foldl (fun m k => nmTop p k m) m) := by
    intro l
    induction l with
    | nil => exact fun m h => h
    | cons k l ih => exact fun m h => ih _ (nmTop_srt h)
  exact this _ _ hs
set_option maxHeartbeats 1000000 in
theorem names_any (b : Nat) (w : World) (F : List Nat) (m : List (ByteArray × T)) (p : ByteArray) (h : Own w (.map m) (.iface 63 (.map (some b))) F) (hn : F.Nodup) (hs : Srt m)
   (hp : mget kName m = some (.text p)) (hok : ∀ k ∈ tops, TopOK m k) (hps : p.size ≤ 67108864) (hks : ∀ k ∈ tops, ∀ tl, mget k m = some (.map tl) → ∀ q ∈ tl, q.1.size ≤ 67108864) :
   Calls Tryz.prog 58 #[.map (some b)] w fun e w' => e = .returned (.tuple #[]) ∧ Res F w (.map (nmUpto p 4 m)) (.iface 63 (.map (some b))) w' := by
  obtain ⟨W0, hW0⟩ : ∃ W0, W0 = w.alloc (.cells #[.string kNetworks, .string kVolumes, .string kConfigs, .string kSecrets] 9) := ⟨_, rfl⟩
  have hFw : ∀ x ∈ F, x < w.heap.size := h.lt
  have hW1 : W0.heap[w.heap.size]? = some (.cells #[.string kNetworks, .string kVolumes, .string kConfigs, .string kSecrets] 9) := by rw [hW0]; exact heap_alloc_new _ _
  have hW2 : Chg F w W0 := by rw [hW0]; exact (Chg.refl F w).al _
  have hW3 : W0.heap.size = w.heap.size + 1 := by rw [hW0]; simp
  have hcellW : ∀ wr, Chg F W0 wr → ∀ j, j < 4 → wr.cell? ⟨w.heap.size, j, none⟩ = some (.string (tops.getD j ⟨#[]⟩)) := by
    intro wr hc j hj
    have hb := (hc.block w.heap.size (by omega) (fun hx => by have := hFw _ hx; omega)).trans hW1
    rw [cell_of_row wr _ j _ _ (0, 0) hb]
    rcases j with _ | _ | _ | _ | j
    · rfl
    · rfl
    · rfl
    · rfl
    · omega
  have hown0 : Own W0 (.map m) (.iface 63 (.map (some b))) F := h.frame fun x hx => by rw [hW0]; exact (Chg.alloc [] w _).block x (hFw x hx) (by simp)
  go_enter Tryz.func58, Tryz.ntmps58
  go_wp2
  rw [← hW0]
  go_loopg [14] 4 (fun g i wr => ∃ n : Nat, n ≤ 4 ∧ g = 4 - n ∧ i = .int .i64 n ∧ Res F W0 (.map (nmUpto p n m)) (.iface 63 (.map (some b))) wr)
  case atStart => exact ⟨0, by omega, rfl, rfl, F, hown0, hn, New.refl _ _, Chg.refl _ _⟩
  case round =>
    obtain ⟨n, hn4, rfl, rfl, hres⟩ := hrel
    have hcell := hcellW wr hres.choose_spec.2.2.2
    by_cases hlt : n < 4
    · have hc := hcell n hlt
      have hltb : decide ((n : Int) < 4) = true := by simp; omega
      have HC : Hid (∀ j, j < 4 → wr.cell? ⟨w.heap.size, j, none⟩ = some (.string (tops.getD j ⟨#[]⟩))) := Lib.hid hcell
      clear hcell
      obtain ⟨r, hr⟩ : ∃ r, r = tops.getD n ⟨#[]⟩ := ⟨_, rfl⟩
      rw [← hr] at hc
      obtain ⟨t1, t2, t3, t4, t5⟩ := top_at (p := p) (m := m) hlt hr
      have HR := Lib.hid hr
      clear hr
      obtain ⟨Fr, hown, hnd, hnew, hchg⟩ := hres
      have hsm : Srt (nmUpto p n m) := nmUpto_srt hs n
      cases hg : mget r (nmUpto p n m) with
      | none =>
        obtain ⟨ks, hma, hlk⟩ := hown.missing hsm hg
        have L1 := run_lookup_ok (P := Tryz.prog) hma uM uS (zA wr) r
        rw [hlk] at L1
        simp only [Option.getD_none, Option.isSome_none] at L1
        clear hlk hma
        have HG := Lib.hid hg
        clear hg
        go_wp2
        go_roundg (4 - (n + 1))
        case measure => omega
        case rel => exact ⟨n + 1, by omega, rfl, by go_num, by rw [t3, nmTop_none HG.out]; exact ⟨Fr, hown, hnd, hnew, hchg⟩⟩
      | some t =>
        obtain ⟨v, F1, Frr, ho1, hn1, hH, hpF⟩ := hown.found hnd hsm hg
        have htop : TopOK m r := hok r t5
        obtain ⟨tl, rfl, hst, hres⟩ : ∃ tl, t = .map tl ∧ Srt tl ∧ ∀ q ∈ tl, ResOK q.2 := htop t (t1.symm.trans hg)
        have HKS : Hid (∀ q ∈ tl, q.1.size ≤ 67108864) := Lib.hid (hks r t5 tl (t1.symm.trans hg))
        obtain ⟨bt, rfl⟩ := ho1.block
        obtain ⟨ks, hma, hln, hlk, hHo, hHn⟩ := id hH
        have L1 := run_lookup_ok (P := Tryz.prog) hma uM uS (zA wr) r
        rw [hlk] at L1
        simp only [Option.getD_some, Option.isSome_some] at L1
        obtain ⟨w1, left, hrun, hll, hlm, hRM⟩ := RM.start (P := Tryz.prog) uM ho1 hn1 hst (nmRes p)
        have HG : Hid (mget r (nmUpto p n m) = some (.map tl)) := Lib.hid hg
        clear hg hlk hln hma
        go_wp2
        go_loopg [] left.length (fun g wx => ∃ left, g = left.length ∧ RM wr F1 wr.heap.size bt tl (nmRes p) left wx)
        case atStart => exact ⟨left, rfl, hRM⟩
        case round =>
          obtain ⟨left, rfl, hRM⟩ := hrel
          rcases hRM.next (P := Tryz.prog) hst 0 with ⟨rfl, hnx⟩ | ⟨k, v, w2, t, F2, hk, hgk, hnx, hent, ho2, hn2, hRH⟩
          · have hdone := hRM.done
            clear hRM
            go_wp2
            go_roundg (4 - (n + 1))
            case measure => omega
            case rel =>
              obtain ⟨F2, ho2, hn2, hN2, hc2⟩ := hdone
              obtain ⟨F', ho', hn', hp'⟩ := hH.shut hsm hc2 ho2 hn2 hN2
              have hsub : ∀ x ∈ F1 ++ Frr, x ∈ Fr := fun x hx => hpF.mem_iff.2 (List.mem_cons_of_mem _ hx)
              have hNF : New W0 F F1 := fun x hx => hnew x (hsub x (List.mem_append_left _ hx))
              refine ⟨n + 1, by omega, rfl, by go_num, b :: F', ?_, hn', ?_, hchg.trans hc2 hNF⟩
              · rw [t3]
                unfold nmTop
                rw [HG.out]
                exact ho'
              · refine New.cons (hnew b hown.mem_block) fun x hx => ?_
                rcases List.mem_append.1 (hp'.mem_iff.1 hx) with hx | hx
                · rcases hN2 x hx with hx | hx
                  · exact hNF x hx
                  · exact .inr (Nat.le_trans hchg.size hx)
                · exact hnew x (hsub x (List.mem_append_right _ hx))
          · have HK := Lib.hid (And.intro hk hgk)
            clear hk
            have hresk : ResOK t := hres (k, t) (get_some hgk)
            have hksz : k.size ≤ 67108864 := HKS.out (k, t) (get_some hgk)
            have hpu : (p ++ kUnder).size = p.size + 1 := by rw [ByteArray.size_append]; rfl
            clear hgk
            cases t with
            | null =>
              simp only [Own] at ho2
              obtain ⟨rfl, rfl⟩ := ho2
              have hmk := @run_makeMap Tryz.prog
              have L2 := run_lookup_plain (P := Tryz.prog) (MapAt.new w2) uM uS (zA _) kName
              have L3 := run_lookup_ok (P := Tryz.prog) (MapAt.new w2) uM uS (zA _) kExternal
              simp only [mlook, Option.getD_none, Option.isSome_none] at L2 L3
              have hgd : mget kName (nmUpto p n m) = some (.text p) := t4.trans hp
              have hrn : kName ≠ r := t2
              have hHw : Hole w2 b (nmUpto p n m) r (.iface 63 (.map (some bt))) F1 Frr := hH.frame (hRH.chg)
              have hbt : b < w2.heap.size := by
                obtain ⟨ks', hm', _⟩ := hHw
                exact hm'.lt
              obtain ⟨ksd, vd, Fd, hmd, hld, hod⟩ := hHw.leaf hrn hgd
              simp only [Own] at hod
              obtain ⟨rfl, _⟩ := hod
              have hmd' : MapAt (w2.alloc (.map #[] 0)) b ksd := hmd.frame ((MapKept.heap_alloc w2 _).2 b hbt)
              have L4 := run_lookup_plain (P := Tryz.prog) hmd' uM uS (zA _) kName
              rw [hld] at L4
              simp only [Option.getD_some] at L4
              have c1 : (Op.stringOp .add p kUnder).run Tryz.prog (w2.alloc (.map #[] 0)) = .ok (.string (p ++ kUnder)) (w2.alloc (.map #[] 0)) := run_string_add_sum _ p kUnder (by have : kUnder.size = 1 := rfl; omega)
              have c2 : (Op.stringOp .add (p ++ kUnder) k).run Tryz.prog (w2.alloc (.map #[] 0)) = .ok (.string (p ++ kUnder ++ k)) (w2.alloc (.map #[] 0)) := run_string_add_sum _ _ _ (by omega)
              obtain ⟨w3, hup, hm3, hon3, _, _⟩ := run_update (P := Tryz.prog) (MapAt.new w2) uM uS kName (.iface 9 (.string (p ++ kUnder ++ k)))
              have hkn : mupd kName (.iface 9 (.string (p ++ kUnder ++ k))) [] = [(kName, .iface 9 (.string (p ++ kUnder ++ k)))] := rfl
              rw [hkn] at hm3
              have hc23 : Chg [] w2 w3 := ((Chg.alloc [] w2 _).trans (G := [w2.heap.size]) (Chg.only hon3 (by simp)) (fun x hx => by simp at hx; exact .inr (by omega)))
              have ho3 : Own w3 (nmRes p k .null) (.iface 63 (.map (some w2.heap.size))) [w2.heap.size] := by
                simp only [nmRes, Own]
                refine ⟨w2.heap.size, _, [], rfl, hm3, rfl, ?_, rfl⟩
                simp only [OwnM]
                exact ⟨_, [], [], by simp only [mlook, if_true], ⟨rfl, rfl⟩, rfl, rfl⟩
              obtain ⟨w4, hup4, hRM4⟩ := hRH.put (P := Tryz.prog) uM uS hst HK.out.2 hc23 ho3 (by simp) (fun x hx => by simp at hx; exact .inr (by omega))
              clear hm3 hon3 hc23 ho3 hRH hmd' hmd hld hHw hkn
              go_wp2_with (first | (go_at_call 87; refine (zzTextVerb_text _ _).mono ?_; rintro e wz ⟨rfl, rfl⟩) | go_in)
              have hk := HK.out.1
              go_roundg (mdel k left).length
              case measure => have := del_length hk; omega
              case rel => exact ⟨_, rfl, hRM4⟩
            | map rr =>
              obtain ⟨br, rfl⟩ := ho2.block
              obtain ⟨hsr, hna, hex⟩ := hresk
              have hHw : Hole w2 b (nmUpto p n m) r (.iface 63 (.map (some bt))) F1 Frr := hH.frame (hRH.chg)
              cases hgn : mget kName rr with
              | some tn =>
                obtain ⟨sn, rfl⟩ := hna tn hgn
                obtain ⟨ksr, vr, Fr', hmr, hlr, hor⟩ := ho2.leaf hgn
                simp only [Own] at hor
                obtain ⟨rfl, _⟩ := hor
                have L2 := run_lookup_plain (P := Tryz.prog) hmr uM uS (zA _) kName
                rw [hlr] at L2
                simp only [Option.getD_some] at L2
                have hnm : nmRes p k (.map rr) = .map rr := by simp only [nmRes, hgn]
                obtain ⟨w4, hup4, hRM4⟩ := hRH.put (P := Tryz.prog) uM uS hst HK.out.2 (Chg.refl _ _) (by rw [hnm]; exact ho2) hn2 (New.refl _ _)
                clear hRH hmr hlr hHw hnm ho2
                go_wp2
                have hk := HK.out.1
                go_roundg (mdel k left).length
                case measure => have := del_length hk; omega
                case rel => exact ⟨_, rfl, hRM4⟩
              | none =>
                obtain ⟨ksr, hmr, hlr⟩ := ho2.missing hsr hgn
                have L2 := run_lookup_plain (P := Tryz.prog) hmr uM uS (zA _) kName
                rw [hlr] at L2
                simp only [Option.getD_none] at L2
                have hgd : mget kName (nmUpto p n m) = some (.text p) := t4.trans hp
                have hrn : kName ≠ r := t2
                obtain ⟨ksd, vd, Fd, hmd, hld, hod⟩ := hHw.leaf hrn hgd
                simp only [Own] at hod
                obtain ⟨rfl, _⟩ := hod
                have L4 := run_lookup_plain (P := Tryz.prog) hmd uM uS (zA _) kName
                rw [hld] at L4
                simp only [Option.getD_some] at L4
                have c1 : (Op.stringOp .add p kUnder).run Tryz.prog w2 = .ok (.string (p ++ kUnder)) w2 := run_string_add_sum _ p kUnder (by have : kUnder.size = 1 := rfl; omega)
                have c2 : (Op.stringOp .add (p ++ kUnder) k).run Tryz.prog w2 = .ok (.string (p ++ kUnder ++ k)) w2 := run_string_add_sum _ _ _ (by omega)
                have hnm : nmRes p k (.map rr) = .map (mins kName (.text (nmName p k rr)) rr) := by simp only [nmRes, hgn]
                obtain ⟨w3, F3, hup3, ho3, hn3, hs3, hon3, _⟩ := ho2.store (P := Tryz.prog) (k := kName) (t := .text (nmName p k rr)) (v := .iface 9 (.string (nmName p k rr))) (Fv := []) uM uS hsr (ownText _ _) (by simpa using hn2)
                obtain ⟨w4, hup4, hRM4⟩ := hRH.put (P := Tryz.prog) uM uS hst HK.out.2 (Chg.only hon3 ho2.mem_block) (by rw [hnm]; exact ho3) hn3 (New.cons (.inl ho2.mem_block) (fun x hx => (hs3 x hx).imp id (fun h => by cases h)))
                cases hge : mget kExternal rr with
                | some te =>
                  obtain ⟨xb, rfl⟩ := hex te hge
                  obtain ⟨kse, ve, Fe, hme, hle, hoe⟩ := ho2.leaf hge
                  simp only [Own] at hoe
                  obtain ⟨rfl, _⟩ := hoe
                  have L3 := run_lookup_ok (P := Tryz.prog) hme uM uS (zA _) kExternal
                  rw [hle] at L3
                  simp only [Option.getD_some, Option.isSome_some] at L3
                  cases xb
                  · have hnn : nmName p k rr = p ++ kUnder ++ k := by simp only [nmName, hge]
                    rw [hnn] at hup3
                    clear hRH hmr hlr hHw hnm ho2 ho3 hs3 hon3 hmd hld hme hle hnn hge
                    go_wp2_with (first | (go_at_call 87; refine (zzTextVerb_text _ _).mono ?_; rintro e wz ⟨rfl, rfl⟩) | (go_at_call 86; refine (isTrue_bool _ _).mono ?_; rintro e wz ⟨rfl, rfl⟩) | go_in)
                    have hk := HK.out.1
                    go_roundg (mdel k left).length
                    case measure => have := del_length hk; omega
                    case rel => exact ⟨_, rfl, hRM4⟩
                  · have hnn : nmName p k rr = k := by simp only [nmName, hge]
                    rw [hnn] at hup3
                    clear hRH hmr hlr hHw hnm ho2 ho3 hs3 hon3 hmd hld hme hle hnn hge
                    go_wp2_with (first | (go_at_call 86; refine (isTrue_bool _ _).mono ?_; rintro e wz ⟨rfl, rfl⟩) | go_in)
                    have hk := HK.out.1
                    go_roundg (mdel k left).length
                    case measure => have := del_length hk; omega
                    case rel => exact ⟨_, rfl, hRM4⟩
                | none =>
                  obtain ⟨kse, hme, hle⟩ := ho2.missing hsr hge
                  have L3 := run_lookup_ok (P := Tryz.prog) hme uM uS (zA _) kExternal
                  rw [hle] at L3
                  simp only [Option.getD_none, Option.isSome_none] at L3
                  have hnn : nmName p k rr = p ++ kUnder ++ k := by simp only [nmName, hge]
                  rw [hnn] at hup3
                  clear hRH hmr hlr hHw hnm ho2 ho3 hs3 hon3 hmd hld hme hle hnn hge
                  go_wp2_with (first | (go_at_call 87; refine (zzTextVerb_text _ _).mono ?_; rintro e wz ⟨rfl, rfl⟩) | go_in)
                  have hk := HK.out.1
                  go_roundg (mdel k left).length
                  case measure => have := del_length hk; omega
                  case rel => exact ⟨_, rfl, hRM4⟩
            | _ => exact hresk.elim
    · have : n = 4 := by omega
      subst this
      go_wp2
      go_end0
      obtain ⟨F', h1, h2, h3, h4⟩ := hres
      exact ⟨rfl, F', h1, h2, fun x hx => (h3 x hx).imp id (fun h => by omega), hW2.trans h4 (New.refl _ _)⟩
end Go.Proofs.YtedbfoknfdiadaaGreatDoor
