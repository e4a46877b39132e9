/- loader.Normalize: what it makes of a model of the reference. Conditions: a model of the reference, lengths. -/
import Derived.Test.YtedbfoknfdiadaaGreatDoorDepsD
set_option linter.unusedVariables false
set_option linter.unusedSimpArgs false
namespace Go.Proofs.YtedbfoknfdiadaaGreatDoor
open Go.RowKit
variable {o : Nat → Prop}
set_option maxRecDepth 100000

def dsN (n : Nat) (m : List (ByteArray × T)) : List (ByteArray × T) := if n = 0 then m else depStage m
set_option maxHeartbeats 60000000 in
theorem loader_any (b be : Nat) (w : World) (F : List Nat) (m : List (ByteArray × T)) (h : Own w (.map m) (vM b) F) (hn : F.Nodup) (hok : ModelOK m) (hst : StageOK (netsP m) (prj m)) :
   Calls Tryz.prog 37 #[.map (some b), .map (some be)] w fun e w' => e = .returned (.tuple #[.map (some b), .nilIface]) ∧ Res F w (.map (normP m)) (vM b) w' := by
  have hFw : ∀ x ∈ F, x < w.heap.size := h.lt
  have HNET : Hid (∀ W, Chg [] w W → Calls Tryz.prog 51 #[.map (some b)] W fun e w' => e = .returned (.tuple #[]) ∧ Res F W (.map (netsP m)) (vM b) w') :=
    Lib.hid fun W hc => networks_any b W F m (h.frame fun x hx => hc.block x (hFw x hx) (by simp)) hn hok
  have hnp : normP m = nmUpto (prj m) 4 (depStage (netsP m)) := rfl
  rw [hnp]
  clear hnp hok h hn
  generalize netsP m = m1 at hst HNET ⊢
  generalize prj m = p at hst ⊢
  have hs := hst.srt
  obtain ⟨l, hgs, hsl, hsv⟩ := hst.svc
  have hsvl : svcs m1 = l := svcs_of hgs
  have hds : depStage m1 = mins kServices (.map (onS depOf l)) m1 := by rw [← hsvl]; rfl
  have HST := Lib.hid hst
  clear hst
  go_enter Tryz.func37, Tryz.ntmps37
  go_wp2_with fail
  refine (HNET.out _ ((Chg.refl [] w).al _)).mono ?_
  rintro e w1 ⟨rfl, F1, hown1, hnd1, hnew1, hchg1⟩
  have hchw : Chg F w w1 := ((Chg.refl F w).al _).trans hchg1 (New.refl _ _)
  have hneww : New w F F1 := fun x hx => (hnew1 x hx).imp id (fun h => by simp at h; omega)
  have HW1 := Lib.hid (And.intro hchw hneww)
  have hFw1 : ∀ x ∈ F1, x < w1.heap.size := hown1.lt
  clear HNET hnew1 hchg1 hchw hneww
  obtain ⟨W0, hW0⟩ : ∃ W0, W0 = w1.alloc (.cells #[.string kServices, .string kJobs] 9) := ⟨_, rfl⟩
  have hW1 : W0.heap[w1.heap.size]? = some (.cells #[.string kServices, .string kJobs] 9) := by rw [hW0]; exact heap_alloc_new _ _
  have hW2 : Chg [] w1 W0 := by rw [hW0]; exact (Chg.refl [] w1).al _
  have hW3 : W0.heap.size = w1.heap.size + 1 := by rw [hW0]; simp
  have hcellW : ∀ wr, Chg F1 W0 wr → ∀ j, j < 2 → wr.cell? ⟨w1.heap.size, j, none⟩ = some (.string ([kServices, kJobs].getD j ⟨#[]⟩)) := by
    intro wr hc j hj
    have hb := (hc.block w1.heap.size (by omega) (fun hx => by have := hFw1 _ hx; omega)).trans hW1
    rw [cell_of_row wr _ j _ _ (0, 0) hb]
    rcases j with _ | _ | j
    · rfl
    · rfl
    · omega
  have hown0 : Own W0 (.map m1) (vM b) F1 := hown1.frame fun x hx => hW2.block x (hFw1 x hx) (by simp)
  have HW2 := Lib.hid hW2
  clear hown1 hW1 hW2
  go_wp2
  rw [← hW0]
  refine wp_loop_fr bsL1 (by decide) (fun g f wr => ∃ (n : Nat) (F' : List Nat), n ≤ 2 ∧ g = 2 - n ∧ f 63 = .int .i64 n ∧ Own wr (.map (dsN n m1)) (vM b) F' ∧ F'.Nodup ∧ New W0 F1 F' ∧ Chg F1 W0 wr) 2 ⟨0, F1, by omega, rfl, rfl, hown0, hnd1, New.refl _ _, Chg.refl _ _⟩ ?_
  as_aux_lemma =>
    intro gk f1 wr hrel J1 K1 hJ1 hK1
    obtain ⟨n, F', hn2, rfl, h63, hown, hnd, hnew, hchg⟩ := hrel
    dsimp only [fr_mk, frL, bsL1]
    rw [h63]
    have HJ1 := Lib.hid hJ1
    clear hJ1 h63
    have hcell := hcellW wr hchg
    have hs1 : Srt (depStage m1) := hs.srt_ins
    obtain rfl | rfl | rfl : n = 0 ∨ n = 1 ∨ n = 2 := by omega
    · have hc := hcell 0 (by omega)
      clear hcell hcellW
      have hm0 : dsN 0 m1 = m1 := rfl
      rw [hm0] at hown
      obtain ⟨v, F1', Fr, ho1, hn1, hH, hp⟩ := hown.found hnd hs hgs
      obtain ⟨bs, rfl⟩ := ho1.block
      obtain ⟨ks, hma, hln, hlk, hHo, hHn⟩ := id hH
      have L2 := run_lookup_ok (P := Tryz.prog) hma uM uS (zA wr) kServices
      rw [hlk] at L2
      simp only [Option.getD_some, Option.isSome_some] at L2
      obtain ⟨wR, left, hrun, hll, hlm, hRM⟩ := RM.start (P := Tryz.prog) uM ho1 hn1 hsl (fun _ t => .map (depOf t.m))
      have hsub : ∀ x ∈ F1' ++ Fr, x ∈ F' := fun x hx => hp.mem_iff.2 (List.mem_cons_of_mem _ hx)
      have hbF := hown.mem_block
      have HSV := Lib.hid hsv
      clear hlk hln hma hHo hlm hsv hll
      go_wp2_with fail
      refine wp_loop_fr bsL2 (by decide) (fun g _ wx => ∃ left, g = left.length ∧ RM wr F1' wr.heap.size bs l (fun _ t => .map (depOf t.m)) left wx) left.length ⟨left, rfl, hRM⟩ ?_
      as_aux_lemma =>
        intro gk f2 wx hrel J2 K2 hJ2 hK2
        obtain ⟨left, rfl, hRM⟩ := hrel
        dsimp only [fr_mk, frL, bsL2]
        have HJ2 := Lib.hid hJ2
        clear hJ2
        rcases hRM.next (P := Tryz.prog) hsl 0 with ⟨rfl, hnx⟩ | ⟨k, v, w2, t, F2, hk, hgk, hnx, hent, ho2, hn2, hRH⟩
        · --B0
          obtain ⟨F2, ho2, hn2, hN2, hc2⟩ := hRM.done
          obtain ⟨w3, F3, hup, ho3, hn3, hp3, hon3, _⟩ := hH.store (P := Tryz.prog) uM uS hs hc2 ho2 hn2 hN2
          have hme : mins kServices (.map (l.map fun p => (p.1, T.map (depOf p.2.m)))) m1 = dsN 1 m1 := hds.symm
          rw [hme] at ho3
          have hN3 : New W0 F1 (b :: F3) := New.cons (hnew b hbF) fun x hx => by
            rcases List.mem_append.1 (hp3.mem_iff.1 hx) with h | h
            · rcases hN2 _ h with h | h
              · exact hnew x (hsub x (List.mem_append_left _ h))
              · exact .inr (Nat.le_trans hchg.size h)
            · exact hnew x (hsub x (List.mem_append_right _ h))
          have hC3 : Chg F1 W0 w3 := (hchg.trans (hc2.mono (fun x hx => hsub x (List.mem_append_left _ hx))) hnew).trans (Chg.only hon3 (List.mem_singleton.2 rfl)) (fun x hx => by rw [List.mem_singleton.1 hx]; exact hnew b hbF)
          have HX := Lib.hid (And.intro ho3 (And.intro hn3 (And.intro hN3 hC3)))
          clear hRM hH ho2 hc2 ho3 hon3 hme hN3 hC3 hown ho1 hchg
          go_wp2_with fail
          obtain ⟨x1, x2, x3, x4⟩ := HX.out
          exact Handed.intro 1 (by omega) (HJ1.out _ _ _ (Ag.mk (by simp only [agL, bsL1, true_and, and_true] <;> rfl)) ⟨1, b :: F3, by omega, rfl, rfl, x1, x2, x3, x4⟩)
          --E0
        · obtain ⟨s, hts, hso⟩ := HSV.out (k, t) (get_some hgk)
          simp only at hts
          subst hts
          have HK := Lib.hid (And.intro hk hgk)
          obtain ⟨bv, rfl⟩ := ho2.block
          obtain ⟨ksv, hmv, hlv, hyv, hzv⟩ := ho2.look hso.srt
          have P1 := run_lookup_plain (P := Tryz.prog) hmv uM uS (zA w2) kPullPolicy
          rw [hzv _ (hso.ban _ (by decide))] at P1
          simp only [Option.getD_none] at P1
          have P2 := run_lookup_ok (P := Tryz.prog) hmv uM uS (zA w2) kBuild
          rw [hzv _ (hso.ban _ (by decide))] at P2
          simp only [Option.getD_none, Option.isSome_none] at P2
          have P3 := run_lookup_ok (P := Tryz.prog) hmv uM uS (zA w2) kEnvironment
          rw [hzv _ (hso.ban _ (by decide))] at P3
          simp only [Option.getD_none, Option.isSome_none] at P3
          obtain ⟨v4, b4, P4, h4⟩ : ∃ v4 b4, (Instr.lookup 63 (.map (some bv)) (.string kDependsOn) true).run Tryz.prog w2 = .ok (.tuple #[v4, .bool b4]) w2 ∧
              ((b4 = false ∧ mget kDependsOn s = none ∧ DS w2 F2 bv w2.heap.size ksv s [] (w2.alloc (.map #[] 0))) ∨ (b4 = true ∧ ∃ d bd, mget kDependsOn s = some (.map d) ∧ v4 = vM bd ∧ DS w2 F2 bv bd ksv s d w2)) := by
            have P4 := run_lookup_ok (P := Tryz.prog) hmv uM uS (zA w2) kDependsOn
            cases hg : mget kDependsOn s with
            | none =>
              obtain ⟨ks', a1, a2, a3⟩ := DS.start_none ho2 hn2 hso.srt hg
              cases a1.uniq hmv
              rw [a2] at P4
              exact ⟨_, _, P4, .inl ⟨rfl, rfl, a3⟩⟩
            | some t =>
              obtain ⟨d, rfl, hd1, hd2⟩ := hso.dep t hg
              obtain ⟨ks', bd, a1, a2, a3⟩ := DS.start_some ho2 hn2 hso.srt hg
              cases a1.uniq hmv
              rw [a2] at P4
              exact ⟨_, _, P4, .inr ⟨rfl, d, bd, rfl, rfl, a3⟩⟩
          have H4 := Lib.hid h4
          have HSO := Lib.hid hso
          have HRH := Lib.hid hRH
          clear hk hRM hmv hlv hyv hzv h4 hso hRH ho2 hn2 hgk hown ho1 hH hchg
          go_upto_if 150 with fail
          refine wp_cut_fr bsC (by decide) (fun f wx => ∃ bd, f 22 = .map (some bd) ∧ DS w2 F2 bv bd ksv s (dep0 s) wx) ?first ?rest
          case first => as_aux_lemma =>
            intro J3 K3 hJ3 hK3
            have HJ3 := Lib.hid hJ3
            clear hJ3
            --B1
            have hmk := @run_makeMap Tryz.prog
            rcases H4.out with ⟨rfl, hg, hd⟩ | ⟨rfl, d, bd, hg, rfl, hd⟩
            · have hd0 : dep0 s = [] := by unfold dep0; rw [hg]
              have HD := Lib.hid (And.intro hd0 hd)
              clear hg hd hd0
              go_wp2_with fail
              exact Met.intro (HJ3.out _ _ (Ag.mk (by simp only [agL, bsC, true_and, and_true] <;> rfl)) ⟨_, rfl, by rw [HD.out.1]; exact HD.out.2⟩)
            · have hd0 : dep0 s = d := by unfold dep0; rw [hg]
              have HD := Lib.hid (And.intro hd0 hd)
              clear hg hd hd0
              go_wp2_with fail
              exact Met.intro (HJ3.out _ _ (Ag.mk (by simp only [agL, bsC, true_and, and_true] <;> rfl)) ⟨_, rfl, by rw [HD.out.1]; exact HD.out.2⟩)
            --E1
          case rest => as_aux_lemma =>
            intro f3 wc hcut
            obtain ⟨bd, h22, hDS⟩ := hcut
            dsimp only [fr_mk, frL, bsC]
            rw [h22]
            clear h22
            have HSD := Lib.hid (depQ_srt HSO.out)
            obtain ⟨v5, b5, P5, h5⟩ := hDS.list (k := kLinks) (by decide) HSO.out.link
            have H5 := Lib.hid h5
            have HD := Lib.hid hDS
            clear h5 hDS
            go_upto_if 159 with fail
            refine wp_cut_fr bsC (by decide) (fun f wx => f 22 = .map (some bd) ∧ DS w2 F2 bv bd ksv s (needs (impP true) (dep0 s) (lnk kLinks s)) wx) ?first ?rest
            case first => as_aux_lemma =>
              intro J3 K3 hJ3 hK3
              have HJ3 := Lib.hid hJ3
              clear hJ3
              --B2
              rcases H5.out with ⟨rfl, hg⟩ | ⟨rfl, l5, g5, c5, hg, rfl, hlk⟩
              · have HL0 := Lib.hid (lnk_none hg)
                clear hg
                go_wp2_with fail
                exact Met.intro (HJ3.out _ _ (Ag.mk (by simp only [agL, bsC, true_and, and_true] <;> rfl)) ⟨rfl, by rw [HL0.out]; exact HD.out⟩)
              · obtain ⟨l', e, hlen, hall⟩ := HSO.out.link.all _ hg
                cases e
                have HG := Lib.hid (And.intro hg (And.intro hlk hall))
                clear hg hlk hall
                go_wp2_with fail
                refine wp_loop_fr bsL3 (by decide) (fun g f wx => ∃ n : Nat, n ≤ l5.length ∧ g = l5.length - n ∧ f 164 = .int .i64 n ∧ DS w2 F2 bv bd ksv s (needs (impP true) (dep0 s) ((lnk kLinks s).take n)) wx) l5.length ⟨0, Nat.zero_le _, by omega, rfl, HD.out⟩ ?_
                as_aux_lemma =>
                  intro gk f4 wl hrel J4 K4 hJ4 hK4
                  obtain ⟨n, hn, rfl, h164, hDn⟩ := hrel
                  dsimp only [fr_mk, frL, bsL3]
                  rw [h164]
                  have HJ4 := Lib.hid hJ4
                  clear hJ4 h164
                  by_cases hlt : n < l5.length
                  · have hn64 : n ≤ 67108864 := by omega
                    obtain ⟨x, hx⟩ : ∃ x, l5[n]? = some x := ⟨_, List.getElem?_eq_getElem hlt⟩
                    obtain ⟨a, rfl, hasz, hcont, hcnt⟩ := HG.out.2.2 x (List.mem_of_getElem? hx)
                    have hcell := hDn.elem (by decide) HG.out.1 HG.out.2.1 hx
                    have HX := Lib.hid (And.intro (lnk_step (f := impP true) (d := dep0 s) HG.out.1 hx) (And.intro hcnt hDn))
                    clear hx hcont hcnt hDn
                    go_wp2_with fail
                    refine (zzSplit_colon a _ hasz).mono ?_
                    rintro e w3 ⟨vp, lp, rfl, hc3, hk3, hp3⟩
                    obtain ⟨g6, c6, rfl, h60, k6⟩ := hk3.elem hp3.zero
                    have k60 := k6 w3 (Chg.refl _ _)
                    have hD3 := HX.out.2.2.go hc3
                    obtain ⟨dn, hdn⟩ : ∃ dn, dn = needs (impP true) (dep0 s) ((lnk kLinks s).take n) := ⟨_, rfl⟩
                    rw [← hdn] at hD3
                    have hsdn : Srt dn := hdn ▸ needs_srt HSD.out
                    obtain ⟨nm, hnm⟩ : ∃ nm, nm = part0 a := ⟨_, rfl⟩
                    rw [← hnm] at k60
                    obtain ⟨v7, P7⟩ := hD3.drun hsdn nm
                    have hst := HX.out.1
                    rw [← hdn, ← hnm] at hst
                    have HST := Lib.hid hst
                    have hl1 : lp.length = 2 ∨ (lp.length = 1 ∧ a = nm) := by
                      have h1 := hp3.len
                      have h2 := HX.out.2.1
                      rcases Nat.lt_or_ge (cnt a a.size) 1 with h | h
                      · exact .inr ⟨by omega, by rw [hnm, part0_all (by omega)]⟩
                      · exact .inl (by omega)
                    clear hc3 hk3 hp3 k6 hnm hst hdn
                    cases hb : hasK nm dn with
                    | true =>
                      have HB := Lib.hid (need_old (f := impP true) hb)
                      rw [hb] at P7
                      have HD3 := Lib.hid hD3
                      clear hb hD3
                      rcases hl1 with h2 | ⟨h2, rfl⟩
                      all_goals
                        go_wp2_with fail
                        exact Handed.intro (l5.length - (n + 1)) (by omega) (HJ4.out _ _ _ (Ag.mk (by simp only [agL, bsL3, true_and, and_true] <;> rfl)) ⟨n + 1, by omega, rfl, by show Value.int _ _ = _; go_num, by rw [HST.out, HB.out]; exact HD3.out⟩)
                    | false =>
                      have HB := Lib.hid (need_new (f := impP true) hb)
                      rw [hb] at P7
                      have hmk := @run_makeMap Tryz.prog
                      obtain ⟨wa, wb, wd, we, r1, r2, r3, r4, hD5, _⟩ := hD3.imp hsdn true nm
                      have HD5 := Lib.hid hD5
                      clear hb hD3 hD5
                      rcases hl1 with h2 | ⟨h2, rfl⟩
                      all_goals
                        go_wp2_with fail
                        exact Handed.intro (l5.length - (n + 1)) (by omega) (HJ4.out _ _ _ (Ag.mk (by simp only [agL, bsL3, true_and, and_true] <;> rfl)) ⟨n + 1, by omega, rfl, by show Value.int _ _ = _; go_num, by rw [HST.out, HB.out]; exact HD5.out⟩)
                  · have HE := Lib.hid (lnk_all HG.out.1 (show n = l5.length by omega))
                    have HDN := Lib.hid hDn
                    clear hDn
                    go_wp2_with fail
                    exact Met.intro (HJ3.out _ _ (Ag.mk (by simp only [agL, bsC, true_and, and_true] <;> rfl)) ⟨rfl, by rw [← HE.out]; exact HDN.out⟩)
              --E2
            case rest => as_aux_lemma =>
              intro f5 wd hcut
              obtain ⟨h22, hDS⟩ := hcut
              dsimp only [fr_mk, frL, bsC]
              rw [h22]
              clear h22
              --B3
              obtain ⟨d1, hd1⟩ : ∃ d1, d1 = needs (impP true) (dep0 s) (lnk kLinks s) := ⟨_, rfl⟩
              have hsd1 : Srt d1 := hd1 ▸ needs_srt HSD.out
              rw [← hd1] at hDS
              have hbdA := hDS.bdlt
              obtain ⟨W5, hW5⟩ : ∃ W5, W5 = wd.alloc (.cells #[.string kNetworkMode, .string kIpc, .string kPid, .string kUts, .string kCgroup] 9) := ⟨_, rfl⟩
              have hrow : W5.heap[wd.heap.size]? = some (.cells #[.string kNetworkMode, .string kIpc, .string kPid, .string kUts, .string kCgroup] 9) := hW5 ▸ heap_alloc_new _ _
              have hD5 : DS w2 F2 bv bd ksv s d1 W5 := hDS.go (hW5 ▸ (Chg.refl [] wd).al _)
              obtain ⟨A, hA⟩ : ∃ A, A = wd.heap.size := ⟨_, rfl⟩
              rw [← hA] at hrow hbdA
              have HN0 := Lib.hid (And.intro hrow hD5)
              have HD1 := Lib.hid (And.intro hd1 hsd1)
              clear hrow hD5 hDS hd1 hsd1
              go_wp2_with fail
              rw [← hW5, ← hA]
              clear hW5 hA
              refine wp_loop_fr bsL4 (by decide) (fun g f wx => ∃ n : Nat, n ≤ 5 ∧ g = 5 - n ∧ f 197 = .int .i64 n ∧ wx.heap[A]? = some (.cells #[.string kNetworkMode, .string kIpc, .string kPid, .string kUts, .string kCgroup] 9) ∧ DS w2 F2 bv bd ksv s (if n = 0 then d1 else needs (impP true) d1 (nmode s)) wx) 5 ⟨0, by omega, by omega, rfl, HN0.out.1, HN0.out.2⟩ ?_
              as_aux_lemma =>
                intro gk f6 wn hrel J5 K5 hJ5 hK5
                obtain ⟨n, hn, rfl, h197, hrw, hDn⟩ := hrel
                dsimp only [fr_mk, frL, bsL4]
                rw [h197]
                have HJ5 := Lib.hid hJ5
                clear hJ5 h197
                obtain rfl | h14 | rfl : n = 0 ∨ (n = 1 ∨ n = 2 ∨ n = 3 ∨ n = 4) ∨ n = 5 := by omega
                · have hc := five_cell hrw (n := 0) (by omega)
                  have hDn : DS w2 F2 bv bd ksv s d1 wn := hDn
                  obtain ⟨v8, b8, P8, h8⟩ := hDn.mode HSO.out
                  rcases h8 with ⟨rfl, hm⟩ | ⟨rfl, x, rfl, hxs, hm⟩
                  · have HM := Lib.hid (And.intro hm (And.intro hDn hrw))
                    clear hm hDn hrw
                    go_wp2_with fail
                    exact Handed.intro 4 (by omega) (HJ5.out _ _ _ (Ag.mk (by simp only [agL, bsL4, true_and, and_true] <;> rfl)) ⟨1, by omega, rfl, rfl, HM.out.2.2, by rw [if_neg (by omega), HM.out.1]; exact HM.out.2.1⟩)
                  · obtain ⟨bp, hbp⟩ : ∃ bp, isPre kServiceP x = bp := ⟨_, rfl⟩
                    have HP : Hid (∀ W, Calls Tryz.prog 55 #[.string x, .string kServiceP] W fun e w' => e = .returned (.bool bp) ∧ W = w') := Lib.hid fun W => by
                      have h := hasPrefix_any x kServiceP W hxs (by decide)
                      rwa [hbp] at h
                    have hx8 : bp = true → 8 ≤ x.size := fun h => isPre_len (hbp.trans h)
                    rw [hbp] at hm
                    have HM := Lib.hid (And.intro hm (And.intro hDn hrw))
                    clear hm hDn hrw hbp
                    cases bp with
                    | false =>
                      clear hx8
                      go_wp2_with fail
                      refine (HP.out _).mono ?_
                      rintro e w3 ⟨rfl, rfl⟩
                      go_wp2_with fail
                      exact Handed.intro 4 (by omega) (HJ5.out _ _ _ (Ag.mk (by simp only [agL, bsL4, true_and, and_true] <;> rfl)) ⟨1, by omega, rfl, rfl, HM.out.2.2, by rw [if_neg (by omega), HM.out.1]; exact HM.out.2.1⟩)
                    | true =>
                      have hx8 := hx8 rfl
                      obtain ⟨nm, hnm⟩ : ∃ nm, nm = x.extract 8 x.size := ⟨_, rfl⟩
                      obtain ⟨v9, P9⟩ := HM.out.2.1.drun HD1.out.2 nm
                      cases hb : hasK nm d1 with
                      | true =>
                        have HB := Lib.hid (need_old (f := impP true) hb)
                        rw [hb] at P9
                        have HNM := Lib.hid hnm
                        clear hb
                        go_wp2_with fail
                        refine (HP.out _).mono ?_
                        rintro e w3 ⟨rfl, rfl⟩
                        rw [hnm] at P9
                        go_wp2_with fail
                        exact Handed.intro 4 (by omega) (HJ5.out _ _ _ (Ag.mk (by simp only [agL, bsL4, true_and, and_true] <;> rfl)) ⟨1, by omega, rfl, rfl, HM.out.2.2, by rw [if_neg (by omega), HM.out.1]; show DS w2 F2 bv bd ksv s (need (impP true) d1 (x.extract 8 x.size)) _; rw [← HNM.out, HB.out]; exact HM.out.2.1⟩)
                      | false =>
                        have HB := Lib.hid (need_new (f := impP true) hb)
                        rw [hb] at P9
                        have hmk := @run_makeMap Tryz.prog
                        obtain ⟨wa, wb, we, wf, r1, r2, r3, r4, hD5, hcd⟩ := HM.out.2.1.imp HD1.out.2 true nm
                        have hrw5 : wf.heap[A]? = some (.cells #[.string kNetworkMode, .string kIpc, .string kPid, .string kUts, .string kCgroup] 9) := by
                          have hlt : A < wn.heap.size := (Array.getElem?_eq_some_iff.1 HM.out.2.2).1
                          exact (hcd.block A hlt (fun h => by have := List.mem_singleton.1 h; omega)).trans HM.out.2.2
                        have HD5 := Lib.hid (And.intro hD5 hrw5)
                        have HNM := Lib.hid hnm
                        clear hb hD5 hcd hrw5
                        rw [hnm] at P9 r4
                        go_wp2_with fail
                        refine (HP.out _).mono ?_
                        rintro e w3 ⟨rfl, rfl⟩
                        go_wp2_with fail
                        exact Handed.intro 4 (by omega) (HJ5.out _ _ _ (Ag.mk (by simp only [agL, bsL4, true_and, and_true] <;> rfl)) ⟨1, by omega, rfl, rfl, HD5.out.2, by rw [if_neg (by omega), HM.out.1]; show DS w2 F2 bv bd ksv s (need (impP true) d1 (x.extract 8 x.size)) _; rw [← HNM.out, HB.out]; exact HD5.out.1⟩)
                · rcases h14 with rfl | rfl | rfl | rfl
                  · have hc := five_cell hrw (n := 1) (by omega)
                    have hDn : DS w2 F2 bv bd ksv s (needs (impP true) d1 (nmode s)) wn := hDn
                    have P8 := hDn.run kIpc
                    rw [hDn.miss (HSO.out.ban kIpc (by decide))] at P8
                    simp only [Option.getD_none, Option.isSome_none] at P8
                    have HM := Lib.hid (And.intro hDn hrw)
                    clear hDn hrw
                    go_wp2_with fail
                    exact Handed.intro 3 (by omega) (HJ5.out _ _ _ (Ag.mk (by simp only [agL, bsL4, true_and, and_true] <;> rfl)) ⟨2, by omega, rfl, rfl, HM.out.2, HM.out.1⟩)
                  · have hc := five_cell hrw (n := 2) (by omega)
                    have hDn : DS w2 F2 bv bd ksv s (needs (impP true) d1 (nmode s)) wn := hDn
                    have P8 := hDn.run kPid
                    rw [hDn.miss (HSO.out.ban kPid (by decide))] at P8
                    simp only [Option.getD_none, Option.isSome_none] at P8
                    have HM := Lib.hid (And.intro hDn hrw)
                    clear hDn hrw
                    go_wp2_with fail
                    exact Handed.intro 2 (by omega) (HJ5.out _ _ _ (Ag.mk (by simp only [agL, bsL4, true_and, and_true] <;> rfl)) ⟨3, by omega, rfl, rfl, HM.out.2, HM.out.1⟩)
                  · have hc := five_cell hrw (n := 3) (by omega)
                    have hDn : DS w2 F2 bv bd ksv s (needs (impP true) d1 (nmode s)) wn := hDn
                    have P8 := hDn.run kUts
                    rw [hDn.miss (HSO.out.ban kUts (by decide))] at P8
                    simp only [Option.getD_none, Option.isSome_none] at P8
                    have HM := Lib.hid (And.intro hDn hrw)
                    clear hDn hrw
                    go_wp2_with fail
                    exact Handed.intro 1 (by omega) (HJ5.out _ _ _ (Ag.mk (by simp only [agL, bsL4, true_and, and_true] <;> rfl)) ⟨4, by omega, rfl, rfl, HM.out.2, HM.out.1⟩)
                  · have hc := five_cell hrw (n := 4) (by omega)
                    have hDn : DS w2 F2 bv bd ksv s (needs (impP true) d1 (nmode s)) wn := hDn
                    have P8 := hDn.run kCgroup
                    rw [hDn.miss (HSO.out.ban kCgroup (by decide))] at P8
                    simp only [Option.getD_none, Option.isSome_none] at P8
                    have HM := Lib.hid (And.intro hDn hrw)
                    clear hDn hrw
                    go_wp2_with fail
                    exact Handed.intro 0 (by omega) (HJ5.out _ _ _ (Ag.mk (by simp only [agL, bsL4, true_and, and_true] <;> rfl)) ⟨5, by omega, rfl, rfl, HM.out.2, HM.out.1⟩)
                · have hDn : DS w2 F2 bv bd ksv s (needs (impP true) d1 (nmode s)) wn := hDn
                  obtain ⟨d2, hd2⟩ : ∃ d2, d2 = needs (impP true) d1 (nmode s) := ⟨_, rfl⟩
                  have hsd2 : Srt d2 := hd2 ▸ needs_srt HD1.out.2
                  rw [← hd2] at hDn
                  have hdp : needs (impP false) d2 (lnk kVolumesFrom s) = depsP s := by rw [hd2, HD1.out.1]; rfl
                  have P9 := hDn.run kVolumes
                  rw [hDn.miss (HSO.out.ban kVolumes (by decide))] at P9
                  simp only [Option.getD_none, Option.isSome_none] at P9
                  obtain ⟨v10, b10, P10, h10⟩ := hDn.list (k := kVolumesFrom) (by decide) HSO.out.from_
                  have H10 := Lib.hid h10
                  have HD2 := Lib.hid (And.intro hDn (And.intro hsd2 hdp))
                  clear h10 hDn hd2 hsd2 hdp hrw
                  go_upto_if 269 with fail
                  refine wp_cut_fr bsC (by decide) (fun f wx => f 22 = .map (some bd) ∧ DS w2 F2 bv bd ksv s (depsP s) wx) ?first ?rest
                  case first => as_aux_lemma =>
                    intro J6 K6 hJ6 hK6
                    have HJ6 := Lib.hid hJ6
                    clear hJ6
                    --B4
                    rcases H10.out with ⟨rfl, hg⟩ | ⟨rfl, l5, g5, c5, hg, rfl, hlk⟩
                    · have HL0 := Lib.hid (lnk_none hg)
                      clear hg
                      go_wp2_with fail
                      exact Met.intro (HJ6.out _ _ (Ag.mk (by simp only [agL, bsC, true_and, and_true] <;> rfl)) ⟨rfl, by rw [← HD2.out.2.2, HL0.out]; exact HD2.out.1⟩)
                    · obtain ⟨l', e, hlen, hall⟩ := HSO.out.from_.all _ hg
                      cases e
                      have HG := Lib.hid (And.intro hg (And.intro hlk hall))
                      clear hg hlk hall
                      go_wp2_with fail
                      refine wp_loop_fr bsL6 (by decide) (fun g f wx => ∃ n : Nat, n ≤ l5.length ∧ g = l5.length - n ∧ f 274 = .int .i64 n ∧ DS w2 F2 bv bd ksv s (needs (impP false) d2 ((lnk kVolumesFrom s).take n)) wx) l5.length ⟨0, Nat.zero_le _, by omega, rfl, HD2.out.1⟩ ?_
                      as_aux_lemma =>
                        intro gk f7 wl hrel J7 K7 hJ7 hK7
                        obtain ⟨n, hn, rfl, h274, hDm⟩ := hrel
                        dsimp only [fr_mk, frL, bsL6]
                        rw [h274]
                        have HJ7 := Lib.hid hJ7
                        clear hJ7 h274
                        by_cases hlt : n < l5.length
                        · have hn64 : n ≤ 67108864 := by omega
                          obtain ⟨x, hx⟩ : ∃ x, l5[n]? = some x := ⟨_, List.getElem?_eq_getElem hlt⟩
                          obtain ⟨a, rfl, hasz, hcont, hcnt⟩ := HG.out.2.2 x (List.mem_of_getElem? hx)
                          have hcell := hDm.elem (by decide) HG.out.1 HG.out.2.1 hx
                          have HC := Lib.hid (not_container hcont)
                          have HP : Hid (∀ W, Calls Tryz.prog 55 #[.string a, .string kContainerP] W fun e w' => e = .returned (.bool false) ∧ W = w') := Lib.hid fun W => by
                            have h := hasPrefix_any a kContainerP W hasz (by decide)
                            rwa [HC.out] at h
                          have HX := Lib.hid (And.intro (lnk_step (f := impP false) (d := d2) HG.out.1 hx) hDm)
                          clear hx hcont hcnt hDm
                          go_wp2_with fail
                          refine (HP.out _).mono ?_
                          rintro e w3 ⟨rfl, rfl⟩
                          go_wp2_with fail
                          refine (zzSplit_colon a _ hasz).mono ?_
                          rintro e w3 ⟨vp, lp, rfl, hc3, hk3, hp3⟩
                          obtain ⟨g6, c6, rfl, h60, k6⟩ := hk3.elem hp3.zero
                          have k60 := k6 w3 (Chg.refl _ _)
                          have hD3 := HX.out.2.go hc3
                          obtain ⟨dn, hdn⟩ : ∃ dn, dn = needs (impP false) d2 ((lnk kVolumesFrom s).take n) := ⟨_, rfl⟩
                          rw [← hdn] at hD3
                          have hsdn : Srt dn := hdn ▸ needs_srt HD2.out.2.1
                          obtain ⟨nm, hnm⟩ : ∃ nm, nm = part0 a := ⟨_, rfl⟩
                          rw [← hnm] at k60
                          obtain ⟨v7, P7⟩ := hD3.drun hsdn nm
                          have hst := HX.out.1
                          rw [← hdn, ← hnm] at hst
                          have HST := Lib.hid hst
                          have hl0 : 0 < lp.length := by have := hp3.len; omega
                          clear hc3 hk3 hp3 k6 hnm hst hdn
                          cases hb : hasK nm dn with
                          | true =>
                            have HB := Lib.hid (need_old (f := impP false) hb)
                            rw [hb] at P7
                            have HD3 := Lib.hid hD3
                            clear hb hD3
                            go_wp2_with fail
                            exact Handed.intro (l5.length - (n + 1)) (by omega) (HJ7.out _ _ _ (Ag.mk (by simp only [agL, bsL6, true_and, and_true] <;> rfl)) ⟨n + 1, by omega, rfl, by show Value.int _ _ = _; go_num, by rw [HST.out, HB.out]; exact HD3.out⟩)
                          | false =>
                            have HB := Lib.hid (need_new (f := impP false) hb)
                            rw [hb] at P7
                            have hmk := @run_makeMap Tryz.prog
                            obtain ⟨wa, wb, we, wf, r1, r2, r3, r4, hD5, hcd⟩ := hD3.imp hsdn false nm
                            have HD5 := Lib.hid hD5
                            clear hb hD3 hD5
                            go_wp2_with fail
                            exact Handed.intro (l5.length - (n + 1)) (by omega) (HJ7.out _ _ _ (Ag.mk (by simp only [agL, bsL6, true_and, and_true] <;> rfl)) ⟨n + 1, by omega, rfl, by show Value.int _ _ = _; go_num, by rw [HST.out, HB.out]; exact HD5.out⟩)
                        · have HE := Lib.hid (lnk_all HG.out.1 (show n = l5.length by omega))
                          have HDN := Lib.hid hDm
                          clear hDm
                          go_wp2_with fail
                          exact Met.intro (HJ6.out _ _ (Ag.mk (by simp only [agL, bsC, true_and, and_true] <;> rfl)) ⟨rfl, by rw [← HD2.out.2.2, ← HE.out]; exact HDN.out⟩)
                    --E4
                  case rest => as_aux_lemma =>
                    intro f8 we hcut
                    obtain ⟨h22, hDS⟩ := hcut
                    dsimp only [fr_mk, frL, bsC]
                    rw [h22]
                    clear h22
                    --B5
                    obtain ⟨dq, hdq⟩ : ∃ dq, dq = depsP s := ⟨_, rfl⟩
                    rw [← hdq] at hDS
                    have hsdq : Srt dq := hdq ▸ (deps_srt HSD.out).1
                    obtain ⟨kd, hmd, hld, _⟩ := hDS.dlook hsdq
                    have L1 := fun ty => run_len_at hmd ty
                    have HMD := Lib.hid hmd
                    clear hmd
                    by_cases hne : dq = []
                    · have hkd : kd.length = 0 := by rw [hld, hne]; rfl
                      rw [hkd] at L1
                      obtain ⟨F', ho, hnd', hc, hN⟩ := hDS.unset (depQ_none HSO.out (hdq.symm.trans hne))
                      have hcall := preStart_none hDS.map (hDS.miss (HSO.out.ban kPreStart (by decide)))
                      have hme : depOf s = s := by unfold depOf; rw [if_pos (hdq.symm.trans hne)]
                      obtain ⟨w4, hup4, hRM4⟩ := HRH.out.put (P := Tryz.prog) uM uS hsl HK.out.2 hc (by show Own _ (.map (depOf s)) _ _; rw [hme]; exact ho) hnd' hN
                      have HCL := Lib.hid hcall
                      have HR4 := Lib.hid hRM4
                      clear hDS ho hnd' hc hN hcall hme hRM4 hdq hsdq hld hkd hne
                      go_wp2_with fail
                      refine HCL.out.mono ?_
                      rintro e w5 ⟨rfl, rfl⟩
                      go_wp2_with fail
                      exact Handed.intro (mdel k left).length (by have := del_length HK.out.1; omega) (HJ2.out _ _ _ (Ag.mk (by simp only [agL, bsL2, true_and, and_true] <;> rfl)) ⟨_, rfl, HR4.out⟩)
                    · have hpos : 0 < kd.length := by rw [hld]; exact List.length_pos_iff.2 hne
                      obtain ⟨w3, F', hup3, ho, hnd', hc, hN, hm3⟩ := hDS.finish HSO.out.srt
                      have hcall := preStart_none hm3 (by rw [look_upd_ne (by decide)]; exact hDS.miss (HSO.out.ban kPreStart (by decide)))
                      have hme : depOf s = mins kDependsOn (.map dq) s := by unfold depOf; rw [← hdq, if_neg hne]
                      obtain ⟨w4, hup4, hRM4⟩ := HRH.out.put (P := Tryz.prog) uM uS hsl HK.out.2 hc (by show Own _ (.map (depOf s)) _ _; rw [hme]; exact ho) hnd' hN
                      have HCL := Lib.hid hcall
                      have HR4 := Lib.hid hRM4
                      clear hDS ho hnd' hc hN hcall hme hRM4 hdq hsdq hld hne hm3
                      go_wp2_with fail
                      refine HCL.out.mono ?_
                      rintro e w5 ⟨rfl, rfl⟩
                      go_wp2_with fail
                      exact Handed.intro (mdel k left).length (by have := del_length HK.out.1; omega) (HJ2.out _ _ _ (Ag.mk (by simp only [agL, bsL2, true_and, and_true] <;> rfl)) ⟨_, rfl, HR4.out⟩)
                    --E5
              --E3
    · have hc := hcell 1 (by omega)
      clear hcell hcellW
      have hgj : mget kJobs (depStage m1) = none := (get_ins_ne (by decide)).trans HST.out.job
      obtain ⟨ks, hma, hlk⟩ := Own.missing hown hs1 hgj
      have L2 := run_lookup_ok (P := Tryz.prog) hma uM uS (zA wr) kJobs
      rw [hlk] at L2
      simp only [Option.getD_none, Option.isSome_none] at L2
      clear hlk hma hgj
      go_wp2_with fail
      exact Handed.intro 0 (by omega) (HJ1.out _ _ _ (Ag.mk (by simp only [agL, bsL1, true_and, and_true] <;> rfl)) ⟨2, F', by omega, rfl, rfl, hown, hnd, hnew, hchg⟩)
    · have hown : Own wr (.map (depStage m1)) (vM b) F' := hown
      clear hcell hcellW
      have hst := HST.out
      have hge : ∀ k ∈ tops, mget k (depStage m1) = mget k m1 := fun k hk => get_ins_ne (by
        intro e
        rw [e] at hk
        revert hk
        decide)
      have HNM := Lib.hid (names_any b wr F' (depStage m1) p hown hnd hs1 ((get_ins_ne (by decide)).trans hst.name) (fun k hk t ht => hst.top k hk t ((hge k hk).symm.trans ht)) hst.psz (fun k hk tl ht => hst.key k hk tl ((hge k hk).symm.trans ht)))
      clear hge hst
      go_wp2_with fail
      refine HNM.out.mono ?_
      rintro e w3 ⟨rfl, F3, ho3, hn3, hN3, hc3⟩
      go_wp2_with fail
      go_ret2
      obtain ⟨c1, n1⟩ := HW1.out
      refine ⟨rfl, F3, ho3, hn3, fun x hx => ?_, (c1.trans (HW2.out.mono (by simp)) (New.refl _ _)).trans (hchg.trans hc3 hnew) ?_⟩
      · rcases hN3 x hx with h | h
        · rcases hnew x h with h | h
          · exact n1 x h
          · exact .inr (by have := c1.size; omega)
        · exact .inr (by have := c1.size; have := hchg.size; omega)
      · exact n1
end Go.Proofs.YtedbfoknfdiadaaGreatDoor
