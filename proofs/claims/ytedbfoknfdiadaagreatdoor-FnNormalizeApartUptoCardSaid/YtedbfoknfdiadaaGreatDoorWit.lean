/- A world that holds the eight tables of these rows. No condition. -/
import Derived.Test.YtedbfoknfdiadaaGreatDoorPack
import Derived.Test.YtedbfoknfdiadaaGreatDoorShelf
import Derived.Lib.LaidCaseMet
import Derived.Lib.LaidIn
import Derived.PinnedBridge
set_option linter.unusedVariables false
set_option linter.unusedSimpArgs false
namespace Go.Proofs.YtedbfoknfdiadaaGreatDoor
open Go.ChangeShapes Go.WideShapes Go.ChangeAt Go.RowKit
set_option maxRecDepth 100000
mutual
def flatD : DataW Unit → List Value
  | .lit (.int k n) => [.int k n]
  | .agg l => flatDs l
  | _ => []
def flatDs : List (DataW Unit) → List Value
  | [] => []
  | d :: l => flatD d ++ flatDs l
end
theorem gCase : Tryz.prog.globalNamed "unicode.CaseRanges" = some 0 := by kernel_rfl
noncomputable def errT : TypeId := match Tryz.prog.underlying 167 with | some (.pointer e) => e | _ => 0
noncomputable def laidWorld (os : Os) : World :=
  let N := (World.settled Tryz.prog os).heap.size
  let w0 := World.holding Tryz.prog os ⟨#[.cells Lib.caseCells5 (lays159_ren.t 208), .cells #[.string "value out of range".toUTF8] errT, .cells #[.string "invalid syntax".toUTF8] errT], #[], []⟩
  let put (h : Array Obj) (g : Nat) (cs : Array Value) : Array Obj := h.modify g fun
    | .cells _ t frozen => .cells cs t frozen
    | o => o
  let h1 := put w0.heap 7 (flatD Rows.laid_math_bits_deBruijn32tab).toArray
  let h2 := put h1 8 (flatD Rows.laid_math_bits_deBruijn64tab).toArray
  let h3 := put h2 6 (flatD Rows.laid_internal_strconv_uint64pow10).toArray
  let h4 := put h3 3 (flatD Rows.laid_unicode_utf8_acceptRanges).toArray
  let h5 := put h4 2 (flatD Rows.laid_unicode_utf8_first).toArray
  let h6 := put h5 5 #[.iface 167 (.pointer (some ⟨N + 1, 0, none⟩))]
  let h7 := put h6 4 #[.iface 167 (.pointer (some ⟨N + 2, 0, none⟩))]
  let h8 := put h7 0 #[.slice (some ⟨N, 0, none⟩) 336 336]
  { w0 with heap := h8 }
theorem gCaseR : lays159_ren.g 13 = 0 := by kernel_rfl
theorem laidSix (os : Os) (args : Array Value) : LaidIn Tryz.prog ((laidWorld os).forCall (fun _ _ => 0) ⟨#[], args, []⟩).memory
    [("math/bits.deBruijn32tab", Rows.laid_math_bits_deBruijn32tab), ("math/bits.deBruijn64tab", Rows.laid_math_bits_deBruijn64tab), ("internal/strconv.uint64pow10", Rows.laid_internal_strconv_uint64pow10), ("unicode/utf8.acceptRanges", Rows.laid_unicode_utf8_acceptRanges), ("strconv.ErrRange", Rows.laid_strconv_ErrRange), ("strconv.ErrSyntax", Rows.laid_strconv_ErrSyntax)]
    [7, 8, 6, 3, 5, (World.settled Tryz.prog default).heap.size + 1, 4, (World.settled Tryz.prog default).heap.size + 2] :=
  LaidIn.of_run _ 10 (by kernel_rfl) (by kernel_rfl) (by kernel_rfl) (by kernel_rfl)
theorem laidLast (os : Os) (args : Array Value) : LaidIn Tryz.prog ((laidWorld os).forCall (fun _ _ => 0) ⟨#[], args, []⟩).memory
    [("unicode/utf8.first", Rows.laid_unicode_utf8_first)] [2] :=
  LaidIn.of_run _ 10 (by kernel_rfl) (by kernel_rfl) (by kernel_rfl) (by kernel_rfl)
noncomputable def memOf (os : Os) (args : Array Value) : World := ((laidWorld os).forCall (fun _ _ => 0) ⟨#[], args, []⟩).memory
open Go.Lib in
theorem laidCase (os : Os) (args : Array Value) : LaidIn Tryz.prog (memOf os args) [("unicode.CaseRanges", Rows.laid_unicode_CaseRanges)] [0, (World.settled Tryz.prog default).heap.size] := by
  obtain ⟨N, hN⟩ : ∃ N, N = (World.settled Tryz.prog default).heap.size := ⟨_, rfl⟩
  have hvar : (memOf os args).heap[0]? = some (.cells #[.slice (some ⟨(World.settled Tryz.prog default).heap.size, 0, none⟩) caseA.size caseA.size] (lays159_ren.t 162) (0, 0)) := by kernel_rfl
  have hblk : (memOf os args).heap[(World.settled Tryz.prog default).heap.size]? = some (.cells caseCells5 (lays159_ren.t 208) (0, 0)) := by kernel_rfl
  have h0N : 0 ≠ (World.settled Tryz.prog default).heap.size := of_decide_eq_true (by kernel_rfl)
  rw [← hN] at hvar hblk h0N ⊢
  have L : Lays.n274 Tryz.prog lays159_ren := { lays159 with }
  have X : CaseExtra Tryz.prog lays159_ren := ⟨by kernel_rfl, by kernel_rfl, by kernel_rfl, by kernel_rfl, by kernel_rfl, by kernel_rfl⟩
  have hT := caseTab_of_block hblk
  have hread := case_slice_reads L lays159.t206 X hT caseA_wf (by rw [caseA_size]; unfold maxLen; omega) 0
  rw [case_rows_data] at hread
  have hv : (memOf os args).var? Tryz.prog "unicode.CaseRanges" = some #[.slice (some ⟨N, 0, none⟩) caseA.size caseA.size] := by simp [World.var?, gCase, hvar]
  rw [show Rows.laid_unicode_CaseRanges = caseData from Pinned.caseRanges_eq]
  refine LaidIn.one (g := 0) (t := lays159_ren.t 162) [0, N] gCase X.y13 hv hread ?_ ?_ ?_
  · refine List.nodup_append.2 ⟨row_nodup _ _, row_nodup _ _, ?_⟩
    intro a ha b hb e
    obtain ⟨i, _, rfl⟩ := MemPlace.mem_row.1 ha
    obtain ⟨j, _, rfl⟩ := MemPlace.mem_row.1 hb
    simp at e
    exact h0N e.1
  · intro b off hp
    rcases List.mem_append.1 hp with hp | hp
    · obtain ⟨i, hi, e⟩ := MemPlace.mem_row.1 hp
      cases e
      refine ⟨⟨_, _, hvar⟩, fun u v hc => ?_⟩
      obtain rfl : i = 0 := by simp at hi; omega
      rw [Lib.cell_of_heap hvar] at hc
      simp at hc
    · obtain ⟨i, hi, e⟩ := MemPlace.mem_row.1 hp
      cases e
      refine ⟨⟨_, _, hblk⟩, fun u v hc => ?_⟩
      obtain ⟨c0, c1, c2, c3, c4⟩ := hT (i / 5) (by omega)
      have hi5 : 0 + i = 0 + i / 5 * 5 + i % 5 := by omega
      simp only at hc
      rw [hi5] at hc
      have hm : i % 5 < 5 := Nat.mod_lt _ (by omega)
      match hk : i % 5, hm with
      | 0, _ => rw [hk, Nat.add_zero, c0] at hc; cases hc
      | 1, _ => rw [hk, c1] at hc; cases hc
      | 2, _ => rw [hk, c2] at hc; cases hc
      | 3, _ => rw [hk, c3] at hc; cases hc
      | 4, _ => rw [hk, c4] at hc; cases hc
  · intro x hx
    rcases List.mem_append.1 hx with hp | hp
    · obtain ⟨i, _, rfl⟩ := MemPlace.mem_row.1 hp
      simp [MemPlace.block]
    · obtain ⟨i, _, rfl⟩ := MemPlace.mem_row.1 hp
      simp [MemPlace.block]
theorem laidAll (os : Os) (args : Array Value) : laidMet Tryz.prog Rows.fnNormalizeUptoRow.laid (memOf os args) :=
  (((laidSix os args).append (laidCase os args) (by kernel_rfl)).append (laidLast os args) (by kernel_rfl)).met
end Go.Proofs.YtedbfoknfdiadaaGreatDoor
