/-
  What FnCommandWrite's row lists, opened; a world that holds it.
-/
import Derived.Test.YtepeokoeempfgaaGreatDoorRows
import Derived.Test.YtepeokoeempfgaaGreatDoorCards
import Derived.Test.YtepeokoeempfgaaGreatDoorShelf
import Derived.Lib.LaidIn
import Derived.Lib.LaidU8T
import Derived.Lib.LaidCaseMet
import Derived.PinnedBridge
import Derived.Deep.DeepWitnessRowRef
import Derived.Test.YtepeokoeempfgaaGreatDoorFnCW
import Derived.Lib.SmallJoins
namespace Go.Proofs.YtepeokoeempfgaaGreatDoor
open Go.Lib Go.Shelf
open Go.RowKit Go.ChangeShapes Go.WideShapes Go.ChangeAt
set_option linter.unusedVariables false
set_option linter.unusedSimpArgs false

theorem laidAccept : (Rows.laid_unicode_utf8_acceptRanges : DataW Unit) = Lib.acceptData := rfl
theorem laidFirst : Rows.laid_unicode_utf8_first = Lib.firstData := Pinned.utf8First_eq
theorem laidCase : Rows.laid_unicode_CaseRanges = Lib.caseData := Pinned.caseRanges_eq

theorem case274 : Go.Proofs.Lays.n274 Tryz.prog Tryz.lays158_ren := { Tryz.lays158 with }
theorem caseX : CaseExtra Tryz.prog Tryz.lays158_ren := ⟨by kernel_rfl, by kernel_rfl, by kernel_rfl, by kernel_rfl, by kernel_rfl, by kernel_rfl⟩

set_option maxRecDepth 1000000 in
theorem caseIn {w : World} (R : Nat) (t : TypeId) (hgR : Tryz.lays158_ren.g 13 ≠ R) (hvar : w.heap[Tryz.lays158_ren.g 13]? = some (.cells #[.slice (some ⟨R, 0, none⟩) caseA.size caseA.size] (Tryz.lays158_ren.t 162) (0, 0)))
    (hblk : w.heap[R]? = some (.cells caseCells5 t (0, 0))) : LaidIn Tryz.prog w [("unicode.CaseRanges", Lib.caseData)] [Tryz.lays158_ren.g 13, R] := by
  have hT := caseTab_of_block hblk
  have hread := case_slice_reads case274 Tryz.underlying164 caseX hT caseA_wf (by rw [caseA_size]; unfold maxLen; omega) 0
  rw [case_rows_data] at hread
  have hv : w.var? Tryz.prog "unicode.CaseRanges" = some #[.slice (some ⟨R, 0, none⟩) caseA.size caseA.size] := by
    have := caseX.n13
    simp [World.var?, this, hvar]
  refine LaidIn.one [Tryz.lays158_ren.g 13, R] caseX.n13 caseX.y13 hv hread ?_ ?_ ?_
  · refine List.nodup_append.2 ⟨row_nodup _ _, row_nodup _ _, ?_⟩
    intro a ha b hb e
    obtain ⟨i, _, rfl⟩ := MemPlace.mem_row.1 ha
    obtain ⟨j, _, rfl⟩ := MemPlace.mem_row.1 hb
    simp at e
    exact hgR e.1
  · intro b off hp
    rcases List.mem_append.1 hp with hp | hp
    · obtain ⟨i, hi, e⟩ := MemPlace.mem_row.1 hp
      cases e
      refine ⟨⟨_, _, hvar⟩, fun u v hc => ?_⟩
      obtain rfl : i = 0 := by
        have : i < 1 := hi
        omega
      rw [Lib.cell_of_heap hvar] at hc
      simp at hc
    · obtain ⟨i, hi, e⟩ := MemPlace.mem_row.1 hp
      cases e
      refine ⟨⟨_, _, hblk⟩, fun u v hc => ?_⟩
      obtain ⟨c0, c1, c2, c3, c4⟩ := hT (i / 5) (by omega)
      have hi5 : 0 + i = 0 + i / 5 * 5 + i % 5 := by omega
      simp only at hc
      rw [hi5] at hc
      have hm : i % 5 < 5 := Nat.mod_lt _ (by omega)
      match hk : i % 5, hm with
      | 0, _ => rw [hk, Nat.add_zero, c0] at hc; cases hc
      | 1, _ => rw [hk, c1] at hc; cases hc
      | 2, _ => rw [hk, c2] at hc; cases hc
      | 3, _ => rw [hk, c3] at hc; cases hc
      | 4, _ => rw [hk, c4] at hc; cases hc
  · intro x hx
    rcases List.mem_append.1 hx with hx | hx
    · obtain ⟨i, _, rfl⟩ := MemPlace.mem_row.1 hx
      exact .head _
    · obtain ⟨i, _, rfl⟩ := MemPlace.mem_row.1 hx
      exact .tail _ (.head _)

noncomputable def put (h : Array Obj) (g : Nat) (cs : Array Value) : Array Obj := h.modify g fun
  | .cells _ t frozen => .cells cs t frozen
  | o => o
noncomputable def witN : Nat := (World.settled Tryz.prog default).heap.size

theorem laidPow : (Rows.laid_internal_strconv_uint64pow10 : DataW Unit) = Lib.tabData .u64 Lib.pow10Tab := by rfl
theorem u8T : U8Types Tryz.prog Tryz.lays158_ren := { Tryz.lays158 with }
theorem u8X : U8Extra Tryz.prog Tryz.lays158_ren := ⟨by kernel_rfl, by kernel_rfl, by kernel_rfl, by kernel_rfl, by kernel_rfl, by kernel_rfl, by kernel_rfl⟩
theorem tabsU_of {W : World} (h1 : VarReads Tryz.prog W "unicode.CaseRanges" Lib.caseData) (h2 : VarReads Tryz.prog W "unicode/utf8.first" Lib.firstData) (h3 : VarReads Tryz.prog W "unicode/utf8.acceptRanges" Lib.acceptData) : TabsU W :=
  ⟨caseVar_of_reads case274 Tryz.underlying164 caseX h1, utf8Tabs_of_readsT u8T u8X h2 h3⟩
theorem pow10_of {W : World} (h : VarReads Tryz.prog W "internal/strconv.uint64pow10" (Lib.tabData .u64 Lib.pow10Tab)) : Lib.TabIs Tryz.prog W "internal/strconv.uint64pow10" .u64 Lib.pow10Tab := by
  obtain ⟨g, t, cs, fuel, p, hg, hty, hvar, hd⟩ := h
  have hg0 : Tryz.prog.globalNamed "internal/strconv.uint64pow10" = some 4 := by kernel_rfl
  have ht0 : (Tryz.prog.globals[4]?).map (·.type) = some 159 := by kernel_rfl
  obtain rfl := Option.some.inj (hg0.symm.trans hg)
  obtain rfl := Option.some.inj (ht0.symm.trans hty)
  unfold TabIs
  have hcs := cells_of_tab Tryz.underlying159 Tryz.underlying43 (by kernel_rfl) (by kernel_rfl) hd
  rw [hvar]
  congr 1
  apply Array.ext'
  rw [hcs]
theorem cwTabs {W : World} (h : laidMetH Tryz.prog Rows.fnCommandWriteRow.laid W) : TabsU W ∧ Tab10 W.heap.size W := by
  have h1 : laidMet Tryz.prog [("math/bits.deBruijn32tab", Rows.laid_math_bits_deBruijn32tab), ("math/bits.deBruijn64tab", Rows.laid_math_bits_deBruijn64tab), ("internal/strconv.uint64pow10", Lib.tabData .u64 Lib.pow10Tab), ("unicode/utf8.acceptRanges", Lib.acceptData), ("unicode.CaseRanges", Lib.caseData), ("unicode/utf8.first", Lib.firstData)] W := by
    have h2 : laidMet Tryz.prog [("math/bits.deBruijn32tab", Rows.laid_math_bits_deBruijn32tab), ("math/bits.deBruijn64tab", Rows.laid_math_bits_deBruijn64tab), ("internal/strconv.uint64pow10", Rows.laid_internal_strconv_uint64pow10), ("unicode/utf8.acceptRanges", Rows.laid_unicode_utf8_acceptRanges), ("unicode.CaseRanges", Rows.laid_unicode_CaseRanges), ("unicode/utf8.first", Rows.laid_unicode_utf8_first)] W := h
    rwa [laidAccept, laidFirst, laidCase, laidPow] at h2
  refine ⟨tabsU_of ?_ ?_ ?_, Lib.tabBelow_of_tabIs (pow10_of ?_)⟩
  · exact Lib.laidMet.reads h1 (.tail _ (.tail _ (.tail _ (.tail _ (.head _)))))
  · exact Lib.laidMet.reads h1 (.tail _ (.tail _ (.tail _ (.tail _ (.tail _ (.head _))))))
  · exact Lib.laidMet.reads h1 (.tail _ (.tail _ (.tail _ (.head _))))
  · exact Lib.laidMet.reads h1 (.tail _ (.tail _ (.head _)))

def litV : DataW Unit → Value
  | .lit (.int k z) => .int k z
  | _ => .nilIface
def cellsA : DataW Unit → Array Value
  | .agg l => (l.map litV).toArray
  | _ => #[]
namespace fnCommandWrite
/-- A WORLD FOR THE WITNESS. -/
noncomputable def laidWorld (os : Os) : World :=
  let N := (World.settled Tryz.prog os).heap.size
  let w0 := World.holding Tryz.prog os ⟨#[.cells Lib.caseCells5 166], #[], []⟩
  let h1 := put w0.heap 2 (Lib.firstTab.map fun z => Value.int .u8 z).toArray
  let h2 := put h1 3 ((List.range 16).flatMap fun i => [Value.int .u8 (Lib.accLo i), Value.int .u8 (Lib.accHi i)]).toArray
  let h3 := put h2 0 #[.slice (some ⟨N, 0, none⟩) 336 336]
  let h4 := put h3 4 (Lib.pow10Tab.map fun z => Value.int .u64 z).toArray
  let h5 := put h4 5 (cellsA Rows.laid_math_bits_deBruijn32tab)
  let h6 := put h5 6 (cellsA Rows.laid_math_bits_deBruijn64tab)
  { w0 with heap := h6 }
theorem laid_met (os : Os) (args : Array Value) : laidMet Tryz.prog Rows.fnCommandWriteRow.laid ((laidWorld os).forCall (fun _ _ => 0) ⟨#[], args, []⟩).memory := by
  have a := LaidIn.of_run (P := Tryz.prog) (w := ((laidWorld os).forCall (fun _ _ => 0) ⟨#[], args, []⟩).memory) (l := [("math/bits.deBruijn32tab", Rows.laid_math_bits_deBruijn32tab), ("math/bits.deBruijn64tab", Rows.laid_math_bits_deBruijn64tab), ("internal/strconv.uint64pow10", Lib.tabData .u64 Lib.pow10Tab), ("unicode/utf8.acceptRanges", Lib.acceptData)]) [5, 6, 4, 3] 8 (by kernel_rfl) (by kernel_rfl) (by kernel_rfl) (by kernel_rfl)
  have b := caseIn (w := ((laidWorld os).forCall (fun _ _ => 0) ⟨#[], args, []⟩).memory) witN 166 (of_decide_eq_true (by kernel_rfl)) (by kernel_rfl) (by kernel_rfl)
  have c := LaidIn.of_run (P := Tryz.prog) (w := ((laidWorld os).forCall (fun _ _ => 0) ⟨#[], args, []⟩).memory) (l := [("unicode/utf8.first", Lib.firstData)]) [2] 8 (by kernel_rfl) (by kernel_rfl) (by kernel_rfl) (by kernel_rfl)
  have h : laidMet Tryz.prog [("math/bits.deBruijn32tab", Rows.laid_math_bits_deBruijn32tab), ("math/bits.deBruijn64tab", Rows.laid_math_bits_deBruijn64tab), ("internal/strconv.uint64pow10", Lib.tabData .u64 Lib.pow10Tab), ("unicode/utf8.acceptRanges", Lib.acceptData), ("unicode.CaseRanges", Lib.caseData), ("unicode/utf8.first", Lib.firstData)] ((laidWorld os).forCall (fun _ _ => 0) ⟨#[], args, []⟩).memory := ((a.append b (by kernel_rfl)).append c (by kernel_rfl)).met
  rw [← laidAccept, ← laidFirst, ← laidCase, ← laidPow] at h
  exact h
end fnCommandWrite

end Go.Proofs.YtepeokoeempfgaaGreatDoor
