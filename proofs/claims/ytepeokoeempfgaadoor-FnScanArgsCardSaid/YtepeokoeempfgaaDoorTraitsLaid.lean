/-
  unicode.CaseRanges in a witness world, by proof; FnCommandTraits' world.
-/
import Derived.Test.YtepeokoeempfgaaDoorRows
import Derived.Test.YtepeokoeempfgaaDoorCards
import Derived.Test.YtepeokoeempfgaaDoorShelf
import Derived.Lib.LaidIn
import Derived.Lib.LaidU8T
import Derived.Lib.LaidCaseMet
import Derived.PinnedBridge
import Derived.Deep.DeepWitnessRowRef
namespace Go.Proofs.YtepeokoeempfgaaDoor
open Go.Lib Go.Shelf
open Go.RowKit
set_option linter.unusedVariables false
set_option linter.unusedSimpArgs false

theorem laidAccept : (Rows.laid_unicode_utf8_acceptRanges : DataW Unit) = Lib.acceptData := rfl
theorem laidFirst : Rows.laid_unicode_utf8_first = Lib.firstData := Pinned.utf8First_eq
theorem laidCase : Rows.laid_unicode_CaseRanges = Lib.caseData := Pinned.caseRanges_eq

theorem case274 : Go.Proofs.Lays.n274 Tryd.prog Tryd.lays158_ren := { Tryd.lays158 with }
theorem caseX : CaseExtra Tryd.prog Tryd.lays158_ren := ⟨by kernel_rfl, by kernel_rfl, by kernel_rfl, by kernel_rfl, by kernel_rfl, by kernel_rfl⟩

set_option maxRecDepth 1000000 in
theorem caseIn {w : World} (R : Nat) (t : TypeId) (hgR : Tryd.lays158_ren.g 13 ≠ R) (hvar : w.heap[Tryd.lays158_ren.g 13]? = some (.cells #[.slice (some ⟨R, 0, none⟩) caseA.size caseA.size] (Tryd.lays158_ren.t 162) (0, 0)))
    (hblk : w.heap[R]? = some (.cells caseCells5 t (0, 0))) : LaidIn Tryd.prog w [("unicode.CaseRanges", Lib.caseData)] [Tryd.lays158_ren.g 13, R] := by
  have hT := caseTab_of_block hblk
  have hread := case_slice_reads case274 Tryd.underlying212 caseX hT caseA_wf (by rw [caseA_size]; unfold maxLen; omega) 0
  rw [case_rows_data] at hread
  have hv : w.var? Tryd.prog "unicode.CaseRanges" = some #[.slice (some ⟨R, 0, none⟩) caseA.size caseA.size] := by
    have := caseX.n13
    simp [World.var?, this, hvar]
  refine LaidIn.one [Tryd.lays158_ren.g 13, R] caseX.n13 caseX.y13 hv hread ?_ ?_ ?_
  · refine List.nodup_append.2 ⟨row_nodup _ _, row_nodup _ _, ?_⟩
    intro a ha b hb e
    obtain ⟨i, _, rfl⟩ := MemPlace.mem_row.1 ha
    obtain ⟨j, _, rfl⟩ := MemPlace.mem_row.1 hb
    simp at e
    exact hgR e.1
  · intro b off hp
    rcases List.mem_append.1 hp with hp | hp
    · obtain ⟨i, hi, e⟩ := MemPlace.mem_row.1 hp
      cases e
      refine ⟨⟨_, _, hvar⟩, fun u v hc => ?_⟩
      obtain rfl : i = 0 := by
        have : i < 1 := hi
        omega
      rw [Lib.cell_of_heap hvar] at hc
      simp at hc
    · obtain ⟨i, hi, e⟩ := MemPlace.mem_row.1 hp
      cases e
      refine ⟨⟨_, _, hblk⟩, fun u v hc => ?_⟩
      obtain ⟨c0, c1, c2, c3, c4⟩ := hT (i / 5) (by omega)
      have hi5 : 0 + i = 0 + i / 5 * 5 + i % 5 := by omega
      simp only at hc
      rw [hi5] at hc
      have hm : i % 5 < 5 := Nat.mod_lt _ (by omega)
      match hk : i % 5, hm with
      | 0, _ => rw [hk, Nat.add_zero, c0] at hc; cases hc
      | 1, _ => rw [hk, c1] at hc; cases hc
      | 2, _ => rw [hk, c2] at hc; cases hc
      | 3, _ => rw [hk, c3] at hc; cases hc
      | 4, _ => rw [hk, c4] at hc; cases hc
  · intro x hx
    rcases List.mem_append.1 hx with hx | hx
    · obtain ⟨i, _, rfl⟩ := MemPlace.mem_row.1 hx
      exact .head _
    · obtain ⟨i, _, rfl⟩ := MemPlace.mem_row.1 hx
      exact .tail _ (.head _)

noncomputable def put (h : Array Obj) (g : Nat) (cs : Array Value) : Array Obj := h.modify g fun
  | .cells _ t frozen => .cells cs t frozen
  | o => o
noncomputable def witN : Nat := (World.settled Tryd.prog default).heap.size

namespace fnCommandTraits
/-- A WORLD FOR THE WITNESS. -/
noncomputable def laidWorld (os : Os) : World :=
  let N := (World.settled Tryd.prog os).heap.size
  let w0 := World.holding Tryd.prog os ⟨#[.cells Lib.caseCells5 214], #[], []⟩
  let h1 := put w0.heap 6 (Lib.firstTab.map fun z => Value.int .u8 z).toArray
  let h2 := put h1 7 ((List.range 16).flatMap fun i => [Value.int .u8 (Lib.accLo i), Value.int .u8 (Lib.accHi i)]).toArray
  let h3 := put h2 4 #[.slice (some ⟨N, 0, none⟩) 336 336]
  { w0 with heap := h3 }
theorem laid_met (os : Os) (args : Array Value) : laidMet Tryd.prog Rows.fnCommandTraitsRow.laid ((laidWorld os).forCall (fun _ _ => 0) ⟨#[], args, []⟩).memory := by
  have a := LaidIn.of_run (P := Tryd.prog) (w := ((laidWorld os).forCall (fun _ _ => 0) ⟨#[], args, []⟩).memory) (l := [("unicode/utf8.acceptRanges", Lib.acceptData)]) [7] 8 (by kernel_rfl) (by kernel_rfl) (by kernel_rfl) (by kernel_rfl)
  have b := caseIn (w := ((laidWorld os).forCall (fun _ _ => 0) ⟨#[], args, []⟩).memory) witN 214 (of_decide_eq_true (by kernel_rfl)) (by kernel_rfl) (by kernel_rfl)
  have c := LaidIn.of_run (P := Tryd.prog) (w := ((laidWorld os).forCall (fun _ _ => 0) ⟨#[], args, []⟩).memory) (l := [("unicode/utf8.first", Lib.firstData)]) [6] 8 (by kernel_rfl) (by kernel_rfl) (by kernel_rfl) (by kernel_rfl)
  have h : laidMet Tryd.prog [("unicode/utf8.acceptRanges", Lib.acceptData), ("unicode.CaseRanges", Lib.caseData), ("unicode/utf8.first", Lib.firstData)] ((laidWorld os).forCall (fun _ _ => 0) ⟨#[], args, []⟩).memory := ((a.append b (by kernel_rfl)).append c (by kernel_rfl)).met
  rw [← laidAccept, ← laidFirst, ← laidCase] at h
  exact h
end fnCommandTraits
end Go.Proofs.YtepeokoeempfgaaDoor
