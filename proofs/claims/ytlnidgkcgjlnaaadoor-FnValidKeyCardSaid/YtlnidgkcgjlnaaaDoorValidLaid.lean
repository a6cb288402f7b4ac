/-
  What the row's list says of utf8's two tables; a world that holds them.
-/
import Derived.Test.YtlnidgkcgjlnaaaDoorValidKey
import Derived.Lib.LaidIn
import Derived.Lib.LaidU8T
import Derived.Deep.DeepWitnessRowRef
namespace Go.Proofs.YtlnidgkcgjlnaaaDoor
open Go.Lib Go.Shelf
open Go.RowKit
set_option linter.unusedVariables false
set_option linter.unusedSimpArgs false

theorem laidAccept : (Rows.laid_unicode_utf8_acceptRanges : DataW Unit) = Lib.acceptData := rfl
theorem laidFirst : Rows.laid_unicode_utf8_first = Lib.firstData := by kernel_rfl

theorem tabsOf {W : World} (h : laidMetH Tryd.prog Rows.fnValidKeyRow.laid W) : Tabs W := by
  have h1 : laidMet Tryd.prog [("unicode/utf8.acceptRanges", Lib.acceptData), ("unicode/utf8.first", Lib.firstData)] W := by
    have h2 : laidMet Tryd.prog [("unicode/utf8.acceptRanges", Rows.laid_unicode_utf8_acceptRanges), ("unicode/utf8.first", Rows.laid_unicode_utf8_first)] W := h
    rwa [laidAccept, laidFirst] at h2
  exact utf8Tabs_of_readsT (U8Types.of196 Tryd.laysValid) ⟨by kernel_rfl, by kernel_rfl, by kernel_rfl, by kernel_rfl, by kernel_rfl, by kernel_rfl, by kernel_rfl⟩ (Lib.laidMet.reads h1 (.tail _ (.head _))) (Lib.laidMet.reads h1 (.head _))

namespace fnValidKey
/-- A WORLD FOR THE WITNESS. -/
noncomputable def laidWorld (os : Os) : World :=
  let w0 := World.holding Tryd.prog os ⟨#[], #[], []⟩
  let put (h : Array Obj) (g : Nat) (cs : Array Value) : Array Obj := h.modify g fun
    | .cells _ t frozen => .cells cs t frozen
    | o => o
  let h1 := put w0.heap 1 (Lib.firstTab.map fun z => Value.int .u8 z).toArray
  let h2 := put h1 2 ((List.range 16).flatMap fun i => [Value.int .u8 (Lib.accLo i), Value.int .u8 (Lib.accHi i)]).toArray
  { w0 with heap := h2 }
theorem laid_met (os : Os) (args : Array Value) : laidMet Tryd.prog Rows.fnValidKeyRow.laid ((laidWorld os).forCall (fun _ _ => 0) ⟨#[], args, []⟩).memory := by
  have h : laidMet Tryd.prog [("unicode/utf8.acceptRanges", Lib.acceptData), ("unicode/utf8.first", Lib.firstData)] ((laidWorld os).forCall (fun _ _ => 0) ⟨#[], args, []⟩).memory :=
    (LaidIn.of_run (l := [("unicode/utf8.acceptRanges", Lib.acceptData), ("unicode/utf8.first", Lib.firstData)]) [2, 1] 8 (by kernel_rfl) (by kernel_rfl) (by kernel_rfl) (by kernel_rfl)).met
  rw [← laidAccept, ← laidFirst] at h
  exact h
end fnValidKey
end Go.Proofs.YtlnidgkcgjlnaaaDoor
