/-
  What the row's list says of the table of the kinds' names; a world that holds it.
-/
import Derived.Test.YtlnidgkcgjlnaaaDoorKind
import Derived.SliceStrings
import Derived.Deep.DeepWitnessRowRef
import Derived.Lib.LaidTab
namespace Go.Proofs.YtlnidgkcgjlnaaaDoor
open Go.RowKit Go.ChangeShapes
set_option linter.unusedVariables false
set_option linter.unusedSimpArgs false

def litStr {H : Type} : DataW H → ByteArray
  | .lit (.string bs) => ⟨bs.toArray⟩
  | _ => .empty
theorem litStr_strs {H : Type} (l : List ByteArray) : (strs (H := H) l).map litStr = l := by
  induction l with
  | nil => rfl
  | cons s l ih =>
    have : litStr (H := H) (.lit (.string s.data.toList)) = s := by cases s; simp [litStr]
    simp only [strs, List.map_cons, List.map_map] at ih ⊢
    rw [this]
    congr 1

theorem kindsOf {W : World} (h : laidMetH Tryd.prog Rows.fnKindTextRow.laid W) : ∃ kp cap, Kinds W kp cap := by
  obtain ⟨ps, ⟨g, t, cs, fuel, p, q, hg, ht, hvar, hd, _, _⟩, _⟩ := h
  have hg0 : Tryd.prog.globalNamed "pub-teleprinter/pub/lineprotocol/lineprotocol.kinds" = some 0 := by kernel_rfl
  have ht0 : (Tryd.prog.globals[0]?).map (·.type) = some 37 := by kernel_rfl
  obtain rfl := Option.some.inj (hg0.symm.trans hg)
  obtain rfl := Option.some.inj (ht0.symm.trans ht)
  rcases open_strings Tryd.underlying37 Tryd.underlying9 (by kernel_rfl) hd with ⟨_, he⟩ | ⟨a, len, cap, ss, hcs, _, hlc, _, hsl, he, hc, _⟩
  · cases he
  · have he1 := congrArg Prod.fst he
    simp only [Rows.laid_pub_teleprinter_pub_lineprotocol_lineprotocol_kinds, DataW.slice.injEq] at he1
    have hs := congrArg (List.map litStr) he1.1
    rw [litStr_strs] at hs
    have hs2 : ss.take len = [nm 0, nm 1, nm 2, nm 3, nm 4, nm 5] := hs.symm
    have hl := congrArg List.length hs2
    simp only [List.length_take, List.length_cons, List.length_nil] at hl
    have hlen : len = 6 := by
      split at hsl <;> omega
    subst hlen
    refine ⟨a, cap, ?_, fun i hi => ?_⟩
    · have := World.var?_cell hg0 hvar 0
      rw [this]
      have hcs2 : cs = #[.slice (some a) 6 cap] := by
        apply Array.toList_inj.1
        simpa using hcs
      rw [hcs2]; rfl
    · have hi2 : i < ss.length := by omega
      rw [hc i hi2]
      have h3 : (ss.take 6)[i]? = some (ss.getD i .empty) := by
        rw [List.getElem?_take, if_pos hi, List.getD_eq_getElem?_getD, List.getElem?_eq_getElem hi2]; rfl
      rw [hs2] at h3
      rcases (by omega : i = 0 ∨ i = 1 ∨ i = 2 ∨ i = 3 ∨ i = 4 ∨ i = 5) with rfl | rfl | rfl | rfl | rfl | rfl <;> (simp only [List.getElem?_cons_zero, List.getElem?_cons_succ, Option.some.injEq] at h3; rw [← h3])

/-- A WORLD FOR THE WITNESS. -/
noncomputable def laidWorld (os : Os) : World :=
  let w0 := World.holding Tryd.prog os ⟨#[], #[], []⟩
  { w0 with heap := (w0.heap.modify 0 fun
      | .cells _ t frozen => .cells #[.slice (some ⟨w0.heap.size, 0, none⟩) 6 6] t frozen
      | o => o).push (.cells #[.string (nm 0), .string (nm 1), .string (nm 2), .string (nm 3), .string (nm 4), .string (nm 5)] 9) }
theorem laid_met (os : Os) (args : Array Value) : laidMet Tryd.prog Rows.fnKindTextRow.laid ((laidWorld os).forCall (fun _ _ => 0) ⟨#[], args, []⟩).memory :=
  laidMet_of_run' 8 (by kernel_rfl) (by kernel_rfl)
end Go.Proofs.YtlnidgkcgjlnaaaDoor
