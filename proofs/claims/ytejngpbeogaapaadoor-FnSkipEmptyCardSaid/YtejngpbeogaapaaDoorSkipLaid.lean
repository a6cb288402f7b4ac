/-
  What the row's list says of io.EOF where it lists that alone; a world that holds it.
-/
import Derived.Test.YtejngpbeogaapaaDoorReader
import Derived.Test.YtejngpbeogaapaaDoorCards
import Derived.Stop.LaidErr
import Derived.Stop.LaidTwo
import Derived.Deep.DeepWitnessRowRef
import Derived.Lib.LaidTab
import Derived.Lib.LaidIn
namespace Go.Proofs.YtejngpbeogaapaaDoor
open Go.RowKit Go.ChangeShapes
set_option linter.unusedVariables false
set_option linter.unusedSimpArgs false

theorem starErr : "*" ++ "errors.errorString" = "*errors.errorString" := by decide
theorem rowErr (u : TypeId) (h : Tryd.prog.typeName? 3 u = some "*errors.errorString") : u = 124 :=
  typeName_ptr_named (nm := "errors.errorString") (by rw [starErr]; kernel_rfl) (by kernel_rfl) (by decide) u (by rw [starErr]; exact h)

theorem errAt {W : World} {n : String} {text : List UInt8} {r : List (String × DataW Unit)} {g : Nat} (h : laidMet Tryd.prog ((n, .iface "*errors.errorString" (.ptr (.agg [.lit (.string text)]))) :: r) W)
    (hg : Tryd.prog.globalNamed n = some g) (ht : (Tryd.prog.globals[g]?).map (·.type) = some 53) :
    ∃ ad, g < W.heap.size ∧ W.cell? ⟨g, 0, none⟩ = some (.iface 124 (.pointer (some ad))) := by
  obtain ⟨a, s, hv, _, _, _⟩ := laid_sentinel h hg ht Tryd.underlying53 rowErr Tryd.underlying124 Tryd.underlying126 rfl rfl Tryd.underlying9 (by kernel_rfl) (by kernel_rfl)
  have hc := World.var?_cell hg hv 0
  refine ⟨a, ?_, hc⟩
  rcases Nat.lt_or_ge g W.heap.size with h1 | h1
  · exact h1
  · simp [World.cell?, Array.getElem?_eq_none h1] at hc

theorem eofOf {W : World} (h : laidMetH Tryd.prog Rows.fnSkipEmptyRow.laid W) : ∃ ad, EofAt W W.heap.size ad := by
  have h1 : laidMet Tryd.prog [("io.EOF", Rows.laid_io_EOF)] W := h
  obtain ⟨ad, h2, h3⟩ := errAt (g := 3) h1 (by kernel_rfl) (by kernel_rfl)
  exact ⟨ad, ⟨h2, Nat.le_refl _, h3⟩⟩

/-- A WORLD FOR THE WITNESS. -/
noncomputable def laidWorld (os : Os) : World :=
  let w0 := World.holding Tryd.prog os ⟨#[], #[], []⟩
  let n := w0.heap.size
  let put (h : Array Obj) (g : Nat) (cs : Array Value) : Array Obj := h.modify g fun
    | .cells _ t frozen => .cells cs t frozen
    | o => o
  let h2 := put w0.heap 3 #[.iface 124 (.pointer (some ⟨n, 0, none⟩))]
  let h4 := h2.push (.cells #[.string ⟨#[69, 79, 70]⟩] 126)
  { w0 with heap := h4 }
theorem laid_met (os : Os) (args : Array Value) : laidMet Tryd.prog Rows.fnSkipEmptyRow.laid ((laidWorld os).forCall (fun _ _ => 0) ⟨#[], args, []⟩).memory :=
  laidMet_of_run' 8 (by kernel_rfl) (by kernel_rfl)
end Go.Proofs.YtejngpbeogaapaaDoor
