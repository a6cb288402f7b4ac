/-
  What the row's list says of io.EOF and io.ErrUnexpectedEOF; a world that holds the listed variables.
-/
import Derived.Test.YtnenjkngimfdgaaDoorFull
import Derived.Test.YtnenjkngimfdgaaDoorCards
import Derived.Stop.LaidErr
import Derived.Stop.LaidTwo
import Derived.Deep.DeepWitnessRowRef
import Derived.Lib.LaidTab
import Derived.Lib.LaidIn
namespace Go.Proofs.YtnenjkngimfdgaaDoor
open Go.RowKit Go.ChangeShapes
set_option linter.unusedVariables false
set_option linter.unusedSimpArgs false

theorem starErr : "*" ++ "errors.errorString" = "*errors.errorString" := by decide
theorem rowErr (u : TypeId) (h : Tryd.prog.typeName? 3 u = some "*errors.errorString") : u = 146 :=
  typeName_ptr_named (nm := "errors.errorString") (by rw [starErr]; kernel_rfl) (by kernel_rfl) (by decide) u (by rw [starErr]; exact h)

theorem errAt {W : World} {n : String} {text : List UInt8} {r : List (String × DataW Unit)} {g : Nat} (h : laidMet Tryd.prog ((n, .iface "*errors.errorString" (.ptr (.agg [.lit (.string text)]))) :: r) W)
    (hg : Tryd.prog.globalNamed n = some g) (ht : (Tryd.prog.globals[g]?).map (·.type) = some 54) :
    ∃ ad, g < W.heap.size ∧ W.cell? ⟨g, 0, none⟩ = some (.iface 146 (.pointer (some ad))) := by
  obtain ⟨a, s, hv, _, _, _⟩ := laid_sentinel h hg ht Tryd.underlying54 rowErr Tryd.underlying146 Tryd.underlying148 rfl rfl Tryd.underlying9 (by kernel_rfl) (by kernel_rfl)
  have hc := World.var?_cell hg hv 0
  refine ⟨a, ?_, hc⟩
  rcases Nat.lt_or_ge g W.heap.size with h1 | h1
  · exact h1
  · simp [World.cell?, Array.getElem?_eq_none h1] at hc

theorem eofsOf {W : World} (h : laidMetH Tryd.prog Rows.fnIntOfRow.laid W) : ∃ ad ad2, EofAt W W.heap.size ad ∧ UeofAt W W.heap.size ad2 := by
  have h1 : laidMet Tryd.prog [("io.ErrShortBuffer", Rows.laid_io_ErrShortBuffer), ("io.EOF", Rows.laid_io_EOF), ("io.ErrUnexpectedEOF", Rows.laid_io_ErrUnexpectedEOF)] W := h
  obtain ⟨ad, h2, h3⟩ := errAt (g := 1) h1.tail (by kernel_rfl) (by kernel_rfl)
  obtain ⟨ad2, h4, h5⟩ := errAt (g := 2) h1.tail.tail (by kernel_rfl) (by kernel_rfl)
  exact ⟨ad, ad2, ⟨h2, Nat.le_refl _, h3⟩, ⟨h4, Nat.le_refl _, h5⟩⟩

/-- A WORLD FOR THE WITNESS. -/
noncomputable def laidWorld (os : Os) : World :=
  let w0 := World.holding Tryd.prog os ⟨#[], #[], []⟩
  let n := w0.heap.size
  let put (h : Array Obj) (g : Nat) (cs : Array Value) : Array Obj := h.modify g fun
    | .cells _ t frozen => .cells cs t frozen
    | o => o
  let h1 := put w0.heap 0 #[.iface 146 (.pointer (some ⟨n, 0, none⟩))]
  let h2 := put h1 1 #[.iface 146 (.pointer (some ⟨n + 1, 0, none⟩))]
  let h3 := put h2 2 #[.iface 146 (.pointer (some ⟨n + 2, 0, none⟩))]
  let h4 := ((h3.push (.cells #[.string ⟨#[115, 104, 111, 114, 116, 32, 98, 117, 102, 102, 101, 114]⟩] 148)).push (.cells #[.string ⟨#[69, 79, 70]⟩] 148)).push (.cells #[.string ⟨#[117, 110, 101, 120, 112, 101, 99, 116, 101, 100, 32, 69, 79, 70]⟩] 148)
  { w0 with heap := h4 }
theorem laid_met (os : Os) (args : Array Value) : laidMet Tryd.prog Rows.fnIntOfRow.laid ((laidWorld os).forCall (fun _ _ => 0) ⟨#[], args, []⟩).memory :=
  laidMet_of_run' 8 (by kernel_rfl) (by kernel_rfl)
end Go.Proofs.YtnenjkngimfdgaaDoor
