/-
  What FnBlobWrite's row lists, opened; a world that holds it.
-/
import Derived.Test.YtepeokoeempfgaaDoorFnBW
import Derived.Test.YtepeokoeempfgaaDoorCards
import Derived.Stop.LaidErr
import Derived.Stop.LaidTwo
import Derived.Deep.DeepWitnessRowRef
import Derived.Lib.LaidTab
import Derived.Lib.LaidIn
import Derived.Lib.SmallJoins
namespace Go.Proofs.YtepeokoeempfgaaDoor
open Go.Lib Go.Shelf
open Go.RowKit Go.ChangeShapes Go.WideShapes Go.ChangeAt
set_option linter.unusedVariables false
set_option linter.unusedSimpArgs false

theorem starErr : "*" ++ "errors.errorString" = "*errors.errorString" := by decide
theorem rowErr (u : TypeId) (h : Tryd.prog.typeName? 3 u = some "*errors.errorString") : u = 215 :=
  typeName_ptr_named (nm := "errors.errorString") (by rw [starErr]; kernel_rfl) (by kernel_rfl) (by decide) u (by rw [starErr]; exact h)
theorem errAt {W : World} {n : String} {text : List UInt8} {r : List (String × DataW Unit)} {g : Nat} (h : laidMet Tryd.prog ((n, .iface "*errors.errorString" (.ptr (.agg [.lit (.string text)]))) :: r) W)
    (hg : Tryd.prog.globalNamed n = some g) (ht : (Tryd.prog.globals[g]?).map (·.type) = some 56) :
    ∃ ad, g < W.heap.size ∧ W.cell? ⟨g, 0, none⟩ = some (.iface 215 (.pointer (some ad))) := by
  obtain ⟨a, s, hv, _, _, _⟩ := laid_sentinel h hg ht Tryd.underlying56 rowErr Tryd.underlying215 Tryd.underlying240 rfl rfl Tryd.underlying9 (by kernel_rfl) (by kernel_rfl)
  have hc := World.var?_cell hg hv 0
  refine ⟨a, ?_, hc⟩
  rcases Nat.lt_or_ge g W.heap.size with h1 | h1
  · exact h1
  · simp [World.cell?, Array.getElem?_eq_none h1] at hc
theorem laidPow : (Rows.laid_internal_strconv_uint64pow10 : DataW Unit) = Lib.tabData .u64 Lib.pow10Tab := by rfl
theorem bwOf {W : World} (h : laidMetH Tryd.prog Rows.fnBlobWriteRow.laid W) : ∃ ad, Tab10 W.heap.size W ∧ EofAt W W.heap.size ad := by
  have h1 : laidMet Tryd.prog [("math/bits.deBruijn32tab", Rows.laid_math_bits_deBruijn32tab), ("math/bits.deBruijn64tab", Rows.laid_math_bits_deBruijn64tab), ("internal/strconv.uint64pow10", Lib.tabData .u64 Lib.pow10Tab), ("io.ErrShortWrite", Rows.laid_io_ErrShortWrite), ("io.errInvalidWrite", Rows.laid_io_errInvalidWrite), ("io.EOF", Rows.laid_io_EOF)] W := by
    have h2 : laidMet Tryd.prog [("math/bits.deBruijn32tab", Rows.laid_math_bits_deBruijn32tab), ("math/bits.deBruijn64tab", Rows.laid_math_bits_deBruijn64tab), ("internal/strconv.uint64pow10", Rows.laid_internal_strconv_uint64pow10), ("io.ErrShortWrite", Rows.laid_io_ErrShortWrite), ("io.errInvalidWrite", Rows.laid_io_errInvalidWrite), ("io.EOF", Rows.laid_io_EOF)] W := h
    rwa [laidPow] at h2
  obtain ⟨ad, h2, h3⟩ := errAt (g := 0) h1.tail.tail.tail.tail.tail (by kernel_rfl) (by kernel_rfl)
  exact ⟨ad, Lib.tabBelow_of_tabIs (Lib.tabIs_of_head (g := 3) (by kernel_rfl) (by kernel_rfl) Tryd.underlying188 Tryd.underlying71 (by kernel_rfl) (by kernel_rfl) h1.tail.tail), h2, Nat.le_refl _, h3⟩

noncomputable def put (h : Array Obj) (g : Nat) (cs : Array Value) : Array Obj := h.modify g fun
  | .cells _ t frozen => .cells cs t frozen
  | o => o
def litV : DataW Unit → Value
  | .lit (.int k z) => .int k z
  | _ => .nilIface
def cellsA : DataW Unit → Array Value
  | .agg l => (l.map litV).toArray
  | _ => #[]
namespace fnBlobWrite
/-- A WORLD FOR THE WITNESS. -/
noncomputable def laidWorld (os : Os) : World :=
  let w0 := World.holding Tryd.prog os ⟨#[], #[], []⟩
  let n := w0.heap.size
  let h1 := put w0.heap 2 #[.iface 215 (.pointer (some ⟨n, 0, none⟩))]
  let h2 := put h1 1 #[.iface 215 (.pointer (some ⟨n + 1, 0, none⟩))]
  let h3 := put h2 0 #[.iface 215 (.pointer (some ⟨n + 2, 0, none⟩))]
  let h4 := put h3 3 (Lib.pow10Tab.map fun z => Value.int .u64 z).toArray
  let h5 := put h4 8 (cellsA Rows.laid_math_bits_deBruijn32tab)
  let h6 := put h5 9 (cellsA Rows.laid_math_bits_deBruijn64tab)
  let h7 := ((h6.push (.cells #[.string ⟨#[115, 104, 111, 114, 116, 32, 119, 114, 105, 116, 101]⟩] 240)).push (.cells #[.string ⟨#[105, 110, 118, 97, 108, 105, 100, 32, 119, 114, 105, 116, 101, 32, 114, 101, 115, 117, 108, 116]⟩] 240)).push (.cells #[.string ⟨#[69, 79, 70]⟩] 240)
  { w0 with heap := h7 }
theorem laid_met (os : Os) (args : Array Value) : laidMet Tryd.prog Rows.fnBlobWriteRow.laid ((laidWorld os).forCall (fun _ _ => 0) ⟨#[], args, []⟩).memory :=
  laidMet_of_run' 8 (by kernel_rfl) (by kernel_rfl)
end fnBlobWrite
end Go.Proofs.YtepeokoeempfgaaDoor
