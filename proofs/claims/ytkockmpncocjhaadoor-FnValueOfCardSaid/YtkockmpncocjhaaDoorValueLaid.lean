/-
  What FnValueOf's row lists of utf8's two tables; a world that holds them; a value's struct, opened.
-/
import Derived.Test.YtkockmpncocjhaaDoorFnV2
import Derived.Test.YtkockmpncocjhaaDoorRows
import Derived.Lib.LaidIn
import Derived.Lib.LaidU8T
import Derived.OpenShut
import Derived.Laws.Cover2
import Derived.Deep.DeepWitnessRowRef
namespace Go.Proofs.YtkockmpncocjhaaDoor
open Go.Lib Go.Shelf
open Go.RowKit Go.ChangeShapes Go.WideShapes Go.ChangeAt
set_option linter.unusedVariables false
set_option linter.unusedSimpArgs false

theorem laidAccept : (Rows.laid_unicode_utf8_acceptRanges : DataW Unit) = Lib.acceptData := rfl
theorem laidFirst : Rows.laid_unicode_utf8_first = Lib.firstData := by kernel_rfl
theorem tabsOf {W : World} (h : laidMetH Tryd.prog Rows.fnValueOfRow.laid W) : TabsV W := by
  have h1 : laidMet Tryd.prog [("unicode/utf8.acceptRanges", Lib.acceptData), ("unicode/utf8.first", Lib.firstData)] W := by
    have h2 : laidMet Tryd.prog [("unicode/utf8.acceptRanges", Rows.laid_unicode_utf8_acceptRanges), ("unicode/utf8.first", Rows.laid_unicode_utf8_first)] W := h
    rwa [laidAccept, laidFirst] at h2
  exact utf8Tabs_of_readsT (U8Types.of196 Tryd.laysValid) ⟨by kernel_rfl, by kernel_rfl, by kernel_rfl, by kernel_rfl, by kernel_rfl, by kernel_rfl, by kernel_rfl⟩ (Lib.laidMet.reads h1 (.tail _ (.head _))) (Lib.laidMet.reads h1 (.head _))

namespace fnValueOf
/-- A WORLD FOR THE WITNESS. -/
noncomputable def laidWorld (os : Os) : World :=
  let w0 := World.holding Tryd.prog os ⟨#[], #[], []⟩
  let put (h : Array Obj) (g : Nat) (cs : Array Value) : Array Obj := h.modify g fun
    | .cells _ t frozen => .cells cs t frozen
    | o => o
  let h1 := put w0.heap 0 (Lib.firstTab.map fun z => Value.int .u8 z).toArray
  let h2 := put h1 1 ((List.range 16).flatMap fun i => [Value.int .u8 (Lib.accLo i), Value.int .u8 (Lib.accHi i)]).toArray
  { w0 with heap := h2 }
theorem laid_met (os : Os) (args : Array Value) : laidMet Tryd.prog Rows.fnValueOfRow.laid ((laidWorld os).forCall (fun _ _ => 0) ⟨#[], args, []⟩).memory := by
  have h : laidMet Tryd.prog [("unicode/utf8.acceptRanges", Lib.acceptData), ("unicode/utf8.first", Lib.firstData)] ((laidWorld os).forCall (fun _ _ => 0) ⟨#[], args, []⟩).memory :=
    (LaidIn.of_run (l := [("unicode/utf8.acceptRanges", Lib.acceptData), ("unicode/utf8.first", Lib.firstData)]) [1, 0] 8 (by kernel_rfl) (by kernel_rfl) (by kernel_rfl) (by kernel_rfl)).met
  rw [← laidAccept, ← laidFirst] at h
  exact h
end fnValueOf

theorem list6 {α : Type} {l : List α} (h : l.length = 6) : ∃ c0 c1 c2 c3 c4 c5, l = [c0, c1, c2, c3, c4, c5] := by
  match l, h with
  | [c0, c1, c2, c3, c4, c5], _ => exact ⟨c0, c1, c2, c3, c4, c5, rfl⟩
theorem trod_float1 {H : Type} {enc : TypeId × Value → H} {W : World} {base : Nat} {spare : Nat → Bool} {held : Bool} {t : TypeId} {cs : List Value} {x : DataW H × List MemPlace} {fuel : Nat} {k : FloatKind} (ht : Tryd.prog.underlying t = some (.float k)) (h : DataW.trod enc Tryd.prog W base spare held fuel t cs = some x) : ∃ F, cs = [.float k F] ∧ x = (.lit (.float k F), []) ∧ (Lit.float k F).wf = true := by
  cases fuel with
  | zero => simp [DataW.trod] at h
  | succ n =>
    unfold DataW.trod at h
    rw [ht] at h
    split at h <;> simp_all
set_option maxRecDepth 100000 in
theorem open_value {H : Type} {enc : TypeId × Value → H} {W : World} {v : Value} {d : DataW H} {ps : List MemPlace} {base : Nat} (h : DataW.Trod enc Tryd.prog W 0 (fun _ => true) true 25 v d ps) (hok : Value.okWide Tryd.prog W .any base 25 v) :
    ∃ (k : Int) (s : ByteArray) (N U : Int) (F : Nat) (b : Bool), v = .agg #[.int .i64 k, .string s, .int .i64 N, .int .u64 U, .float .f64 F, .bool b] ∧ -9223372036854775808 ≤ N ∧ N ≤ 9223372036854775807 ∧ 0 ≤ U ∧ U < 18446744073709551616 ∧ F < 18446744073709551616 := by
  obtain ⟨cs, rfl, hsz⟩ := okWide_struct Tryd.underlying25 hok
  have hs6 : cs.size = 6 := hsz.trans (by kernel_rfl)
  obtain ⟨l⟩ := cs
  have hc1 : Tryd.prog.cellsOf 9 = 1 := by kernel_rfl
  have hc2 : Tryd.prog.cellsOf 3 = 1 := by kernel_rfl
  have hc3 : Tryd.prog.cellsOf 2 = 1 := by kernel_rfl
  have hc4 : Tryd.prog.cellsOf 22 = 1 := by kernel_rfl
  have hc5 : Tryd.prog.cellsOf 23 = 1 := by kernel_rfl
  have hc6 : Tryd.prog.cellsOf 4 = 1 := by kernel_rfl
  obtain ⟨c0, c1, c2, c3, c4, c5, rfl⟩ := list6 (l := l) hs6
  obtain ⟨fuel, hf⟩ := h
  obtain ⟨xs, m, _, hx, hl, hlen, hg⟩ := DataW.trod_struct Tryd.underlying25 hf
  obtain ⟨y0, y1, y2, y3, y4, y5, rfl⟩ := list6 (l := xs) hlen
  have g0 := hg 0 _ rfl
  have g1 := hg 1 _ rfl
  have g2 := hg 2 _ rfl
  have g3 := hg 3 _ rfl
  have g4 := hg 4 _ rfl
  have g5 := hg 5 _ rfl
  simp [Value.cells, hc1, hc2, hc3, hc4, hc5, hc6] at g0 g1 g2 g3 g4 g5
  obtain ⟨k, e0, -, w0⟩ := DataW.trod_int Tryd.underlying3 g0
  obtain ⟨s, e1, -, w1⟩ := DataW.trod_string Tryd.underlying9 g1
  obtain ⟨N, e2, -, w2⟩ := DataW.trod_int Tryd.underlying2 g2
  obtain ⟨U, e3, -, w3⟩ := DataW.trod_int Tryd.underlying22 g3
  obtain ⟨F, e4, -, w4⟩ := trod_float1 Tryd.underlying23 g4
  obtain ⟨b, e5, -⟩ := DataW.trod_bool Tryd.underlying4 g5
  simp at e0 e1 e2 e3 e4 e5
  subst e0 e1 e2 e3 e4 e5
  have hb : -9223372036854775808 ≤ N ∧ N ≤ 9223372036854775807 := by
    simp [Lit.wf, IntKind.signed, IntKind.bits, IntKind.min, IntKind.max] at w2
    omega
  have hu : 0 ≤ U ∧ U < 18446744073709551616 := by
    simp [Lit.wf, IntKind.signed, IntKind.bits, IntKind.min, IntKind.max] at w3
    omega
  have hf : F < 18446744073709551616 := by simpa [Lit.wf] using w4
  exact ⟨k, s, N, U, F, b, rfl, hb.1, hb.2, hu.1, hu.2, hf⟩
end Go.Proofs.YtkockmpncocjhaaDoor
