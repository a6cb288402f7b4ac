/-
  What FnScanArgs' row lists, opened; a world that holds it.
-/
import Derived.Test.YtepeokoeempfgaaDoorTraitsLaid
import Derived.Test.YtepeokoeempfgaaDoorFnScan
namespace Go.Proofs.YtepeokoeempfgaaDoor
open Go.Lib Go.Shelf
open Go.RowKit Go.ChangeShapes Go.WideShapes Go.ChangeAt
set_option linter.unusedVariables false
set_option linter.unusedSimpArgs false

theorem laidPow : (Rows.laid_internal_strconv_uint64pow10 : DataW Unit) = Lib.tabData .u64 Lib.pow10Tab := by rfl
theorem u8T : U8Types Tryd.prog Tryd.lays158_ren := { Tryd.lays158 with }
theorem u8X : U8Extra Tryd.prog Tryd.lays158_ren := ⟨by kernel_rfl, by kernel_rfl, by kernel_rfl, by kernel_rfl, by kernel_rfl, by kernel_rfl, by kernel_rfl⟩
theorem tabsU_of {W : World} (h1 : VarReads Tryd.prog W "unicode.CaseRanges" Lib.caseData) (h2 : VarReads Tryd.prog W "unicode/utf8.first" Lib.firstData) (h3 : VarReads Tryd.prog W "unicode/utf8.acceptRanges" Lib.acceptData) : TabsU W :=
  ⟨caseVar_of_reads case274 Tryd.underlying212 caseX h1, utf8Tabs_of_readsT u8T u8X h2 h3⟩
theorem pow10_of {W : World} (h : VarReads Tryd.prog W "internal/strconv.uint64pow10" (Lib.tabData .u64 Lib.pow10Tab)) : TabP W := by
  obtain ⟨g, t, cs, fuel, p, hg, hty, hvar, hd⟩ := h
  have hg0 : Tryd.prog.globalNamed "internal/strconv.uint64pow10" = some 3 := by kernel_rfl
  have ht0 : (Tryd.prog.globals[3]?).map (·.type) = some 188 := by kernel_rfl
  obtain rfl := Option.some.inj (hg0.symm.trans hg)
  obtain rfl := Option.some.inj (ht0.symm.trans hty)
  unfold TabP TabIs
  have hcs := cells_of_tab Tryd.underlying188 Tryd.underlying71 (by kernel_rfl) (by kernel_rfl) hd
  rw [hvar]
  congr 1
  apply Array.ext'
  rw [hcs]
theorem scanTabs {W : World} (h : laidMetH Tryd.prog Rows.fnScanArgsRow.laid W) : TabsU W ∧ TabP W := by
  have h1 : laidMet Tryd.prog [("math/bits.deBruijn32tab", Rows.laid_math_bits_deBruijn32tab), ("math/bits.deBruijn64tab", Rows.laid_math_bits_deBruijn64tab), ("internal/strconv.uint64pow10", Lib.tabData .u64 Lib.pow10Tab), ("unicode/utf8.acceptRanges", Lib.acceptData), ("unicode.CaseRanges", Lib.caseData), ("unicode/utf8.first", Lib.firstData)] W := by
    have h2 : laidMet Tryd.prog [("math/bits.deBruijn32tab", Rows.laid_math_bits_deBruijn32tab), ("math/bits.deBruijn64tab", Rows.laid_math_bits_deBruijn64tab), ("internal/strconv.uint64pow10", Rows.laid_internal_strconv_uint64pow10), ("unicode/utf8.acceptRanges", Rows.laid_unicode_utf8_acceptRanges), ("unicode.CaseRanges", Rows.laid_unicode_CaseRanges), ("unicode/utf8.first", Rows.laid_unicode_utf8_first)] W := h
    rwa [laidAccept, laidFirst, laidCase, laidPow] at h2
  refine ⟨tabsU_of ?_ ?_ ?_, pow10_of ?_⟩
  · exact Lib.laidMet.reads h1 (.tail _ (.tail _ (.tail _ (.tail _ (.head _)))))
  · exact Lib.laidMet.reads h1 (.tail _ (.tail _ (.tail _ (.tail _ (.tail _ (.head _))))))
  · exact Lib.laidMet.reads h1 (.tail _ (.tail _ (.tail _ (.head _))))
  · exact Lib.laidMet.reads h1 (.tail _ (.tail _ (.head _)))

def litV : DataW Unit → Value
  | .lit (.int k z) => .int k z
  | _ => .nilIface
def cellsA : DataW Unit → Array Value
  | .agg l => (l.map litV).toArray
  | _ => #[]
namespace fnScanArgs
/-- A WORLD FOR THE WITNESS. -/
noncomputable def laidWorld (os : Os) : World :=
  let N := (World.settled Tryd.prog os).heap.size
  let w0 := World.holding Tryd.prog os ⟨#[.cells Lib.caseCells5 214], #[], []⟩
  let h1 := put w0.heap 6 (Lib.firstTab.map fun z => Value.int .u8 z).toArray
  let h2 := put h1 7 ((List.range 16).flatMap fun i => [Value.int .u8 (Lib.accLo i), Value.int .u8 (Lib.accHi i)]).toArray
  let h3 := put h2 4 #[.slice (some ⟨N, 0, none⟩) 336 336]
  let h4 := put h3 3 (Lib.pow10Tab.map fun z => Value.int .u64 z).toArray
  let h5 := put h4 8 (cellsA Rows.laid_math_bits_deBruijn32tab)
  let h6 := put h5 9 (cellsA Rows.laid_math_bits_deBruijn64tab)
  { w0 with heap := h6 }
theorem laid_met (os : Os) (args : Array Value) : laidMet Tryd.prog Rows.fnScanArgsRow.laid ((laidWorld os).forCall (fun _ _ => 0) ⟨#[], args, []⟩).memory := by
  have a := LaidIn.of_run (P := Tryd.prog) (w := ((laidWorld os).forCall (fun _ _ => 0) ⟨#[], args, []⟩).memory) (l := [("math/bits.deBruijn32tab", Rows.laid_math_bits_deBruijn32tab), ("math/bits.deBruijn64tab", Rows.laid_math_bits_deBruijn64tab), ("internal/strconv.uint64pow10", Lib.tabData .u64 Lib.pow10Tab), ("unicode/utf8.acceptRanges", Lib.acceptData)]) [8, 9, 3, 7] 8 (by kernel_rfl) (by kernel_rfl) (by kernel_rfl) (by kernel_rfl)
  have b := caseIn (w := ((laidWorld os).forCall (fun _ _ => 0) ⟨#[], args, []⟩).memory) witN 214 (of_decide_eq_true (by kernel_rfl)) (by kernel_rfl) (by kernel_rfl)
  have c := LaidIn.of_run (P := Tryd.prog) (w := ((laidWorld os).forCall (fun _ _ => 0) ⟨#[], args, []⟩).memory) (l := [("unicode/utf8.first", Lib.firstData)]) [6] 8 (by kernel_rfl) (by kernel_rfl) (by kernel_rfl) (by kernel_rfl)
  have h : laidMet Tryd.prog [("math/bits.deBruijn32tab", Rows.laid_math_bits_deBruijn32tab), ("math/bits.deBruijn64tab", Rows.laid_math_bits_deBruijn64tab), ("internal/strconv.uint64pow10", Lib.tabData .u64 Lib.pow10Tab), ("unicode/utf8.acceptRanges", Lib.acceptData), ("unicode.CaseRanges", Lib.caseData), ("unicode/utf8.first", Lib.firstData)] ((laidWorld os).forCall (fun _ _ => 0) ⟨#[], args, []⟩).memory := ((a.append b (by kernel_rfl)).append c (by kernel_rfl)).met
  rw [← laidAccept, ← laidFirst, ← laidCase, ← laidPow] at h
  exact h
end fnScanArgs

theorem list5 {α : Type} {l : List α} (h : l.length = 5) : ∃ c0 c1 c2 c3 c4, l = [c0, c1, c2, c3, c4] := by
  match l, h with
  | [c0, c1, c2, c3, c4], _ => exact ⟨c0, c1, c2, c3, c4, rfl⟩
set_option maxRecDepth 100000 in
theorem open_scan {H : Type} {enc : TypeId × Value → H} {W : World} {v : Value} {d : DataW H} {ps : List MemPlace} {base : Nat} (h : DataW.Trod enc Tryd.prog W 0 (fun _ => true) true 36 v d ps) (hok : Value.okWide Tryd.prog W .any base 36 v) :
    ∃ (c k pt : ByteArray) (n : Int) (ty : ByteArray), v = .agg #[.string c, .string k, .string pt, .int .i64 n, .string ty] ∧ c.size ≤ maxLen ∧ k.size ≤ maxLen ∧ pt.size ≤ maxLen ∧ -9223372036854775808 ≤ n ∧ n ≤ 9223372036854775807 ∧ ty.size ≤ maxLen := by
  obtain ⟨cs, rfl, hsz⟩ := okWide_struct Tryd.underlying36 hok
  have hs5 : cs.size = 5 := hsz.trans (by kernel_rfl)
  obtain ⟨l⟩ := cs
  have hc9 : Tryd.prog.cellsOf 9 = 1 := by kernel_rfl
  have hc3 : Tryd.prog.cellsOf 3 = 1 := by kernel_rfl
  obtain ⟨c0, c1, c2, c3, c4, rfl⟩ := list5 (l := l) hs5
  obtain ⟨fuel, hf⟩ := h
  obtain ⟨xs, m, _, hx, hl, hlen, hg⟩ := DataW.trod_struct Tryd.underlying36 hf
  obtain ⟨y0, y1, y2, y3, y4, rfl⟩ := list5 (l := xs) hlen
  have g0 := hg 0 _ rfl
  have g1 := hg 1 _ rfl
  have g2 := hg 2 _ rfl
  have g3 := hg 3 _ rfl
  have g4 := hg 4 _ rfl
  simp [Value.cells, hc9, hc3] at g0 g1 g2 g3 g4
  obtain ⟨s0, e0, -, w0⟩ := DataW.trod_string Tryd.underlying9 g0
  obtain ⟨s1, e1, -, w1⟩ := DataW.trod_string Tryd.underlying9 g1
  obtain ⟨s2, e2, -, w2⟩ := DataW.trod_string Tryd.underlying9 g2
  obtain ⟨n, e3, -, w3⟩ := DataW.trod_int Tryd.underlying3 g3
  obtain ⟨s4, e4, -, w4⟩ := DataW.trod_string Tryd.underlying9 g4
  simp at e0 e1 e2 e3 e4
  subst e0 e1 e2 e3 e4
  have hb : -9223372036854775808 ≤ n ∧ n ≤ 9223372036854775807 := by
    simp [Lit.wf, IntKind.signed, IntKind.bits, IntKind.min, IntKind.max] at w3
    omega
  exact ⟨s0, s1, s2, n, s4, rfl, w0, w1, w2, hb.1, hb.2, w4⟩
end Go.Proofs.YtepeokoeempfgaaDoor
