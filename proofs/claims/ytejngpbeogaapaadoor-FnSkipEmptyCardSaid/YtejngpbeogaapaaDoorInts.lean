/-
  A slice of whole numbers that came in: what it reads as.
-/
import Derived.Test.YtejngpbeogaapaaDoorReader
import Derived.ProofKit
import Derived.OpenShut
import Derived.Carry
namespace Go.Proofs.YtejngpbeogaapaaDoor
open Go.RowKit Go.ChangeShapes Go.WideShapes
set_option linter.unusedVariables false
set_option linter.unusedSimpArgs false

theorem wf_bounds {n : Int} (h : (Lit.int .i64 n).wf = true) : -9223372036854775808 ≤ n ∧ n ≤ 9223372036854775807 := by
  have := h
  simp [Lit.wf, IntKind.signed, IntKind.bits, IntKind.min, IntKind.max] at this
  omega

set_option maxRecDepth 100000 in
theorem intsOf {H : Type} {enc : TypeId × Value → H} {W : World} {v : Value} {d : DataW H} {ps : List MemPlace} {base : Nat} (h : DataW.Trod enc Tryd.prog W 0 (fun _ => true) true 22 v d ps) (hok : Value.okWide Tryd.prog W .any base 22 v) :
    ∃ A cap l, v = .slice A l.length cap ∧ Reads W W.heap.size 1 A l.length (is_ l) ∧ ∀ x ∈ l, -9223372036854775808 ≤ x ∧ x ≤ 9223372036854775807 := by
  obtain ⟨a, len, cap, rfl⟩ := okWide_slice Tryd.underlying22 hok
  obtain ⟨fuel, hf⟩ := h
  rcases open_ints Tryd.underlying22 Tryd.underlying3 (by kernel_rfl) hf with ⟨hcs, hx⟩ | ⟨ad, len', cap', zs, hcs, _, hl, hm, hz, hx, hcell, hwz⟩
  · have e : Value.slice a len cap = .slice none 0 0 := by simpa [Value.cells] using hcs
    injection e with e1 e2 e3
    subst e1 e2 e3
    exact ⟨none, 0, [], rfl, Reads.none_, by simp⟩
  · have e : Value.slice a len cap = .slice (some ad) len' cap' := by simpa [Value.cells] using hcs
    injection e with e1 e2 e3
    subst e1 e2 e3
    have hzl : len ≤ zs.length := by rw [hz]; split <;> omega
    have hlen : (zs.take len).length = len := by rw [List.length_take]; omega
    refine ⟨some ad, cap, zs.take len, by rw [hlen], ⟨by simp [is_], fun hn => ⟨ad, rfl, ?_, fun j u hu => ?_⟩⟩, fun x hx => wf_bounds (hwz x (List.mem_of_mem_take hx))⟩
    · have h0 := hcell 0 (by omega)
      rcases Nat.lt_or_ge ad.block W.heap.size with h1 | h1
      · exact h1
      · have : (ad.add 0).block = ad.block := block_of_add _ _
        simp [World.cell?, this, Array.getElem?_eq_none h1] at h0
    · have hj : j < len := by
        have := (List.getElem?_eq_some_iff.1 hu).1
        simp [is_] at this
        omega
      rw [hcell j (by omega)]
      simp [is_, List.getElem?_take, hj] at hu
      obtain ⟨z, hz1, hz2⟩ := hu
      rw [List.getD_eq_getElem?_getD, hz1]
      exact congrArg some hz2
end Go.Proofs.YtejngpbeogaapaaDoor
