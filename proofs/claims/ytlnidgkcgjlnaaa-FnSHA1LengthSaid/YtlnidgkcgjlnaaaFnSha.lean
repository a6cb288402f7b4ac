/-
  The walk of laws.FnSHA1Length.
-/
import Derived.Test.YtlnidgkcgjlnaaaShaG
import Derived.Test.YtlnidgkcgjlnaaaFnShaC
namespace Go.Proofs.Ytlnidgkcgjlnaaa
open Go.RowKit
set_option linter.unusedVariables false
set_option linter.unusedSimpArgs false

theorem blockG_said : BlockG := fun w d s x nx len A cap l hs hD hR hc hm => blockG_any w d s x nx len A cap l hs hD hR hc hm
set_option maxRecDepth 100000 in
set_option maxHeartbeats 4000000 in
theorem fnSHA1Length_walk (c times size : Int) (w0 : (Lit.int .u8 c).wf = true) (w1 : (Lit.int .i64 times).wf = true) (w2 : (Lit.int .i64 size).wf = true) (w : World) :
    Calls Try.prog 8 #[.int .u8 c, .int .i64 times, .int .i64 size] w fun e w' => e = .returned (.bool true) ∧ Below w.heap.size w w' := by
  have hc : 0 ≤ c ∧ c ≤ 255 := by simpa [Lit.wf, IntKind.min, IntKind.max, IntKind.signed, IntKind.bits] using w0
  obtain ⟨c0, c1⟩ := hc
  by_cases h1 : times < 0
  · go_enter Try.func8, Try.ntmps8
    go_wp2
    go_ret
    exact ⟨rfl, Below.refl _ _⟩
  · by_cases h2 : 5000 < times
    · go_enter Try.func8, Try.ntmps8
      go_wp2
      go_ret
      exact ⟨rfl, Below.refl _ _⟩
    · by_cases h3 : size < 1
      · go_enter Try.func8, Try.ntmps8
        go_wp2
        go_ret
        exact ⟨rfl, Below.refl _ _⟩
      · by_cases h4 : 200 < size
        · go_enter Try.func8, Try.ntmps8
          go_wp2
          go_ret
          exact ⟨rfl, Below.refl _ _⟩
        · obtain ⟨T, rfl⟩ : ∃ T : Nat, times = (T : Int) := ⟨times.toNat, by omega⟩
          obtain ⟨z, rfl⟩ : ∃ z : Nat, size = (z : Int) := ⟨size.toNat, by omega⟩
          have hb : c = ((UInt8.ofNat c.toNat).toNat : Int) := by rw [UInt8.toNat_ofNat']; omega
          rw [hb]
          exact fnSha_core blockG_said _ T z (by omega) (by omega) (by omega) w
end Go.Proofs.Ytlnidgkcgjlnaaa
