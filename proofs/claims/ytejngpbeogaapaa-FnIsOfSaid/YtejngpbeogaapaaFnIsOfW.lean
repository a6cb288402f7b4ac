/-
  The walk of laws.FnIsOf, at every number.
-/
import Derived.Test.YtejngpbeogaapaaFnIsOf
namespace Go.Proofs.Ytejngpbeogaapaa
open Go.RowKit
set_option linter.unusedVariables false
set_option linter.unusedSimpArgs false

set_option maxRecDepth 100000 in
theorem fnIsOf_walk (c : Int) (hw : (Lit.int .i64 c).wf = true) (w : World) :
    Calls Try.prog 3 #[.int .i64 c] w fun e w' => e = .returned (.bool true) ∧ Below w.heap.size w w' := by
  clear hw
  by_cases h : 0 ≤ c ∧ c ≤ 255
  · obtain ⟨n, rfl⟩ := Int.eq_ofNat_of_zero_le h.1
    have hn : n < 256 := by omega
    have h2 := fnIsOf_core (UInt8.ofNat n) w
    rwa [show (UInt8.ofNat n).toNat = n by simp [Nat.mod_eq_of_lt hn]] at h2
  · rcases (by omega : c < 0 ∨ (¬ c < 0 ∧ 255 < c)) with hc | ⟨h1, h2⟩
    · clear h
      have d0 := decide_eq_true hc
      go_enter Try.func3, Try.ntmps3
      go_wp2
      go_ret
      exact ⟨rfl, (Ext.refl w).alloc _⟩
    · clear h
      have d0 := decide_eq_false h1
      have d1 := decide_eq_true h2
      go_enter Try.func3, Try.ntmps3
      go_wp2
      go_ret
      exact ⟨rfl, (Ext.refl w).alloc _⟩
end Go.Proofs.Ytejngpbeogaapaa
