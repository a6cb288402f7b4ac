/-
  The walk of laws.FnValidKey.
-/
import Derived.Test.YtlnidgkcgjlnaaaDoorValidKey
namespace Go.Proofs.YtlnidgkcgjlnaaaDoor
open Go.Lib
open Go.RowKit
set_option linter.unusedVariables false
set_option linter.unusedSimpArgs false

theorem doorValidKey_any (s : ByteArray) (w : World) (hs : s.size ≤ 100000) (hT : Tabs w) :
    Calls Tryd.prog 17 #[.string s] w fun e w' => e = .returned (.bool (keyOk s)) ∧ Ext w w' := by
  have H := hide (validKey_any s w hs hT)
  generalize keyOk s = V at H
  clear hT
  go_enter Tryd.func17, Tryd.ntmps17
  go_wp2_with fail
  refine H.out.mono ?_
  rintro e w1 ⟨rfl, hx⟩
  have X1 := hide hx
  clear hx
  go_wp2
  go_ret
  exact ⟨rfl, X1.out⟩

theorem implValidKey_any (s : ByteArray) (w : World) (hs : s.size ≤ 100000) (hT : Tabs w) :
    Calls Tryd.prog 9 #[.string s] w fun e w' => e = .returned (.bool (keyOk s)) ∧ Ext w w' := by
  have H := hide (doorValidKey_any s w hs hT)
  generalize keyOk s = V at H
  clear hT
  go_enter Tryd.func9, Tryd.ntmps9
  go_wp2_with fail
  refine H.out.mono ?_
  rintro e w1 ⟨rfl, hx⟩
  have X1 := hide hx
  clear hx
  go_wp2
  go_ret
  exact ⟨rfl, X1.out⟩

theorem keyOk_a : keyOk ⟨#[97]⟩ = true := by decide +kernel

set_option maxRecDepth 100000 in
theorem fnValidKey_walk (s : ByteArray) (hs : s.size ≤ maxLen) (w : World) (hT : Tabs w) :
    Calls Tryd.prog 4 #[.string s] w fun e w' => e = .returned (.bool true) ∧ Below w.heap.size w w' := by
  clear hs
  by_cases h : s.size ≤ 2000
  · have d0 : decide (2147483647 < (s.size : Int)) = false := decide_eq_false (by omega)
    have d1 : decide (2000 < (s.size : Int)) = false := decide_eq_false (by omega)
    have H1 := hide (implValidKey_any s w (by omega) hT)
    have H2 := hide (fun w => keyRight_any s w (by omega))
    have H3 : Hid (∀ w', Ext w w' → Calls Tryd.prog 9 #[.string ⟨#[97]⟩] w' fun e w'' => e = .returned (.bool true) ∧ Ext w' w'') := hide fun w' hx => by
      have h := implValidKey_any ⟨#[97]⟩ w' (by decide) (hT.ext hx)
      rwa [keyOk_a] at h
    generalize keyOk s = V at H1 H2
    clear hT
    go_enter Tryd.func4, Tryd.ntmps4
    go_wp2_with fail
    refine H1.out.mono ?_
    rintro e w1 ⟨rfl, hx⟩
    have X1 := hide hx
    clear hx
    go_wp2_with fail
    refine (H2.out _).mono ?_
    rintro e w2 ⟨rfl, hx⟩
    have X2 := hide (X1.out.trans hx)
    clear hx
    go_wp2_with fail
    refine (H3.out _ X2.out).mono ?_
    rintro e w3 ⟨rfl, hx⟩
    have X3 := hide (X2.out.trans hx)
    clear hx
    go_wp2
    go_ret
    exact ⟨rfl, X3.out⟩
  · clear hT
    have d1 : decide (2000 < (s.size : Int)) = true := decide_eq_true (by omega)
    by_cases h2 : 2147483647 < (s.size : Int)
    · have d0 := decide_eq_true h2
      go_enter Tryd.func4, Tryd.ntmps4
      go_wp2
      go_ret
      exact ⟨rfl, Below.refl _ _⟩
    · have d0 := decide_eq_false h2
      go_enter Tryd.func4, Tryd.ntmps4
      go_wp2
      go_ret
      exact ⟨rfl, Below.refl _ _⟩
end Go.Proofs.YtlnidgkcgjlnaaaDoor
