/-
  The walk of laws.FnSkipEmpty: a decoder goes by empty lines, blanks and comments.
-/
import Derived.Test.YtejngpbeogaapaaDoorImplSkip
import Derived.Lib.Strings
namespace Go.Proofs.YtejngpbeogaapaaDoor
open Go.RowKit
set_option linter.unusedVariables false
set_option linter.unusedSimpArgs false

theorem take_extract1 (s : ByteArray) (n : Nat) : (s.extract 0 n).data.toList = s.data.toList.take n := by
  simp [ByteArray.data_extract, Array.toList_extract, List.extract]

set_option maxRecDepth 100000 in
set_option maxHeartbeats 2000000 in
theorem fnSkipEmpty_walk0 (text : ByteArray) (A : Option Addr) (cap : Nat) (l : List Int) (w : World) (B : Nat) (ad : Addr) (hE : EofAt w B ad) (hR : Reads w B 1 A l.length (is_ l)) (hv : ∀ x ∈ l, -9223372036854775808 ≤ x ∧ x ≤ 9223372036854775807) :
    Calls Tryd.prog 4 #[.string text, .slice A l.length cap] w fun e w' => e = .returned (.bool true) ∧ Below w.heap.size w w' := by
  by_cases h1 : 2147483647 < (text.size : Int)
  · clear hE hR hv
    go_enter Tryd.func4, Tryd.ntmps4
    go_wp2
    go_ret
    exact ⟨rfl, Below.refl _ _⟩
  by_cases h2 : 2147483647 < (l.length : Int)
  · clear hE hR hv
    go_enter Tryd.func4, Tryd.ntmps4
    go_wp2
    go_ret
    exact ⟨rfl, Below.refl _ _⟩
  have d1 := decide_eq_false h1
  have d2 := decide_eq_false h2
  by_cases h5 : 2000 < (text.size : Int)
  · clear hE hR hv
    go_enter Tryd.func4, Tryd.ntmps4
    go_wp2
    go_ret
    exact ⟨rfl, Below.refl _ _⟩
  by_cases h6 : 100 < (l.length : Int)
  · clear hE hR hv
    go_enter Tryd.func4, Tryd.ntmps4
    go_wp2
    go_ret
    exact ⟨rfl, Below.refl _ _⟩
  have SK := hide (implSkip_any text A cap l w B ad (by omega) hE hR (by omega) hv)
  have PA := hide (passed_any text w (by omega))
  have BR : Hid (∀ w n, Calls Tryd.prog 11 #[.string (text.extract 0 n)] w fun e w' => e = .returned (.int .i64 (lfs (text.data.toList.take n) : Nat)) ∧ w = w') := hide fun w n => by
    have := breaks_any (text.extract 0 n) w (by rw [ByteArray.size_extract]; omega)
    rwa [take_extract1] at this
  have hf := fin_le text.data.toList
  rw [size_data] at hf
  generalize fin text.data.toList = N at SK PA hf
  clear hE hR hv
  go_enter Tryd.func4, Tryd.ntmps4
  go_wp2_with fail
  refine PA.out.mono ?_
  rintro e w1 ⟨rfl, rfl⟩
  go_wp2_with fail
  refine SK.out.mono ?_
  rintro e w1 ⟨rfl, hx⟩
  have HX := hide hx
  have BR2 := hide (BR.out w1 N)
  clear hx SK PA BR
  go_wp2_with fail
  refine BR2.out.mono ?_
  rintro e w2 ⟨rfl, rfl⟩
  go_wp2
  go_ret
  exact ⟨by simp, HX.out⟩

theorem fnSkipEmpty_walk (text : ByteArray) (A : Option Addr) (cap : Nat) (l : List Int) (_h1 : text.size ≤ maxLen) (ad : Addr) (B : Nat) (w : World) (hE : EofAt w B ad) (hR : Reads w B 1 A l.length (is_ l)) (hv : ∀ x ∈ l, -9223372036854775808 ≤ x ∧ x ≤ 9223372036854775807) :
    Calls Tryd.prog 4 #[.string text, .slice A l.length cap] w fun e w' => e = .returned (.bool true) ∧ Below w.heap.size w w' :=
  fnSkipEmpty_walk0 text A cap l w B ad hE hR hv
end Go.Proofs.YtejngpbeogaapaaDoor
