/-
  spec.In: the specification's sets.
-/
import Derived.Test.YtejngpbeogaapaaDoorImplTake
namespace Go.Proofs.YtejngpbeogaapaaDoor
open Go.RowKit
set_option linter.unusedVariables false
set_option linter.unusedSimpArgs false

def whiteI (n : Int) : Bool := n == 32 || (n == 13 || n == 10)
def oddI (n : Int) : Bool := decide (n < 32) || n == 127
theorem white_any (n : Int) (w : World) : Calls Tryd.prog 17 #[.int .u8 n] w fun e w' => e = .returned (.bool (whiteI n)) ∧ w = w' := by
  unfold whiteI
  cases h1 : (n == 32) <;> cases h2 : (n == 13) <;> cases h3 : (n == 10)
  all_goals
    go_enter Tryd.func17, Tryd.ntmps17
    go_wp2
    go_ret
    exact ⟨rfl, rfl⟩
theorem odd_any (n : Int) (w : World) : Calls Tryd.prog 18 #[.int .u8 n] w fun e w' => e = .returned (.bool (oddI n)) ∧ w = w' := by
  unfold oddI
  by_cases h1 : n < 32
  · have d1 := decide_eq_true h1
    cases h3 : (n == 127)
    all_goals
      go_enter Tryd.func18, Tryd.ntmps18
      go_wp2
      go_ret
      exact ⟨by simp [d1], rfl⟩
  · have d1 := decide_eq_false h1
    cases h3 : (n == 127)
    all_goals
      go_enter Tryd.func18, Tryd.ntmps18
      go_wp2
      go_ret
      exact ⟨by simp [d1], rfl⟩

def inI : Nat → Int → Bool
  | 0, n => n == 32
  | 1, n => whiteI n
  | 3, n => oddI n
  | 4, n => n == 13 || n == 10
  | 5, n => n != 44 && (n != 32 && !oddI n)
  | 8, n => n != 34
  | 9, n => n != 44 && !whiteI n
  | 10, n => n == 45 || (decide (48 ≤ n) && decide (n ≤ 57))
  | 11, n => !oddI n
  | 12, n => n != 13 && n != 10
  | 13, n => n != 10
  | _, n => n != 44 && (n != 61 && (n != 32 && !oddI n))
theorem inI_all : ((List.range 14).all fun s => (List.range 256).all fun i => inI s (i : Int) == doorF s i) = true := by decide +kernel
theorem inI_eq (s : Nat) (hs : s ≤ 13) (i : Nat) (hi : i < 256) : inI s (i : Int) = doorF s i := by
  have h1 := List.all_eq_true.1 inI_all s (List.mem_range.2 (by omega))
  have h2 := List.all_eq_true.1 h1 i (List.mem_range.2 hi)
  exact eq_of_beq h2

set_option maxRecDepth 100000 in
set_option maxHeartbeats 2000000 in
theorem specIn0_any (s : Nat) (hs : s ≤ 13) (n : Int) (w : World) : Calls Tryd.prog 7 #[.int .i64 s, .int .u8 n] w fun e w' => e = .returned (.bool (inI s n)) ∧ w = w' := by
  have HO := hide (fun w => odd_any n w)
  have HW := hide (fun w => white_any n w)
  rcases (by omega : (s = 2 ∨ s = 6 ∨ s = 7) ∨ s = 0 ∨ s = 1 ∨ s = 3 ∨ s = 4 ∨ s = 5 ∨ s = 8 ∨ s = 9 ∨ s = 10 ∨ s = 11 ∨ s = 12 ∨ s = 13) with h | rfl | rfl | rfl | rfl | rfl | rfl | rfl | rfl | rfl | rfl | rfl
  · rcases h with rfl | rfl | rfl
    all_goals
      show Calls _ _ _ w fun e w' => e = .returned (.bool (n != 44 && (n != 61 && (n != 32 && !oddI n)))) ∧ w = w'
      generalize oddI n = o at HO ⊢
      cases h1 : (n != 44) <;> cases h2 : (n != 61) <;> cases h3 : (n != 32) <;> cases o
      all_goals
        go_enter Tryd.func7, Tryd.ntmps7
        go_wp2_with (go_at_call 18; refine (HO.out _).mono ?_; rintro e w1 ⟨rfl, rfl⟩)
        go_ret
        exact ⟨rfl, rfl⟩
  · show Calls _ _ _ w fun e w' => e = .returned (.bool (n == 32)) ∧ w = w'
    generalize hb : (n == 32) = b
    go_enter Tryd.func7, Tryd.ntmps7
    go_wp2
    go_ret
    exact ⟨rfl, rfl⟩
  · show Calls _ _ _ w fun e w' => e = .returned (.bool (whiteI n)) ∧ w = w'
    generalize whiteI n = o at HW ⊢
    go_enter Tryd.func7, Tryd.ntmps7
    go_wp2_with (go_at_call 17; refine (HW.out _).mono ?_; rintro e w1 ⟨rfl, rfl⟩)
    go_ret
    exact ⟨rfl, rfl⟩
  · show Calls _ _ _ w fun e w' => e = .returned (.bool (oddI n)) ∧ w = w'
    generalize oddI n = o at HO ⊢
    go_enter Tryd.func7, Tryd.ntmps7
    go_wp2_with (go_at_call 18; refine (HO.out _).mono ?_; rintro e w1 ⟨rfl, rfl⟩)
    go_ret
    exact ⟨rfl, rfl⟩
  · show Calls _ _ _ w fun e w' => e = .returned (.bool (n == 13 || n == 10)) ∧ w = w'
    cases h1 : (n == 13) <;> cases h2 : (n == 10)
    all_goals
      go_enter Tryd.func7, Tryd.ntmps7
      go_wp2
      go_ret
      exact ⟨rfl, rfl⟩
  · show Calls _ _ _ w fun e w' => e = .returned (.bool (n != 44 && (n != 32 && !oddI n))) ∧ w = w'
    generalize oddI n = o at HO ⊢
    cases h1 : (n != 44) <;> cases h3 : (n != 32) <;> cases o
    all_goals
      go_enter Tryd.func7, Tryd.ntmps7
      go_wp2_with (go_at_call 18; refine (HO.out _).mono ?_; rintro e w1 ⟨rfl, rfl⟩)
      go_ret
      exact ⟨rfl, rfl⟩
  · show Calls _ _ _ w fun e w' => e = .returned (.bool (n != 34)) ∧ w = w'
    generalize hb : (n != 34) = b
    go_enter Tryd.func7, Tryd.ntmps7
    go_wp2
    go_ret
    exact ⟨rfl, rfl⟩
  · show Calls _ _ _ w fun e w' => e = .returned (.bool (n != 44 && !whiteI n)) ∧ w = w'
    generalize whiteI n = o at HW ⊢
    cases h1 : (n != 44) <;> cases o
    all_goals
      go_enter Tryd.func7, Tryd.ntmps7
      go_wp2_with (go_at_call 17; refine (HW.out _).mono ?_; rintro e w1 ⟨rfl, rfl⟩)
      go_ret
      exact ⟨rfl, rfl⟩
  · show Calls _ _ _ w fun e w' => e = .returned (.bool (n == 45 || (decide (48 ≤ n) && decide (n ≤ 57)))) ∧ w = w'
    cases h1 : (n == 45) <;> cases h2 : decide (48 ≤ n) <;> cases h3 : decide (n ≤ 57)
    all_goals
      first | have h2 := of_decide_eq_true h2 | have h2 := of_decide_eq_false h2
      first | have h3 := of_decide_eq_true h3 | have h3 := of_decide_eq_false h3
      go_enter Tryd.func7, Tryd.ntmps7
      go_wp2
      go_ret
      first | exact ⟨rfl, rfl⟩ | exact ⟨by simp [h2, h3], rfl⟩
  · show Calls _ _ _ w fun e w' => e = .returned (.bool (!oddI n)) ∧ w = w'
    generalize oddI n = o at HO ⊢
    go_enter Tryd.func7, Tryd.ntmps7
    go_wp2_with (go_at_call 18; refine (HO.out _).mono ?_; rintro e w1 ⟨rfl, rfl⟩)
    go_ret
    exact ⟨rfl, rfl⟩
  · show Calls _ _ _ w fun e w' => e = .returned (.bool (n != 13 && n != 10)) ∧ w = w'
    cases h1 : (n != 13) <;> cases h2 : (n != 10)
    all_goals
      go_enter Tryd.func7, Tryd.ntmps7
      go_wp2
      go_ret
      exact ⟨rfl, rfl⟩
  · show Calls _ _ _ w fun e w' => e = .returned (.bool (n != 10)) ∧ w = w'
    generalize hb : (n != 10) = b
    go_enter Tryd.func7, Tryd.ntmps7
    go_wp2
    go_ret
    exact ⟨rfl, rfl⟩
theorem specIn_any (s : Nat) (hs : s ≤ 13) (c : UInt8) (w : World) : Calls Tryd.prog 7 #[.int .i64 s, .int .u8 c.toNat] w fun e w' => e = .returned (.bool (doorF s c.toNat)) ∧ w = w' := by
  rw [← inI_eq s hs c.toNat (by have := c.toNat_lt; omega)]
  exact specIn0_any s hs _ w
end Go.Proofs.YtejngpbeogaapaaDoor
