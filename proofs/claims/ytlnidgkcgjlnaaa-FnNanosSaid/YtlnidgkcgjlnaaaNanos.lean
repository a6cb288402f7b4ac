/-
  The walk of laws.FnNanos: a time of a precision in nanoseconds. No condition but that the arguments fit their kinds.
-/
import Derived.Test.YtlnidgkcgjlnaaaBase
namespace Go.Proofs.Ytlnidgkcgjlnaaa
open Go.RowKit
set_option linter.unusedVariables false

theorem back (x k : Int) (hk1 : k = 1000 ∨ k = 1000000 ∨ k = 1000000000) (hx0 : -9223372036854775808 ≤ x) (hx1 : x ≤ 9223372036854775807) :
    (wrap64 ((wrap64 (x * k)).tdiv k) == x) = decide (-9223372036854775808 ≤ x * k ∧ x * k ≤ 9223372036854775807) := by
  have h1 := Int.mul_tdiv_add_tmod (wrap64 (x * k)) k
  have h2 := Int.tmod_lt_of_pos (wrap64 (x * k)) (b := k) (by omega)
  have h3 := Int.lt_tmod_of_pos (wrap64 (x * k)) (b := k) (by omega)
  generalize (wrap64 (x * k)).tdiv k = q at *
  generalize (wrap64 (x * k)).tmod k = r at *
  have hw : ∃ m : Int, wrap64 (x * k) = x * k - 18446744073709551616 * m ∧ (m = 0 ↔ (-9223372036854775808 ≤ x * k ∧ x * k ≤ 9223372036854775807)) ∧ -9223372036854775808 ≤ wrap64 (x * k) ∧ wrap64 (x * k) ≤ 9223372036854775807 :=
    ⟨(x * k + 9223372036854775808) / 18446744073709551616, by unfold wrap64; omega, by omega, by unfold wrap64; omega, by unfold wrap64; omega⟩
  obtain ⟨m, hm, hm0, hb1, hb2⟩ := hw
  have hq : wrap64 q = q := by
    unfold wrap64 at *
    rcases hk1 with rfl | rfl | rfl <;> omega
  rw [hq, Bool.eq_iff_iff]
  simp only [beq_iff_eq, decide_eq_true_eq]
  rw [← hm0]
  rw [hm] at h1
  clear hm hm0 hb1 hb2 hq
  constructor
  · rintro rfl
    rcases hk1 with rfl | rfl | rfl <;> omega
  · rintro rfl
    rcases hk1 with rfl | rfl | rfl <;> omega

theorem nanos_idle (args : Array Value) (w : World) : CallsD Try.prog 26 args .returning w fun e u' w' => e = .returned (.tuple #[]) ∧ u' = .returning ∧ w' = w :=
  idle_of w nilTest_any Try.func26 rfl rfl (by decide) (by decide)

/-- The nanoseconds of one tick. -/
def tick (p : Int) : Int := if p = 0 then 1 else if p = 1 then 1000 else if p = 2 then 1000000 else 1000000000
/-- A time of a precision fits. -/
def fits (p x : Int) : Bool := decide (-9223372036854775808 ≤ x * tick p ∧ x * tick p ≤ 9223372036854775807)
def fitOr (p x : Int) : Int := if fits p x then x * tick p else 0

theorem asNanos_any (p x : Int) (w : World) (h0 : 0 ≤ p) (h1 : p ≤ 3) (hx0 : -9223372036854775808 ≤ x) (hx1 : x ≤ 9223372036854775807) :
    Calls Try.prog 41 #[.int .u8 p, .int .i64 x] w fun e w' => e = .returned (.tuple #[.int .i64 (fitOr p x), .bool (fits p x)]) ∧ w = w' := by
  have hp : p = 0 ∨ p = 1 ∨ p = 2 ∨ p = 3 := by omega
  have w64 : ∀ k : Int, -9223372036854775808 ≤ x * k ∧ x * k ≤ 9223372036854775807 → wrap64 (x * k) = x * k := fun k hk => by unfold wrap64; omega
  have hb : ¬ p = 0 → (wrap64 ((wrap64 (x * tick p)).tdiv (tick p)) == x) = fits p x := fun h => back x (tick p) (by rcases hp with rfl | rfl | rfl | rfl <;> simp_all [tick]) hx0 hx1
  cases hf : fits p x
  · have H2 : fitOr p x = 0 := by simp [fitOr, hf]
    rw [H2]
    clear H2
    rcases hp with rfl | rfl | rfl | rfl
    · simp [fits, tick] at hf; omega
    all_goals
      rw [hf] at hb
      replace hb := hb (by decide)
      simp [tick] at hb
      clear hf w64
      go_enter Try.func41, Try.ntmps41
      go_wp2
      go_ret2
      exact ⟨rfl, rfl⟩
  · have H2 : fitOr p x = x * tick p := by simp [fitOr, hf]
    rw [H2]
    have H3 : wrap64 (x * tick p) = x * tick p := w64 _ (by simpa [fits] using hf)
    rw [← H3]
    clear H2 H3
    rcases hp with rfl | rfl | rfl | rfl
    · clear hf w64 hb
      go_enter Try.func41, Try.ntmps41
      go_wp2
      go_ret2
      exact ⟨by simp [tick]; unfold wrap64; omega, rfl⟩
    all_goals
      rw [hf] at hb
      replace hb := hb (by decide)
      simp [tick] at hb
      clear hf w64
      go_enter Try.func41, Try.ntmps41
      go_wp2
      go_ret2
      exact ⟨by simp [tick], rfl⟩

theorem implNanos_any (p x : Int) (w : World) (h0 : 0 ≤ p) (h1 : p ≤ 3) (hx0 : -9223372036854775808 ≤ x) (hx1 : x ≤ 9223372036854775807) :
    Calls Try.prog 11 #[.int .i64 p, .int .i64 x] w fun e w' => e = .returned (.tuple #[.int .i64 (fitOr p x), .bool (fits p x)]) ∧ Ext w w' := by
  have hmf : ∀ (fn : Fn) (first cap : Array Value) (w : World), (Instr.makeFunc fn first cap).run Try.prog w = .ok (.func fn first cap) w := fun _ _ _ _ => rfl
  obtain ⟨f, hf⟩ : ∃ f, f = fits p x := ⟨_, rfl⟩
  obtain ⟨g, hg⟩ : ∃ g, g = fitOr p x := ⟨_, rfl⟩
  have hc := fun w => asNanos_any p x w h0 h1 hx0 hx1
  rw [← hf, ← hg] at hc ⊢
  have HC := hide hc
  clear hf hg hc
  cases f
  all_goals
    go_enter_defers Try.func11, Try.ntmps11
    go_wp2_with (first | (go_at_call 41; refine (unhide HC _).mono ?_; rintro e w' ⟨rfl, rfl⟩) | go_in)
    refine door_idle (nanos_idle _ _) (by simp [go_sem]) ?_
    simp [results, Try.results11, go_sem]
    try refine ⟨by omega, ?_⟩
    repeat (first | exact Ext.refl _ | assumption | refine Ext.drew ?_ | refine Ext.drewN ?_ _ | refine Ext.alloc ?_ _ | refine Ext.setCell ?_ (by first | (simp; done) | (simp; omega)) _)

theorem ticks_any (p : Int) (w : World) (h0 : 0 ≤ p) (h1 : p ≤ 3) :
    Calls Try.prog 10 #[.int .i64 p] w fun e w' => e = .returned (.int .i64 (tick p)) ∧ Ext w w' := by
  have hp : p = 0 ∨ p = 1 ∨ p = 2 ∨ p = 3 := by omega
  rcases hp with rfl | rfl | rfl | rfl
  all_goals
    go_enter Try.func10, Try.ntmps10
    go_wp2
    go_ret
    exact ⟨rfl, (Ext.refl w).alloc _⟩

/-- A division by a tick. -/
theorem quo_tick (x : Int) (p : Int) (h0 : 0 ≤ p) (h1 : p ≤ 3) (hx0 : -9223372036854775808 ≤ x) (hx1 : x ≤ 9223372036854775807) :
    fits p x = (!decide ((9223372036854775807 : Int).tdiv (tick p) < x) && !decide (x < (-9223372036854775808 : Int).tdiv (tick p))) := by
  have hp : p = 0 ∨ p = 1 ∨ p = 2 ∨ p = 3 := by omega
  rcases hp with rfl | rfl | rfl | rfl <;> rw [Bool.eq_iff_iff] <;> simp [fits, tick] <;> omega

set_option maxHeartbeats 1000000 in
theorem fnNanos_walk (p x : Int) (w0 : (Lit.int .i64 p).wf = true) (w1 : (Lit.int .i64 x).wf = true) (w : World) :
    Calls Try.prog 4 #[.int .i64 p, .int .i64 x] w fun e w' => e = .returned (.bool true) ∧ Below w.heap.size w w' := by
  have hx : -9223372036854775808 ≤ x ∧ x ≤ 9223372036854775807 := by simpa [Lit.wf, IntKind.min, IntKind.max, IntKind.signed, IntKind.bits] using w1
  obtain ⟨hx0, hx1⟩ := hx
  by_cases h0 : p < 0
  · go_enter Try.func4, Try.ntmps4
    go_wp2
    go_ret
    exact ⟨rfl, Below.refl _ _⟩
  · by_cases h1 : 3 < p
    · go_enter Try.func4, Try.ntmps4
      go_wp2
      go_ret
      exact ⟨rfl, Below.refl _ _⟩
    · have ht := fun w => ticks_any p w (by omega) (by omega)
      have hn := fun w => implNanos_any p x w (by omega) (by omega) hx0 hx1
      have hq := quo_tick x p (by omega) (by omega) hx0 hx1
      have hp : p = 0 ∨ p = 1 ∨ p = 2 ∨ p = 3 := by omega
      clear w0 w1
      cases hf : fits p x
      · have hg : fitOr p x = 0 := by simp [fitOr, hf]
        rw [hf] at hq
        simp only [hf, hg] at hn
        clear hf hg
        rcases hp with rfl | rfl | rfl | rfl
        all_goals
          simp only [show tick 0 = 1 from rfl, show tick 1 = 1000 from rfl, show tick 2 = 1000000 from rfl, show tick 3 = 1000000000 from rfl] at ht hq
          have HT := hide ht
          have HN := hide hn
          simp at hq
          clear ht hn
        · omega
        all_goals
          rcases Int.lt_or_le x 0 with hs | hs
          all_goals
            go_enter Try.func4, Try.ntmps4
            go_wp2_with (first | (go_at_call 10; refine (unhide HT _).mono ?_; rintro e w1 ⟨rfl, hx1⟩) | (go_at_call 11; refine (unhide HN _).mono ?_; rintro e w2 ⟨rfl, hx2⟩))
            all_goals
              go_ret
              exact ⟨rfl, Ext.trans (by assumption) (by assumption)⟩
      · have hg : fitOr p x = x * tick p := by simp [fitOr, hf]
        have hb : -9223372036854775808 ≤ x * tick p ∧ x * tick p ≤ 9223372036854775807 := by simpa [fits] using hf
        rw [hf] at hq
        simp only [hf, hg] at hn
        clear hf hg
        rcases hp with rfl | rfl | rfl | rfl
        all_goals
          simp only [show tick 0 = 1 from rfl, show tick 1 = 1000 from rfl, show tick 2 = 1000000 from rfl, show tick 3 = 1000000000 from rfl] at ht hn hq hb
          obtain ⟨hb0, hb1⟩ := hb
          have HT := hide ht
          have HN := hide hn
          simp at hq
          clear ht hn
          go_enter Try.func4, Try.ntmps4
          go_wp2_with (first | (go_at_call 10; refine (unhide HT _).mono ?_; rintro e w1 ⟨rfl, hx1⟩) | (go_at_call 11; refine (unhide HN _).mono ?_; rintro e w2 ⟨rfl, hx2⟩))
          go_ret
          exact ⟨rfl, Ext.trans (by assumption) (by assumption)⟩

end Go.Proofs.Ytlnidgkcgjlnaaa
