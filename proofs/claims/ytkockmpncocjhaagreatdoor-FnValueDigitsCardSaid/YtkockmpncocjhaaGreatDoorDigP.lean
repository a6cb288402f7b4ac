/-
  The plain law of FnValueDigits: what strconv reads of zeros, digits and one digit more. No program in sight.
-/
import Derived.Test.YtkockmpncocjhaaGreatDoorRows
import Derived.Lib.ParseIntB
import Derived.Lib.ItoaNum
namespace Go.Proofs.YtkockmpncocjhaaGreatDoor
open Go.Lib
set_option linter.unusedVariables false
set_option linter.unusedSimpArgs false

theorem d48 {d : Nat} (h : d < 10) : (UInt8.ofNat (48 + d)).toNat = 48 + d := by
  rw [UInt8.toNat_ofNat']; omega
theorem pum_zeros (M : Nat) (l : List UInt8) : ∀ z : Nat, parseUintM M 0 (List.replicate z 48 ++ l) = parseUintM M 0 l
  | 0 => by simp
  | z + 1 => by
    rw [List.replicate_succ, List.cons_append, parseUintM]
    have e : (48 : UInt8).toNat = 48 := rfl
    rw [if_pos (by rw [e]; omega), if_neg (by omega), if_neg (by rw [e]; omega), e]
    simpa using pum_zeros M l z
theorem pum_step {M acc d : Nat} (l : List UInt8) (hd : d < 10) : parseUintM M acc (UInt8.ofNat (48 + d) :: l) = if 1844674407370955162 ≤ acc then .range else if M < acc * 10 + d then .range else parseUintM M (acc * 10 + d) l := by
  rw [parseUintM, d48 hd, if_pos (by omega)]
  have e : 48 + d - 48 = d := by omega
  rw [e]
theorem pum_digits (M : Nat) (hM : M ≤ 18446744073709551615) : ∀ (m : Nat) (l : List UInt8), m ≤ M → parseUintM M 0 (decDigits m ++ l) = parseUintM M m l := by
  intro m
  induction m using Nat.strongRecOn with
  | _ m ih =>
    intro l hm
    by_cases h : m < 10
    · rw [decDigits, dif_pos h, List.singleton_append, pum_step l h, if_neg (by omega), if_neg (by omega)]
      simp
    · rw [decDigits, dif_neg h, List.append_assoc, List.singleton_append, ih (m / 10) (by omega) _ (by omega), pum_step l (Nat.mod_lt _ (by decide)), if_neg (by omega), if_neg (by omega)]
      congr 1
      omega
theorem dig_ne (m : Nat) : decDigits m ≠ [] := by
  intro h
  have := congrArg List.length h
  rw [decDigits_length] at this
  have := nDigits_pos m
  simp at *
  omega
/-- All bytes are digits. -/
def AllDig (l : List UInt8) : Prop := ∀ c ∈ l, 48 ≤ c.toNat ∧ c.toNat ≤ 57
theorem allDig_dec (m : Nat) : AllDig (decDigits m) := by
  induction m using Nat.strongRecOn with
  | _ m ih =>
    intro c hc
    by_cases h : m < 10
    · rw [decDigits, dif_pos h] at hc
      rw [List.mem_singleton.1 hc, d48 h]; omega
    · rw [decDigits, dif_neg h] at hc
      rcases List.mem_append.1 hc with hc | hc
      · exact ih (m / 10) (by omega) c hc
      · rw [List.mem_singleton.1 hc, d48 (Nat.mod_lt _ (by decide))]
        have := Nat.mod_lt m (show 0 < 10 by decide)
        omega
theorem AllDig.append {a b : List UInt8} (ha : AllDig a) (hb : AllDig b) : AllDig (a ++ b) := fun c hc => (List.mem_append.1 hc).elim (ha c) (hb c)
theorem allDig_zeros (z : Nat) : AllDig (List.replicate z 48) := fun c hc => by
  rw [(List.mem_replicate.1 hc).2]; decide
theorem allDig_one {d : Nat} (h : d < 10) : AllDig [UInt8.ofNat (48 + d)] := fun c hc => by
  rw [List.mem_singleton.1 hc, d48 h]; omega
/-- A sign: none, + or -. -/
inductive Sgn where | no | plus | minus
def Sgn.bytes : Sgn → List UInt8 | .no => [] | .plus => [43] | .minus => [45]
/-- What ParseInt makes of a sign and digits. -/
theorem parseInt_sgn (g : Sgn) (l : List UInt8) (hl : l ≠ []) (hd : AllDig l) : parseIntB 64 (g.bytes ++ l) = match parseUintM 18446744073709551615 0 l with
    | .syntax => .syntax
    | .range => .range
    | .ok u => match g with
      | .minus => if 9223372036854775808 < u then .range else .ok (-(u : Int))
      | _ => if 9223372036854775808 ≤ u then .range else .ok (u : Int) := by
  cases g with
  | no =>
    cases l with
    | nil => exact absurd rfl hl
    | cons c r =>
      have hc := hd c (by simp)
      show parseIntB 64 (c :: r) = _
      unfold parseIntB
      simp only
      rw [if_neg (by omega)]
      unfold parseUintB
      rw [if_neg (by simp)]
      have e1 : ¬ c.toNat = 45 := by omega
      simp only [e1]
      cases parseUintM (2 ^ 64 - 1) 0 (c :: r) <;> simp
  | plus =>
    show parseIntB 64 (43 :: l) = _
    unfold parseIntB
    simp only
    have e : (43 : UInt8).toNat = 43 := rfl
    rw [e, if_pos (by omega)]
    unfold parseUintB
    rw [if_neg hl]
    cases parseUintM (2 ^ 64 - 1) 0 l <;> simp
  | minus =>
    show parseIntB 64 (45 :: l) = _
    unfold parseIntB
    simp only
    have e : (45 : UInt8).toNat = 45 := rfl
    rw [e, if_pos (by omega)]
    unfold parseUintB
    rw [if_neg hl]
    cases parseUintM (2 ^ 64 - 1) 0 l <;> simp
/-- The digits of a number behind zeros. -/
def digs (z m : Nat) : List UInt8 := List.replicate z 48 ++ decDigits m
theorem digs_ne (z m : Nat) : digs z m ≠ [] := by unfold digs; intro h; exact dig_ne m (List.append_eq_nil_iff.1 h).2
theorem digs_all (z m : Nat) : AllDig (digs z m) := (allDig_zeros z).append (allDig_dec m)
theorem pum_digs (z m : Nat) (l : List UInt8) (hm : m ≤ 18446744073709551615) : parseUintM 18446744073709551615 0 (digs z m ++ l) = parseUintM 18446744073709551615 m l := by
  unfold digs
  rw [List.append_assoc, pum_zeros, pum_digits _ (Nat.le_refl _) m l hm]
def Sgn.of (g : Sgn) (u : Nat) : Int := match g with | .minus => -(u : Int) | _ => (u : Int)
def Sgn.fits (g : Sgn) (u : Nat) : Bool := match g with | .minus => decide (u ≤ 9223372036854775808) | _ => decide (u < 9223372036854775808)
/-- The number itself. -/
theorem int_one (g : Sgn) (z m : Nat) (h : g.fits m = true) : parseIntB 64 (g.bytes ++ digs z m) = .ok (g.of m) := by
  have hm : m ≤ 9223372036854775808 := by cases g <;> simp [Sgn.fits] at h <;> omega
  rw [parseInt_sgn g _ (digs_ne z m) (digs_all z m)]
  have e := pum_digs z m [] (by omega)
  rw [List.append_nil] at e
  rw [e]
  cases g <;> simp [Sgn.fits] at h <;> simp [parseUintM, Sgn.of] <;> omega
/-- With another digit behind it. -/
theorem int_more (g : Sgn) (z m d : Nat) (h : g.fits m = true) (hd : d < 10) : parseIntB 64 (g.bytes ++ (digs z m ++ [UInt8.ofNat (48 + d)])) = if g.fits (m * 10 + d) = true then .ok (g.of (m * 10 + d)) else .range := by
  have hm : m ≤ 9223372036854775808 := by cases g <;> simp [Sgn.fits] at h <;> omega
  rw [parseInt_sgn g _ (by intro h; exact digs_ne z m (List.append_eq_nil_iff.1 h).1) ((digs_all z m).append (allDig_one hd)), pum_digs z m _ (by omega), pum_step [] hd]
  by_cases h1 : 1844674407370955162 ≤ m
  · rw [if_pos h1]
    have : g.fits (m * 10 + d) = false := by cases g <;> simp [Sgn.fits] <;> omega
    rw [this]; rfl
  · rw [if_neg h1]
    by_cases h2 : 18446744073709551615 < m * 10 + d
    · rw [if_pos h2]
      have : g.fits (m * 10 + d) = false := by cases g <;> simp [Sgn.fits] <;> omega
      rw [this]; rfl
    · rw [if_neg h2, parseUintM]
      cases g <;> simp only [Sgn.fits, Sgn.of, decide_eq_true_eq]
      all_goals (split <;> split <;> first | rfl | omega)
theorem uint_one (z m : Nat) (hm : m ≤ 9223372036854775808) : parseUintB 64 (digs z m) = .ok m := by
  unfold parseUintB
  rw [if_neg (digs_ne z m)]
  have e := pum_digs z m [] (by omega)
  rw [List.append_nil] at e
  exact e
theorem uint_sign (c : UInt8) (l : List UInt8) (h : ¬ (48 ≤ c.toNat ∧ c.toNat ≤ 57)) : parseUintB 64 (c :: l) = .syntax := by
  unfold parseUintB
  rw [if_neg (by simp), parseUintM, if_neg h]
end Go.Proofs.YtkockmpncocjhaaGreatDoor
