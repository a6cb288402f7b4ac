/-
  Double numbers after IEEE 754, as FnValueOf asks of them: x - x, 1/x, the greatest number, NaNs. No program in sight.
-/
import Derived.Test.YtkockmpncocjhaaGreatDoorRows
import Derived.Laws.FloatArith
import Derived.Laws.Cover2
namespace Go.Proofs.YtkockmpncocjhaaGreatDoor
open Ieee
theorem binade_ : Ieee.double.binade = 2 ^ 52 := rfl
theorem infRung_ : Ieee.double.infRung = 2047 * 2 ^ 52 := rfl
theorem signWeight_ : Ieee.double.signWeight = 2 ^ 63 := rfl
/-- Finite: neither an infinity nor a NaN. -/
def finB (b : Nat) : Bool := decide (b % 2 ^ 63 < 2047 * 2 ^ 52)
theorem read_fin {b : Nat} (h : finB b = true) : ∃ s m i, Ieee.double.read b = .number s m i ∧ m ≤ 2 ^ 53 - 1 ∧ i ≤ 971 := by
  have h : b % 2 ^ 63 < 2047 * 2 ^ 52 := by simpa [finB] using h
  unfold Format.read
  rw [binade_, infRung_, signWeight_]
  simp only
  by_cases h1 : b % 2 ^ 63 < 2 ^ 52
  · rw [if_pos h1]
    exact ⟨_, _, _, rfl, by omega, by decide⟩
  · rw [if_neg h1, if_pos h]
    refine ⟨_, _, _, rfl, by omega, ?_⟩
    have : Ieee.double.leastPlace = -1074 := by decide
    rw [this]
    omega
theorem read_inf {b : Nat} (h : finB b = false) : (∃ s, Ieee.double.read b = .infinity s) ∨ ∃ s t, Ieee.double.read b = .nan s t := by
  have h : ¬ b % 2 ^ 63 < 2047 * 2 ^ 52 := by simpa [finB] using h
  unfold Format.read
  rw [binade_, infRung_, signWeight_]
  simp only
  rw [if_neg (by omega), if_neg h]
  by_cases h1 : b % 2 ^ 63 = 2047 * 2 ^ 52
  · rw [if_pos h1]; exact .inl ⟨_, rfl⟩
  · rw [if_neg h1]; exact .inr ⟨_, _, rfl⟩
theorem order_self {d : Datum} (h : d.isNaN = false) : d.order d = some .eq := by
  cases d with
  | nan s t => simp [Datum.isNaN] at h
  | infinity s => simp [Datum.order]
  | number s m i => simp [Datum.order]
theorem order_nan {d : Datum} (h : d.isNaN = true) (e : Datum) : d.order e = none := by
  cases d with
  | nan s t => cases e <;> rfl
  | infinity s => simp [Datum.isNaN] at h
  | number s m i => simp [Datum.isNaN] at h
theorem eq_self {b : Nat} (h : finB b = true) : Ieee.double.order b b = some .eq := by
  obtain ⟨s, m, i, e, _⟩ := read_fin h
  unfold Format.order
  rw [e]; exact order_self rfl
/-- 'x - x' of a finite number is +0. -/
theorem sub_self {b : Nat} (h : finB b = true) : Ieee.double.sub b b = some 0 := by
  obtain ⟨s, m, i, e, _⟩ := read_fin h
  unfold Format.sub
  rw [e]
  have : signed s m 0 + signed (!s) m 0 = 0 := by cases s <;> simp [signed] <;> omega
  simp [Datum.opposite, Datum.sum, this, Format.write, Format.nearest, Format.word]
theorem sub_inf {b : Nat} (h : finB b = false) : Ieee.double.sub b b = none := by
  unfold Format.sub
  rcases read_inf h with ⟨s, e⟩ | ⟨s, t, e⟩
  · rw [e]; cases s <;> rfl
  · rw [e]; rfl
/-- A word whose rung is at most infinity's is no NaN. -/
theorem read_word (neg : Bool) (rung : Nat) (h : rung ≤ Ieee.double.infRung) : (Ieee.double.read (Ieee.double.word neg rung)).isNaN = false := by
  rw [infRung_] at h
  have e : Ieee.double.word neg rung % 2 ^ 63 = rung := by
    unfold Format.word
    rw [signWeight_]
    split <;> omega
  unfold Format.read
  rw [binade_, infRung_, signWeight_]
  simp only [e]
  split
  · rfl
  · split
    · rfl
    · split
      · rfl
      · omega
theorem write_ok (d : Datum) (h : d.isNaN = false) : (Ieee.double.read (Ieee.double.write d)).isNaN = false := by
  cases d with
  | nan s t => simp [Datum.isNaN] at h
  | infinity s => exact read_word s _ (Nat.le_refl _)
  | number s m i =>
    show (Ieee.double.read (Ieee.double.nearest s m i)).isNaN = false
    unfold Format.nearest
    split
    · exact read_word s 0 (Nat.zero_le _)
    · exact read_word s _ (Nat.min_le_right _ _)
def oneF : Nat := 4607182418800017408
theorem read_one : Ieee.double.read oneF = .number false (2 ^ 52) (-52) := by decide
/-- '1/x' of a finite number is a number or an infinity, equal to itself. -/
theorem div_self {b : Nat} (h : finB b = true) : ∃ r, Ieee.double.div oneF b = some r ∧ Ieee.double.order r r = some .eq := by
  obtain ⟨s, m, i, e, _⟩ := read_fin h
  unfold Format.div
  rw [e, read_one]
  unfold Datum.quotient
  by_cases hm : m = 0
  · refine ⟨_, by simp [hm]; rfl, order_self (write_ok _ rfl)⟩
  · refine ⟨_, by simp [hm]; rfl, order_self (write_ok _ rfl)⟩
def maxF : Nat := 9218868437227405311
theorem read_max : Ieee.double.read maxF = .number false (2 ^ 53 - 1) 971 := by decide
/-- The magnitude of a finite number is at most the greatest one. -/
theorem abs_fin {b : Nat} (h : finB b = true) : Ieee.double.order (b % 2 ^ 63) maxF ≠ some .gt := by
  have h' : finB (b % 2 ^ 63) = true := by simpa [finB] using h
  obtain ⟨s, m, i, e, hm, hi⟩ := read_fin h'
  unfold Format.order
  rw [e, read_max]
  have hmin : min i 971 = i := by omega
  simp only [Datum.order, hmin]
  have h1 : signed s m (i - i).toNat ≤ signed false (2 ^ 53 - 1) (971 - i).toNat := by
    have a : (i - i).toNat = 0 := by omega
    rw [a]
    have b1 : (2 ^ 53 - 1 : Nat) ≤ (2 ^ 53 - 1 : Nat) <<< (971 - i).toNat := by rw [Nat.shiftLeft_eq]; exact Nat.le_mul_of_pos_right _ (Nat.two_pow_pos _)
    have c : signed false (2 ^ 53 - 1) (971 - i).toNat = (((2 ^ 53 - 1 : Nat) <<< (971 - i).toNat : Nat) : Int) := rfl
    rw [c]
    generalize (2 ^ 53 - 1 : Nat) <<< (971 - i).toNat = K at b1
    have b2 : m ≤ K := Nat.le_trans hm b1
    cases s
    · show ((m <<< 0 : Nat) : Int) ≤ K
      rw [Nat.shiftLeft_zero]; omega
    · show -((m <<< 0 : Nat) : Int) ≤ K
      rw [Nat.shiftLeft_zero]; omega
  generalize signed s m (i - i).toNat = x at h1
  generalize signed false (2 ^ 53 - 1) (971 - i).toNat = y at h1
  intro hh
  injection hh with hh
  simp only [compare, compareOfLessAndEq] at hh
  split at hh
  · cases hh
  · split at hh
    · cases hh
    · omega
theorem nan_cut (t : Nat) : (Ieee.double.read ((t % 2) * 2 ^ 63 + 0x7ff0000000000000 + 1 + (t / 2) % (2 ^ 52 - 1))).isNaN = true := by
  have e : ((t % 2) * 2 ^ 63 + 0x7ff0000000000000 + 1 + (t / 2) % (2 ^ 52 - 1)) % 2 ^ 63 = 0x7ff0000000000000 + 1 + (t / 2) % (2 ^ 52 - 1) := by omega
  unfold Format.read
  rw [binade_, infRung_, signWeight_]
  simp only [e]
  rw [if_neg (by omega), if_neg (by omega), if_neg (by omega)]
  rfl
theorem abs_inf {b : Nat} (h : finB b = false) : Ieee.double.order (b % 2 ^ 63) maxF = some .gt ∨ Ieee.double.order b b = none := by
  rcases read_inf h with ⟨s, e⟩ | ⟨s, t, e⟩
  · left
    have hb : b % 2 ^ 63 = 2047 * 2 ^ 52 := by
      unfold Format.read at e
      rw [binade_, infRung_, signWeight_] at e
      simp only at e
      split at e
      · cases e
      · split at e
        · cases e
        · split at e
          · assumption
          · cases e
    rw [hb]
    decide
  · right
    unfold Format.order
    rw [e]; rfl
theorem nan_order {b : Nat} (h : (Ieee.double.read b).isNaN = true) (c : Nat) : Ieee.double.order b c = none := order_nan h _
end Go.Proofs.YtkockmpncocjhaaGreatDoor
