/-
  UTF-8, plain: the definition's tests say what the library's say.
-/
import Derived.Test.YtkockmpncocjhaaDoorOps
import Derived.Lib.ValidLaws
namespace Go.Proofs.YtkockmpncocjhaaDoor
open Go.Lib
set_option linter.unusedVariables false
set_option linter.unusedSimpArgs false

/-- How many bytes follow a first byte; 9: none can be first. -/
def nOf (b : Nat) : Nat := if b < 128 then 0 else if 194 ≤ b ∧ b ≤ 223 then 1 else if 224 ≤ b ∧ b ≤ 239 then 2 else if 240 ≤ b ∧ b ≤ 244 then 3 else 9
def loOf (b j : Nat) : Nat := if j = 1 then (if b = 224 then 160 else if b = 240 then 144 else 128) else 128
def hiOf (b j : Nat) : Nat := if j = 1 then (if b = 237 then 159 else if b = 244 then 143 else 191) else 191

def leadOk (b : Nat) : Bool :=
  decide (b < 128) || (decide (nOf b = 9) && (firstT b % 8 != 2) && (firstT b % 8 != 3) && (firstT b % 8 != 4)) ||
    (decide (nOf b ≠ 9) && decide (firstT b % 8 = nOf b + 1) && decide (accLo (firstT b / 16) = loOf b 1) && decide (accHi (firstT b / 16) = hiOf b 1) && decide (1 ≤ nOf b) && decide (nOf b ≤ 3))
theorem leadOk_all : ((List.range 256).all leadOk) = true := by decide +kernel
theorem leadOk_at {b : Nat} (hb : b < 256) : leadOk b = true := List.all_eq_true.1 leadOk_all b (List.mem_range.2 hb)

theorem getD_drop (l : List UInt8) (i j : Nat) : (l.drop i).getD j 0 = l.getD (i + j) 0 := by simp [List.getD_eq_getElem?_getD]

theorem valid_ascii (l : List UInt8) (i : Nat) (hi : i < l.length) (h : (l.getD i 0).toNat < 128) : validD (l.drop i) = validD (l.drop (i + 1)) := by
  rw [List.drop_eq_getElem_cons hi]
  have : l.getD i 0 = l[i] := by simp [List.getD_eq_getElem?_getD, hi]
  rw [this] at h
  exact validD_cons _ _ h

theorem valid_lead' (l : List UInt8) (i : Nat) (hi : i < l.length) (h0 : 128 ≤ (l.getD i 0).toNat) :
    validD (l.drop i) = match checkN (l.length - i) (l.getD (i + 1) 0).toNat (l.getD (i + 2) 0).toNat (l.getD (i + 3) 0).toNat (firstT (l.getD i 0).toNat % 8) (accLo (firstT (l.getD i 0).toNat / 16)) (accHi (firstT (l.getD i 0).toNat / 16)) with
      | none => false
      | some k => validD (l.drop (i + k)) := by
  have hne : l.drop i ≠ [] := by
    intro h
    have := congrArg List.length h
    simp at this; omega
  have h := validD_lead (l.drop i) hne (by rw [getD_drop]; exact h0)
  simp only [getD_drop, List.length_drop, Nat.add_zero, List.drop_drop] at h
  exact h

theorem valid_bad (l : List UInt8) (i : Nat) (hi : i < l.length) (h : nOf (l.getD i 0).toNat = 9) : validD (l.drop i) = false := by
  have hb := (l.getD i 0).toNat_lt
  have h128 : 128 ≤ (l.getD i 0).toNat := by
    unfold nOf at h; split at h <;> omega
  rw [valid_lead' l i hi h128]
  have hk := leadOk_at (b := (l.getD i 0).toNat) (by omega)
  unfold leadOk at hk
  simp only [Bool.or_eq_true, Bool.and_eq_true, decide_eq_true_eq, bne_iff_ne] at hk
  have : checkN (l.length - i) (l.getD (i + 1) 0).toNat (l.getD (i + 2) 0).toNat (l.getD (i + 3) 0).toNat (firstT (l.getD i 0).toNat % 8) (accLo (firstT (l.getD i 0).toNat / 16)) (accHi (firstT (l.getD i 0).toNat / 16)) = none := by
    unfold checkN
    rcases hk with (hk | hk) | hk
    · omega
    · rw [if_neg hk.1.1.2, if_neg hk.1.2, if_neg hk.2]
    · exact absurd h hk.1.1.1.1.1
  rw [this]

/-- Byte j behind the first is as it must be. -/
def Fits (l : List UInt8) (i j : Nat) : Prop := i + j < l.length ∧ loOf (l.getD i 0).toNat j ≤ (l.getD (i + j) 0).toNat ∧ (l.getD (i + j) 0).toNat ≤ hiOf (l.getD i 0).toNat j

theorem valid_multi (l : List UInt8) (i : Nat) (hi : i < l.length) (h128 : 128 ≤ (l.getD i 0).toNat) (h9 : nOf (l.getD i 0).toNat ≠ 9) :
    ((∀ j, 1 ≤ j → j ≤ nOf (l.getD i 0).toNat → Fits l i j) → validD (l.drop i) = validD (l.drop (i + nOf (l.getD i 0).toNat + 1))) ∧
    (∀ k, 1 ≤ k → k ≤ nOf (l.getD i 0).toNat → ¬ Fits l i k → validD (l.drop i) = false) := by
  have hb := (l.getD i 0).toNat_lt
  have hk := leadOk_at (b := (l.getD i 0).toNat) (by omega)
  unfold leadOk at hk
  simp only [Bool.or_eq_true, Bool.and_eq_true, decide_eq_true_eq, bne_iff_ne] at hk
  rcases hk with (hk | hk) | ⟨⟨⟨⟨⟨_, e1⟩, e2⟩, e3⟩, n1⟩, n3⟩
  · omega
  · exact absurd hk.1.1.1 h9
  rw [valid_lead' l i hi h128, e1, e2, e3]
  have L2 : ∀ b, loOf b 2 = 128 := fun _ => rfl
  have L3 : ∀ b, loOf b 3 = 128 := fun _ => rfl
  have H2 : ∀ b, hiOf b 2 = 191 := fun _ => rfl
  have H3 : ∀ b, hiOf b 3 = 191 := fun _ => rfl
  generalize hn : nOf (l.getD i 0).toNat = n at *
  rcases (by omega : n = 1 ∨ n = 2 ∨ n = 3) with rfl | rfl | rfl
  · constructor
    · intro hf
      have f1 := hf 1 (by omega) (by omega)
      unfold Fits at f1
      unfold checkN
      rw [if_pos rfl, if_neg (by omega)]
    · intro k hk1 hk2 hnf
      obtain rfl : k = 1 := by omega
      unfold Fits at hnf
      unfold checkN
      rw [if_pos rfl, if_pos (by omega)]
  · constructor
    · intro hf
      have f1 := hf 1 (by omega) (by omega)
      have f2 := hf 2 (by omega) (by omega)
      unfold Fits at f1 f2
      rw [L2, H2] at f2
      unfold checkN
      rw [if_neg (by omega), if_pos rfl, if_neg (by omega)]
    · intro k hk1 hk2 hnf
      unfold checkN
      rw [if_neg (by omega), if_pos rfl]
      rcases (by omega : k = 1 ∨ k = 2) with rfl | rfl
      · unfold Fits at hnf
        rw [if_pos (by omega)]
      · unfold Fits at hnf
        rw [L2, H2] at hnf
        rw [if_pos (by omega)]
  · constructor
    · intro hf
      have f1 := hf 1 (by omega) (by omega)
      have f2 := hf 2 (by omega) (by omega)
      have f3 := hf 3 (by omega) (by omega)
      unfold Fits at f1 f2 f3
      rw [L2, H2] at f2
      rw [L3, H3] at f3
      unfold checkN
      rw [if_neg (by omega), if_neg (by omega), if_pos rfl, if_neg (by omega)]
    · intro k hk1 hk2 hnf
      unfold checkN
      rw [if_neg (by omega), if_neg (by omega), if_pos rfl]
      rcases (by omega : k = 1 ∨ k = 2 ∨ k = 3) with rfl | rfl | rfl
      · unfold Fits at hnf
        rw [if_pos (by omega)]
      · unfold Fits at hnf
        rw [L2, H2] at hnf
        rw [if_pos (by omega)]
      · unfold Fits at hnf
        rw [L3, H3] at hnf
        rw [if_pos (by omega)]
end Go.Proofs.YtkockmpncocjhaaDoor
