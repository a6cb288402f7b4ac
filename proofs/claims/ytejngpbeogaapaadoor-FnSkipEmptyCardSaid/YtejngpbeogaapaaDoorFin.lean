/-
  What is gone by at the beginning of a text: empty lines, blanks, comments. In plain words.
-/
import Derived.Test.YtejngpbeogaapaaDoorEol
namespace Go.Proofs.YtejngpbeogaapaaDoor
open Go.RowKit
set_option linter.unusedVariables false
set_option linter.unusedSimpArgs false

/-- The length of the longest beginning whose bytes meet P. -/
def tl (P : Nat → Bool) (l : List UInt8) : Nat := (l.takeWhile fun c => P c.toNat).length
theorem tl_le (P : Nat → Bool) (l : List UInt8) : tl P l ≤ l.length := tw_le l _
theorem tl_nil (P : Nat → Bool) : tl P [] = 0 := rfl
theorem tl_cons (P : Nat → Bool) (c : UInt8) (l : List UInt8) : tl P (c :: l) = if P c.toNat then tl P l + 1 else 0 := by
  unfold tl
  rw [List.takeWhile_cons]
  split <;> simp
/-- One round: so many bytes, so many lines; does it go on? -/
def skipStep (l : List UInt8) : Nat × Nat × Bool :=
  let s := tl (doorF 0) l
  match l.drop s with
  | [] => (s, 0, false)
  | c :: r =>
    if c = 35 then
      let t := tl (doorF 11) (c :: r)
      let x := eolAt ((c :: r).drop t)
      if x.2.2 then (s + t + x.1, x.2.1, true) else (0, 0, false)
    else
      let x := eolAt (c :: r)
      if x.2.2 then (s + x.1, x.2.1, true) else (s, 0, false)
theorem eol_cases (l : List UInt8) : (l = [] ∧ eolAt l = (0, 0, true)) ∨ (∃ r, l = 10 :: r ∧ eolAt l = (1, 1, true)) ∨ (l = [13] ∧ eolAt l = (1, 0, true)) ∨ (∃ r, l = 13 :: 10 :: r ∧ eolAt l = (2, 1, true)) ∨ (l ≠ [] ∧ eolAt l = (0, 0, false)) := by
  rcases l with _ | ⟨c, r⟩
  · exact .inl ⟨rfl, rfl⟩
  · by_cases h1 : c = 10
    · subst h1; exact .inr (.inl ⟨r, rfl, rfl⟩)
    · by_cases h2 : c = 13
      · subst h2
        rcases r with _ | ⟨c2, r2⟩
        · exact .inr (.inr (.inl ⟨rfl, rfl⟩))
        · by_cases h3 : c2 = 10
          · subst h3; exact .inr (.inr (.inr (.inl ⟨r2, rfl, rfl⟩)))
          · exact .inr (.inr (.inr (.inr ⟨by simp, by simp [eolAt, h3]⟩)))
      · exact .inr (.inr (.inr (.inr ⟨by simp, by simp [eolAt, h1, h2]⟩)))
theorem eolAt_le (l : List UInt8) : (eolAt l).1 ≤ l.length := by
  rcases eol_cases l with ⟨rfl, h⟩ | ⟨r, rfl, h⟩ | ⟨rfl, h⟩ | ⟨r, rfl, h⟩ | ⟨_, h⟩ <;> rw [h] <;> simp
theorem eolAt_pos (c : UInt8) (r : List UInt8) (h : (eolAt (c :: r)).2.2 = true) : 0 < (eolAt (c :: r)).1 := by
  rcases eol_cases (c :: r) with ⟨h0, h1⟩ | ⟨r, _, h1⟩ | ⟨_, h1⟩ | ⟨r, _, h1⟩ | ⟨_, h1⟩
  · cases h0
  · rw [h1]; simp
  · rw [h1]; simp
  · rw [h1]; simp
  · rw [h1] at h; cases h
theorem eolAt_false (l : List UInt8) (h : (eolAt l).2.2 = false) : eolAt l = (0, 0, false) := by
  rcases eol_cases l with ⟨_, h1⟩ | ⟨r, _, h1⟩ | ⟨_, h1⟩ | ⟨r, _, h1⟩ | ⟨_, h1⟩
  · rw [h1] at h; cases h
  · rw [h1] at h; cases h
  · rw [h1] at h; cases h
  · rw [h1] at h; cases h
  · exact h1
theorem step_le (l : List UInt8) : (skipStep l).1 ≤ l.length := by
  have h1 := tl_le (doorF 0) l
  unfold skipStep
  simp only
  split
  · exact h1
  · rename_i c r e
    have hl : (c :: r).length = l.length - tl (doorF 0) l := by rw [← e, List.length_drop]
    split
    · have h2 := tl_le (doorF 11) (c :: r)
      have h3 := eolAt_le ((c :: r).drop (tl (doorF 11) (c :: r)))
      rw [List.length_drop] at h3
      split
      · simp only; omega
      · simp
    · have h3 := eolAt_le (c :: r)
      split
      · simp only; omega
      · exact h1
theorem step_pos (l : List UInt8) (h : (skipStep l).2.2 = true) : 0 < (skipStep l).1 := by
  unfold skipStep at h ⊢
  simp only at h ⊢
  split
  · rename_i e
    simp only [e] at h
    simp at h
  · rename_i c r e
    simp only [e] at h
    split
    · rename_i h2
      rw [if_pos h2] at h
      have hc : 0 < tl (doorF 11) (c :: r) := by
        subst h2
        rw [tl_cons, if_pos (by decide)]
        omega
      split
      · simp only; omega
      · rename_i h3
        rw [if_neg h3] at h
        simp at h
    · rename_i h2
      rw [if_neg h2] at h
      split
      · rename_i h3
        have := eolAt_pos c r h3
        simp only; omega
      · rename_i h3
        rw [if_neg h3] at h
        simp at h
/-- How many bytes are gone by. -/
def fin (l : List UInt8) : Nat :=
  if h : (skipStep l).2.2 = true then (skipStep l).1 + fin (l.drop (skipStep l).1) else (skipStep l).1
termination_by l.length
decreasing_by
  rw [List.length_drop]
  have h1 := step_pos l h
  have h2 := step_le l
  omega
theorem fin_more (l : List UInt8) (h : (skipStep l).2.2 = true) : fin l = (skipStep l).1 + fin (l.drop (skipStep l).1) := by rw [fin, dif_pos h]
theorem fin_end (l : List UInt8) (h : (skipStep l).2.2 = false) : fin l = (skipStep l).1 := by rw [fin, dif_neg (by rw [h]; simp)]
theorem fin_le (l : List UInt8) : fin l ≤ l.length := by
  have key : ∀ n (l : List UInt8), l.length ≤ n → fin l ≤ l.length := by
    intro n
    induction n with
    | zero =>
      intro l hl
      cases h : (skipStep l).2.2 with
      | false => rw [fin_end l h]; exact step_le l
      | true =>
        have h1 := step_pos l h
        have h2 := step_le l
        omega
    | succ n ih =>
      intro l hl
      cases h : (skipStep l).2.2 with
      | false => rw [fin_end l h]; exact step_le l
      | true =>
        have h1 := step_pos l h
        have h2 := step_le l
        have h3 := ih (l.drop (skipStep l).1) (by rw [List.length_drop]; omega)
        rw [List.length_drop] at h3
        rw [fin_more l h]
        omega
  exact key _ l (Nat.le_refl _)

/-- How many line feeds. -/
def lfs (l : List UInt8) : Nat := l.countP fun c => c == 10
theorem lfs_append (a b : List UInt8) : lfs (a ++ b) = lfs a + lfs b := by simp [lfs]
theorem lfs_tl (P : Nat → Bool) (hP : P 10 = false) (l : List UInt8) : lfs (l.take (tl P l)) = 0 := by
  induction l with
  | nil => rfl
  | cons c l ih =>
    rw [tl_cons]
    split
    · rename_i h
      rw [List.take_succ_cons]
      unfold lfs at ih ⊢
      rw [List.countP_cons, ih, if_neg]
      intro hc
      have hc : c = 10 := by simpa using hc
      subst hc
      have : (10 : UInt8).toNat = 10 := rfl
      rw [this, hP] at h
      cases h
    · rfl
theorem lfs_eol (l : List UInt8) (h : (eolAt l).2.2 = true) : lfs (l.take (eolAt l).1) = (eolAt l).2.1 := by
  rcases eol_cases l with ⟨rfl, h1⟩ | ⟨r, rfl, h1⟩ | ⟨rfl, h1⟩ | ⟨r, rfl, h1⟩ | ⟨_, h1⟩
  · rw [h1]; rfl
  · rw [h1]; rfl
  · rw [h1]; rfl
  · rw [h1]; rfl
  · rw [h1] at h; cases h
theorem take_add_drop (l : List UInt8) (a b : Nat) : l.take (a + b) = l.take a ++ (l.drop a).take b := List.take_add
theorem lfs_step (l : List UInt8) : lfs (l.take (skipStep l).1) = (skipStep l).2.1 := by
  have h0 := lfs_tl (doorF 0) (by decide) l
  unfold skipStep
  simp only
  split
  · exact h0
  · rename_i c r e
    split
    · have h2 := lfs_tl (doorF 11) (by decide) (c :: r)
      split
      · rename_i h3
        have h4 := lfs_eol _ h3
        simp only
        rw [Nat.add_assoc, take_add_drop, lfs_append, h0, e, take_add_drop, lfs_append, h2, h4]
        omega
      · rfl
    · split
      · rename_i h3
        have h4 := lfs_eol _ h3
        simp only
        rw [take_add_drop, lfs_append, h0, e, h4]
        omega
      · exact h0
theorem lfs_next (all : List UInt8) (p : Nat) : lfs (all.take (p + (skipStep (all.drop p)).1)) = lfs (all.take p) + (skipStep (all.drop p)).2.1 := by
  rw [take_add_drop, lfs_append, lfs_step]
theorem lfs_le (l : List UInt8) : lfs l ≤ l.length := List.countP_le_length
end Go.Proofs.YtejngpbeogaapaaDoor
