/-
  The keys of a command: spec.Keys.
-/
import Derived.Test.YtepeokoeempfgaaGreatDoorPairs3
import Derived.Test.YtepeokoeempfgaaGreatDoorKeysW
namespace Go.Proofs.YtepeokoeempfgaaGreatDoor
open Go.RowKit
set_option linter.unusedVariables false
set_option linter.unusedSimpArgs false

def isUsage (s : ByteArray) : Bool := (upT s).toList == [85, 83, 65, 71, 69]
def kindOf (u : List UInt8) : Nat := if u = [66, 73, 84, 79, 80] then 1 else if u = [77, 69, 77, 79, 82, 89] then 2 else if u = [77, 83, 69, 84] then 3 else if u = [88, 73, 78, 70, 79] then 4 else if u = [88, 71, 82, 79, 85, 80] then 5 else if u = [88, 82, 69, 65, 68] then 6 else if u = [88, 82, 69, 65, 68, 71, 82, 79, 85, 80] then 7 else 0
/-- The keys of a command, its name in capitals. -/
def keysOf (u : List UInt8) (bare : Bool) (l : List ByteArray) : List ByteArray :=
  if l.length = 0 then [] else if bare then [] else
  match kindOf u with
  | 1 => if 1 < l.length then l.drop 1 else l.take 1
  | 2 => if 1 < l.length then (if isUsage (l.getD 0 ⟨#[]⟩) then (l.drop 1).take 1 else l.take 1) else l.take 1
  | 3 => pairsOf l
  | 4 => (l.drop 1).take 1
  | 5 => if 1 < l.length then (l.drop 1).take 1 else l.take 1
  | 6 => streamsOf l
  | 7 => streamsOf l
  | _ => l.take 1
theorem keys_nil {u : List UInt8} {b : Bool} {l : List ByteArray} (h : l.length = 0) : keysOf u b l = [] := by unfold keysOf; rw [if_pos h]
theorem keys_bare {u : List UInt8} {l : List ByteArray} : keysOf u true l = [] := by
  unfold keysOf
  split <;> rfl
theorem keys_kind {u : List UInt8} {l : List ByteArray} (h : ¬ l.length = 0) : keysOf u false l = (match kindOf u with
  | 1 => if 1 < l.length then l.drop 1 else l.take 1
  | 2 => if 1 < l.length then (if isUsage (l.getD 0 ⟨#[]⟩) then (l.drop 1).take 1 else l.take 1) else l.take 1
  | 3 => pairsOf l
  | 4 => (l.drop 1).take 1
  | 5 => if 1 < l.length then (l.drop 1).take 1 else l.take 1
  | 6 => streamsOf l
  | 7 => streamsOf l
  | _ => l.take 1) := by
  unfold keysOf
  rw [if_neg h]
  rfl
theorem kind_cases (u : List UInt8) : (u = [66, 73, 84, 79, 80] ∧ kindOf u = 1) ∨ (u = [77, 69, 77, 79, 82, 89] ∧ kindOf u = 2) ∨ (u = [77, 83, 69, 84] ∧ kindOf u = 3) ∨ (u = [88, 73, 78, 70, 79] ∧ kindOf u = 4) ∨ (u = [88, 71, 82, 79, 85, 80] ∧ kindOf u = 5) ∨ (u = [88, 82, 69, 65, 68] ∧ kindOf u = 6) ∨ (u = [88, 82, 69, 65, 68, 71, 82, 79, 85, 80] ∧ kindOf u = 7) ∨ (¬ u = [66, 73, 84, 79, 80] ∧ ¬ u = [77, 69, 77, 79, 82, 89] ∧ ¬ u = [77, 83, 69, 84] ∧ ¬ u = [88, 73, 78, 70, 79] ∧ ¬ u = [88, 71, 82, 79, 85, 80] ∧ ¬ u = [88, 82, 69, 65, 68] ∧ ¬ u = [88, 82, 69, 65, 68, 71, 82, 79, 85, 80] ∧ kindOf u = 0) := by
  by_cases h0 : u = [66, 73, 84, 79, 80]
  · exact .inl ⟨h0, by subst h0; rfl⟩
  by_cases h1 : u = [77, 69, 77, 79, 82, 89]
  · exact .inr (.inl ⟨h1, by subst h1; rfl⟩)
  by_cases h2 : u = [77, 83, 69, 84]
  · exact .inr (.inr (.inl ⟨h2, by subst h2; rfl⟩))
  by_cases h3 : u = [88, 73, 78, 70, 79]
  · exact .inr (.inr (.inr (.inl ⟨h3, by subst h3; rfl⟩)))
  by_cases h4 : u = [88, 71, 82, 79, 85, 80]
  · exact .inr (.inr (.inr (.inr (.inl ⟨h4, by subst h4; rfl⟩))))
  by_cases h5 : u = [88, 82, 69, 65, 68]
  · exact .inr (.inr (.inr (.inr (.inr (.inl ⟨h5, by subst h5; rfl⟩)))))
  by_cases h6 : u = [88, 82, 69, 65, 68, 71, 82, 79, 85, 80]
  · exact .inr (.inr (.inr (.inr (.inr (.inr (.inl ⟨h6, by subst h6; rfl⟩))))))
  exact .inr (.inr (.inr (.inr (.inr (.inr (.inr (⟨h0, h1, h2, h3, h4, h5, h6, by unfold kindOf; rw [if_neg h0, if_neg h1, if_neg h2, if_neg h3, if_neg h4, if_neg h5, if_neg h6]⟩)))))))

section
variable {w w1 : World} {ad : Addr} {l : List ByteArray} {n cap : Nat} {B : Nat → Prop}
theorem RetS.before {K : List ByteArray} {e : Ending} {w2 : World} (h : RetS w1 B K e w2) (hx : Ext w w1) : RetS w B K e w2 := by
  obtain ⟨A', c, h1, h2, h3, h4⟩ := h
  exact ⟨A', c, h1, h2, hx.trans h3, h4⟩
theorem ret_nil (hx : Ext w w1) : RetS w B [] (.returned (.slice none 0 0)) w1 := ⟨none, 0, rfl, RS.nil _ _, hx, Nat.le_refl _, Nat.zero_le _, by simp⟩
theorem ret_take (hR : RS w (some ad) l) (hn : l.length = n) (h1 : 1 ≤ n) (hc : n ≤ cap) (hm : cap ≤ maxLen) (hx : Ext w w1) (hB : B ad.block) : RetS w B (l.take 1) (.returned (.slice (some ad) 1 cap)) w1 := by
  have e : (l.take 1).length = 1 := by rw [List.length_take]; omega
  exact ⟨some ad, cap, by rw [e], (hR.take 1).ext hx, hx, by rw [e]; omega, hm, fun ad2 h => by injection h with h; rw [← h]; exact hB⟩
theorem ret_rest (hR : RS w (some ad) l) (hn : l.length = n) (h1 : 2 ≤ n) (hc : n ≤ cap) (hm : cap ≤ maxLen) (hx : Ext w w1) (hB : B ad.block) : RetS w B (l.drop 1) (.returned (.slice (some ⟨ad.block, ad.off + 1, none⟩) (n - 1) (cap - 1))) w1 := by
  have e : (l.drop 1).length = n - 1 := by rw [List.length_drop]; omega
  have h := hR.cut (k := 1) (cap := cap) (by omega) (by omega)
  rw [if_neg (by omega)] at h
  exact ⟨some (ad.add 1), cap - 1, by rw [e]; simp [Addr.add], h.ext hx, hx, by rw [e]; omega, by omega, fun ad2 h => by injection h with h; rw [← h, block_of_add]; exact hB⟩
theorem ret_mid (hR : RS w (some ad) l) (hn : l.length = n) (h1 : 2 ≤ n) (hc : n ≤ cap) (hm : cap ≤ maxLen) (hx : Ext w w1) (hB : B ad.block) : RetS w B ((l.drop 1).take 1) (.returned (.slice (some ⟨ad.block, ad.off + 1, none⟩) 1 (cap - 1))) w1 := by
  have e : ((l.drop 1).take 1).length = 1 := by rw [List.length_take, List.length_drop]; omega
  have h := (hR.cut (k := 1) (cap := cap) (by omega) (by omega)).take 1
  rw [if_neg (by omega)] at h
  exact ⟨some (ad.add 1), cap - 1, by rw [e]; simp [Addr.add], h.ext hx, hx, by rw [e]; omega, by omega, fun ad2 h => by injection h with h; rw [← h, block_of_add]; exact hB⟩
end

end Go.Proofs.YtepeokoeempfgaaGreatDoor
