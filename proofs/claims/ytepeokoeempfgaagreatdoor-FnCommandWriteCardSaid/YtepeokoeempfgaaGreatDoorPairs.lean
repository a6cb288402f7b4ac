/-
  The keys among pairs, and behind STREAMS: the program's and the specification's.
-/
import Derived.Test.YtepeokoeempfgaaGreatDoorTexts
namespace Go.Proofs.YtepeokoeempfgaaGreatDoor
open Go.RowKit
set_option linter.unusedVariables false
set_option linter.unusedSimpArgs false

def pairsOf (l : List ByteArray) : List ByteArray := (List.range (l.length / 2)).map fun k => l.getD (2 * k) ⟨#[]⟩
theorem pairsOf_length (l : List ByteArray) : (pairsOf l).length = l.length / 2 := by simp [pairsOf]
theorem pairsOf_get (l : List ByteArray) (k : Nat) (h : k < (pairsOf l).length) : ∃ h2 : 2 * k < l.length, (pairsOf l)[k] = l[2 * k] := by
  rw [pairsOf_length] at h
  have h2 : 2 * k < l.length := by omega
  refine ⟨h2, ?_⟩
  simp [pairsOf, h2]
theorem take_snoc1 {α : Type} (l : List α) (k : Nat) (h : k < l.length) : l.take (k + 1) = l.take k ++ [l[k]] := List.take_succ_eq_append_getElem h

theorem below_of_grown {w w' : World} {base : Nat} {e : TypeId} {size n : Nat} {v : Value} {xs : List Value} (hown : w.ownsRow base e size v n xs) (hg : w.grownBy w' v.ownBlock) (hb : base ≤ w.heap.size) : Below base w w' :=
  ⟨hg.os, hg.tape, hg.output, hg.size, fun i hi => hg.block i (by omega) (fun hne => by
    rcases hown.2 with ⟨rfl, _⟩ | ⟨g, cap, cur, rfl, hbg, _⟩
    · simp [Value.ownBlock] at hne
    · simp [Value.ownBlock] at hne
      omega)⟩
theorem own_slice {w : World} {base : Nat} {e : TypeId} {size n : Nat} {v : Value} {xs : List Value} (hown : w.ownsRow base e size v n xs) : ∃ A c, v = .slice A n c ∧ n ≤ c ∧ c ≤ maxLen ∧ ∀ ad, A = some ad → base ≤ ad.block := by
  rcases hown.2 with ⟨rfl, h⟩ | ⟨g, cap, cur, rfl, hbg, _, h1, h2, _⟩
  · have : n = 0 := h
    subst this
    exact ⟨none, 0, rfl, Nat.le_refl _, Nat.zero_le _, by simp⟩
  · exact ⟨_, cap, rfl, h1, h2, fun ad had => by injection had with had; subst had; exact hbg⟩
theorem rs_of_own {w : World} {base : Nat} {A : Option Addr} {c : Nat} {l : List ByteArray} (h : w.ownsRow base 9 1 (.slice A l.length c) l.length (ss l)) : RS w A l := Reads.of_own h

/-- 'append(v, s)' onto a slice of the call's own. -/
theorem append1_str (base : Nat) (w : World) (v : Value) (l : List ByteArray) (s : ByteArray) (hown : w.ownsRow base 9 1 v l.length (ss l)) (hb : base ≤ w.heap.size) (hl : l.length ≤ 1000000) (n : Nat) (hn : w.heap.size = n) :
    ∃ v' w', (Builtin.append_ #[22, 22] 22 #[v, .slice (some ⟨n, 0, none⟩) 1 1]).run Tryz.prog (w.alloc (.cells #[.string s] 9)) = .ok v' w' ∧ w'.ownsRow base 9 1 v' (l ++ [s]).length (ss (l ++ [s])) ∧ Below base w w' := by
  subst hn
  obtain ⟨i0, hi, hz0, hz1, hz2⟩ := info_parts info_str
  obtain ⟨v', w', h1, h2, h3, -⟩ := run_append_own (P := Tryz.prog) (w.alloc (.cells #[.string s] 9)) base 22 22 9 i0 _ 1 16 Tryz.underlying22 hi hz0 hz1 hz2 rfl (by omega) v l.length (ss l) (hown.alloc _)
    ⟨w.heap.size, 0, none⟩ 1 1 [.string s] rfl (fun j u hu => by
      have : j = 0 := by
        have := (List.getElem?_eq_some_iff.1 hu).1
        simp at this; omega
      subst this
      simp at hu
      subst hu
      have ha : (⟨w.heap.size, 0, none⟩ : Addr).add 0 = ⟨w.heap.size, 0, none⟩ := by unfold Addr.add; simp
      rw [ha, (Blk.new w _ _).cell]; rfl) (by simp [Value.oneCell']) (by unfold maxLen; omega) (by omega) (by simp; omega)
  refine ⟨v', w', h1, ?_, ?_⟩
  · rw [List.length_append, ss_append]
    exact h2
  · exact ((Below.refl base w).alloc hb _).trans (below_of_grown (hown.alloc _) h3 (by simp; omega))

end Go.Proofs.YtepeokoeempfgaaGreatDoor
