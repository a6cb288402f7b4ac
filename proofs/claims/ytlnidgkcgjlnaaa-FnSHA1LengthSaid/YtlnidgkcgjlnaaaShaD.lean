/-
  A digest's cells, as a function: the five words, the 64 bytes that wait, how many wait, how many came.
-/
import Derived.Test.YtlnidgkcgjlnaaaShaF
namespace Go.Proofs.Ytlnidgkcgjlnaaa
open Go.RowKit
set_option linter.unusedVariables false
set_option linter.unusedSimpArgs false

def digF (s : W5) (x : Nat → Int) (nx len : Int) (i : Nat) : Value :=
  if i = 0 then .int .u32 s.a else if i = 1 then .int .u32 s.b else if i = 2 then .int .u32 s.c else if i = 3 then .int .u32 s.d else if i = 4 then .int .u32 s.e
  else if i < 69 then .int .u8 (x (i - 5)) else if i = 69 then .int .i64 nx else .int .u64 len
/-- A digest's cells. -/
def digC (s : W5) (x : Nat → Int) (nx len : Int) : Array Value := ((List.range 71).map (digF s x nx len)).toArray
section
variable {s v : W5} {x y : Nat → Int} {nx len : Int}
theorem digC_size : (digC s x nx len).size = 71 := by simp [digC]
theorem digC_get {i : Nat} (h : i < 71) : (digC s x nx len)[i]? = some (digF s x nx len i) := by simp [digC, h]
theorem digF_x {i : Nat} (h : i < 64) : digF s x nx len (5 + i) = .int .u8 (x i) := by
  unfold digF
  rw [if_neg (by omega), if_neg (by omega), if_neg (by omega), if_neg (by omega), if_neg (by omega), if_pos (by omega), Nat.add_sub_cancel_left]
theorem digC_x {i : Nat} (h : i < 64) : (digC s x nx len)[5 + i]? = some (.int .u8 (x i)) := by rw [digC_get (by omega), digF_x h]
theorem digC_h (s : W5) (x : Nat → Int) (nx len : Int) : (digC s x nx len)[0]? = some (.int .u32 s.a) ∧ (digC s x nx len)[1]? = some (.int .u32 s.b) ∧ (digC s x nx len)[2]? = some (.int .u32 s.c) ∧ (digC s x nx len)[3]? = some (.int .u32 s.d) ∧ (digC s x nx len)[4]? = some (.int .u32 s.e) :=
  ⟨digC_get (by omega), digC_get (by omega), digC_get (by omega), digC_get (by omega), digC_get (by omega)⟩
theorem digC_n (s : W5) (x : Nat → Int) (nx len : Int) : (digC s x nx len)[69]? = some (.int .i64 nx) ∧ (digC s x nx len)[70]? = some (.int .u64 len) := ⟨digC_get (by omega), digC_get (by omega)⟩
theorem digC_eq {cs : Array Value} (hs : cs.size = 71) (h : ∀ i, i < 71 → cs[i]? = some (digF s x nx len i)) : cs = digC s x nx len := by
  apply Array.ext_getElem?
  intro i
  rcases Nat.lt_or_ge i 71 with hi | hi
  · rw [h i hi, digC_get hi]
  · rw [Array.getElem?_eq_none (by omega), Array.getElem?_eq_none (by rw [digC_size]; omega)]
theorem digC_set_h (a b c d e : Int) : (((((digC s x nx len).setIfInBounds 0 (.int .u32 a)).setIfInBounds 1 (.int .u32 b)).setIfInBounds 2 (.int .u32 c)).setIfInBounds 3 (.int .u32 d)).setIfInBounds 4 (.int .u32 e) = digC ⟨a, b, c, d, e⟩ x nx len := by
  refine digC_eq (by simp [digC_size]) fun i hi => ?_
  simp only [Array.getElem?_setIfInBounds, Array.size_setIfInBounds, digC_size]
  rcases (by omega : i = 0 ∨ i = 1 ∨ i = 2 ∨ i = 3 ∨ i = 4 ∨ 5 ≤ i) with rfl | rfl | rfl | rfl | rfl | h
  · rfl
  · rfl
  · rfl
  · rfl
  · rfl
  · rw [if_neg (by omega), if_neg (by omega), if_neg (by omega), if_neg (by omega), if_neg (by omega), digC_get hi]
    unfold digF
    rw [if_neg (by omega), if_neg (by omega), if_neg (by omega), if_neg (by omega), if_neg (by omega), if_neg (show ¬ i = 0 by omega), if_neg (show ¬ i = 1 by omega), if_neg (show ¬ i = 2 by omega), if_neg (show ¬ i = 3 by omega), if_neg (show ¬ i = 4 by omega)]
theorem digC_set_nx (n : Int) : (digC s x nx len).setIfInBounds 69 (.int .i64 n) = digC s x n len := by
  refine digC_eq (by simp [digC_size]) fun i hi => ?_
  simp only [Array.getElem?_setIfInBounds, digC_size]
  rcases (by omega : i = 69 ∨ i ≠ 69) with rfl | h
  · rfl
  · rw [if_neg (by omega), digC_get hi]
    unfold digF
    rw [if_neg h, if_neg h]
theorem digC_set_len (n : Int) : (digC s x nx len).setIfInBounds 70 (.int .u64 n) = digC s x nx n := by
  refine digC_eq (by simp [digC_size]) fun i hi => ?_
  simp only [Array.getElem?_setIfInBounds, digC_size]
  rcases (by omega : i = 70 ∨ i ≠ 70) with rfl | h
  · rfl
  · rw [if_neg (by omega), digC_get hi]
    unfold digF
    rcases (by omega : i < 69 ∨ i = 69) with h2 | h2
    · rw [if_pos h2, if_pos h2]
    · rw [if_pos h2, if_pos h2]
end
/-- A digest in a block of its own. -/
def Dig (w : World) (d : Nat) (s : W5) (x : Nat → Int) (nx len : Int) : Prop := Blk w d 94 (digC s x nx len)
section
variable {w w' : World} {d : Nat} {s v : W5} {x y : Nat → Int} {nx len : Int}
theorem Dig.lt (h : Dig w d s x nx len) : d < w.heap.size := Blk.lt h
theorem Dig.chg {S : List Nat} (h : Dig w d s x nx len) (hc : Chg S w w') (hd : d ∉ S) : Dig w' d s x nx len := Blk.chg h hc hd
theorem Dig.ext (h : Dig w d s x nx len) (hx : Ext w w') : Dig w' d s x nx len := Blk.below h hx (Blk.lt h)
theorem Dig.far (h : Dig w d s x nx len) {p : Addr} (hne : d ≠ p.block) (u : Value) : Dig (w.setCell p u) d s x nx len := Blk.far h hne u
theorem Dig.h (h : Dig w d s x nx len) : w.cell? ⟨d, 0, none⟩ = some (.int .u32 s.a) ∧ w.cell? ⟨d, 1, none⟩ = some (.int .u32 s.b) ∧ w.cell? ⟨d, 2, none⟩ = some (.int .u32 s.c) ∧ w.cell? ⟨d, 3, none⟩ = some (.int .u32 s.d) ∧ w.cell? ⟨d, 4, none⟩ = some (.int .u32 s.e) := by
  obtain ⟨h0, h1, h2, h3, h4⟩ := digC_h s x nx len
  exact ⟨(Blk.cell h 0).trans h0, (Blk.cell h 1).trans h1, (Blk.cell h 2).trans h2, (Blk.cell h 3).trans h3, (Blk.cell h 4).trans h4⟩
theorem Dig.n (h : Dig w d s x nx len) : w.cell? ⟨d, 69, none⟩ = some (.int .i64 nx) ∧ w.cell? ⟨d, 70, none⟩ = some (.int .u64 len) := by
  obtain ⟨h0, h1⟩ := digC_n s x nx len
  exact ⟨(Blk.cell h 69).trans h0, (Blk.cell h 70).trans h1⟩
theorem Dig.xx (h : Dig w d s x nx len) {i : Nat} (hi : i < 64) : w.cell? ⟨d, 5 + i, none⟩ = some (.int .u8 (x i)) := (Blk.cell h (5 + i)).trans (digC_x hi)
theorem Dig.set_h (h : Dig w d s x nx len) (a b c dd e : Int) : Dig (((((w.setCell ⟨d, 0, none⟩ (.int .u32 a)).setCell ⟨d, 1, none⟩ (.int .u32 b)).setCell ⟨d, 2, none⟩ (.int .u32 c)).setCell ⟨d, 3, none⟩ (.int .u32 dd)).setCell ⟨d, 4, none⟩ (.int .u32 e)) d ⟨a, b, c, dd, e⟩ x nx len := by
  have h2 := ((((Blk.set_ h 0 (.int .u32 a)).set_ 1 (.int .u32 b)).set_ 2 (.int .u32 c)).set_ 3 (.int .u32 dd)).set_ 4 (.int .u32 e)
  rw [digC_set_h] at h2
  exact h2
theorem Dig.set_nx (h : Dig w d s x nx len) (n : Int) : Dig (w.setCell ⟨d, 69, none⟩ (.int .i64 n)) d s x n len := by
  have h2 := Blk.set_ h 69 (.int .i64 n)
  rw [digC_set_nx] at h2
  exact h2
theorem Dig.set_len (h : Dig w d s x nx len) (n : Int) : Dig (w.setCell ⟨d, 70, none⟩ (.int .u64 n)) d s x nx n := by
  have h2 := Blk.set_ h 70 (.int .u64 n)
  rw [digC_set_len] at h2
  exact h2
end
end Go.Proofs.Ytlnidgkcgjlnaaa
