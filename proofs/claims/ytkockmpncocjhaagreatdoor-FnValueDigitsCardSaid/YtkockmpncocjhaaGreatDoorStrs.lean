/-
  Slices of strings: what they read as; one that came in; a copy by append.
-/
import Derived.Test.YtkockmpncocjhaaGreatDoorChg
import Derived.ProofKit
import Derived.OpenShut
import Derived.Carry
import Derived.SliceStrings
import Derived.Deep.AppendSrc
namespace Go.Proofs.YtkockmpncocjhaaGreatDoor
open Go.RowKit Go.ChangeShapes Go.WideShapes
set_option linter.unusedVariables false
set_option linter.unusedSimpArgs false

def ss (l : List ByteArray) : List Value := l.map .string
theorem ss_length (l : List ByteArray) : (ss l).length = l.length := by simp [ss]
theorem ss_getElem? (l : List ByteArray) (i : Nat) : (ss l)[i]? = l[i]?.map Value.string := by simp [ss]
theorem ss_drop (l : List ByteArray) (k : Nat) : ss (l.drop k) = (ss l).drop k := by simp [ss]
theorem ss_take (l : List ByteArray) (k : Nat) : ss (l.take k) = (ss l).take k := by simp [ss]
theorem ss_append (l m : List ByteArray) : ss (l ++ m) = ss l ++ ss m := by simp [ss]
theorem ss_one (l : List ByteArray) : ∀ u ∈ ss l, u.oneCell' = true := by
  intro u hu
  simp only [ss, List.mem_map] at hu
  obtain ⟨b, _, rfl⟩ := hu
  rfl

/-- A slice value that reads as strings. -/
def RS (w : World) (A : Option Addr) (l : List ByteArray) : Prop := Reads w w.heap.size 1 A l.length (ss l)
theorem RS.nil (w : World) (A : Option Addr) : RS w A [] := ⟨by simp [ss], fun h => absurd h (by simp)⟩
theorem RS.ext {w w' : World} {A : Option Addr} {l : List ByteArray} (h : RS w A l) (hx : Ext w w') : RS w' A l := (Reads.below h hx).more hx.sizes
theorem RS.chg {w w' : World} {A : Option Addr} {l : List ByteArray} {S : List Nat} (h : RS w A l) (hc : Chg S w w') (hS : ∀ ad, A = some ad → ad.block ∉ S) : RS w' A l :=
  ⟨h.1, fun hn => by
    obtain ⟨ad, e, hb, hcell⟩ := h.2 hn
    exact ⟨ad, e, Nat.lt_of_lt_of_le hb hc.size, fun j u hu => (World.cell?_of_block (a := ad.add j) (by rw [block_of_add]; exact hc.block _ hb (hS ad e))).trans (hcell j u hu)⟩⟩
theorem RS.addr {w : World} {A : Option Addr} {l : List ByteArray} (h : RS w A l) (hl : 0 < l.length) : ∃ ad, A = some ad ∧ ad.block < w.heap.size ∧ ∀ k (hk : k < l.length), w.cell? (ad.add k) = some (.string l[k]) := by
  obtain ⟨ad, e, hb, hc⟩ := h.2 hl
  refine ⟨ad, e, hb, fun k hk => hc k _ ?_⟩
  rw [ss_getElem?, List.getElem?_eq_getElem hk]; rfl
theorem RS.cut {w : World} {A : Option Addr} {l : List ByteArray} {k cap : Nat} (h : RS w A l) (hk : k ≤ l.length) (hc : l.length ≤ cap) : RS w (if cap = k then A else A.map (·.add k)) (l.drop k) := by
  have := Reads.cut h (k := k) (cap := cap) hk hc
  unfold RS
  rw [ss_drop]
  simpa using this
theorem RS.take {w : World} {A : Option Addr} {l : List ByteArray} (h : RS w A l) (k : Nat) : RS w A (l.take k) := by
  refine ⟨by simp [ss], fun hn => ?_⟩
  have hl : 0 < l.length := by simp at hn; omega
  obtain ⟨ad, e, hb, hc⟩ := h.2 hl
  refine ⟨ad, e, hb, fun j u hu => hc j u ?_⟩
  rw [ss_take, List.getElem?_take] at hu
  split at hu
  · exact hu
  · cases hu

theorem info_str : (Tryz.prog.info? 9).map (fun i => (i.zero, i.size, i.bytes)) = some (some (.string ⟨#[]⟩), 1, 16) := by kernel_rfl
end Go.Proofs.YtkockmpncocjhaaGreatDoor
