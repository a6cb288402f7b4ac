/-
  Rows of numbers of one kind, known as a function: arrays in a block of their own.
-/
import Derived.Test.YtlnidgkcgjlnaaaChg
import Derived.Deep.WholeRow
namespace Go.Proofs.Ytlnidgkcgjlnaaa
set_option linter.unusedVariables false
set_option linter.unusedSimpArgs false

/-- So many numbers of a kind, as cells. -/
def kArr (k : IntKind) (n : Nat) (f : Nat → Int) : Array Value := ((List.range n).map fun i => Value.int k (f i)).toArray
section
variable {k : IntKind} {n : Nat} {f f' : Nat → Int} {w w' : World} {g : Nat} {T : TypeId}
theorem kArr_size (k : IntKind) (n : Nat) (f : Nat → Int) : (kArr k n f).size = n := by simp [kArr]
theorem kArr_get {i : Nat} (hi : i < n) : (kArr k n f)[i]? = some (.int k (f i)) := by simp [kArr, hi]
theorem kArr_none {i : Nat} (hi : n ≤ i) : (kArr k n f)[i]? = none := by simp [kArr, hi]
theorem kArr_congr (h : ∀ i, i < n → f i = f' i) : kArr k n f = kArr k n f' := by
  unfold kArr; congr 1; apply List.map_congr_left; intro i hi; rw [h i (List.mem_range.1 hi)]
def updI (f : Nat → Int) (j : Nat) (x : Int) : Nat → Int := fun i => if i = j then x else f i
theorem updI_at (f : Nat → Int) (j : Nat) (x : Int) : updI f j x j = x := if_pos rfl
theorem updI_ne (f : Nat → Int) {j i : Nat} (x : Int) (h : i ≠ j) : updI f j x i = f i := if_neg h
theorem kArr_upd (f : Nat → Int) (j : Nat) (x : Int) : (kArr k n f).setIfInBounds j (.int k x) = kArr k n (updI f j x) := by
  apply Array.ext_getElem?
  intro i
  rw [Array.getElem?_setIfInBounds, kArr_size]
  rcases Nat.lt_or_ge i n with hi | hi
  · rw [kArr_get hi, kArr_get hi]
    by_cases hj : j = i
    · subst hj; rw [if_pos rfl, if_pos hi, updI_at]
    · rw [if_neg hj, updI_ne _ _ (fun e => hj e.symm)]
  · rw [kArr_none hi, kArr_none hi]
    by_cases hj : j = i
    · subst hj; rw [if_pos rfl, if_neg (by omega)]
    · rw [if_neg hj]
theorem add_succ (ad : Addr) (k : Nat) : ad.add (k + 1) = ⟨ad.block, ad.off + (k + 1), none⟩ := by unfold Addr.add; rw [if_neg (by omega)]
/-- A block that holds so many numbers. -/
def KAt (w : World) (g : Nat) (T : TypeId) (k : IntKind) (n : Nat) (f : Nat → Int) : Prop := Blk w g T (kArr k n f)
theorem KAt.lt (h : KAt w g T k n f) : g < w.heap.size := Blk.lt h
theorem KAt.cell (h : KAt w g T k n f) {i : Nat} (hi : i < n) : w.cell? ⟨g, i, none⟩ = some (.int k (f i)) := by rw [Blk.cell h]; exact kArr_get hi
theorem KAt.frozen (h : KAt w g T k n f) (i : Nat) : w.frozen? ⟨g, i, none⟩ = false := Blk.frozen h i
theorem KAt.put (h : KAt w g T k n f) (i : Nat) (x : Int) : KAt (w.setCell ⟨g, i, none⟩ (.int k x)) g T k n (updI f i x) := by
  have h2 := Blk.set_ h i (.int k x)
  rw [kArr_upd] at h2
  exact h2
theorem KAt.far (h : KAt w g T k n f) {p : Addr} (hne : g ≠ p.block) (u : Value) : KAt (w.setCell p u) g T k n f := Blk.far h hne u
theorem KAt.chg {S : List Nat} (h : KAt w g T k n f) (hc : Chg S w w') (hg : g ∉ S) : KAt w' g T k n f := Blk.chg h hc hg
theorem KAt.alloc (h : KAt w g T k n f) (o : Obj) : KAt (w.alloc o) g T k n f := Blk.alloc h o
theorem KAt.drewN (h : KAt w g T k n f) (m : Nat) : KAt (w.drewN m) g T k n f := h
theorem KAt.congr (h : KAt w g T k n f) (he : ∀ i, i < n → f i = f' i) : KAt w g T k n f' := by unfold KAt; rw [← kArr_congr he]; exact h
end
end Go.Proofs.Ytlnidgkcgjlnaaa
