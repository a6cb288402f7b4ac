/-
  A frame with a list of blocks that may change; bytes in a block known whole. Over any program. Nothing is assumed.
-/
import Derived.Test.YtlnidgkcgjlnaaaOps
import Derived.StillTail
import Derived.Laws.CopyRow
namespace Go.Proofs.Ytlnidgkcgjlnaaa
open Go.RowKit

/-- Only the blocks of S may have changed, and there may be new ones. -/
structure Chg (S : List Nat) (w w' : World) : Prop where
  os : w'.os = w.os
  tape : w'.tape = w.tape
  output : w'.output = w.output
  size : w.heap.size ≤ w'.heap.size
  block : ∀ k, k < w.heap.size → k ∉ S → w'.heap[k]? = w.heap[k]?

theorem Chg.refl (S : List Nat) (w : World) : Chg S w w := ⟨rfl, rfl, rfl, Nat.le_refl _, fun _ _ _ => rfl⟩
theorem Chg.trans {S : List Nat} {a b c : World} (h : Chg S a b) (k : Chg S b c) : Chg S a c :=
  ⟨k.os.trans h.os, k.tape.trans h.tape, k.output.trans h.output, Nat.le_trans h.size k.size, fun i hi hn => (k.block i (Nat.lt_of_lt_of_le hi h.size) hn).trans (h.block i hi hn)⟩
/-- S' may hold new blocks besides. -/
theorem Chg.then {S S' : List Nat} {a b c : World} (h : Chg S a b) (k : Chg S' b c) (hs : ∀ i ∈ S', i ∈ S ∨ a.heap.size ≤ i) : Chg S a c :=
  ⟨k.os.trans h.os, k.tape.trans h.tape, k.output.trans h.output, Nat.le_trans h.size k.size, fun i hi hn => (k.block i (Nat.lt_of_lt_of_le hi h.size) (fun hm => by
    rcases hs i hm with h1 | h1
    · exact hn h1
    · omega)).trans (h.block i hi hn)⟩
theorem Chg.more {S S' : List Nat} {a b : World} (h : Chg S a b) (hs : ∀ i ∈ S, i ∈ S' ∨ a.heap.size ≤ i) : Chg S' a b := (Chg.refl S' a).then h hs
theorem Chg.of_ext {a b : World} (h : Ext a b) (S : List Nat) : Chg S a b := ⟨h.os, h.tape, h.output, h.size, fun i hi _ => h.block i hi⟩
theorem Chg.ext {S : List Nat} {a b : World} (h : Chg S a b) (hs : ∀ i ∈ S, a.heap.size ≤ i) : Ext a b :=
  ⟨h.os, h.tape, h.output, h.size, fun i hi => h.block i hi (fun hm => by have := hs i hm; omega)⟩
theorem Chg.below {S : List Nat} {a b : World} {B : Nat} (h : Chg S a b) (hs : ∀ i ∈ S, B ≤ i) (hB : B ≤ a.heap.size) : Below B a b :=
  ⟨h.os, h.tape, h.output, h.size, fun i hi => h.block i (by omega) (fun hm => by have := hs i hm; omega)⟩
theorem Chg.drew {S : List Nat} {a b : World} (h : Chg S a b) : Chg S a b.drew := ⟨h.os, h.tape, h.output, h.size, h.block⟩
theorem Chg.drewN {S : List Nat} {a b : World} (h : Chg S a b) (n : Nat) : Chg S a (b.drewN n) := ⟨h.os, h.tape, h.output, h.size, h.block⟩
theorem Chg.alloc {S : List Nat} {a b : World} (h : Chg S a b) (o : Obj) : Chg S a (b.alloc o) := h.trans (Chg.of_ext ((Ext.refl b).alloc o) S)
theorem Chg.setCell {S : List Nat} {a b : World} (h : Chg S a b) {p : Addr} (hp : p.block ∈ S ∨ a.heap.size ≤ p.block) (u : Value) : Chg S a (b.setCell p u) :=
  ⟨h.os, h.tape, h.output, by simpa [World.setCell] using h.size, fun i hi hn => (Below.heap_setCell b p u i (by
    rintro rfl
    rcases hp with hp | hp
    · exact hn hp
    · omega)).trans (h.block i hi hn)⟩
theorem heap_setRow (w : World) (g i : Nat) (cs : Array Value) (h : i ≠ g) : (w.setRow g cs).heap[i]? = w.heap[i]? := by
  show (w.heap.modify g _)[i]? = _
  rw [Array.getElem?_modify, if_neg (fun e => h e.symm)]
theorem Chg.setRow {S : List Nat} {a b : World} (h : Chg S a b) {g : Nat} (hp : g ∈ S ∨ a.heap.size ≤ g) (cs : Array Value) : Chg S a (b.setRow g cs) :=
  ⟨h.os, h.tape, h.output, by show _ ≤ (b.heap.modify g _).size; rw [Array.size_modify]; exact h.size, fun i hi hn => (heap_setRow b g i cs (by
    rintro rfl
    rcases hp with hp | hp
    · exact hn hp
    · omega)).trans (h.block i hi hn)⟩

section
variable {w w' : World} {g : Nat} {t : TypeId} {cs : Array Value}
theorem Blk.chg {S : List Nat} (h : Blk w g t cs) (hc : Chg S w w') (hg : g ∉ S) : Blk w' g t cs := (hc.block g h.lt hg).trans h
theorem Blk.setRow_ (h : Blk w g t cs) (cs' : Array Value) : Blk (w.setRow g cs') g t cs' := by
  unfold Blk at h ⊢
  show (w.heap.modify g _)[g]? = _
  rw [Array.getElem?_modify, if_pos rfl, h]; rfl
theorem Blk.setRow_far (h : Blk w g t cs) {g' : Nat} (hg : g ≠ g') (cs' : Array Value) : Blk (w.setRow g' cs') g t cs := (heap_setRow w g' g cs' hg).trans h
theorem Blk.new_at (w : World) (t : TypeId) (cs : Array Value) {k : Nat} (hk : w.heap.size = k) : Blk (w.alloc (.cells cs t)) k t cs := by subst hk; exact Blk.new w t cs
theorem Reads.chg {S : List Nat} {B size n : Nat} {A : Option Addr} {xs : List Value} (h : Reads w B size A n xs) (hc : Chg S w w') (hS : ∀ i ∈ S, B ≤ i) (hB : B ≤ w.heap.size) : Reads w' B size A n xs :=
  h.below (hc.below hS hB)
theorem cell_chg {S : List Nat} {p : Addr} {v : Value} (h : w.cell? p = some v) (hc : Chg S w w') (hp : p.block ∉ S) : w'.cell? p = some v := by
  have hlt : p.block < w.heap.size := by
    rcases Nat.lt_or_ge p.block w.heap.size with h1 | h1
    · exact h1
    · simp [World.cell?, Array.getElem?_eq_none h1] at h
  rw [World.cell?_of_block (hc.block p.block hlt hp)]; exact h
end

theorem RBytes.far {w w' : World} {A : Option Addr} {l : List UInt8} (h : RBytes w A l) (hk : ∀ ad, A = some ad → w'.heap[ad.block]? = w.heap[ad.block]?) (hs : w.heap.size ≤ w'.heap.size) : RBytes w' A l :=
  ⟨h.1, fun hn => by
    obtain ⟨ad, e, hb, hc⟩ := h.2 hn
    exact ⟨ad, e, by omega, fun j u hu => (World.cell?_of_block (a := ad.add j) (by rw [block_of_add]; exact hk ad e)).trans (hc j u hu)⟩⟩
theorem RBytes.chg {w w' : World} {A : Option Addr} {l : List UInt8} {S : List Nat} (h : RBytes w A l) (hc : Chg S w w') (hS : ∀ ad, A = some ad → ad.block ∉ S) : RBytes w' A l :=
  ⟨h.1, fun hn => by
    obtain ⟨ad, e, hb, hcell⟩ := h.2 hn
    exact ⟨ad, e, Nat.lt_of_lt_of_le hb hc.size, fun j u hu => (World.cell?_of_block (a := ad.add j) (by rw [block_of_add]; exact hc.block _ hb (hS ad e))).trans (hcell j u hu)⟩⟩

/-- A row of cells that can be written: no frozen place among them (the row of a conversion bears a mark behind its end). -/
def Row (w : World) (g : Nat) (t : TypeId) (cs : Array Value) : Prop := ∃ fz : Nat × Nat, (fz = (0, 0) ∨ cs.size ≤ fz.1) ∧ w.heap[g]? = some (.cells cs t fz)
section
variable {w w' : World} {g : Nat} {t : TypeId} {cs : Array Value}
theorem Blk.row (h : Blk w g t cs) : Row w g t cs := ⟨(0, 0), .inl rfl, h⟩
theorem Row.lt (h : Row w g t cs) : g < w.heap.size := by
  obtain ⟨fz, _, h⟩ := h
  rcases Nat.lt_or_ge g w.heap.size with hlt | hge
  · exact hlt
  · rw [Array.getElem?_eq_none hge] at h; cases h
theorem Row.cell (h : Row w g t cs) (i : Nat) : w.cell? ⟨g, i, none⟩ = cs[i]? := by
  obtain ⟨fz, _, h⟩ := h
  exact cell_of_row w g i cs t fz h
theorem Row.drew (h : Row w g t cs) : Row w.drew g t cs := h
theorem Row.drewN (h : Row w g t cs) (n : Nat) : Row (w.drewN n) g t cs := h
theorem Row.far (h : Row w g t cs) {p : Addr} (hp : g ≠ p.block) (u : Value) : Row (w.setCell p u) g t cs := by
  obtain ⟨fz, hf, h⟩ := h
  exact ⟨fz, hf, (Below.heap_setCell w p u g hp).trans h⟩
theorem Row.chg {S : List Nat} (h : Row w g t cs) (hc : Chg S w w') (hg : g ∉ S) : Row w' g t cs := by
  have hlt := h.lt
  obtain ⟨fz, hf, h⟩ := h
  exact ⟨fz, hf, (hc.block g hlt hg).trans h⟩
theorem Row.setRow_far (h : Row w g t cs) {g' : Nat} (hg : g ≠ g') (cs' : Array Value) : Row (w.setRow g' cs') g t cs := by
  obtain ⟨fz, hf, h⟩ := h
  exact ⟨fz, hf, (heap_setRow w g' g cs' hg).trans h⟩
theorem Row.setRow_ (h : Row w g t cs) (cs' : Array Value) (hs : cs'.size = cs.size) : Row (w.setRow g cs') g t cs' := by
  obtain ⟨fz, hf, h⟩ := h
  refine ⟨fz, by rw [hs]; exact hf, ?_⟩
  show (w.heap.modify g _)[g]? = _
  rw [Array.getElem?_modify, if_pos rfl, h]; rfl
end
theorem run_storeCells_row (P : Program) (g o : Nat) (t : TypeId) (fz : Nat × Nat) : ∀ (vs : List Value) (i : Nat) (cur : Array Value) (w : World), w.heap[g]? = some (.cells cur t fz) → (fz = (0, 0) ∨ cur.size ≤ fz.1) → o + i + vs.length ≤ cur.size → (∀ v ∈ vs, v.oneCell' = true) →
    (storeCells ⟨g, o, none⟩ vs i).run P w = .ok () (w.setRow g (cur.toList.take (o + i) ++ vs ++ cur.toList.drop (o + i + vs.length)).toArray)
  | [], i, cur, w, hg, _, _, _ => by
    simp only [storeCells, List.append_nil, List.length_nil, Nat.add_zero, List.take_append_drop, Array.toArray_toList]
    rw [setRow_self w g cur t fz hg]
    rfl
  | v :: rest, i, cur, w, hg, hfz, hl, h1 => by
    have hi : o + i < cur.size := by simp at hl; omega
    have hadd : (⟨g, o, none⟩ : Addr).add i = ⟨g, o + i, none⟩ := by unfold Addr.add; split <;> simp_all
    have hcell : w.cell? ⟨g, o + i, none⟩ = some cur[o + i] := by simp [World.cell?, hg, hi]
    have hfro : w.frozen? ⟨g, o + i, none⟩ = false := by
      obtain ⟨lo, hi'⟩ := fz
      simp only [World.frozen?, hg, Bool.and_eq_false_iff, decide_eq_false_iff_not]
      rcases hfz with hfz | hfz
      · injection hfz with e1 e2
        right; omega
      · left; simp only at hfz; omega
    have hst : (store ((⟨g, o, none⟩ : Addr).add i) v).run P w = .ok () (w.setRow g (cur.setIfInBounds (o + i) v)) := by
      rw [hadd, run_store P w _ v _ (h1 v (by simp)), hcell]
      simp [hfro, setCell_eq_setRow w g (o + i) cur t fz v hg]
    have ih := run_storeCells_row P g o t fz rest (i + 1) (cur.setIfInBounds (o + i) v) (w.setRow g (cur.setIfInBounds (o + i) v)) (setRow_heap w g cur _ t _ hg) (by simpa using hfz) (by simp at hl ⊢; omega) (fun x hx => h1 x (by simp [hx]))
    simp only [storeCells, Sem.run_bind, hst, Result.andThen_ok, ih, setRow_setRow]
    congr 3
    have e := list_seg_step cur.toList (o + i) v rest (by simp at hl ⊢; omega)
    simpa [Array.toList_setIfInBounds, Nat.add_assoc] using e
theorem rbytes_of_row {w : World} {b : Nat} {t : TypeId} {cur : Array Value} {o : Nat} {l : List UInt8} (h : Row w b t cur) (hl : ∀ j (hj : j < l.length), cur[o + j]? = some (.int .u8 (l[j].toNat))) : RBytes w (some ⟨b, o, none⟩) l := by
  refine ⟨by simp [bs], fun _ => ⟨_, rfl, h.lt, fun j u hu => ?_⟩⟩
  have hj : j < l.length := by
    have := (List.getElem?_eq_some_iff.1 hu).1
    rwa [bs_length] at this
  rw [bs_getElem?, List.getElem?_eq_getElem hj] at hu
  simp at hu
  have ha : (⟨b, o, none⟩ : Addr).add j = ⟨b, o + j, none⟩ := by unfold Addr.add; split <;> simp_all
  rw [ha, h.cell, hl j hj, hu]

/-- A slice value over block b, from place o on: the bytes l; k cells in all in the block. -/
theorem rbytes_blk {w : World} {b : Nat} {t : TypeId} {cur : Array Value} {o : Nat} {l : List UInt8} (h : Blk w b t cur) (hl : ∀ j (hj : j < l.length), cur[o + j]? = some (.int .u8 (l[j].toNat))) : RBytes w (some ⟨b, o, none⟩) l := by
  refine ⟨by simp [bs], fun _ => ⟨_, rfl, h.lt, fun j u hu => ?_⟩⟩
  have hj : j < l.length := by
    have := (List.getElem?_eq_some_iff.1 hu).1
    rwa [bs_length] at this
  rw [bs_getElem?, List.getElem?_eq_getElem hj] at hu
  simp at hu
  have ha : (⟨b, o, none⟩ : Addr).add j = ⟨b, o + j, none⟩ := by unfold Addr.add; split <;> simp_all
  rw [ha, h.cell, hl j hj, hu]

section
variable {P : Program} {ops : Array Oper}
/-- An operation that is quiet over one world alone is still there. -/
theorem still_of_quiet {o : Oper} {a : Act} {w : World} {K : Act → Prop} (h : o.quiet P a (fun w' => w' = w) K) : o.still P a w K := by
  obtain ⟨v, hv, hk⟩ := h
  have h1 := hv w rfl
  unfold Oper.quietAt at h1
  unfold Oper.still
  generalize (execOp a.eval o).run P w = r at *
  cases r with
  | ok n w' =>
    cases n <;> simp only [Oper.quietUpon] at h1 <;> simp only [Oper.stillUpon]
    case value u =>
      obtain ⟨e1, e2⟩ := h1
      subst e1
      exact ⟨rfl, by rw [e2]; exact hk⟩
    case skip =>
      obtain ⟨e1, e2⟩ := h1
      subst e1
      exact ⟨rfl, by rw [← e2]; exact hk⟩
    case enter =>
      obtain ⟨e1, h2⟩ := h1
      exact ⟨e1, v, h2.mono fun _ _ h => ⟨h.1, h.2⟩, hk⟩
  | _ => exact h1.elim
theorem wpStill_of_quiet {w : World} {Q : Act → Prop} : ∀ {l : List Oper} {a : Act}, wpQuiet P ops (fun w' => w' = w) Q l a → wpStill P ops w Q l a
  | [], a, h => h
  | o :: rest, a, h => by
    unfold wpQuiet at h
    unfold wpStill
    split
    · rename_i hw
      rw [if_pos hw] at h
      have h2 := still_of_quiet h
      exact Oper.still_mono (fun a h => wpStill_of_quiet h) h2
    · rename_i hw
      rw [if_neg hw] at h
      exact wpStill_of_quiet h
/-- A region that draws its order: n operations that only read, and a tail that writes. -/
theorem wp_region_quiet_tail {id : Nat} {Q : Exit → Act → World → Prop} {a : Act} {w : World} {l : List Oper} (n : Nat) (hm : P.follows .mixedOrders = true) (hB : Region.lexTailB .any l.toArray n = true)
    (h : wpQuiet P l.toArray (fun w' => w' = w.drew) (fun a' => wpList P l.toArray Q (l.drop n) a' w.drew) (l.take n) a) : (Code.region id l.toArray true).wp P Q a w :=
  wp_region_still_tail n hm hB (wpStill_of_quiet h)
end
end Go.Proofs.Ytlnidgkcgjlnaaa
