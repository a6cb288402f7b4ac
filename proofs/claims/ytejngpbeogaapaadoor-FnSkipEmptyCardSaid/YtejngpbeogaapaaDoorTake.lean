/-
  take: the bytes of a set.
-/
import Derived.Test.YtejngpbeogaapaaDoorEns
import Derived.Test.YtejngpbeogaapaaDoorDoorSetP
namespace Go.Proofs.YtejngpbeogaapaaDoor
open Go.RowKit
set_option linter.unusedVariables false
set_option linter.unusedSimpArgs false

theorem tw_next {l : List UInt8} {P : UInt8 → Bool} {j : Nat} (hj : j ≤ (l.takeWhile P).length) (hl : j < l.length) : (P l[j] = true → j + 1 ≤ (l.takeWhile P).length) ∧ (P l[j] = false → (l.takeWhile P).length = j) := by
  induction l generalizing j with
  | nil => simp at hl
  | cons c l ih =>
    cases hc : P c with
    | false =>
      rw [List.takeWhile_cons_of_neg (by simp [hc])] at hj ⊢
      obtain rfl : j = 0 := by simpa using hj
      simp [hc]
    | true =>
      rw [List.takeWhile_cons_of_pos hc] at hj ⊢
      rcases j with _ | j
      · simp [hc]
      · simp only [List.length_cons, List.getElem_cons_succ] at hj hl ⊢
        have := ih (j := j) (by omega) (by omega)
        exact ⟨fun h => by have := this.1 h; omega, fun h => by have := this.2 h; omega⟩
theorem tw_le (l : List UInt8) (P : UInt8 → Bool) : (l.takeWhile P).length ≤ l.length := (List.takeWhile_sublist P).length_le

theorem DecAt.ext {w w' : World} {B d : Nat} {S : List Nat} {rd : Value} {A : Option Addr} {cap r0 r1 : Nat} {cp : Bool} {sec : Int} {sk : Bool} {esc : Value} {line : Int} {er : Value} {L rest : List UInt8} {f : Nat}
    (h : DecAt w B d S rd A cap r0 r1 cp sec sk esc line er L rest f) (hx : Ext w w') : DecAt w' B d S rd A cap r0 r1 cp sec sk esc line er L rest f where
  blk := h.blk.chg (Chg.of_ext hx []) (by simp)
  le0 := h.le0
  le1 := h.le1
  lec := h.lec
  bytes := h.bytes.ext hx
  abl := h.abl
  dS := h.dS
  bS := h.bS
  lt := fun i hi => Nat.lt_of_lt_of_le (h.lt i hi) hx.sizes
  tot := h.tot
  mode := by
    rcases h.mode with h1 | ⟨h1, g, h2, h3, h4, h5, h6, h7⟩
    · exact .inl h1
    · refine .inr ⟨h1, g, h2, h3.chg (Chg.of_ext hx []) (by simp) (by simp), h4, h5, h6, ?_⟩
      rcases h7 with h7 | ⟨k, Lc, g1, g2, g3⟩
      · exact .inl h7
      · exact .inr ⟨k, Lc, g1, Row.chg g2 (Chg.of_ext hx []) (by simp), g3⟩
theorem Dec.ext {w w' : World} {B d : Nat} {S : List Nat} {all : List UInt8} {p av : Nat} {cp : Bool} {sec : Int} {sk : Bool} {esc : Value} {line : Int} {er : Value} {f : Nat} (h : Dec w B d S all p av cp sec sk esc line er f) (hx : Ext w w') : Dec w' B d S all p av cp sec sk esc line er f := by
  obtain ⟨rd, A, cap, r0, L, rest, h1, h2⟩ := h
  exact ⟨rd, A, cap, r0, L, rest, h1.ext hx, h2⟩

/-- Where a byte is there: the buffer and what of it has not been gone by. -/
theorem Dec.view {w : World} {B d : Nat} {S : List Nat} {all : List UInt8} {p av : Nat} {cp : Bool} {sec : Int} {sk : Bool} {esc : Value} {line : Int} {er : Value} {f : Nat} (h : Dec w B d S all p av cp sec sk esc line er f) (hav : p < av) :
    ∃ k cap r0 r1 len, w.cell? ⟨d, 1, none⟩ = some (.slice (some ⟨k, 0, none⟩) len cap) ∧ w.cell? ⟨d, 2, none⟩ = some (.int .i64 (r0 : Nat)) ∧ w.cell? ⟨d, 3, none⟩ = some (.int .i64 (r1 : Nat)) ∧ w.frozen? ⟨d, 3, none⟩ = false ∧
      Hid (r1 = r0 + p ∧ len = r0 + av ∧ len ≤ 1048576 ∧ len ≤ cap ∧ k ≠ d ∧ k ∈ S) ∧ Hid (∀ j (hj : p + j < av) (hj2 : p + j < all.length), w.cell? ⟨k, r1 + j, none⟩ = some (.int .u8 (all[p + j].toNat))) ∧
      Hid (∀ i, p + i ≤ av → Dec (w.setCell ⟨d, 3, none⟩ (.int .i64 ((r1 + i : Nat) : Int))) B d S all (p + i) av cp sec sk esc line er f) := by
  obtain ⟨rd, A, cap, r0, L, rest, h1, h2, h3⟩ := h
  have c1 := h1.blk.cell 1
  have c2 := h1.blk.cell 2
  have c3 := h1.blk.cell 3
  simp only [List.getElem?_toArray, List.getElem?_cons_zero, List.getElem?_cons_succ] at c1 c2 c3
  obtain ⟨a, hA, hlt, hcell⟩ := h1.bytes.addr (by omega)
  obtain ⟨k, rfl, hkd, hkS⟩ := h1.abl a hA
  subst hA
  refine ⟨k, cap, r0, r0 + p, L.length, c1, c2, c3, h1.blk.frozen 3, hide ⟨rfl, h3, by have := h1.tot; omega, h1.lec, hkd, hkS⟩, hide fun j hj hj2 => ?_, hide fun i hi => ?_⟩
  · have hL : r0 + p + j < L.length := by omega
    have h4 := hcell (r0 + p + j) hL
    have hadd : (⟨k, 0, none⟩ : Addr).add (r0 + p + j) = ⟨k, r0 + p + j, none⟩ := by unfold Addr.add; split <;> simp_all
    rw [hadd] at h4
    rw [h4]
    have e : all[p + j] = L[r0 + p + j] := by
      subst h2
      rw [List.getElem_append_left (by rw [List.length_drop]; omega), List.getElem_drop]
      congr 1; omega
    rw [e]
  · have hc : Chg [d] w (w.setCell ⟨d, 3, none⟩ (.int .i64 ((r0 + p + i : Nat) : Int))) := (Chg.refl _ _).setCell (.inl (by simp)) _
    refine ⟨rd, some ⟨k, 0, none⟩, cap, r0, L, rest, ⟨?_, by omega, by omega, h1.lec, h1.bytes.chg hc (by simpa using hkd), h1.abl, h1.dS, h1.bS, fun i hi => Nat.lt_of_lt_of_le (h1.lt i hi) hc.size, h1.tot, ?_⟩, h2, h3⟩
    · have := h1.blk.set_ 3 (.int .i64 ((r0 + p + i : Nat) : Int))
      rw [← Nat.add_assoc]
      simpa using this
    · rcases h1.mode with g1 | ⟨g1, g, g2, g3, g4, g5, g6, g7⟩
      · exact .inl g1
      · refine .inr ⟨g1, g, g2, g3.chg hc (by simpa using g5) (by simpa using h1.bS d h1.dS), g4, g5, g6, ?_⟩
        rcases g7 with g7 | ⟨k', Lc, e1, e2, e3, e4, e5, e6, e7⟩
        · exact .inl g7
        · exact .inr ⟨k', Lc, e1, Row.chg e2 hc (by simpa using e6), e3, e4, e5, e6, e7⟩

/-- What take leaves. -/
def TakeP (w : World) (B d : Nat) (S : List Nat) (all : List UInt8) (p av : Nat) (sec : Int) (sk : Bool) (esc : Value) (line : Int) (er : Value) (t : List UInt8) (e : Ending) (w' : World) : Prop :=
  ∃ S' av' cp' f' A cap, e = .returned (.slice A t.length cap) ∧ RBytes w' A t ∧ Dec w' B d S' all (p + t.length) av' cp' sec sk esc line er f' ∧ av ≤ av' ∧ Chg S w w' ∧ (∀ i ∈ S', i ∈ S ∨ w.heap.size ≤ i) ∧ (p + t.length < all.length → p + t.length < av')
end Go.Proofs.YtejngpbeogaapaaDoor
