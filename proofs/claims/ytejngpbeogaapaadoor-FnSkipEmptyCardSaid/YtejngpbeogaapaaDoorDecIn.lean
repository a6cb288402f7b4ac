/-
  The decoder behind some calls, as seen from a beginning: only its own blocks have changed. Contracts in these words.
-/
import Derived.Test.YtejngpbeogaapaaDoorFin
namespace Go.Proofs.YtejngpbeogaapaaDoor
open Go.RowKit
set_option linter.unusedVariables false
set_option linter.unusedSimpArgs false

/-- From the world w on: the decoder stands at p; of what is behind r0 at least lo bytes are in the buffer. -/
def DecIn (w : World) (B d : Nat) (S : List Nat) (all : List UInt8) (p lo : Nat) (sec : Int) (sk : Bool) (esc : Value) (line : Int) (er : Value) (w' : World) : Prop :=
  ∃ S' av' cp' f', Dec w' B d S' all p av' cp' sec sk esc line er f' ∧ lo ≤ av' ∧ Chg S w w' ∧ ∀ i ∈ S', i ∈ S ∨ w.heap.size ≤ i
/-- What stays: io.EOF, and where the own blocks lie. -/
structure DecB (w : World) (B : Nat) (S : List Nat) (ad : Addr) : Prop where
  eof : EofAt w B ad
  bS : ∀ i ∈ S, B ≤ i

section
variable {w w1 w2 : World} {B d : Nat} {S : List Nat} {all : List UInt8} {p lo : Nat} {sec : Int} {sk : Bool} {esc : Value} {line : Int} {er : Value} {ad : Addr}
theorem DecIn.start {av f : Nat} {cp : Bool} (h : Dec w B d S all p av cp sec sk esc line er f) : DecIn w B d S all p av sec sk esc line er w := ⟨S, av, cp, f, h, Nat.le_refl _, Chg.refl _ _, fun i hi => .inl hi⟩
theorem DecIn.ext (h : DecIn w B d S all p lo sec sk esc line er w1) (hx : Ext w1 w2) : DecIn w B d S all p lo sec sk esc line er w2 := by
  obtain ⟨S', av', cp', f', h1, h2, h3, h4⟩ := h
  exact ⟨S', av', cp', f', h1.ext hx, h2, h3.trans (Chg.of_ext hx S), h4⟩
theorem DecIn.weak {lo' : Nat} (h : DecIn w B d S all p lo sec sk esc line er w1) (hl : lo' ≤ lo) : DecIn w B d S all p lo' sec sk esc line er w1 := by
  obtain ⟨S', av', cp', f', h1, h2, h3, h4⟩ := h
  exact ⟨S', av', cp', f', h1, Nat.le_trans hl h2, h3, h4⟩
theorem DecIn.self (h : DecIn w B d S all p lo sec sk esc line er w1) : DecIn w B d S all p (max lo p) sec sk esc line er w1 := by
  obtain ⟨S', av', cp', f', h1, h2, h3, h4⟩ := h
  exact ⟨S', av', cp', f', h1, by have := h1.le; omega, h3, h4⟩
theorem DecIn.chg (h : DecIn w B d S all p lo sec sk esc line er w1) : Chg S w w1 := by
  obtain ⟨S', av', cp', f', h1, h2, h3, h4⟩ := h
  exact h3
theorem DecIn.le (h : DecIn w B d S all p lo sec sk esc line er w1) : p ≤ all.length ∧ lo ≤ all.length ∧ all.length ≤ 1048576 := by
  obtain ⟨S', av', cp', f', h1, h2, h3, h4⟩ := h
  have := h1.le
  omega
theorem DecIn.line_eq {line' : Int} (h : DecIn w B d S all p lo sec sk esc line er w1) (hl : line = line') : DecIn w B d S all p lo sec sk esc line' er w1 := by rw [← hl]; exact h
end

section
variable {w w1 : World} {B d : Nat} {S : List Nat} {all : List UInt8} {p lo : Nat} {sec : Int} {sk : Bool} {esc : Value} {line : Int} {er : Value} {ad : Addr}
theorem ensure_in (n : Nat) (hn : n ≤ 4194304) (h : DecIn w B d S all p lo sec sk esc line er w1) (hB : DecB w B S ad) :
    Calls Tryd.prog 44 #[.pointer (some ⟨d, 0, none⟩), .int .i64 n] w1 fun e w' => e = .returned (.bool (decide (p + n ≤ all.length))) ∧ DecIn w B d S all p (max lo (min all.length (p + n))) sec sk esc line er w' := by
  obtain ⟨S', av', cp', f', h1, h2, h3, h4⟩ := h
  refine (ensure_any B d S' all p av' n cp' sec sk esc line er f' w1 ad h1 (hB.eof.chg h3 hB.bS) hn).mono ?_
  rintro e w2 ⟨he, S2, av2, cp2, f2, g1, g2, g3, g4, g5, g6⟩
  exact ⟨he, S2, av2, cp2, f2, g1, by have := g1.le; omega, h3.then g5 h4, new_trans h4 g6 h3.size⟩
theorem take_in {fs : Nat → Bool} {F : Nat} {w2 : World} (h : DecIn w B d S all p lo sec sk esc line er w1) (hB : DecB w B S ad) (hx : Ext w1 w2) (hF : SetAt w2 F fs) (hN : w1.heap.size ≤ F) :
    Calls Tryd.prog 34 #[.pointer (some ⟨d, 0, none⟩), .pointer (some ⟨F, 0, none⟩)] w2 fun e w' => ∃ A cap, e = .returned (.slice A (tl fs (all.drop p)) cap) ∧ RBytes w' A ((all.drop p).take (tl fs (all.drop p))) ∧ p + tl fs (all.drop p) ≤ all.length ∧
      DecIn w B d S all (p + tl fs (all.drop p)) (min all.length (p + tl fs (all.drop p) + 1)) sec sk esc line er w' := by
  obtain ⟨S', av', cp', f', h1, h2, h3, h4⟩ := h
  refine (take_any B d F fs S' all p av' cp' sec sk esc line er f' w2 ad (h1.ext hx) ((hB.eof.chg h3 hB.bS).chg (Chg.of_ext hx []) (by simp)) hF (fun hm => by have := h1.lt F hm; omega)).mono ?_
  rintro e w3 ⟨S2, av2, cp2, f2, A, cap, he, hR, g1, g2, g3, g4, g5⟩
  have hl := tl_le fs (all.drop p)
  rw [List.length_drop] at hl
  have hle := h1.le
  have hp : (all.drop p).takeWhile (fun c => fs c.toNat) = (all.drop p).take (tl fs (all.drop p)) := List.prefix_iff_eq_take.1 (List.takeWhile_prefix _)
  rw [hp] at hR
  exact ⟨A, cap, he, hR, by omega, S2, av2, cp2, f2, g1, by
    have h5 : p + tl fs (all.drop p) < all.length → p + tl fs (all.drop p) < av2 := g5
    have h6 : p + tl fs (all.drop p) ≤ av2 := g1.le.1
    omega, h3.then ((Chg.of_ext hx S').trans g3) h4, new_trans h4 g4 (Nat.le_trans h3.size hx.sizes)⟩
/-- The byte at the place; 0 at the end. -/
def byteAt (all : List UInt8) (p : Nat) : UInt8 := all.getD p 0
theorem byteAt_in {all : List UInt8} {p : Nat} (h : p < all.length) : all.drop p = byteAt all p :: all.drop (p + 1) := by
  rw [List.drop_eq_getElem_cons h]
  congr 1
  unfold byteAt
  rw [List.getD_eq_getElem?_getD, List.getElem?_eq_getElem h]; rfl
theorem byteAt_out {all : List UInt8} {p : Nat} (h : all.length ≤ p) : byteAt all p = 0 := by
  unfold byteAt
  rw [List.getD_eq_getElem?_getD, List.getElem?_eq_none h]; rfl
theorem at_in' (k : Nat) (hk : k ≤ 1000) (h : DecIn w B d S all p lo sec sk esc line er w1) (hlo : min all.length (p + k + 1) ≤ lo) :
    Calls Tryd.prog 65 #[.pointer (some ⟨d, 0, none⟩), .int .i64 k] w1 fun e w' => e = .returned (.int .u8 (byteAt all (p + k)).toNat) ∧ Ext w1 w' := by
  obtain ⟨S', av', cp', f', h1, h2, h3, h4⟩ := h
  by_cases hp : p + k < all.length
  · have := at_in B d k S' all p av' cp' sec sk esc line er f' w1 h1 (by omega) hp
    have e : byteAt all (p + k) = all[p + k] := by
      unfold byteAt
      rw [List.getD_eq_getElem?_getD, List.getElem?_eq_getElem hp]; rfl
    rw [e]
    exact this
  · have := at_out B d k S' all p av' cp' sec sk esc line er f' w1 h1 (by have := h1.le; omega) hk
    rw [byteAt_out (by omega)]
    exact this
theorem advance_in (n : Nat) (h : DecIn w B d S all p lo sec sk esc line er w1) (hn : p + n ≤ lo) :
    Calls Tryd.prog 66 #[.pointer (some ⟨d, 0, none⟩), .int .i64 n] w1 fun e w' => e = .returned (.tuple #[]) ∧ DecIn w B d S all (p + n) lo sec sk esc line er w' := by
  obtain ⟨S', av', cp', f', h1, h2, h3, h4⟩ := h
  refine (advance_any B d n S' all p av' cp' sec sk esc line er f' w1 h1 (by omega)).mono ?_
  rintro e w2 ⟨he, g1, g2⟩
  exact ⟨he, S', av', cp', f', g1, h2, h3.then g2 h4, h4⟩
theorem takeEOL_in (h : DecIn w B d S all p lo sec sk esc line er w1) (hB : DecB w B S ad) (hl0 : 0 ≤ line) (hl1 : line ≤ 100000000) :
    Calls Tryd.prog 42 #[.pointer (some ⟨d, 0, none⟩)] w1 fun e w' => e = .returned (.bool (eolAt (all.drop p)).2.2) ∧ DecIn w B d S all (p + (eolAt (all.drop p)).1) lo sec sk esc (line + ((eolAt (all.drop p)).2.1 : Nat)) er w' := by
  obtain ⟨S', av', cp', f', h1, h2, h3, h4⟩ := h
  refine (takeEOL_any B d S' all p av' cp' sec sk esc line er f' w1 ad h1 (hB.eof.chg h3 hB.bS) hl0 hl1).mono ?_
  rintro e w2 ⟨he, S2, av2, cp2, f2, g1, g2, g3, g4⟩
  exact ⟨he, S2, av2, cp2, f2, g1, by omega, h3.then g3 h4, new_trans h4 g4 h3.size⟩
/-- r1 may be set to any place that is in the buffer. -/
theorem DecIn.seek (h : DecIn w B d S all p lo sec sk esc line er w1) :
    ∃ r0 : Nat, w1.cell? ⟨d, 2, none⟩ = some (.int .i64 (r0 : Nat)) ∧ w1.cell? ⟨d, 3, none⟩ = some (.int .i64 ((r0 + p : Nat) : Int)) ∧ w1.frozen? ⟨d, 3, none⟩ = false ∧ r0 + all.length ≤ 4194304 ∧
      Hid (∀ p', p' ≤ lo → DecIn w B d S all p' lo sec sk esc line er (w1.setCell ⟨d, 3, none⟩ (.int .i64 ((r0 + p' : Nat) : Int)))) := by
  obtain ⟨S', av', cp', f', h1, h2, h3, h4⟩ := h
  obtain ⟨r0, g1, g2, g3, g4, g5⟩ := h1.seek
  have hle := h1.le
  refine ⟨r0, g1, g2, g3, by omega, hide fun p' hp => ⟨S', av', cp', f', g5.out p' (by omega), h2, ?_, h4⟩⟩
  refine h3.setCell ?_ _
  rcases h4 d h1.dS with h5 | h5
  · exact .inl h5
  · exact .inr h5
theorem DecIn.lineAt (h : DecIn w B d S all p lo sec sk esc line er w1) :
    w1.cell? ⟨d, 8, none⟩ = some (.int .i64 line) ∧ w1.frozen? ⟨d, 8, none⟩ = false ∧ Hid (∀ line', DecIn w B d S all p lo sec sk esc line' er (w1.setCell ⟨d, 8, none⟩ (.int .i64 line'))) := by
  obtain ⟨S', av', cp', f', h1, h2, h3, h4⟩ := h
  obtain ⟨g1, g2, g3⟩ := h1.line
  refine ⟨g1, g2, hide fun line' => ⟨S', av', cp', f', g3 line', h2, ?_, h4⟩⟩
  refine h3.setCell ?_ _
  rcases h4 d h1.dS with h5 | h5
  · exact .inl h5
  · exact .inr h5
end
end Go.Proofs.YtejngpbeogaapaaDoor
