/-
  readMore, ensure1, ensure: so many bytes are there, or all that there are.
-/
import Derived.Test.YtejngpbeogaapaaDoorDecF
import Derived.Deep.LoopGhost
namespace Go.Proofs.YtejngpbeogaapaaDoor
open Go.RowKit
set_option linter.unusedVariables false
set_option linter.unusedSimpArgs false

theorem readMore_any (B d : Nat) (S : List Nat) (rd : Value) (A : Option Addr) (cap r0 r1 : Nat) (sec : Int) (sk : Bool) (esc : Value) (line : Int) (er : Value) (L rest : List UInt8) (f : Nat) (w : World) (ad : Addr)
    (h : DecAt w B d S rd A cap r0 r1 false sec sk esc line er L rest f) (hE : EofAt w B ad) :
    Calls Tryd.prog 90 #[.pointer (some ⟨d, 0, none⟩)] w (MoreP w B d S r0 r1 sec sk esc line er L rest f) := by
  rcases h.mode with ⟨h1, _⟩ | ⟨_, g, rfl, hR, hgS, hgd, hcap, hm⟩
  · cases h1
  · rcases hm with ⟨rfl, rfl⟩ | ⟨k, Lc, rfl, hk, hLc, hLt, hkS, hkd, hkg⟩
    · have h0 := h.le0
      have h1 := h.le1
      have h2 := h.lec
      obtain rfl : L = [] := List.eq_nil_of_length_eq_zero (by omega)
      obtain rfl : r1 = 0 := by simpa using h1
      obtain rfl : r0 = 0 := by omega
      rcases rest with _ | ⟨c, rest⟩
      · exact readMore_first_end B d g S sec sk esc line er ad f w h hR hgS hgd hE
      · exact readMore_first_some B d g S sec sk esc line er rest c f w h hR hgS hgd
    · by_cases hroom : 4096 ≤ cap - L.length
      · rcases rest with _ | ⟨c, rest⟩
        · exact readMore_room_end B d g k S cap r0 r1 sec sk esc line er L Lc f w ad h hR hgS hgd hkd hkS hcap hroom hE
        · exact readMore_room_some B d g k S cap r0 r1 sec sk esc line er L Lc rest c f w h hR hgS hgd hcap hk hLc hLt hkS hkd hkg hroom
      · rcases rest with _ | ⟨c, rest⟩
        · exact readMore_grow_end B d g k S cap r0 r1 sec sk esc line er L f w ad h hR hgS hgd hcap hkS hkd hkg (by omega) hE
        · exact readMore_grow_some B d g k S cap r0 r1 sec sk esc line er L rest c f w h hR hgS hgd hcap hkS hkd hkg (by omega)

/-- The decoder: all is what stands behind its r0, p of it are gone by, av are in the buffer. -/
def Dec (w : World) (B d : Nat) (S : List Nat) (all : List UInt8) (p av : Nat) (cp : Bool) (sec : Int) (sk : Bool) (esc : Value) (line : Int) (er : Value) (f : Nat) : Prop :=
  ∃ rd A cap r0 L rest, DecAt w B d S rd A cap r0 (r0 + p) cp sec sk esc line er L rest f ∧ all = L.drop r0 ++ rest ∧ L.length = r0 + av
/-- What ensure leaves. -/
def EnsP (w : World) (B d : Nat) (S : List Nat) (all : List UInt8) (p av n : Nat) (sec : Int) (sk : Bool) (esc : Value) (line : Int) (er : Value) (w' : World) : Prop :=
  ∃ S' av' cp' f', Dec w' B d S' all p av' cp' sec sk esc line er f' ∧ av ≤ av' ∧ (p + n ≤ all.length → p + n ≤ av') ∧ (all.length < p + n → av' = all.length) ∧ Chg S w w' ∧ ∀ i ∈ S', i ∈ S ∨ w.heap.size ≤ i

theorem Dec.le {w : World} {B d : Nat} {S : List Nat} {all : List UInt8} {p av : Nat} {cp : Bool} {sec : Int} {sk : Bool} {esc : Value} {line : Int} {er : Value} {f : Nat} (h : Dec w B d S all p av cp sec sk esc line er f) : p ≤ av ∧ av ≤ all.length ∧ all.length ≤ 1048576 ∧ (cp = true → av = all.length) := by
  obtain ⟨rd, A, cap, r0, L, rest, h1, rfl, h3⟩ := h
  have h4 := h1.le1
  have h5 := h1.tot
  have h6 := h1.le0
  rw [List.length_append, List.length_drop]
  refine ⟨by omega, by omega, by omega, fun hc => ?_⟩
  rcases h1.mode with ⟨_, h7⟩ | ⟨h7, _⟩
  · subst h7; simp; omega
  · rw [h7] at hc; cases hc
theorem Dec.bS {w : World} {B d : Nat} {S : List Nat} {all : List UInt8} {p av : Nat} {cp : Bool} {sec : Int} {sk : Bool} {esc : Value} {line : Int} {er : Value} {f : Nat} (h : Dec w B d S all p av cp sec sk esc line er f) : ∀ i ∈ S, B ≤ i := by
  obtain ⟨rd, A, cap, r0, L, rest, h1, _⟩ := h
  exact h1.bS
theorem Dec.drewN {w : World} {B d : Nat} {S : List Nat} {all : List UInt8} {p av : Nat} {cp : Bool} {sec : Int} {sk : Bool} {esc : Value} {line : Int} {er : Value} {f : Nat} (h : Dec w B d S all p av cp sec sk esc line er f) (n : Nat) : Dec (w.drewN n) B d S all p av cp sec sk esc line er f := by
  obtain ⟨rd, A, cap, r0, L, rest, h1, h2⟩ := h
  exact ⟨rd, A, cap, r0, L, rest, h1.drewN n, h2⟩
/-- What ensure reads of the decoder. -/
theorem Dec.cells {w : World} {B d : Nat} {S : List Nat} {all : List UInt8} {p av : Nat} {cp : Bool} {sec : Int} {sk : Bool} {esc : Value} {line : Int} {er : Value} {f : Nat} (h : Dec w B d S all p av cp sec sk esc line er f) :
    ∃ A cap r0 r1 len, w.cell? ⟨d, 1, none⟩ = some (.slice A len cap) ∧ w.cell? ⟨d, 2, none⟩ = some (.int .i64 (r0 : Nat)) ∧ w.cell? ⟨d, 3, none⟩ = some (.int .i64 (r1 : Nat)) ∧ w.cell? ⟨d, 4, none⟩ = some (.bool cp) ∧ Hid (r1 = r0 + p ∧ len = r0 + av ∧ len ≤ 1048576 ∧ len ≤ cap) := by
  obtain ⟨rd, A, cap, r0, L, rest, h1, h2, h3⟩ := h
  have c1 := h1.blk.cell 1
  have c2 := h1.blk.cell 2
  have c3 := h1.blk.cell 3
  have c4 := h1.blk.cell 4
  simp only [List.getElem?_toArray, List.getElem?_cons_zero, List.getElem?_cons_succ] at c1 c2 c3 c4
  exact ⟨A, cap, r0, r0 + p, L.length, c1, c2, c3, c4, hide ⟨rfl, h3, by have := h1.tot; omega, h1.lec⟩⟩

/-- readMore, told so. -/
def MoreD (w : World) (B d : Nat) (S : List Nat) (all : List UInt8) (p av : Nat) (sec : Int) (sk : Bool) (esc : Value) (line : Int) (er : Value) (f : Nat) (e : Ending) (w' : World) : Prop :=
  e = .returned (.tuple #[]) ∧ ∃ S' av' cp' f', Dec w' B d S' all p av' cp' sec sk esc line er f' ∧ av ≤ av' ∧ (cp' = false → f' < f) ∧ Chg S w w' ∧ ∀ i ∈ S', i ∈ S ∨ w.heap.size ≤ i
theorem readMore_dec (B d : Nat) (S : List Nat) (all : List UInt8) (p av : Nat) (sec : Int) (sk : Bool) (esc : Value) (line : Int) (er : Value) (f : Nat) (w : World) (ad : Addr)
    (h : Dec w B d S all p av false sec sk esc line er f) (hE : EofAt w B ad) :
    Calls Tryd.prog 90 #[.pointer (some ⟨d, 0, none⟩)] w (MoreD w B d S all p av sec sk esc line er f) := by
  obtain ⟨rd, A, cap, r0, L, rest, h1, rfl, h3⟩ := h
  refine (readMore_any B d S rd A cap r0 (r0 + p) sec sk esc line er L rest f w ad h1 hE).mono ?_
  rintro e w' ⟨he, S', rd', A', cap', r0', r1', cp', L', rest', f', g1, g2, g3, g4, g5, g6, g7⟩
  have e1 : r1' = r0' + p := by omega
  subst e1
  have hl := g1.le1
  have hlen : L'.length = r0' + (L'.length - r0') := by omega
  refine ⟨he, S', L'.length - r0', cp', f', ⟨rd', A', cap', r0', L', rest', g1, g3.symm, hlen⟩, ?_, g5, g6, g7⟩
  rw [List.length_drop, List.length_drop] at g4
  omega

set_option maxRecDepth 100000 in
set_option maxHeartbeats 2000000 in
theorem ensure1_any (B d : Nat) (S : List Nat) (all : List UInt8) (p av n : Nat) (cp : Bool) (sec : Int) (sk : Bool) (esc : Value) (line : Int) (er : Value) (f : Nat) (w : World) (ad : Addr)
    (h : Dec w B d S all p av cp sec sk esc line er f) (hE : EofAt w B ad) (hn : av < p + n) (hn2 : n ≤ 4194304) :
    Calls Tryd.prog 77 #[.pointer (some ⟨d, 0, none⟩), .int .i64 n] w fun e w' => e = .returned (.bool (decide (p + n ≤ all.length))) ∧ EnsP w B d S all p av n sec sk esc line er w' := by
  have H := hide h
  have HE := hide hE
  have HN := hide hn
  clear h hE hn
  go_enter Tryd.func77, Tryd.ntmps77
  go_wp2
  go_loopg [4] (f + 1) (fun g s4 wx => s4 = .bool false ∧ ∃ S' av' cp' f', Dec wx B d S' all p av' cp' sec sk esc line er f' ∧ av ≤ av' ∧ av' < p + n ∧ Chg S w wx ∧ (∀ i ∈ S', i ∈ S ∨ w.heap.size ≤ i) ∧ (cp' = false → f' < g))
  case atStart => exact ⟨rfl, S, av, cp, f, H.out, Nat.le_refl _, HN.out, Chg.refl _ _, fun i hi => .inl hi, fun _ => by omega⟩
  case round =>
    obtain ⟨rfl, S', av', cp', f', hD, ha, hlt, hC, hnew, hg⟩ := hrel
    obtain ⟨A, cap, r0, r1, len, c1, c2, c3, c4, hx⟩ := hD.cells
    cases cp' with
    | true =>
      have X : Hid (decide (p + n ≤ all.length) = false ∧ EnsP w B d S all p av n sec sk esc line er wr) := hide (by
        have hl := hD.le
        have := hl.2.2.2 rfl
        exact ⟨decide_eq_false (by omega), S', av', true, f', hD, ha, fun h => by omega, fun _ => this, hC, hnew⟩)
      clear hD ha hlt hC hnew hg hx
      go_wp2
      go_ret
      exact ⟨by rw [X.out.1]; rfl, X.out.2⟩
    | false =>
      have CALL := hide (readMore_dec B d S' all p av' sec sk esc line er f' wr ad hD (HE.out.chg hC (fun i hi => H.out.bS i hi)))
      have Y := hide (And.intro ha (And.intro hC (And.intro hnew (hg rfl))))
      clear hD ha hlt hC hnew hg hx c1 c2 c3
      go_wp2_with fail
      refine CALL.out.mono ?_
      rintro e w2 ⟨rfl, S2, av2, cp2, f2, hD2, ha2, hf2, hC2, hnew2⟩
      obtain ⟨A2, cap2, r02, r12, len2, b1, b2, b3, b4, hx2⟩ := hD2.cells
      have Z : Hid (Dec w2 B d S2 all p av2 cp2 sec sk esc line er f2 ∧ av ≤ av2 ∧ Chg S w w2 ∧ (∀ i ∈ S2, i ∈ S ∨ w.heap.size ≤ i) ∧ (cp2 = false → f2 < f') ∧ f' < gk) := hide (by
        obtain ⟨y1, y2, y3, y4⟩ := Y.out
        refine ⟨hD2, by omega, y2.then hC2 y3, fun i hi => ?_, hf2, y4⟩
        rcases hnew2 i hi with h5 | h5
        · exact y3 i h5
        · exact .inr (Nat.le_trans y2.size h5))
      have hx3 := hx2.out
      have hl2 := hD2.le
      have HD2 := hide hD2
      clear CALL Y hD2 ha2 hf2 hC2 hnew2 c4 hx2
      by_cases hen : p + n ≤ av2
      · have i1 : (r12 : Int) + (n : Int) ≤ (len2 : Int) := by omega
        have X : Hid (decide (p + n ≤ all.length) = true ∧ ∀ nq, EnsP w B d S all p av n sec sk esc line er (w2.drewN nq)) := hide (by
          obtain ⟨z1, z2, z3, z4, z5, z6⟩ := Z.out
          exact ⟨decide_eq_true (by omega), fun nq => ⟨S2, av2, cp2, f2, z1.drewN nq, z2, fun _ => hen, fun h => by omega, z3.drewN nq, z4⟩⟩)
        have i2 : (r12 : Int) + (n : Int) ≤ 8388608 := by omega
        clear hx3 hl2 HD2 Z
        go_wp2
        go_quiet (fail)
        go_wp2
        go_ret
        exact ⟨by rw [X.out.1]; rfl, X.out.2 nq⟩
      · have i1 : ¬ (r12 : Int) + (n : Int) ≤ (len2 : Int) := by omega
        have i2 : (r12 : Int) + (n : Int) ≤ 8388608 := by omega
        have hen2 : av2 < p + n := by omega
        clear hx3 hl2 HD2
        go_wp2
        go_quiet (fail)
        go_wp2
        go_roundg f'
        case measure => exact Z.out.2.2.2.2.2
        case rel =>
          obtain ⟨z1, z2, z3, z4, z5, z6⟩ := Z.out
          exact ⟨rfl, S2, av2, cp2, f2, z1.drewN nq, z2, hen2, z3.drewN nq, z4, z5⟩

set_option maxRecDepth 100000 in
set_option maxHeartbeats 1000000 in
theorem ensure_any (B d : Nat) (S : List Nat) (all : List UInt8) (p av n : Nat) (cp : Bool) (sec : Int) (sk : Bool) (esc : Value) (line : Int) (er : Value) (f : Nat) (w : World) (ad : Addr)
    (h : Dec w B d S all p av cp sec sk esc line er f) (hE : EofAt w B ad) (hn2 : n ≤ 4194304) :
    Calls Tryd.prog 44 #[.pointer (some ⟨d, 0, none⟩), .int .i64 n] w fun e w' => e = .returned (.bool (decide (p + n ≤ all.length))) ∧ EnsP w B d S all p av n sec sk esc line er w' := by
  obtain ⟨A, cap, r0, r1, len, c1, c2, c3, c4, hx⟩ := h.cells
  have hx3 := hx.out
  have hl := h.le
  have i2 : (r1 : Int) + (n : Int) ≤ 8388608 := by omega
  by_cases hen : p + n ≤ av
  · have i1 : (r1 : Int) + (n : Int) ≤ (len : Int) := by omega
    have X : Hid (decide (p + n ≤ all.length) = true ∧ ∀ nq, EnsP w B d S all p av n sec sk esc line er (w.drewN nq)) := hide
      ⟨decide_eq_true (by omega), fun nq => ⟨S, av, cp, f, h.drewN nq, Nat.le_refl _, fun _ => hen, fun h => by omega, (Chg.refl S w).drewN nq, fun i hi => .inl hi⟩⟩
    clear h hE hx hx3 hl
    go_enter Tryd.func44, Tryd.ntmps44
    go_wp2
    go_quiet (fail)
    go_wp2
    go_ret
    exact ⟨by rw [X.out.1]; rfl, X.out.2 nq⟩
  · have i1 : ¬ (r1 : Int) + (n : Int) ≤ (len : Int) := by omega
    have CALL : Hid (∀ nq, Calls Tryd.prog 77 #[.pointer (some ⟨d, 0, none⟩), .int .i64 n] (w.drewN nq) fun e w' => e = .returned (.bool (decide (p + n ≤ all.length))) ∧ EnsP (w.drewN nq) B d S all p av n sec sk esc line er w') := hide fun nq =>
      ensure1_any B d S all p av n cp sec sk esc line er f _ ad (h.drewN nq) (hE.chg ((Chg.refl [] w).drewN nq) (by simp)) (by omega) hn2
    clear h hE hx hx3 hl
    generalize decide (p + n ≤ all.length) = V at CALL ⊢
    go_enter Tryd.func44, Tryd.ntmps44
    go_wp2
    go_quiet (fail)
    go_wp2_with fail
    refine (CALL.out nq).mono ?_
    rintro e w2 ⟨rfl, hP⟩
    have HP := hide hP
    clear hP CALL
    go_wp2
    go_ret
    obtain ⟨S', av', cp', f', g1, g2, g3, g4, g5, g6⟩ := HP.out
    exact ⟨rfl, S', av', cp', f', g1, g2, g3, g4, ((Chg.refl S w).drewN nq).trans g5, g6⟩
end Go.Proofs.YtejngpbeogaapaaDoor
