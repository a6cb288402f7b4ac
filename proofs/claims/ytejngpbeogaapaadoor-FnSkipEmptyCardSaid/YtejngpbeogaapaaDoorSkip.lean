/-
  at, advance.
-/
import Derived.Test.YtejngpbeogaapaaDoorImplTake
namespace Go.Proofs.YtejngpbeogaapaaDoor
open Go.RowKit
set_option linter.unusedVariables false
set_option linter.unusedSimpArgs false

/-- r1 may be set to any place of the buffer. -/
theorem Dec.seek {w : World} {B d : Nat} {S : List Nat} {all : List UInt8} {p av : Nat} {cp : Bool} {sec : Int} {sk : Bool} {esc : Value} {line : Int} {er : Value} {f : Nat} (h : Dec w B d S all p av cp sec sk esc line er f) :
    ∃ r0 : Nat, w.cell? ⟨d, 2, none⟩ = some (.int .i64 (r0 : Nat)) ∧ w.cell? ⟨d, 3, none⟩ = some (.int .i64 ((r0 + p : Nat) : Int)) ∧ w.frozen? ⟨d, 3, none⟩ = false ∧ r0 + av ≤ 1048576 ∧
      Hid (∀ p', p' ≤ av → Dec (w.setCell ⟨d, 3, none⟩ (.int .i64 ((r0 + p' : Nat) : Int))) B d S all p' av cp sec sk esc line er f) := by
  obtain ⟨rd, A, cap, r0, L, rest, h1, h2, h3⟩ := h
  have c2 := h1.blk.cell 2
  have c3 := h1.blk.cell 3
  simp only [List.getElem?_toArray, List.getElem?_cons_zero, List.getElem?_cons_succ] at c2 c3
  refine ⟨r0, c2, c3, h1.blk.frozen 3, by have := h1.tot; omega, hide fun p' hp => ?_⟩
  have hc : Chg [d] w (w.setCell ⟨d, 3, none⟩ (.int .i64 ((r0 + p' : Nat) : Int))) := (Chg.refl _ _).setCell (.inl (by simp)) _
  refine ⟨rd, A, cap, r0, L, rest, ⟨?_, by omega, by omega, h1.lec, h1.bytes.chg hc (fun ad had => by obtain ⟨k, hk, hkd, _⟩ := h1.abl ad had; rw [hk]; simpa using hkd), h1.abl, h1.dS, h1.bS, fun i hi => Nat.lt_of_lt_of_le (h1.lt i hi) hc.size, h1.tot, ?_⟩, h2, h3⟩
  · have := h1.blk.set_ 3 (.int .i64 ((r0 + p' : Nat) : Int))
    simpa using this
  · rcases h1.mode with g1 | ⟨g1, g, g2, g3, g4, g5, g6, g7⟩
    · exact .inl g1
    · refine .inr ⟨g1, g, g2, g3.chg hc (by simpa using g5) (by simpa using h1.bS d h1.dS), g4, g5, g6, ?_⟩
      rcases g7 with g7 | ⟨k', Lc, e1, e2, e3, e4, e5, e6, e7⟩
      · exact .inl g7
      · exact .inr ⟨k', Lc, e1, Row.chg e2 hc (by simpa using e6), e3, e4, e5, e6, e7⟩

set_option maxRecDepth 100000 in
theorem advance_any (B d n : Nat) (S : List Nat) (all : List UInt8) (p av : Nat) (cp : Bool) (sec : Int) (sk : Bool) (esc : Value) (line : Int) (er : Value) (f : Nat) (w : World)
    (h : Dec w B d S all p av cp sec sk esc line er f) (hn : p + n ≤ av) :
    Calls Tryd.prog 66 #[.pointer (some ⟨d, 0, none⟩), .int .i64 n] w fun e w' => e = .returned (.tuple #[]) ∧ Dec w' B d S all (p + n) av cp sec sk esc line er f ∧ Chg S w w' := by
  obtain ⟨r0, c2, c3, c4, hb, hs⟩ := h.seek
  have D := hide (hs.out (p + n) hn)
  have C : Hid (Chg S w (w.setCell ⟨d, 3, none⟩ (.int .i64 ((r0 + (p + n) : Nat) : Int)))) := hide ((Chg.refl _ _).setCell (.inl h.dS) _)
  obtain ⟨r1, hr1⟩ : ∃ r1, r1 = r0 + p := ⟨_, rfl⟩
  rw [← hr1] at c3
  rw [← Nat.add_assoc, ← hr1, Int.natCast_add] at D C
  have hb2 : (r1 : Int) + (n : Int) ≤ 1048576 := by omega
  clear hr1 hs h c2 hb hn
  go_enter Tryd.func66, Tryd.ntmps66
  go_wp2
  exact bodyPost_end (results_none rfl _ _ _) rfl ⟨rfl, D.out, C.out⟩

set_option maxRecDepth 100000 in
theorem at_in (B d k : Nat) (S : List Nat) (all : List UInt8) (p av : Nat) (cp : Bool) (sec : Int) (sk : Bool) (esc : Value) (line : Int) (er : Value) (f : Nat) (w : World)
    (h : Dec w B d S all p av cp sec sk esc line er f) (hn : p + k < av) (hn2 : p + k < all.length) :
    Calls Tryd.prog 65 #[.pointer (some ⟨d, 0, none⟩), .int .i64 k] w fun e w' => e = .returned (.int .u8 (all[p + k].toNat)) ∧ Ext w w' := by
  obtain ⟨b, cap, r0, r1, m, c1, c2, c3, hx, hv⟩ := h.view2 (by omega)
  obtain ⟨x1, x2, x3⟩ := hx.out
  have hcell := (hv.out w (Ext.refl w)).2.2.1 k hn2 hn
  generalize all[p + k] = c at hcell ⊢
  have i1 : k < m := by omega
  have i2 : (r1 : Int) + (k : Int) ≤ 1048576 := by omega
  have i3 : (r1 : Int) + (k : Int) < (r1 : Int) + (m : Int) := by omega
  clear hv hx h x1 hn hn2 c2
  go_enter Tryd.func65, Tryd.ntmps65
  go_wp2
  go_quiet (fail)
  go_wp2
  generalize nq = nq1
  go_quiet (fail)
  go_wp2
  go_ret
  exact ⟨rfl, ((Ext.refl w).drewN _).drewN _⟩

set_option maxRecDepth 100000 in
theorem at_out (B d k : Nat) (S : List Nat) (all : List UInt8) (p av : Nat) (cp : Bool) (sec : Int) (sk : Bool) (esc : Value) (line : Int) (er : Value) (f : Nat) (w : World)
    (h : Dec w B d S all p av cp sec sk esc line er f) (hn : av ≤ p + k) (hk : k ≤ 1000) :
    Calls Tryd.prog 65 #[.pointer (some ⟨d, 0, none⟩), .int .i64 k] w fun e w' => e = .returned (.int .u8 0) ∧ Ext w w' := by
  obtain ⟨A, cap, r0, r1, len, c1, c2, c3, c4, hx⟩ := h.cells
  obtain ⟨x1, x2, x3, x4⟩ := hx.out
  have hle := h.le
  have i2 : (r1 : Int) + (k : Int) ≤ 8388608 := by omega
  have i3 : ¬ (r1 : Int) + (k : Int) < (len : Int) := by omega
  clear hx h x1 x2 x3 x4 hn c2 c4 hle
  go_enter Tryd.func65, Tryd.ntmps65
  go_wp2
  go_quiet (fail)
  go_wp2
  go_ret
  exact ⟨rfl, (Ext.refl w).drewN _⟩

/-- The line's number may be set. -/
theorem Dec.line {w : World} {B d : Nat} {S : List Nat} {all : List UInt8} {p av : Nat} {cp : Bool} {sec : Int} {sk : Bool} {esc : Value} {line : Int} {er : Value} {f : Nat} (h : Dec w B d S all p av cp sec sk esc line er f) :
    w.cell? ⟨d, 8, none⟩ = some (.int .i64 line) ∧ w.frozen? ⟨d, 8, none⟩ = false ∧ ∀ line', Dec (w.setCell ⟨d, 8, none⟩ (.int .i64 line')) B d S all p av cp sec sk esc line' er f := by
  obtain ⟨rd, A, cap, r0, L, rest, h1, h2, h3⟩ := h
  have c8 := h1.blk.cell 8
  simp only [List.getElem?_toArray, List.getElem?_cons_zero, List.getElem?_cons_succ] at c8
  refine ⟨c8, h1.blk.frozen 8, fun line' => ?_⟩
  have hc : Chg [d] w (w.setCell ⟨d, 8, none⟩ (.int .i64 line')) := (Chg.refl _ _).setCell (.inl (by simp)) _
  refine ⟨rd, A, cap, r0, L, rest, ⟨?_, h1.le0, h1.le1, h1.lec, h1.bytes.chg hc (fun ad had => by obtain ⟨k, hk, hkd, _⟩ := h1.abl ad had; rw [hk]; simpa using hkd), h1.abl, h1.dS, h1.bS, fun i hi => Nat.lt_of_lt_of_le (h1.lt i hi) hc.size, h1.tot, ?_⟩, h2, h3⟩
  · have := h1.blk.set_ 8 (.int .i64 line')
    simpa using this
  · rcases h1.mode with g1 | ⟨g1, g, g2, g3, g4, g5, g6, g7⟩
    · exact .inl g1
    · refine .inr ⟨g1, g, g2, g3.chg hc (by simpa using g5) (by simpa using h1.bS d h1.dS), g4, g5, g6, ?_⟩
      rcases g7 with g7 | ⟨k', Lc, e1, e2, e3, e4, e5, e6, e7⟩
      · exact .inl g7
      · exact .inr ⟨k', Lc, e1, Row.chg e2 hc (by simpa using e6), e3, e4, e5, e6, e7⟩
end Go.Proofs.YtejngpbeogaapaaDoor
