/-
  takeEOL: the end of a line.
-/
import Derived.Test.YtejngpbeogaapaaDoorSkip
namespace Go.Proofs.YtejngpbeogaapaaDoor
open Go.RowKit
set_option linter.unusedVariables false
set_option linter.unusedSimpArgs false

/-- The end of a line at the head of what is left: so many bytes, so many lines, whether it is one. -/
def eolAt : List UInt8 → Nat × Nat × Bool
  | [] => (0, 0, true)
  | c :: r => if c = 10 then (1, 1, true) else if c = 13 then (match r with
    | [] => (1, 0, true)
    | c2 :: _ => if c2 = 10 then (2, 1, true) else (0, 0, false)) else (0, 0, false)

/-- What takeEOL leaves. -/
def EolP (w : World) (B d : Nat) (S : List Nat) (all : List UInt8) (p av : Nat) (sec : Int) (sk : Bool) (esc : Value) (line : Int) (er : Value) (x : Nat × Nat × Bool) (e : Ending) (w' : World) : Prop :=
  e = .returned (.bool x.2.2) ∧ ∃ S' av' cp' f', Dec w' B d S' all (p + x.1) av' cp' sec sk esc (line + (x.2.1 : Nat)) er f' ∧ av ≤ av' ∧ Chg S w w' ∧ ∀ i ∈ S', i ∈ S ∨ w.heap.size ≤ i

theorem new_trans {S S1 S2 : List Nat} {n m : Nat} (h1 : ∀ i ∈ S1, i ∈ S ∨ n ≤ i) (h2 : ∀ i ∈ S2, i ∈ S1 ∨ m ≤ i) (hnm : n ≤ m) : ∀ i ∈ S2, i ∈ S ∨ n ≤ i := fun i hi => by
  rcases h2 i hi with h | h
  · exact h1 i h
  · exact .inr (Nat.le_trans hnm h)

set_option maxRecDepth 100000 in
set_option maxHeartbeats 2000000 in
theorem takeEOL_any (B d : Nat) (S : List Nat) (all : List UInt8) (p av : Nat) (cp : Bool) (sec : Int) (sk : Bool) (esc : Value) (line : Int) (er : Value) (f : Nat) (w : World) (ad : Addr)
    (h : Dec w B d S all p av cp sec sk esc line er f) (hE : EofAt w B ad) (hl0 : 0 ≤ line) (hl1 : line ≤ 100000000) :
    Calls Tryd.prog 42 #[.pointer (some ⟨d, 0, none⟩)] w (EolP w B d S all p av sec sk esc line er (eolAt (all.drop p))) := by
  generalize hxx : eolAt (all.drop p) = x
  have HXX := hide hxx
  clear hxx
  have E1 := hide (ensure_any B d S all p av 1 cp sec sk esc line er f w ad h hE (by omega))
  have HE := hide (And.intro hE h.bS)
  clear h hE
  by_cases hp : p + 1 ≤ all.length
  · rw [decide_eq_true hp] at E1
    have hd : all.drop p = all[p] :: all.drop (p + 1) := List.drop_eq_getElem_cons (by omega)
    generalize hc : all[p] = c at hd
    by_cases h10 : c = 10
    · subst h10
      have X : eolAt (all.drop p) = (1, 1, true) := by rw [hd]; simp [eolAt]
      have HXE := hide (HXX.out.symm.trans X)
      go_enter Tryd.func42, Tryd.ntmps42
      go_wp2_with fail
      refine E1.out.mono ?_
      rintro e w2 ⟨rfl, S2, av2, cp2, f2, hD2, ha2, hav2, _, hC2, hnew2⟩
      have hv2 := hav2 hp
      have AT := at_in B d 0 S2 all p av2 cp2 sec sk esc line er f2 w2 hD2 (by omega) (by omega)
      have e0 : all[p + 0]'(by omega) = (10 : UInt8) := hc
      rw [e0] at AT
      have HAT := hide AT
      have Z := hide (And.intro hD2 (And.intro ha2 (And.intro hC2 (And.intro hnew2 hv2))))
      clear AT hD2 ha2 hav2 hC2 hnew2 hv2 E1 hd hc e0 X
      go_wp2_with fail
      refine HAT.out.mono ?_
      rintro e w3 ⟨rfl, hx3⟩
      have HADV := hide (advance_any B d 1 S2 all p _ _ sec sk esc line er _ w3 (Z.out.1.ext hx3) Z.out.2.2.2.2)
      have HX3 := hide hx3
      clear hx3 HAT
      go_wp2_with fail
      refine HADV.out.mono ?_
      rintro e w4 ⟨rfl, hD4, hC4⟩
      obtain ⟨l1, l2, l3⟩ := hD4.line
      have R : Hid (EolP w B d S all p av sec sk esc line er x (.returned (.bool true)) (w4.setCell ⟨d, 8, none⟩ (.int .i64 (line + 1)))) := hide (by
        rw [HXE.out]
        obtain ⟨z1, z2, z3, z4, z5⟩ := Z.out
        refine ⟨rfl, S2, _, _, _, l3 (line + 1), z2, z3.then (((Chg.of_ext HX3.out S2).trans hC4).setCell (.inl hD4.dS) _) z4, z4⟩)
      clear hD4 hC4 l3 HADV Z HX3
      go_wp2
      go_ret
      exact R.out
    · by_cases h13 : c = 13
      · subst h13
        go_enter Tryd.func42, Tryd.ntmps42
        go_wp2_with fail
        refine E1.out.mono ?_
        rintro e w2 ⟨rfl, S2, av2, cp2, f2, hD2, ha2, hav2, _, hC2, hnew2⟩
        have hv2 := hav2 hp
        have AT := at_in B d 0 S2 all p av2 cp2 sec sk esc line er f2 w2 hD2 (by omega) (by omega)
        have e0 : all[p + 0]'(by omega) = (13 : UInt8) := hc
        rw [e0] at AT
        have HAT := hide AT
        have Z := hide (And.intro hD2 (And.intro ha2 (And.intro hC2 (And.intro hnew2 hv2))))
        clear AT hD2 ha2 hav2 hC2 hnew2 hv2 E1 hc e0
        have HD := hide hd
        clear hd
        go_wp2_with fail
        refine HAT.out.mono ?_
        rintro e w3 ⟨rfl, hx3⟩
        have E2 := hide (ensure_any B d S2 all p av2 2 cp2 sec sk esc line er f2 w3 ad (Z.out.1.ext hx3) (HE.out.1.chg (Z.out.2.2.1.trans (Chg.of_ext hx3 S)) HE.out.2) (by omega))
        have HX3 := hide hx3
        clear hx3 HAT
        by_cases hp2 : p + 2 ≤ all.length
        · rw [decide_eq_true hp2] at E2
          have hd2 : all.drop (p + 1) = all[p + 1] :: all.drop (p + 2) := List.drop_eq_getElem_cons (by omega)
          generalize hc2 : all[p + 1] = c2 at hd2
          have HDD := HD.out
          rw [hd2] at HDD
          go_wp2_with fail
          refine E2.out.mono ?_
          rintro e w4 ⟨rfl, S4, av4, cp4, f4, hD4, ha4, hav4, _, hC4, hnew4⟩
          have hv4 := hav4 hp2
          have AT := at_in B d 1 S4 all p av4 cp4 sec sk esc line er f4 w4 hD4 (by omega) (by omega)
          rw [hc2] at AT
          have HAT := hide AT
          have Y : Hid (Dec w4 B d S4 all p av4 cp4 sec sk esc line er f4 ∧ av ≤ av4 ∧ Chg S w w4 ∧ (∀ i ∈ S4, i ∈ S ∨ w.heap.size ≤ i) ∧ p + 2 ≤ av4) := hide (by
            obtain ⟨z1, z2, z3, z4, z5⟩ := Z.out
            exact ⟨hD4, by omega, z3.then ((Chg.of_ext HX3.out S2).trans hC4) z4, new_trans z4 hnew4 (Nat.le_trans z3.size HX3.out.sizes), hv4⟩)
          clear AT hD4 ha4 hav4 hC4 hnew4 hv4 E2 hc2 Z HX3 hd2 HD
          by_cases h10' : c2 = 10
          · subst h10'
            have X : eolAt (all.drop p) = (2, 1, true) := by rw [HDD]; simp [eolAt]
            have HXE := hide (HXX.out.symm.trans X)
            clear HDD X
            go_wp2_with fail
            refine HAT.out.mono ?_
            rintro e w5 ⟨rfl, hx5⟩
            have HADV := hide (advance_any B d 2 S4 all p _ _ sec sk esc line er _ w5 (Y.out.1.ext hx5) Y.out.2.2.2.2)
            have HX5 := hide hx5
            clear hx5 HAT
            go_wp2_with fail
            refine HADV.out.mono ?_
            rintro e w6 ⟨rfl, hD6, hC6⟩
            obtain ⟨l1, l2, l3⟩ := hD6.line
            have R : Hid (EolP w B d S all p av sec sk esc line er x (.returned (.bool true)) (w6.setCell ⟨d, 8, none⟩ (.int .i64 (line + 1)))) := hide (by
              rw [HXE.out]
              obtain ⟨z1, z2, z3, z4, z5⟩ := Y.out
              refine ⟨rfl, S4, _, _, _, l3 (line + 1), z2, z3.then (((Chg.of_ext HX5.out S4).trans hC6).setCell (.inl hD6.dS) _) z4, z4⟩)
            clear hD6 hC6 l3 HADV Y HX5
            go_wp2
            go_ret
            exact R.out
          · have X : eolAt (all.drop p) = (0, 0, false) := by rw [HDD]; simp [eolAt, h10']
            have HXE := hide (HXX.out.symm.trans X)
            have n10 : ((c2.toNat : Int) == 10) = false := by
              rw [beq_eq_false_iff_ne]
              intro hh
              exact h10' (UInt8.toNat_inj.1 (by show c2.toNat = 10; omega))
            clear HDD X
            go_wp2_with fail
            refine HAT.out.mono ?_
            rintro e w5 ⟨rfl, hx5⟩
            have R : Hid (EolP w B d S all p av sec sk esc line er x (.returned (.bool false)) w5) := hide (by
              rw [HXE.out]
              obtain ⟨z1, z2, z3, z4, z5⟩ := Y.out
              refine ⟨rfl, S4, av4, cp4, f4, ?_, z2, z3.then (Chg.of_ext hx5 S4) z4, z4⟩
              have := z1.ext hx5
              simpa using this)
            clear hx5 Y HAT
            go_wp2
            go_ret
            exact R.out
        · rw [decide_eq_false hp2] at E2
          have X : eolAt (all.drop p) = (1, 0, true) := by rw [HD.out, List.drop_eq_nil_of_le (by omega)]; simp [eolAt]
          have HXE := hide (HXX.out.symm.trans X)
          clear X HD
          go_wp2_with fail
          refine E2.out.mono ?_
          rintro e w4 ⟨rfl, S4, av4, cp4, f4, hD4, ha4, _, _, hC4, hnew4⟩
          have Y : Hid (Dec w4 B d S4 all p av4 cp4 sec sk esc line er f4 ∧ av ≤ av4 ∧ Chg S w w4 ∧ (∀ i ∈ S4, i ∈ S ∨ w.heap.size ≤ i) ∧ p + 1 ≤ av4) := hide (by
            obtain ⟨z1, z2, z3, z4, z5⟩ := Z.out
            exact ⟨hD4, by omega, z3.then ((Chg.of_ext HX3.out S2).trans hC4) z4, new_trans z4 hnew4 (Nat.le_trans z3.size HX3.out.sizes), by omega⟩)
          clear hD4 ha4 hC4 hnew4 E2 Z HX3
          have HADV := hide (advance_any B d 1 S4 all p _ _ sec sk esc line er _ w4 Y.out.1 Y.out.2.2.2.2)
          go_wp2_with fail
          refine HADV.out.mono ?_
          rintro e w6 ⟨rfl, hD6, hC6⟩
          have R : Hid (EolP w B d S all p av sec sk esc line er x (.returned (.bool true)) w6) := hide (by
            rw [HXE.out]
            obtain ⟨z1, z2, z3, z4, z5⟩ := Y.out
            refine ⟨rfl, S4, av4, cp4, f4, ?_, z2, z3.then hC6 z4, z4⟩
            simpa using hD6)
          clear hD6 hC6 HADV Y
          go_wp2
          go_ret
          exact R.out
      · have X : eolAt (all.drop p) = (0, 0, false) := by rw [hd]; simp [eolAt, h10, h13]
        have HXE := hide (HXX.out.symm.trans X)
        have n10 : ((c.toNat : Int) == 10) = false := by
          rw [beq_eq_false_iff_ne]
          intro hh
          exact h10 (UInt8.toNat_inj.1 (by show c.toNat = 10; omega))
        have n13 : ((c.toNat : Int) == 13) = false := by
          rw [beq_eq_false_iff_ne]
          intro hh
          exact h13 (UInt8.toNat_inj.1 (by show c.toNat = 13; omega))
        go_enter Tryd.func42, Tryd.ntmps42
        go_wp2_with fail
        refine E1.out.mono ?_
        rintro e w2 ⟨rfl, S2, av2, cp2, f2, hD2, ha2, hav2, _, hC2, hnew2⟩
        have hv2 := hav2 hp
        have AT := at_in B d 0 S2 all p av2 cp2 sec sk esc line er f2 w2 hD2 (by omega) (by omega)
        have e0 : all[p + 0]'(by omega) = (c : UInt8) := hc
        rw [e0] at AT
        have HAT := hide AT
        have Z := hide (And.intro hD2 (And.intro ha2 (And.intro hC2 (And.intro hnew2 hv2))))
        clear AT hD2 ha2 hav2 hC2 hnew2 hv2 E1 hd hc e0 X
        go_wp2_with fail
        refine HAT.out.mono ?_
        rintro e w3 ⟨rfl, hx3⟩
        have R : Hid (EolP w B d S all p av sec sk esc line er x (.returned (.bool false)) w3) := hide (by
          rw [HXE.out]
          obtain ⟨z1, z2, z3, z4, z5⟩ := Z.out
          refine ⟨rfl, S2, av2, cp2, f2, ?_, z2, z3.then (Chg.of_ext hx3 S2) z4, z4⟩
          have := z1.ext hx3
          simpa using this)
        clear hx3 Z HAT
        go_wp2
        go_ret
        exact R.out
  · rw [decide_eq_false hp] at E1
    have X : eolAt (all.drop p) = (0, 0, true) := by rw [List.drop_eq_nil_of_le (by omega)]; rfl
    have HXE := hide (HXX.out.symm.trans X)
    go_enter Tryd.func42, Tryd.ntmps42
    go_wp2_with fail
    refine E1.out.mono ?_
    rintro e w2 ⟨rfl, S2, av2, cp2, f2, hD2, ha2, _, _, hC2, hnew2⟩
    have R : Hid (EolP w B d S all p av sec sk esc line er x (.returned (.bool true)) w2) := hide (by
      rw [HXE.out]
      exact ⟨rfl, S2, av2, cp2, f2, by simpa using hD2, ha2, hC2, hnew2⟩)
    clear hD2 ha2 hC2 hnew2 E1 X
    go_wp2
    go_ret
    exact R.out
end Go.Proofs.YtejngpbeogaapaaDoor
