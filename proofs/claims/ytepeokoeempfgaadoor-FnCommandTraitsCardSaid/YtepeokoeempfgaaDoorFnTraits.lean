/-
  The walk of laws.FnCommandTraits: the properties of a command.
-/
import Derived.Test.YtepeokoeempfgaaDoorImplTraits
namespace Go.Proofs.YtepeokoeempfgaaDoor
open Go.RowKit
set_option linter.unusedVariables false
set_option linter.unusedSimpArgs false

set_option maxRecDepth 100000 in
set_option maxHeartbeats 2000000 in
theorem fnCommandTraits_walk (s : ByteArray) (A : Option Addr) (cap : Nat) (l : List ByteArray) (_hs : s.size ≤ maxLen) (hc : l.length ≤ cap) (hm : cap ≤ maxLen) (hz : ∀ s ∈ l, s.size ≤ maxLen) (w : World) (hR : RS w A l) :
    Calls Tryd.prog 3 #[.string s, .slice A l.length cap] w fun e w' => e = .returned (.bool true) ∧ Below w.heap.size w w' := by
  by_cases h1 : 2147483647 < (s.size : Int)
  · have d1 := decide_eq_true h1
    clear hR hz
    go_enter Tryd.func3, Tryd.ntmps3
    go_wp2
    go_ret
    exact ⟨rfl, Below.refl _ _⟩
  have d1 := decide_eq_false h1
  have FI := hide (fits_any A cap l w hR hc hm hz)
  cases hF : fitsB l with
  | false =>
    rw [hF] at FI
    clear hR hz hF
    go_enter Tryd.func3, Tryd.ntmps3
    go_wp2_with fail
    refine FI.out.mono ?_
    rintro e w1 ⟨rfl, rfl⟩
    go_wp2
    go_ret
    exact ⟨rfl, Below.refl _ _⟩
  | true =>
    rw [hF] at FI
    have hf2 : l.length ≤ 2147483647 ∧ ∀ s ∈ l, s.size ≤ 2147483647 := by
      unfold fitsB at hF
      rw [Bool.and_eq_true, decide_eq_true_eq, List.all_eq_true] at hF
      exact ⟨hF.1, fun s hs => by simpa using hF.2 s hs⟩
    have RI := hide (right_any s A cap l w hR (by omega) hf2.1 hf2.2)
    have AA := hide (allASCII_any A cap l w hR hf2.1 hf2.2)
    cases hV : rightB s l with
    | false =>
      rw [hV] at RI
      clear hR hz hF hV
      go_enter Tryd.func3, Tryd.ntmps3
      go_wp2_with fail
      refine FI.out.mono ?_
      rintro e w1 ⟨rfl, rfl⟩
      go_wp2_with fail
      refine RI.out.mono ?_
      rintro e w1 ⟨rfl, rfl⟩
      go_wp2
      go_ret
      exact ⟨rfl, Below.refl _ _⟩
    | true =>
      rw [hV] at RI
      have hr2 : (l.length ≤ 50 ∧ ∀ s ∈ l, s.size ≤ 200) ∧ s.size ≤ 200 ∧ asciiB s.data.toList = true := by
        unfold rightB at hV
        simp only [Bool.and_eq_true, decide_eq_true_eq, List.all_eq_true] at hV
        exact ⟨⟨hV.1.1.1, hV.1.1.2⟩, hV.1.2, hV.2⟩
      cases hA : (l.all fun s => asciiB s.data.toList) with
      | false =>
        rw [hA] at AA
        clear hR hz hF hV
        go_enter Tryd.func3, Tryd.ntmps3
        go_wp2_with fail
        refine FI.out.mono ?_
        rintro e w1 ⟨rfl, rfl⟩
        go_wp2_with fail
        refine RI.out.mono ?_
        rintro e w1 ⟨rfl, rfl⟩
        go_wp2_with fail
        refine AA.out.mono ?_
        rintro e w1 ⟨rfl, rfl⟩
        go_wp2
        go_ret
        exact ⟨rfl, Below.refl _ _⟩
      | true =>
        rw [hA] at AA
        obtain ⟨n, hn⟩ : ∃ n, l.length = n := ⟨_, rfl⟩
        have hall : ∀ s ∈ l, s.size ≤ 1000000 ∧ asciiB s.data.toList = true := fun x hx => ⟨by have := hr2.1.2 x hx; omega, by simpa using List.all_eq_true.1 hA x hx⟩
        have IT := hide (implTraits_any s A cap n l w hn (by omega) hr2.2.2 hR (by omega) hall)
        have ST : Hid (∀ w1, Ext w w1 → Calls Tryd.prog 10 #[.string s, .slice A n cap] w1 (RetT w1 (fun _ => True) (keysOf (upT s).toList (bareK.contains (upT s).data.toList) l) (!blockK.contains (upT s).data.toList))) := hide fun w1 hx =>
          specTraits_any s A cap (fun _ => True) n l w1 hn (by omega) (hR.ext hx) (by omega) (by omega) hm (fun x hx => (hall x hx).1) (fun _ _ => trivial) (fun _ _ => trivial)
        have hkl := keysOf_le (upT s).toList (bareK.contains (upT s).data.toList) l
        generalize keysOf (upT s).toList (bareK.contains (upT s).data.toList) l = K at IT ST hkl
        generalize (!blockK.contains (upT s).data.toList) = p at IT ST
        have hk50 : K.length ≤ 50 := by omega
        rw [hn] at FI RI AA ⊢
        clear hR hz hF hV hA hall hr2 hf2 hkl hn
        go_enter Tryd.func3, Tryd.ntmps3
        go_wp2_with fail
        refine FI.out.mono ?_
        rintro e w1 ⟨rfl, rfl⟩
        go_wp2_with fail
        refine RI.out.mono ?_
        rintro e w1 ⟨rfl, rfl⟩
        go_wp2_with fail
        refine AA.out.mono ?_
        rintro e w1 ⟨rfl, rfl⟩
        go_wp2_with fail
        refine IT.out.mono ?_
        rintro e w1 ⟨A1, c1, he, hR1, hx1⟩
        unfold traits at he
        subst he
        have HX1 := hide (And.intro hx1 hR1)
        clear hx1 hR1
        go_wp2_with fail
        refine (ST.out _ ((HX1.out.1).alloc _)).mono ?_
        rintro e w2 ⟨A2, c2, he, hR2, hx2, -, -, -⟩
        unfold traits at he
        subst he
        have hb := (Blk.new w1 26 #[.slice A1 K.length c1, .bool true, .bool p, .bool p]).chg (Chg.of_ext hx2 []) (by simp)
        have hlt : w1.heap.size < w2.heap.size := hb.lt
        have c0 := hb.cell 0
        have k1 := hb.cell 1
        have k2 := hb.cell 2
        have k3 := hb.cell 3
        simp at c0 k1 k2 k3
        have nn : ¬ w2.heap.size = w1.heap.size := by omega
        have nn2 : ¬ w1.heap.size = w2.heap.size := by omega
        have SA : Hid (∀ o, Calls Tryd.prog 11 #[.slice A1 K.length c1, .slice A2 K.length c2] (w2.alloc o) fun e w' => e = .returned (.bool true) ∧ w2.alloc o = w') := hide fun o =>
          same_any A1 A2 K.length c1 c2 K (w2.alloc o) (((HX1.out.2.ext ((Ext.refl _).alloc _)).ext hx2).ext ((Ext.refl _).alloc _)) (hR2.ext ((Ext.refl _).alloc _)) rfl (by omega)
        have HE : Hid (Ext w w2) := hide ((HX1.out.1.alloc _).trans hx2)
        clear hb hR2 hx2 HX1 IT ST FI RI AA
        go_wp2_with fail
        refine (SA.out _).mono ?_
        rintro e w3 ⟨rfl, rfl⟩
        clear SA
        go_wp2
        go_ret
        exact ⟨by simp, HE.out.alloc _⟩
end Go.Proofs.YtepeokoeempfgaaDoor
