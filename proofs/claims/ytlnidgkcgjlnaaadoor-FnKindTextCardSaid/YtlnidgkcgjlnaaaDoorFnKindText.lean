/-
  The walk of laws.FnKindText.
-/
import Derived.Test.YtlnidgkcgjlnaaaDoorKindM
namespace Go.Proofs.YtlnidgkcgjlnaaaDoor
open Go.RowKit
set_option linter.unusedVariables false
set_option linter.unusedSimpArgs false

theorem lNames_any (k : Nat) (hk : k < 6) (w : World) : Calls Tryd.prog 8 #[.int .i64 k] w fun e w' => e = .returned (.string (nm k)) ∧ Ext w w' := by
  rcases (by omega : k = 0 ∨ k = 1 ∨ k = 2 ∨ k = 3 ∨ k = 4 ∨ k = 5) with rfl | rfl | rfl | rfl | rfl | rfl
  all_goals
    go_enter Tryd.func8, Tryd.ntmps8
    go_wp2
    go_ret
    refine ⟨rfl, ?_⟩
    repeat (first | exact Ext.refl _ | assumption | refine Ext.drew ?_ | refine Ext.drewN ?_ _ | refine Ext.alloc ?_ _ | refine ext_bytesWorld ?_ _ _ | refine Ext.setCell ?_ (by first | (simp; done) | (simp; omega)) _)

set_option maxRecDepth 100000 in
set_option maxHeartbeats 1000000 in
theorem fnKindText_core (k : Nat) (hk : k < 256) (kp : Addr) (cap : Nat) (w : World) (hK : Kinds w kp cap) :
    Calls Tryd.prog 3 #[.int .i64 k] w fun e w' => e = .returned (.bool true) ∧ Ext w w' := by
  have HK := hide hK
  clear hK
  have d0 : decide ((k : Int) < 0) = false := decide_eq_false (by omega)
  have d1 : decide (255 < (k : Int)) = false := decide_eq_false (by omega)
  by_cases hbig : 6 ≤ k
  · have H1 := hide (fun w' hx => implKindText_out k hbig hk kp cap w' (HK.out.ext hx))
    have H2 := hide (fun w' hx => implKindMarshal_out k hbig hk kp cap w' (HK.out.ext hx))
    have d5 : decide (5 < (k : Int)) = true := decide_eq_true (by omega)
    clear HK
    go_enter Tryd.func3, Tryd.ntmps3
    go_wp2_with fail
    refine (H1.out _ (Ext.refl w)).mono ?_
    rintro e w1 ⟨rfl, hx1⟩
    have X1 := hide hx1
    clear hx1
    go_wp2_with fail
    refine (H2.out _ X1.out).mono ?_
    rintro e w2 ⟨rfl, hx2⟩
    have X2 := hide hx2
    clear hx2
    go_wp2
    go_ret
    exact ⟨rfl, X1.out.trans X2.out⟩
  · have hk6 : k < 6 := by omega
    have H1 := hide (fun w' hx => implKindText_any k hk6 kp cap w' (HK.out.ext hx))
    have HL := hide (lNames_any k hk6)
    have d5 : decide (5 < (k : Int)) = false := decide_eq_false (by omega)
    by_cases h0 : k = 0
    · subst h0
      have H2 := hide implKindMarshal_zero
      have H3 := hide (fun w' hx => implKindUnmarshal_zero kp cap w' (HK.out.ext hx))
      generalize nm 0 = s at H1 HL H3
      clear HK d0 d1 d5 hbig hk6 hk
      go_enter Tryd.func3, Tryd.ntmps3
      go_wp2_with fail
      refine (H1.out _ (Ext.refl w)).mono ?_
      rintro e w1 ⟨rfl, hx⟩
      have X1 := hide hx
      clear hx
      go_wp2_with fail
      refine (H2.out _).mono ?_
      rintro e w2 ⟨⟨s2, rfl⟩, hx⟩
      have X2 := hide (X1.out.trans hx)
      clear hx
      go_wp2_with fail
      refine (HL.out _).mono ?_
      rintro e w3 ⟨rfl, hx⟩
      have X3 := hide (X2.out.trans hx)
      clear hx
      go_wp2_with fail
      refine (H3.out _ X3.out).mono ?_
      rintro e w4 ⟨⟨k2, rfl⟩, hx⟩
      have X4 := hide (X3.out.trans hx)
      clear hx
      go_wp2_with fail
      refine (HL.out _).mono ?_
      rintro e w5 ⟨rfl, hx⟩
      have X5 := hide (X4.out.trans hx)
      clear hx
      go_wp2
      go_ret
      exact ⟨rfl, X5.out⟩
    · have hk0 : 0 < k := by omega
      have H2 := hide (fun w' hx => implKindMarshal_any k hk0 hk6 kp cap w' (HK.out.ext hx))
      have H3 := hide (fun w' hx => implKindUnmarshal_any k hk0 hk6 kp cap w' (HK.out.ext hx))
      have e0 : ((k : Int) == 0) = false := by simp; omega
      have p0 : decide (0 < (k : Int)) = true := decide_eq_true (by omega)
      generalize nm k = s at H1 HL H2 H3
      clear HK h0
      go_enter Tryd.func3, Tryd.ntmps3
      go_wp2_with fail
      refine (H1.out _ (Ext.refl w)).mono ?_
      rintro e w1 ⟨rfl, hx⟩
      have X1 := hide hx
      clear hx
      go_wp2_with fail
      refine (H2.out _ X1.out).mono ?_
      rintro e w2 ⟨rfl, hx⟩
      have X2 := hide (X1.out.trans hx)
      clear hx
      go_wp2_with fail
      refine (HL.out _).mono ?_
      rintro e w3 ⟨rfl, hx⟩
      have X3 := hide (X2.out.trans hx)
      clear hx
      go_wp2_with fail
      refine (H3.out _ X3.out).mono ?_
      rintro e w4 ⟨rfl, hx⟩
      have X4 := hide (X3.out.trans hx)
      clear hx
      go_wp2_with fail
      refine (HL.out _).mono ?_
      rintro e w5 ⟨rfl, hx⟩
      have X5 := hide (X4.out.trans hx)
      clear hx
      go_wp2
      go_ret
      exact ⟨rfl, X5.out⟩

set_option maxRecDepth 100000 in
theorem fnKindText_walk (c : Int) (hw : (Lit.int .i64 c).wf = true) (kp : Addr) (cap : Nat) (w : World) (hK : Kinds w kp cap) :
    Calls Tryd.prog 3 #[.int .i64 c] w fun e w' => e = .returned (.bool true) ∧ Below w.heap.size w w' := by
  clear hw
  by_cases h : 0 ≤ c ∧ c ≤ 255
  · obtain ⟨n, rfl⟩ := Int.eq_ofNat_of_zero_le h.1
    exact fnKindText_core n (by omega) kp cap w hK
  · clear hK
    rcases (by omega : c < 0 ∨ (¬ c < 0 ∧ 255 < c)) with hc | ⟨h1, h2⟩
    · clear h
      have d0 := decide_eq_true hc
      go_enter Tryd.func3, Tryd.ntmps3
      go_wp2
      go_ret
      exact ⟨rfl, Below.refl _ _⟩
    · clear h
      have d0 := decide_eq_false h1
      have d1 := decide_eq_true h2
      go_enter Tryd.func3, Tryd.ntmps3
      go_wp2
      go_ret
      exact ⟨rfl, Below.refl _ _⟩
end Go.Proofs.YtlnidgkcgjlnaaaDoor
