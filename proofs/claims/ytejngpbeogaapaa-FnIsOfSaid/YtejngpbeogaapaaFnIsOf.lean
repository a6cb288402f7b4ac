/-
  The walk of laws.FnIsOf.
-/
import Derived.Test.YtejngpbeogaapaaDoorSet
namespace Go.Proofs.Ytejngpbeogaapaa
open Go.RowKit
set_option linter.unusedVariables false
set_option linter.unusedSimpArgs false

set_option maxRecDepth 100000 in
theorem isOf1_any (s : Nat) (hs : s ≤ 13) (x : UInt8) (g : Nat) (w : World) (hv : Var w g (.int .i64 x.toNat)) :
    Calls Try.prog 4 #[.int .i64 s, .pointer (some ⟨g, 0, none⟩)] w fun e w' => e = .returned (.bool (doorF s x.toNat)) ∧ Ext w w' := by
  have HD := hide (implIs_any s hs x)
  obtain ⟨c0, c1, c2⟩ := hv
  generalize doorF s x.toNat = f at HD
  clear hs
  go_enter Try.func4, Try.ntmps4
  go_wp2_with fail
  refine (HD.out _).mono ?_
  rintro e w1 ⟨rfl, hx⟩
  have X1 := hide hx
  clear hx
  go_wp2
  go_ret
  exact ⟨rfl, X1.out⟩

/-! ### The facts -/
def isFacts (i : Nat) : Bool :=
  (doorF 1 i == (doorF 0 i || doorF 4 i)) && (doorF 6 i == doorF 2 i) && (doorF 7 i == doorF 2 i) && (doorF 2 i == (doorF 5 i && !decide (i = 61))) && (doorF 11 i == !doorF 3 i) && (doorF 12 i == !doorF 4 i) &&
  (doorF 13 i == !decide (i = 10)) && (doorF 8 i == !decide (i = 34)) && (doorF 9 i == (!decide (i = 44) && !doorF 1 i)) && (doorF 10 i == (decide (i = 45) || (decide (48 ≤ i) && decide (i ≤ 57))))
theorem isFacts_all : ((List.range 256).all isFacts) = true := by decide +kernel
theorem isFacts_at (x : UInt8) : isFacts x.toNat = true := List.all_eq_true.1 isFacts_all _ (List.mem_range.2 (by have := x.toNat_lt; omega))
theorem isSpace : doorF 0 (32 : UInt8).toNat = true := by decide +kernel

/-- What the closure answers. -/
def Ans (g : Nat) (W : World) (s : Nat) (b : Bool) : Prop :=
  ∀ w, Ext W w → Calls Try.prog 4 #[.int .i64 s, .pointer (some ⟨g, 0, none⟩)] w fun e w' => e = .returned (.bool b) ∧ Ext w w'

set_option maxRecDepth 100000 in
set_option maxHeartbeats 4000000 in
theorem fnIsOf_core (x : UInt8) (w : World) :
    Calls Try.prog 3 #[.int .i64 x.toNat] w fun e w' => e = .returned (.bool true) ∧ Below w.heap.size w w' := by
  have hx := x.toNat_lt
  have hf := isFacts_at x
  have HA : Hid (∀ (g : Nat) (W : World), Var W g (.int .i64 x.toNat) → ∀ s, s ≤ 13 → Ans g W s (doorF s x.toNat)) := hide fun g W hv s hs w hw => isOf1_any s hs x g w (hv.ext hw)
  simp only [isFacts, Bool.and_eq_true, beq_iff_eq] at hf
  obtain ⟨⟨⟨⟨⟨⟨⟨⟨⟨q1, q6⟩, q7⟩, q2⟩, q11⟩, q12⟩, q13⟩, q8⟩, q9⟩, q10⟩ := hf
  generalize hW : w.alloc (.cells #[.int .i64 x.toNat] 3) = w1
  have hV : Var w1 w.heap.size (.int .i64 x.toNat) := hW ▸ Var.new w _ _
  have hE : Ext w w1 := hW ▸ (Ext.refl w).alloc _
  have H := HA.out _ _ hV
  have h1 := H 1 (by decide); have h6 := H 6 (by decide); have h7 := H 7 (by decide); have h2 := H 2 (by decide); have h11 := H 11 (by decide); have h12 := H 12 (by decide)
  have h13 := H 13 (by decide); have h8 := H 8 (by decide); have h9 := H 9 (by decide); have h10 := H 10 (by decide); have h0 := H 0 (by decide); have h4 := H 4 (by decide)
  have h5 := H 5 (by decide); have h3 := H 3 (by decide)
  rw [q6] at h6; rw [q7] at h7; rw [q2] at h2 h6 h7; rw [q11] at h11; rw [q12] at h12; rw [q13] at h13; rw [q8] at h8; rw [q9] at h9; rw [q10] at h10; rw [q1] at h1 h9
  clear H q1 q6 q7 q2 q11 q12 q13 q8 q9 q10 HA
  generalize hc : x.toNat = n at *
  clear hc
  generalize doorF 0 n = f0 at *
  generalize doorF 4 n = f4 at *
  generalize doorF 5 n = f5 at *
  generalize doorF 3 n = f3 at *
  have e61 : ((n : Int) != 61) = !decide (n = 61) := by by_cases h : n = 61 <;> simp [h]; omega
  have e10 : ((n : Int) != 10) = !decide (n = 10) := by by_cases h : n = 10 <;> simp [h]; omega
  have e34 : ((n : Int) != 34) = !decide (n = 34) := by by_cases h : n = 34 <;> simp [h]; omega
  have H1 := hide h1; have H6 := hide h6; have H7 := hide h7; have H2 := hide h2; have H11 := hide h11; have H12 := hide h12; have H13 := hide h13; have H8 := hide h8
  have H9 := hide h9; have H10 := hide h10; have H0 := hide h0; have H4 := hide h4; have H5 := hide h5; have H3 := hide h3
  clear h1 h6 h7 h2 h11 h12 h13 h8 h9 h10 h0 h4 h5 h3
  have HV := hide hV; have HE := hide hE
  clear hV hE
  generalize (!decide (n = 61)) = b61 at *
  generalize (!decide (n = 10)) = b10 at *
  generalize (!decide (n = 34)) = b34 at *
  have n0 : decide ((n : Int) < 0) = false := decide_eq_false (by omega)
  have n1 : decide (255 < (n : Int)) = false := decide_eq_false (by omega)
  have e4 : ((!f4) == f4) = false := by cases f4 <;> rfl
  have e3 : ((!f3) == f3) = false := by cases f3 <;> rfl
  have MK : Hid (∀ (fn : Fn) (first cap : Array Value) (w : World), (Instr.makeFunc fn first cap).run Try.prog w = .ok (.func fn first cap) w) := hide fun _ _ _ _ => rfl
  go_enter Try.func3, Try.ntmps3
  have hmf := MK.out
  obtain ⟨v0, v1, v2⟩ := HV.out
  go_upto_region 4 with fail
  clear hW v0 v1 v2
  generalize w.heap.size = g at *
  go_cut [58] (fun s58 wx => s58 = .bool false ∧ Hid (Ext w1 wx))
  case first =>
    clear H13 H8 H9 H10 e10 e34
    cases f0
    case false =>
      simp only [Bool.true_or, Bool.false_or] at H1
      cases f5
      case false =>
        simp only [Bool.true_and, Bool.false_and] at H2 H6 H7
        go_wp2_with fail
        refine (H1.out _ (Ext.refl w1)).mono ?_; rintro e v0 ⟨rfl, hx⟩
        have Y0 : Hid (Ext w1 v0) := hide (Ext.trans (Ext.refl w1) hx)
        clear hx
        have l0 := (HV.out.ext Y0.out).2.1
        go_wp2_with fail
        refine (H0.out _ Y0.out).mono ?_; rintro e v1 ⟨rfl, hx⟩
        have Y1 : Hid (Ext w1 v1) := hide (Ext.trans Y0.out hx)
        clear hx
        have l1 := (HV.out.ext Y1.out).2.1
        go_wp2_with fail
        refine (H4.out _ Y1.out).mono ?_; rintro e v2 ⟨rfl, hx⟩
        have Y2 : Hid (Ext w1 v2) := hide (Ext.trans Y1.out hx)
        clear hx
        have l2 := (HV.out.ext Y2.out).2.1
        go_wp2_with fail
        refine (H2.out _ Y2.out).mono ?_; rintro e v3 ⟨rfl, hx⟩
        have Y3 : Hid (Ext w1 v3) := hide (Ext.trans Y2.out hx)
        clear hx
        have l3 := (HV.out.ext Y3.out).2.1
        go_wp2_with fail
        refine (H6.out _ Y3.out).mono ?_; rintro e v4 ⟨rfl, hx⟩
        have Y4 : Hid (Ext w1 v4) := hide (Ext.trans Y3.out hx)
        clear hx
        have l4 := (HV.out.ext Y4.out).2.1
        go_wp2_with fail
        refine (H2.out _ Y4.out).mono ?_; rintro e v5 ⟨rfl, hx⟩
        have Y5 : Hid (Ext w1 v5) := hide (Ext.trans Y4.out hx)
        clear hx
        have l5 := (HV.out.ext Y5.out).2.1
        go_wp2_with fail
        refine (H7.out _ Y5.out).mono ?_; rintro e v6 ⟨rfl, hx⟩
        have Y6 : Hid (Ext w1 v6) := hide (Ext.trans Y5.out hx)
        clear hx
        have l6 := (HV.out.ext Y6.out).2.1
        go_wp2_with fail
        refine (H2.out _ Y6.out).mono ?_; rintro e v7 ⟨rfl, hx⟩
        have Y7 : Hid (Ext w1 v7) := hide (Ext.trans Y6.out hx)
        clear hx
        have l7 := (HV.out.ext Y7.out).2.1
        go_wp2_with fail
        refine (H5.out _ Y7.out).mono ?_; rintro e v8 ⟨rfl, hx⟩
        have Y8 : Hid (Ext w1 v8) := hide (Ext.trans Y7.out hx)
        clear hx
        have l8 := (HV.out.ext Y8.out).2.1
        go_wp2_with fail
        refine (H11.out _ Y8.out).mono ?_; rintro e v9 ⟨rfl, hx⟩
        have Y9 : Hid (Ext w1 v9) := hide (Ext.trans Y8.out hx)
        clear hx
        have l9 := (HV.out.ext Y9.out).2.1
        go_wp2_with fail
        refine (H3.out _ Y9.out).mono ?_; rintro e v10 ⟨rfl, hx⟩
        have Y10 : Hid (Ext w1 v10) := hide (Ext.trans Y9.out hx)
        clear hx
        have l10 := (HV.out.ext Y10.out).2.1
        go_wp2_with fail
        refine (H12.out _ Y10.out).mono ?_; rintro e v11 ⟨rfl, hx⟩
        have Y11 : Hid (Ext w1 v11) := hide (Ext.trans Y10.out hx)
        clear hx
        have l11 := (HV.out.ext Y11.out).2.1
        go_wp2_with fail
        refine (H4.out _ Y11.out).mono ?_; rintro e v12 ⟨rfl, hx⟩
        have Y12 : Hid (Ext w1 v12) := hide (Ext.trans Y11.out hx)
        clear hx
        have l12 := (HV.out.ext Y12.out).2.1
        go_wp2_with fail
        go_meet
        case rel => exact ⟨rfl, Y12⟩
      case true =>
        simp only [Bool.true_and, Bool.false_and] at H2 H6 H7
        go_wp2_with fail
        refine (H1.out _ (Ext.refl w1)).mono ?_; rintro e v0 ⟨rfl, hx⟩
        have Y0 : Hid (Ext w1 v0) := hide (Ext.trans (Ext.refl w1) hx)
        clear hx
        have l0 := (HV.out.ext Y0.out).2.1
        go_wp2_with fail
        refine (H0.out _ Y0.out).mono ?_; rintro e v1 ⟨rfl, hx⟩
        have Y1 : Hid (Ext w1 v1) := hide (Ext.trans Y0.out hx)
        clear hx
        have l1 := (HV.out.ext Y1.out).2.1
        go_wp2_with fail
        refine (H4.out _ Y1.out).mono ?_; rintro e v2 ⟨rfl, hx⟩
        have Y2 : Hid (Ext w1 v2) := hide (Ext.trans Y1.out hx)
        clear hx
        have l2 := (HV.out.ext Y2.out).2.1
        go_wp2_with fail
        refine (H2.out _ Y2.out).mono ?_; rintro e v3 ⟨rfl, hx⟩
        have Y3 : Hid (Ext w1 v3) := hide (Ext.trans Y2.out hx)
        clear hx
        have l3 := (HV.out.ext Y3.out).2.1
        go_wp2_with fail
        refine (H6.out _ Y3.out).mono ?_; rintro e v4 ⟨rfl, hx⟩
        have Y4 : Hid (Ext w1 v4) := hide (Ext.trans Y3.out hx)
        clear hx
        have l4 := (HV.out.ext Y4.out).2.1
        go_wp2_with fail
        refine (H2.out _ Y4.out).mono ?_; rintro e v5 ⟨rfl, hx⟩
        have Y5 : Hid (Ext w1 v5) := hide (Ext.trans Y4.out hx)
        clear hx
        have l5 := (HV.out.ext Y5.out).2.1
        go_wp2_with fail
        refine (H7.out _ Y5.out).mono ?_; rintro e v6 ⟨rfl, hx⟩
        have Y6 : Hid (Ext w1 v6) := hide (Ext.trans Y5.out hx)
        clear hx
        have l6 := (HV.out.ext Y6.out).2.1
        go_wp2_with fail
        refine (H2.out _ Y6.out).mono ?_; rintro e v7 ⟨rfl, hx⟩
        have Y7 : Hid (Ext w1 v7) := hide (Ext.trans Y6.out hx)
        clear hx
        have l7 := (HV.out.ext Y7.out).2.1
        go_wp2_with fail
        refine (H5.out _ Y7.out).mono ?_; rintro e v8 ⟨rfl, hx⟩
        have Y8 : Hid (Ext w1 v8) := hide (Ext.trans Y7.out hx)
        clear hx
        have l8 := (HV.out.ext Y8.out).2.1
        go_wp2_with fail
        refine (H11.out _ Y8.out).mono ?_; rintro e v9 ⟨rfl, hx⟩
        have Y9 : Hid (Ext w1 v9) := hide (Ext.trans Y8.out hx)
        clear hx
        have l9 := (HV.out.ext Y9.out).2.1
        go_wp2_with fail
        refine (H3.out _ Y9.out).mono ?_; rintro e v10 ⟨rfl, hx⟩
        have Y10 : Hid (Ext w1 v10) := hide (Ext.trans Y9.out hx)
        clear hx
        have l10 := (HV.out.ext Y10.out).2.1
        go_wp2_with fail
        refine (H12.out _ Y10.out).mono ?_; rintro e v11 ⟨rfl, hx⟩
        have Y11 : Hid (Ext w1 v11) := hide (Ext.trans Y10.out hx)
        clear hx
        have l11 := (HV.out.ext Y11.out).2.1
        go_wp2_with fail
        refine (H4.out _ Y11.out).mono ?_; rintro e v12 ⟨rfl, hx⟩
        have Y12 : Hid (Ext w1 v12) := hide (Ext.trans Y11.out hx)
        clear hx
        have l12 := (HV.out.ext Y12.out).2.1
        go_wp2_with fail
        go_meet
        case rel => exact ⟨rfl, Y12⟩
    case true =>
      simp only [Bool.true_or, Bool.false_or] at H1
      cases f5
      case false =>
        simp only [Bool.true_and, Bool.false_and] at H2 H6 H7
        go_wp2_with fail
        refine (H1.out _ (Ext.refl w1)).mono ?_; rintro e v0 ⟨rfl, hx⟩
        have Y0 : Hid (Ext w1 v0) := hide (Ext.trans (Ext.refl w1) hx)
        clear hx
        have l0 := (HV.out.ext Y0.out).2.1
        go_wp2_with fail
        refine (H0.out _ Y0.out).mono ?_; rintro e v1 ⟨rfl, hx⟩
        have Y1 : Hid (Ext w1 v1) := hide (Ext.trans Y0.out hx)
        clear hx
        have l1 := (HV.out.ext Y1.out).2.1
        go_wp2_with fail
        refine (H2.out _ Y1.out).mono ?_; rintro e v2 ⟨rfl, hx⟩
        have Y2 : Hid (Ext w1 v2) := hide (Ext.trans Y1.out hx)
        clear hx
        have l2 := (HV.out.ext Y2.out).2.1
        go_wp2_with fail
        refine (H6.out _ Y2.out).mono ?_; rintro e v3 ⟨rfl, hx⟩
        have Y3 : Hid (Ext w1 v3) := hide (Ext.trans Y2.out hx)
        clear hx
        have l3 := (HV.out.ext Y3.out).2.1
        go_wp2_with fail
        refine (H2.out _ Y3.out).mono ?_; rintro e v4 ⟨rfl, hx⟩
        have Y4 : Hid (Ext w1 v4) := hide (Ext.trans Y3.out hx)
        clear hx
        have l4 := (HV.out.ext Y4.out).2.1
        go_wp2_with fail
        refine (H7.out _ Y4.out).mono ?_; rintro e v5 ⟨rfl, hx⟩
        have Y5 : Hid (Ext w1 v5) := hide (Ext.trans Y4.out hx)
        clear hx
        have l5 := (HV.out.ext Y5.out).2.1
        go_wp2_with fail
        refine (H2.out _ Y5.out).mono ?_; rintro e v6 ⟨rfl, hx⟩
        have Y6 : Hid (Ext w1 v6) := hide (Ext.trans Y5.out hx)
        clear hx
        have l6 := (HV.out.ext Y6.out).2.1
        go_wp2_with fail
        refine (H5.out _ Y6.out).mono ?_; rintro e v7 ⟨rfl, hx⟩
        have Y7 : Hid (Ext w1 v7) := hide (Ext.trans Y6.out hx)
        clear hx
        have l7 := (HV.out.ext Y7.out).2.1
        go_wp2_with fail
        refine (H11.out _ Y7.out).mono ?_; rintro e v8 ⟨rfl, hx⟩
        have Y8 : Hid (Ext w1 v8) := hide (Ext.trans Y7.out hx)
        clear hx
        have l8 := (HV.out.ext Y8.out).2.1
        go_wp2_with fail
        refine (H3.out _ Y8.out).mono ?_; rintro e v9 ⟨rfl, hx⟩
        have Y9 : Hid (Ext w1 v9) := hide (Ext.trans Y8.out hx)
        clear hx
        have l9 := (HV.out.ext Y9.out).2.1
        go_wp2_with fail
        refine (H12.out _ Y9.out).mono ?_; rintro e v10 ⟨rfl, hx⟩
        have Y10 : Hid (Ext w1 v10) := hide (Ext.trans Y9.out hx)
        clear hx
        have l10 := (HV.out.ext Y10.out).2.1
        go_wp2_with fail
        refine (H4.out _ Y10.out).mono ?_; rintro e v11 ⟨rfl, hx⟩
        have Y11 : Hid (Ext w1 v11) := hide (Ext.trans Y10.out hx)
        clear hx
        have l11 := (HV.out.ext Y11.out).2.1
        go_wp2_with fail
        go_meet
        case rel => exact ⟨rfl, Y11⟩
      case true =>
        simp only [Bool.true_and, Bool.false_and] at H2 H6 H7
        go_wp2_with fail
        refine (H1.out _ (Ext.refl w1)).mono ?_; rintro e v0 ⟨rfl, hx⟩
        have Y0 : Hid (Ext w1 v0) := hide (Ext.trans (Ext.refl w1) hx)
        clear hx
        have l0 := (HV.out.ext Y0.out).2.1
        go_wp2_with fail
        refine (H0.out _ Y0.out).mono ?_; rintro e v1 ⟨rfl, hx⟩
        have Y1 : Hid (Ext w1 v1) := hide (Ext.trans Y0.out hx)
        clear hx
        have l1 := (HV.out.ext Y1.out).2.1
        go_wp2_with fail
        refine (H2.out _ Y1.out).mono ?_; rintro e v2 ⟨rfl, hx⟩
        have Y2 : Hid (Ext w1 v2) := hide (Ext.trans Y1.out hx)
        clear hx
        have l2 := (HV.out.ext Y2.out).2.1
        go_wp2_with fail
        refine (H6.out _ Y2.out).mono ?_; rintro e v3 ⟨rfl, hx⟩
        have Y3 : Hid (Ext w1 v3) := hide (Ext.trans Y2.out hx)
        clear hx
        have l3 := (HV.out.ext Y3.out).2.1
        go_wp2_with fail
        refine (H2.out _ Y3.out).mono ?_; rintro e v4 ⟨rfl, hx⟩
        have Y4 : Hid (Ext w1 v4) := hide (Ext.trans Y3.out hx)
        clear hx
        have l4 := (HV.out.ext Y4.out).2.1
        go_wp2_with fail
        refine (H7.out _ Y4.out).mono ?_; rintro e v5 ⟨rfl, hx⟩
        have Y5 : Hid (Ext w1 v5) := hide (Ext.trans Y4.out hx)
        clear hx
        have l5 := (HV.out.ext Y5.out).2.1
        go_wp2_with fail
        refine (H2.out _ Y5.out).mono ?_; rintro e v6 ⟨rfl, hx⟩
        have Y6 : Hid (Ext w1 v6) := hide (Ext.trans Y5.out hx)
        clear hx
        have l6 := (HV.out.ext Y6.out).2.1
        go_wp2_with fail
        refine (H5.out _ Y6.out).mono ?_; rintro e v7 ⟨rfl, hx⟩
        have Y7 : Hid (Ext w1 v7) := hide (Ext.trans Y6.out hx)
        clear hx
        have l7 := (HV.out.ext Y7.out).2.1
        go_wp2_with fail
        refine (H11.out _ Y7.out).mono ?_; rintro e v8 ⟨rfl, hx⟩
        have Y8 : Hid (Ext w1 v8) := hide (Ext.trans Y7.out hx)
        clear hx
        have l8 := (HV.out.ext Y8.out).2.1
        go_wp2_with fail
        refine (H3.out _ Y8.out).mono ?_; rintro e v9 ⟨rfl, hx⟩
        have Y9 : Hid (Ext w1 v9) := hide (Ext.trans Y8.out hx)
        clear hx
        have l9 := (HV.out.ext Y9.out).2.1
        go_wp2_with fail
        refine (H12.out _ Y9.out).mono ?_; rintro e v10 ⟨rfl, hx⟩
        have Y10 : Hid (Ext w1 v10) := hide (Ext.trans Y9.out hx)
        clear hx
        have l10 := (HV.out.ext Y10.out).2.1
        go_wp2_with fail
        refine (H4.out _ Y10.out).mono ?_; rintro e v11 ⟨rfl, hx⟩
        have Y11 : Hid (Ext w1 v11) := hide (Ext.trans Y10.out hx)
        clear hx
        have l11 := (HV.out.ext Y11.out).2.1
        go_wp2_with fail
        go_meet
        case rel => exact ⟨rfl, Y11⟩
  case rest =>
    obtain ⟨rfl, HY⟩ := hcut
    go_upto_region 6 with fail
    clear H0 H2 H3 H4 H5 H6 H7 H11 H12 e61 e3 e4 n0 n1
    have HSP : Hid (∀ w, Ext w1 w → Calls Try.prog 5 #[.int .i64 0, .int .i64 32] w fun e w' => e = .returned (.bool true) ∧ Ext w w') := hide fun w _ => by
      have h := implIs_any 0 (by decide) 32 w
      rwa [isSpace] at h
    generalize (f0 || f4) = f1 at H1 H9
    rcases (by omega : n = 44 ∨ n = 45 ∨ (n ≠ 44 ∧ n ≠ 45 ∧ n < 48) ∨ (n ≠ 44 ∧ n ≠ 45 ∧ 48 ≤ n)) with hn | hn | ⟨hn, hn2, hn3⟩ | ⟨hn, hn2, hn3⟩
    · skip
      have r9 : (!decide (n = 44) && !f1) = false := by simp [hn]
      have r10 : (decide (n = 45) || (decide (48 ≤ n) && decide (n ≤ 57))) = false := by simp [hn]
      have g1 : ((n : Int) != 44) = false := by simp [hn]
      have g2 : ((n : Int) == 45) = false := by simp [hn]
      have g3 : decide (48 ≤ (n : Int)) = false := decide_eq_false (by omega)
      rw [r9] at H9
      rw [r10] at H10
      clear r9 r10
      clear hn
      refine wp_region_ext w1 wc (by kernel_rfl) (by kernel_rfl) HY.out ?_
      first
      | go_big_quiet_skip
      | (go_big_quiet_want; go_big_quiet_op; first | go_big_quiet_on | (refine ⟨_, fun _ _ => rfl, ?_⟩; go_big_quiet_on))
      first
      | go_big_quiet_skip
      | (go_big_quiet_want; go_big_quiet_op; first | go_big_quiet_on | (refine ⟨_, fun w hw => Calls.ext_of hw (H13.out w hw), ?_⟩; go_big_quiet_on))
      first
      | go_big_quiet_skip
      | (go_big_quiet_want; go_big_quiet_op; first | go_big_quiet_on | (refine ⟨.int .i64 (n : Int), fun w hw => by (obtain ⟨_, c1, _⟩ := HV.out.ext hw; simp [c1, Result.andThen]), ?_⟩; go_big_quiet_on))
      first
      | go_big_quiet_skip
      | (go_big_quiet_want; go_big_quiet_op; first | go_big_quiet_on | (refine ⟨_, fun _ _ => rfl, ?_⟩; go_big_quiet_on))
      first
      | go_big_quiet_skip
      | (go_big_quiet_want; go_big_quiet_op; first | go_big_quiet_on | (refine ⟨_, fun _ _ => rfl, ?_⟩; go_big_quiet_on))
      first
      | go_big_quiet_skip
      | (go_big_quiet_want; go_big_quiet_op; first | go_big_quiet_on | (refine ⟨_, fun _ _ => rfl, ?_⟩; go_big_quiet_on))
      first
      | go_big_quiet_skip
      | (go_big_quiet_want; go_big_quiet_op; first | go_big_quiet_on | (refine ⟨_, fun _ _ => rfl, ?_⟩; go_big_quiet_on))
      first
      | go_big_quiet_skip
      | (go_big_quiet_want; go_big_quiet_op; first | go_big_quiet_on | (refine ⟨_, fun w hw => Calls.ext_of hw (H8.out w hw), ?_⟩; go_big_quiet_on))
      first
      | go_big_quiet_skip
      | (go_big_quiet_want; go_big_quiet_op; first | go_big_quiet_on | (refine ⟨.int .i64 (n : Int), fun w hw => by (obtain ⟨_, c1, _⟩ := HV.out.ext hw; simp [c1, Result.andThen]), ?_⟩; go_big_quiet_on))
      first
      | go_big_quiet_skip
      | (go_big_quiet_want; go_big_quiet_op; first | go_big_quiet_on | (refine ⟨_, fun _ _ => rfl, ?_⟩; go_big_quiet_on))
      first
      | go_big_quiet_skip
      | (go_big_quiet_want; go_big_quiet_op; first | go_big_quiet_on | (refine ⟨_, fun _ _ => rfl, ?_⟩; go_big_quiet_on))
      first
      | go_big_quiet_skip
      | (go_big_quiet_want; go_big_quiet_op; first | go_big_quiet_on | (refine ⟨_, fun _ _ => rfl, ?_⟩; go_big_quiet_on))
      first
      | go_big_quiet_skip
      | (go_big_quiet_want; go_big_quiet_op; first | go_big_quiet_on | (refine ⟨_, fun _ _ => rfl, ?_⟩; go_big_quiet_on))
      first
      | go_big_quiet_skip
      | (go_big_quiet_want; go_big_quiet_op; first | go_big_quiet_on | (refine ⟨_, fun _ _ => rfl, ?_⟩; go_big_quiet_on))
      first
      | go_big_quiet_skip
      | (go_big_quiet_want; go_big_quiet_op; first | go_big_quiet_on | (refine ⟨_, fun w hw => Calls.ext_of hw (H9.out w hw), ?_⟩; go_big_quiet_on))
      first
      | go_big_quiet_skip
      | (go_big_quiet_want; go_big_quiet_op; first | go_big_quiet_on | (refine ⟨.int .i64 (n : Int), fun w hw => by (obtain ⟨_, c1, _⟩ := HV.out.ext hw; simp [c1, Result.andThen]), ?_⟩; go_big_quiet_on))
      first
      | go_big_quiet_skip
      | (go_big_quiet_want; go_big_quiet_op; first | go_big_quiet_on | (refine ⟨_, fun _ _ => rfl, ?_⟩; go_big_quiet_on))
      first
      | go_big_quiet_skip
      | (go_big_quiet_want; go_big_quiet_op; first | go_big_quiet_on | (refine ⟨_, fun _ _ => rfl, ?_⟩; go_big_quiet_on))
      first
      | go_big_quiet_skip
      | (go_big_quiet_want; go_big_quiet_op; first | go_big_quiet_on | (refine ⟨_, fun _ _ => rfl, ?_⟩; go_big_quiet_on))
      first
      | go_big_quiet_skip
      | (go_big_quiet_want; go_big_quiet_op; first | go_big_quiet_on | (refine ⟨_, fun w hw => Calls.ext_of hw (H1.out w hw), ?_⟩; go_big_quiet_on))
      first
      | go_big_quiet_skip
      | (go_big_quiet_want; go_big_quiet_op; first | go_big_quiet_on | (refine ⟨_, fun _ _ => rfl, ?_⟩; go_big_quiet_on))
      first
      | go_big_quiet_skip
      | (go_big_quiet_want; go_big_quiet_op; first | go_big_quiet_on | (refine ⟨_, fun _ _ => rfl, ?_⟩; go_big_quiet_on))
      first
      | go_big_quiet_skip
      | (go_big_quiet_want; go_big_quiet_op; first | go_big_quiet_on | (refine ⟨_, fun _ _ => rfl, ?_⟩; go_big_quiet_on))
      first
      | go_big_quiet_skip
      | (go_big_quiet_want; go_big_quiet_op; first | go_big_quiet_on | (refine ⟨_, fun _ _ => rfl, ?_⟩; go_big_quiet_on))
      first
      | go_big_quiet_skip
      | (go_big_quiet_want; go_big_quiet_op; first | go_big_quiet_on | (refine ⟨_, fun _ _ => rfl, ?_⟩; go_big_quiet_on))
      first
      | go_big_quiet_skip
      | (go_big_quiet_want; go_big_quiet_op; first | go_big_quiet_on | (refine ⟨_, fun _ _ => rfl, ?_⟩; go_big_quiet_on))
      first
      | go_big_quiet_skip
      | (go_big_quiet_want; go_big_quiet_op; first | go_big_quiet_on | (refine ⟨_, fun w hw => Calls.ext_of hw (H10.out w hw), ?_⟩; go_big_quiet_on))
      first
      | go_big_quiet_skip
      | (go_big_quiet_want; go_big_quiet_op; first | go_big_quiet_on | (refine ⟨.int .i64 (n : Int), fun w hw => by (obtain ⟨_, c1, _⟩ := HV.out.ext hw; simp [c1, Result.andThen]), ?_⟩; go_big_quiet_on))
      first
      | go_big_quiet_skip
      | (go_big_quiet_want; go_big_quiet_op; first | go_big_quiet_on | (refine ⟨_, fun _ _ => rfl, ?_⟩; go_big_quiet_on))
      first
      | go_big_quiet_skip
      | (go_big_quiet_want; go_big_quiet_op; first | go_big_quiet_on | (refine ⟨_, fun _ _ => rfl, ?_⟩; go_big_quiet_on))
      first
      | go_big_quiet_skip
      | (go_big_quiet_want; go_big_quiet_op; first | go_big_quiet_on | (refine ⟨.int .i64 (n : Int), fun w hw => by (obtain ⟨_, c1, _⟩ := HV.out.ext hw; simp [c1, Result.andThen]), ?_⟩; go_big_quiet_on))
      first
      | go_big_quiet_skip
      | (go_big_quiet_want; go_big_quiet_op; first | go_big_quiet_on | (refine ⟨_, fun _ _ => rfl, ?_⟩; go_big_quiet_on))
      first
      | go_big_quiet_skip
      | (go_big_quiet_want; go_big_quiet_op; first | go_big_quiet_on | (refine ⟨_, fun _ _ => rfl, ?_⟩; go_big_quiet_on))
      first
      | go_big_quiet_skip
      | (go_big_quiet_want; go_big_quiet_op; first | go_big_quiet_on | (refine ⟨.int .i64 (n : Int), fun w hw => by (obtain ⟨_, c1, _⟩ := HV.out.ext hw; simp [c1, Result.andThen]), ?_⟩; go_big_quiet_on))
      first
      | go_big_quiet_skip
      | (go_big_quiet_want; go_big_quiet_op; first | go_big_quiet_on | (refine ⟨_, fun _ _ => rfl, ?_⟩; go_big_quiet_on))
      first
      | go_big_quiet_skip
      | (go_big_quiet_want; go_big_quiet_op; first | go_big_quiet_on | (refine ⟨_, fun _ _ => rfl, ?_⟩; go_big_quiet_on))
      first
      | go_big_quiet_skip
      | (go_big_quiet_want; go_big_quiet_op; first | go_big_quiet_on | (refine ⟨_, fun _ _ => rfl, ?_⟩; go_big_quiet_on))
      first
      | go_big_quiet_skip
      | (go_big_quiet_want; go_big_quiet_op; first | go_big_quiet_on | (refine ⟨_, fun _ _ => rfl, ?_⟩; go_big_quiet_on))
      first
      | go_big_quiet_skip
      | (go_big_quiet_want; go_big_quiet_op; first | go_big_quiet_on | (refine ⟨_, fun _ _ => rfl, ?_⟩; go_big_quiet_on))
      first
      | go_big_quiet_skip
      | (go_big_quiet_want; go_big_quiet_op; first | go_big_quiet_on | (refine ⟨_, fun _ _ => rfl, ?_⟩; go_big_quiet_on))
      first
      | go_big_quiet_skip
      | (go_big_quiet_want; go_big_quiet_op; first | go_big_quiet_on | (refine ⟨_, fun w hw => Calls.ext_of hw (HSP.out w hw), ?_⟩; go_big_quiet_on))
      first
      | go_big_quiet_skip
      | (go_big_quiet_want; go_big_quiet_op; first | go_big_quiet_on | (refine ⟨_, fun _ _ => rfl, ?_⟩; go_big_quiet_on))
      first
      | go_big_quiet_skip
      | (go_big_quiet_want; go_big_quiet_op; first | go_big_quiet_on | (refine ⟨_, fun _ _ => rfl, ?_⟩; go_big_quiet_on))
      refine wpQuiet_nil ?_
      intro w3 hw3
      go_wp2
      go_ret
      exact ⟨rfl, HE.out.trans hw3⟩
    · skip
      have r9 : (!decide (n = 44) && !f1) = !f1 := by simp [hn]
      have r10 : (decide (n = 45) || (decide (48 ≤ n) && decide (n ≤ 57))) = true := by simp [hn]
      have g1 : ((n : Int) != 44) = true := by simp [hn]
      have g2 : ((n : Int) == 45) = true := by simp [hn]
      rw [r9] at H9
      rw [r10] at H10
      clear r9 r10
      clear hn
      refine wp_region_ext w1 wc (by kernel_rfl) (by kernel_rfl) HY.out ?_
      first
      | go_big_quiet_skip
      | (go_big_quiet_want; go_big_quiet_op; first | go_big_quiet_on | (refine ⟨_, fun _ _ => rfl, ?_⟩; go_big_quiet_on))
      first
      | go_big_quiet_skip
      | (go_big_quiet_want; go_big_quiet_op; first | go_big_quiet_on | (refine ⟨_, fun w hw => Calls.ext_of hw (H13.out w hw), ?_⟩; go_big_quiet_on))
      first
      | go_big_quiet_skip
      | (go_big_quiet_want; go_big_quiet_op; first | go_big_quiet_on | (refine ⟨.int .i64 (n : Int), fun w hw => by (obtain ⟨_, c1, _⟩ := HV.out.ext hw; simp [c1, Result.andThen]), ?_⟩; go_big_quiet_on))
      first
      | go_big_quiet_skip
      | (go_big_quiet_want; go_big_quiet_op; first | go_big_quiet_on | (refine ⟨_, fun _ _ => rfl, ?_⟩; go_big_quiet_on))
      first
      | go_big_quiet_skip
      | (go_big_quiet_want; go_big_quiet_op; first | go_big_quiet_on | (refine ⟨_, fun _ _ => rfl, ?_⟩; go_big_quiet_on))
      first
      | go_big_quiet_skip
      | (go_big_quiet_want; go_big_quiet_op; first | go_big_quiet_on | (refine ⟨_, fun _ _ => rfl, ?_⟩; go_big_quiet_on))
      first
      | go_big_quiet_skip
      | (go_big_quiet_want; go_big_quiet_op; first | go_big_quiet_on | (refine ⟨_, fun _ _ => rfl, ?_⟩; go_big_quiet_on))
      first
      | go_big_quiet_skip
      | (go_big_quiet_want; go_big_quiet_op; first | go_big_quiet_on | (refine ⟨_, fun w hw => Calls.ext_of hw (H8.out w hw), ?_⟩; go_big_quiet_on))
      first
      | go_big_quiet_skip
      | (go_big_quiet_want; go_big_quiet_op; first | go_big_quiet_on | (refine ⟨.int .i64 (n : Int), fun w hw => by (obtain ⟨_, c1, _⟩ := HV.out.ext hw; simp [c1, Result.andThen]), ?_⟩; go_big_quiet_on))
      first
      | go_big_quiet_skip
      | (go_big_quiet_want; go_big_quiet_op; first | go_big_quiet_on | (refine ⟨_, fun _ _ => rfl, ?_⟩; go_big_quiet_on))
      first
      | go_big_quiet_skip
      | (go_big_quiet_want; go_big_quiet_op; first | go_big_quiet_on | (refine ⟨_, fun _ _ => rfl, ?_⟩; go_big_quiet_on))
      first
      | go_big_quiet_skip
      | (go_big_quiet_want; go_big_quiet_op; first | go_big_quiet_on | (refine ⟨_, fun _ _ => rfl, ?_⟩; go_big_quiet_on))
      first
      | go_big_quiet_skip
      | (go_big_quiet_want; go_big_quiet_op; first | go_big_quiet_on | (refine ⟨_, fun _ _ => rfl, ?_⟩; go_big_quiet_on))
      first
      | go_big_quiet_skip
      | (go_big_quiet_want; go_big_quiet_op; first | go_big_quiet_on | (refine ⟨_, fun _ _ => rfl, ?_⟩; go_big_quiet_on))
      first
      | go_big_quiet_skip
      | (go_big_quiet_want; go_big_quiet_op; first | go_big_quiet_on | (refine ⟨_, fun w hw => Calls.ext_of hw (H9.out w hw), ?_⟩; go_big_quiet_on))
      first
      | go_big_quiet_skip
      | (go_big_quiet_want; go_big_quiet_op; first | go_big_quiet_on | (refine ⟨.int .i64 (n : Int), fun w hw => by (obtain ⟨_, c1, _⟩ := HV.out.ext hw; simp [c1, Result.andThen]), ?_⟩; go_big_quiet_on))
      first
      | go_big_quiet_skip
      | (go_big_quiet_want; go_big_quiet_op; first | go_big_quiet_on | (refine ⟨_, fun _ _ => rfl, ?_⟩; go_big_quiet_on))
      first
      | go_big_quiet_skip
      | (go_big_quiet_want; go_big_quiet_op; first | go_big_quiet_on | (refine ⟨_, fun _ _ => rfl, ?_⟩; go_big_quiet_on))
      first
      | go_big_quiet_skip
      | (go_big_quiet_want; go_big_quiet_op; first | go_big_quiet_on | (refine ⟨_, fun _ _ => rfl, ?_⟩; go_big_quiet_on))
      first
      | go_big_quiet_skip
      | (go_big_quiet_want; go_big_quiet_op; first | go_big_quiet_on | (refine ⟨_, fun w hw => Calls.ext_of hw (H1.out w hw), ?_⟩; go_big_quiet_on))
      first
      | go_big_quiet_skip
      | (go_big_quiet_want; go_big_quiet_op; first | go_big_quiet_on | (refine ⟨_, fun _ _ => rfl, ?_⟩; go_big_quiet_on))
      first
      | go_big_quiet_skip
      | (go_big_quiet_want; go_big_quiet_op; first | go_big_quiet_on | (refine ⟨_, fun _ _ => rfl, ?_⟩; go_big_quiet_on))
      first
      | go_big_quiet_skip
      | (go_big_quiet_want; go_big_quiet_op; first | go_big_quiet_on | (refine ⟨_, fun _ _ => rfl, ?_⟩; go_big_quiet_on))
      first
      | go_big_quiet_skip
      | (go_big_quiet_want; go_big_quiet_op; first | go_big_quiet_on | (refine ⟨_, fun _ _ => rfl, ?_⟩; go_big_quiet_on))
      first
      | go_big_quiet_skip
      | (go_big_quiet_want; go_big_quiet_op; first | go_big_quiet_on | (refine ⟨_, fun _ _ => rfl, ?_⟩; go_big_quiet_on))
      first
      | go_big_quiet_skip
      | (go_big_quiet_want; go_big_quiet_op; first | go_big_quiet_on | (refine ⟨_, fun _ _ => rfl, ?_⟩; go_big_quiet_on))
      first
      | go_big_quiet_skip
      | (go_big_quiet_want; go_big_quiet_op; first | go_big_quiet_on | (refine ⟨_, fun w hw => Calls.ext_of hw (H10.out w hw), ?_⟩; go_big_quiet_on))
      first
      | go_big_quiet_skip
      | (go_big_quiet_want; go_big_quiet_op; first | go_big_quiet_on | (refine ⟨.int .i64 (n : Int), fun w hw => by (obtain ⟨_, c1, _⟩ := HV.out.ext hw; simp [c1, Result.andThen]), ?_⟩; go_big_quiet_on))
      first
      | go_big_quiet_skip
      | (go_big_quiet_want; go_big_quiet_op; first | go_big_quiet_on | (refine ⟨_, fun _ _ => rfl, ?_⟩; go_big_quiet_on))
      first
      | go_big_quiet_skip
      | (go_big_quiet_want; go_big_quiet_op; first | go_big_quiet_on | (refine ⟨_, fun _ _ => rfl, ?_⟩; go_big_quiet_on))
      first
      | go_big_quiet_skip
      | (go_big_quiet_want; go_big_quiet_op; first | go_big_quiet_on | (refine ⟨.int .i64 (n : Int), fun w hw => by (obtain ⟨_, c1, _⟩ := HV.out.ext hw; simp [c1, Result.andThen]), ?_⟩; go_big_quiet_on))
      first
      | go_big_quiet_skip
      | (go_big_quiet_want; go_big_quiet_op; first | go_big_quiet_on | (refine ⟨_, fun _ _ => rfl, ?_⟩; go_big_quiet_on))
      first
      | go_big_quiet_skip
      | (go_big_quiet_want; go_big_quiet_op; first | go_big_quiet_on | (refine ⟨_, fun _ _ => rfl, ?_⟩; go_big_quiet_on))
      first
      | go_big_quiet_skip
      | (go_big_quiet_want; go_big_quiet_op; first | go_big_quiet_on | (refine ⟨.int .i64 (n : Int), fun w hw => by (obtain ⟨_, c1, _⟩ := HV.out.ext hw; simp [c1, Result.andThen]), ?_⟩; go_big_quiet_on))
      first
      | go_big_quiet_skip
      | (go_big_quiet_want; go_big_quiet_op; first | go_big_quiet_on | (refine ⟨_, fun _ _ => rfl, ?_⟩; go_big_quiet_on))
      first
      | go_big_quiet_skip
      | (go_big_quiet_want; go_big_quiet_op; first | go_big_quiet_on | (refine ⟨_, fun _ _ => rfl, ?_⟩; go_big_quiet_on))
      first
      | go_big_quiet_skip
      | (go_big_quiet_want; go_big_quiet_op; first | go_big_quiet_on | (refine ⟨_, fun _ _ => rfl, ?_⟩; go_big_quiet_on))
      first
      | go_big_quiet_skip
      | (go_big_quiet_want; go_big_quiet_op; first | go_big_quiet_on | (refine ⟨_, fun _ _ => rfl, ?_⟩; go_big_quiet_on))
      first
      | go_big_quiet_skip
      | (go_big_quiet_want; go_big_quiet_op; first | go_big_quiet_on | (refine ⟨_, fun _ _ => rfl, ?_⟩; go_big_quiet_on))
      first
      | go_big_quiet_skip
      | (go_big_quiet_want; go_big_quiet_op; first | go_big_quiet_on | (refine ⟨_, fun _ _ => rfl, ?_⟩; go_big_quiet_on))
      first
      | go_big_quiet_skip
      | (go_big_quiet_want; go_big_quiet_op; first | go_big_quiet_on | (refine ⟨_, fun w hw => Calls.ext_of hw (HSP.out w hw), ?_⟩; go_big_quiet_on))
      first
      | go_big_quiet_skip
      | (go_big_quiet_want; go_big_quiet_op; first | go_big_quiet_on | (refine ⟨_, fun _ _ => rfl, ?_⟩; go_big_quiet_on))
      first
      | go_big_quiet_skip
      | (go_big_quiet_want; go_big_quiet_op; first | go_big_quiet_on | (refine ⟨_, fun _ _ => rfl, ?_⟩; go_big_quiet_on))
      refine wpQuiet_nil ?_
      intro w3 hw3
      go_wp2
      go_ret
      exact ⟨rfl, HE.out.trans hw3⟩
    · skip
      have r9 : (!decide (n = 44) && !f1) = !f1 := by simp [hn]
      have r10 : (decide (n = 45) || (decide (48 ≤ n) && decide (n ≤ 57))) = false := by simp [hn2]; omega
      have g1 : ((n : Int) != 44) = true := by simp; omega
      have g2 : ((n : Int) == 45) = false := by simp; omega
      have g3 : decide (48 ≤ (n : Int)) = false := decide_eq_false (by omega)
      rw [r9] at H9
      rw [r10] at H10
      clear r9 r10
      clear hn
      clear hn2 hn3
      refine wp_region_ext w1 wc (by kernel_rfl) (by kernel_rfl) HY.out ?_
      first
      | go_big_quiet_skip
      | (go_big_quiet_want; go_big_quiet_op; first | go_big_quiet_on | (refine ⟨_, fun _ _ => rfl, ?_⟩; go_big_quiet_on))
      first
      | go_big_quiet_skip
      | (go_big_quiet_want; go_big_quiet_op; first | go_big_quiet_on | (refine ⟨_, fun w hw => Calls.ext_of hw (H13.out w hw), ?_⟩; go_big_quiet_on))
      first
      | go_big_quiet_skip
      | (go_big_quiet_want; go_big_quiet_op; first | go_big_quiet_on | (refine ⟨.int .i64 (n : Int), fun w hw => by (obtain ⟨_, c1, _⟩ := HV.out.ext hw; simp [c1, Result.andThen]), ?_⟩; go_big_quiet_on))
      first
      | go_big_quiet_skip
      | (go_big_quiet_want; go_big_quiet_op; first | go_big_quiet_on | (refine ⟨_, fun _ _ => rfl, ?_⟩; go_big_quiet_on))
      first
      | go_big_quiet_skip
      | (go_big_quiet_want; go_big_quiet_op; first | go_big_quiet_on | (refine ⟨_, fun _ _ => rfl, ?_⟩; go_big_quiet_on))
      first
      | go_big_quiet_skip
      | (go_big_quiet_want; go_big_quiet_op; first | go_big_quiet_on | (refine ⟨_, fun _ _ => rfl, ?_⟩; go_big_quiet_on))
      first
      | go_big_quiet_skip
      | (go_big_quiet_want; go_big_quiet_op; first | go_big_quiet_on | (refine ⟨_, fun _ _ => rfl, ?_⟩; go_big_quiet_on))
      first
      | go_big_quiet_skip
      | (go_big_quiet_want; go_big_quiet_op; first | go_big_quiet_on | (refine ⟨_, fun w hw => Calls.ext_of hw (H8.out w hw), ?_⟩; go_big_quiet_on))
      first
      | go_big_quiet_skip
      | (go_big_quiet_want; go_big_quiet_op; first | go_big_quiet_on | (refine ⟨.int .i64 (n : Int), fun w hw => by (obtain ⟨_, c1, _⟩ := HV.out.ext hw; simp [c1, Result.andThen]), ?_⟩; go_big_quiet_on))
      first
      | go_big_quiet_skip
      | (go_big_quiet_want; go_big_quiet_op; first | go_big_quiet_on | (refine ⟨_, fun _ _ => rfl, ?_⟩; go_big_quiet_on))
      first
      | go_big_quiet_skip
      | (go_big_quiet_want; go_big_quiet_op; first | go_big_quiet_on | (refine ⟨_, fun _ _ => rfl, ?_⟩; go_big_quiet_on))
      first
      | go_big_quiet_skip
      | (go_big_quiet_want; go_big_quiet_op; first | go_big_quiet_on | (refine ⟨_, fun _ _ => rfl, ?_⟩; go_big_quiet_on))
      first
      | go_big_quiet_skip
      | (go_big_quiet_want; go_big_quiet_op; first | go_big_quiet_on | (refine ⟨_, fun _ _ => rfl, ?_⟩; go_big_quiet_on))
      first
      | go_big_quiet_skip
      | (go_big_quiet_want; go_big_quiet_op; first | go_big_quiet_on | (refine ⟨_, fun _ _ => rfl, ?_⟩; go_big_quiet_on))
      first
      | go_big_quiet_skip
      | (go_big_quiet_want; go_big_quiet_op; first | go_big_quiet_on | (refine ⟨_, fun w hw => Calls.ext_of hw (H9.out w hw), ?_⟩; go_big_quiet_on))
      first
      | go_big_quiet_skip
      | (go_big_quiet_want; go_big_quiet_op; first | go_big_quiet_on | (refine ⟨.int .i64 (n : Int), fun w hw => by (obtain ⟨_, c1, _⟩ := HV.out.ext hw; simp [c1, Result.andThen]), ?_⟩; go_big_quiet_on))
      first
      | go_big_quiet_skip
      | (go_big_quiet_want; go_big_quiet_op; first | go_big_quiet_on | (refine ⟨_, fun _ _ => rfl, ?_⟩; go_big_quiet_on))
      first
      | go_big_quiet_skip
      | (go_big_quiet_want; go_big_quiet_op; first | go_big_quiet_on | (refine ⟨_, fun _ _ => rfl, ?_⟩; go_big_quiet_on))
      first
      | go_big_quiet_skip
      | (go_big_quiet_want; go_big_quiet_op; first | go_big_quiet_on | (refine ⟨_, fun _ _ => rfl, ?_⟩; go_big_quiet_on))
      first
      | go_big_quiet_skip
      | (go_big_quiet_want; go_big_quiet_op; first | go_big_quiet_on | (refine ⟨_, fun w hw => Calls.ext_of hw (H1.out w hw), ?_⟩; go_big_quiet_on))
      first
      | go_big_quiet_skip
      | (go_big_quiet_want; go_big_quiet_op; first | go_big_quiet_on | (refine ⟨_, fun _ _ => rfl, ?_⟩; go_big_quiet_on))
      first
      | go_big_quiet_skip
      | (go_big_quiet_want; go_big_quiet_op; first | go_big_quiet_on | (refine ⟨_, fun _ _ => rfl, ?_⟩; go_big_quiet_on))
      first
      | go_big_quiet_skip
      | (go_big_quiet_want; go_big_quiet_op; first | go_big_quiet_on | (refine ⟨_, fun _ _ => rfl, ?_⟩; go_big_quiet_on))
      first
      | go_big_quiet_skip
      | (go_big_quiet_want; go_big_quiet_op; first | go_big_quiet_on | (refine ⟨_, fun _ _ => rfl, ?_⟩; go_big_quiet_on))
      first
      | go_big_quiet_skip
      | (go_big_quiet_want; go_big_quiet_op; first | go_big_quiet_on | (refine ⟨_, fun _ _ => rfl, ?_⟩; go_big_quiet_on))
      first
      | go_big_quiet_skip
      | (go_big_quiet_want; go_big_quiet_op; first | go_big_quiet_on | (refine ⟨_, fun _ _ => rfl, ?_⟩; go_big_quiet_on))
      first
      | go_big_quiet_skip
      | (go_big_quiet_want; go_big_quiet_op; first | go_big_quiet_on | (refine ⟨_, fun w hw => Calls.ext_of hw (H10.out w hw), ?_⟩; go_big_quiet_on))
      first
      | go_big_quiet_skip
      | (go_big_quiet_want; go_big_quiet_op; first | go_big_quiet_on | (refine ⟨.int .i64 (n : Int), fun w hw => by (obtain ⟨_, c1, _⟩ := HV.out.ext hw; simp [c1, Result.andThen]), ?_⟩; go_big_quiet_on))
      first
      | go_big_quiet_skip
      | (go_big_quiet_want; go_big_quiet_op; first | go_big_quiet_on | (refine ⟨_, fun _ _ => rfl, ?_⟩; go_big_quiet_on))
      first
      | go_big_quiet_skip
      | (go_big_quiet_want; go_big_quiet_op; first | go_big_quiet_on | (refine ⟨_, fun _ _ => rfl, ?_⟩; go_big_quiet_on))
      first
      | go_big_quiet_skip
      | (go_big_quiet_want; go_big_quiet_op; first | go_big_quiet_on | (refine ⟨.int .i64 (n : Int), fun w hw => by (obtain ⟨_, c1, _⟩ := HV.out.ext hw; simp [c1, Result.andThen]), ?_⟩; go_big_quiet_on))
      first
      | go_big_quiet_skip
      | (go_big_quiet_want; go_big_quiet_op; first | go_big_quiet_on | (refine ⟨_, fun _ _ => rfl, ?_⟩; go_big_quiet_on))
      first
      | go_big_quiet_skip
      | (go_big_quiet_want; go_big_quiet_op; first | go_big_quiet_on | (refine ⟨_, fun _ _ => rfl, ?_⟩; go_big_quiet_on))
      first
      | go_big_quiet_skip
      | (go_big_quiet_want; go_big_quiet_op; first | go_big_quiet_on | (refine ⟨.int .i64 (n : Int), fun w hw => by (obtain ⟨_, c1, _⟩ := HV.out.ext hw; simp [c1, Result.andThen]), ?_⟩; go_big_quiet_on))
      first
      | go_big_quiet_skip
      | (go_big_quiet_want; go_big_quiet_op; first | go_big_quiet_on | (refine ⟨_, fun _ _ => rfl, ?_⟩; go_big_quiet_on))
      first
      | go_big_quiet_skip
      | (go_big_quiet_want; go_big_quiet_op; first | go_big_quiet_on | (refine ⟨_, fun _ _ => rfl, ?_⟩; go_big_quiet_on))
      first
      | go_big_quiet_skip
      | (go_big_quiet_want; go_big_quiet_op; first | go_big_quiet_on | (refine ⟨_, fun _ _ => rfl, ?_⟩; go_big_quiet_on))
      first
      | go_big_quiet_skip
      | (go_big_quiet_want; go_big_quiet_op; first | go_big_quiet_on | (refine ⟨_, fun _ _ => rfl, ?_⟩; go_big_quiet_on))
      first
      | go_big_quiet_skip
      | (go_big_quiet_want; go_big_quiet_op; first | go_big_quiet_on | (refine ⟨_, fun _ _ => rfl, ?_⟩; go_big_quiet_on))
      first
      | go_big_quiet_skip
      | (go_big_quiet_want; go_big_quiet_op; first | go_big_quiet_on | (refine ⟨_, fun _ _ => rfl, ?_⟩; go_big_quiet_on))
      first
      | go_big_quiet_skip
      | (go_big_quiet_want; go_big_quiet_op; first | go_big_quiet_on | (refine ⟨_, fun w hw => Calls.ext_of hw (HSP.out w hw), ?_⟩; go_big_quiet_on))
      first
      | go_big_quiet_skip
      | (go_big_quiet_want; go_big_quiet_op; first | go_big_quiet_on | (refine ⟨_, fun _ _ => rfl, ?_⟩; go_big_quiet_on))
      first
      | go_big_quiet_skip
      | (go_big_quiet_want; go_big_quiet_op; first | go_big_quiet_on | (refine ⟨_, fun _ _ => rfl, ?_⟩; go_big_quiet_on))
      refine wpQuiet_nil ?_
      intro w3 hw3
      go_wp2
      go_ret
      exact ⟨rfl, HE.out.trans hw3⟩
    · skip
      have r9 : (!decide (n = 44) && !f1) = !f1 := by simp [hn]
      have r10 : (decide (n = 45) || (decide (48 ≤ n) && decide (n ≤ 57))) = decide ((n : Int) ≤ 57) := by
        have : decide (n ≤ 57) = decide ((n : Int) ≤ 57) := by by_cases h : n ≤ 57 <;> simp [h] <;> omega
        simp [hn2, hn3]; omega
      have g1 : ((n : Int) != 44) = true := by simp; omega
      have g2 : ((n : Int) == 45) = false := by simp; omega
      have g3 : decide (48 ≤ (n : Int)) = true := decide_eq_true (by omega)
      rw [r9] at H9
      rw [r10] at H10
      clear r9 r10
      clear hn
      clear hn2 hn3
      refine wp_region_ext w1 wc (by kernel_rfl) (by kernel_rfl) HY.out ?_
      first
      | go_big_quiet_skip
      | (go_big_quiet_want; go_big_quiet_op; first | go_big_quiet_on | (refine ⟨_, fun _ _ => rfl, ?_⟩; go_big_quiet_on))
      first
      | go_big_quiet_skip
      | (go_big_quiet_want; go_big_quiet_op; first | go_big_quiet_on | (refine ⟨_, fun w hw => Calls.ext_of hw (H13.out w hw), ?_⟩; go_big_quiet_on))
      first
      | go_big_quiet_skip
      | (go_big_quiet_want; go_big_quiet_op; first | go_big_quiet_on | (refine ⟨.int .i64 (n : Int), fun w hw => by (obtain ⟨_, c1, _⟩ := HV.out.ext hw; simp [c1, Result.andThen]), ?_⟩; go_big_quiet_on))
      first
      | go_big_quiet_skip
      | (go_big_quiet_want; go_big_quiet_op; first | go_big_quiet_on | (refine ⟨_, fun _ _ => rfl, ?_⟩; go_big_quiet_on))
      first
      | go_big_quiet_skip
      | (go_big_quiet_want; go_big_quiet_op; first | go_big_quiet_on | (refine ⟨_, fun _ _ => rfl, ?_⟩; go_big_quiet_on))
      first
      | go_big_quiet_skip
      | (go_big_quiet_want; go_big_quiet_op; first | go_big_quiet_on | (refine ⟨_, fun _ _ => rfl, ?_⟩; go_big_quiet_on))
      first
      | go_big_quiet_skip
      | (go_big_quiet_want; go_big_quiet_op; first | go_big_quiet_on | (refine ⟨_, fun _ _ => rfl, ?_⟩; go_big_quiet_on))
      first
      | go_big_quiet_skip
      | (go_big_quiet_want; go_big_quiet_op; first | go_big_quiet_on | (refine ⟨_, fun w hw => Calls.ext_of hw (H8.out w hw), ?_⟩; go_big_quiet_on))
      first
      | go_big_quiet_skip
      | (go_big_quiet_want; go_big_quiet_op; first | go_big_quiet_on | (refine ⟨.int .i64 (n : Int), fun w hw => by (obtain ⟨_, c1, _⟩ := HV.out.ext hw; simp [c1, Result.andThen]), ?_⟩; go_big_quiet_on))
      first
      | go_big_quiet_skip
      | (go_big_quiet_want; go_big_quiet_op; first | go_big_quiet_on | (refine ⟨_, fun _ _ => rfl, ?_⟩; go_big_quiet_on))
      first
      | go_big_quiet_skip
      | (go_big_quiet_want; go_big_quiet_op; first | go_big_quiet_on | (refine ⟨_, fun _ _ => rfl, ?_⟩; go_big_quiet_on))
      first
      | go_big_quiet_skip
      | (go_big_quiet_want; go_big_quiet_op; first | go_big_quiet_on | (refine ⟨_, fun _ _ => rfl, ?_⟩; go_big_quiet_on))
      first
      | go_big_quiet_skip
      | (go_big_quiet_want; go_big_quiet_op; first | go_big_quiet_on | (refine ⟨_, fun _ _ => rfl, ?_⟩; go_big_quiet_on))
      first
      | go_big_quiet_skip
      | (go_big_quiet_want; go_big_quiet_op; first | go_big_quiet_on | (refine ⟨_, fun _ _ => rfl, ?_⟩; go_big_quiet_on))
      first
      | go_big_quiet_skip
      | (go_big_quiet_want; go_big_quiet_op; first | go_big_quiet_on | (refine ⟨_, fun w hw => Calls.ext_of hw (H9.out w hw), ?_⟩; go_big_quiet_on))
      first
      | go_big_quiet_skip
      | (go_big_quiet_want; go_big_quiet_op; first | go_big_quiet_on | (refine ⟨.int .i64 (n : Int), fun w hw => by (obtain ⟨_, c1, _⟩ := HV.out.ext hw; simp [c1, Result.andThen]), ?_⟩; go_big_quiet_on))
      first
      | go_big_quiet_skip
      | (go_big_quiet_want; go_big_quiet_op; first | go_big_quiet_on | (refine ⟨_, fun _ _ => rfl, ?_⟩; go_big_quiet_on))
      first
      | go_big_quiet_skip
      | (go_big_quiet_want; go_big_quiet_op; first | go_big_quiet_on | (refine ⟨_, fun _ _ => rfl, ?_⟩; go_big_quiet_on))
      first
      | go_big_quiet_skip
      | (go_big_quiet_want; go_big_quiet_op; first | go_big_quiet_on | (refine ⟨_, fun _ _ => rfl, ?_⟩; go_big_quiet_on))
      first
      | go_big_quiet_skip
      | (go_big_quiet_want; go_big_quiet_op; first | go_big_quiet_on | (refine ⟨_, fun w hw => Calls.ext_of hw (H1.out w hw), ?_⟩; go_big_quiet_on))
      first
      | go_big_quiet_skip
      | (go_big_quiet_want; go_big_quiet_op; first | go_big_quiet_on | (refine ⟨_, fun _ _ => rfl, ?_⟩; go_big_quiet_on))
      first
      | go_big_quiet_skip
      | (go_big_quiet_want; go_big_quiet_op; first | go_big_quiet_on | (refine ⟨_, fun _ _ => rfl, ?_⟩; go_big_quiet_on))
      first
      | go_big_quiet_skip
      | (go_big_quiet_want; go_big_quiet_op; first | go_big_quiet_on | (refine ⟨_, fun _ _ => rfl, ?_⟩; go_big_quiet_on))
      first
      | go_big_quiet_skip
      | (go_big_quiet_want; go_big_quiet_op; first | go_big_quiet_on | (refine ⟨_, fun _ _ => rfl, ?_⟩; go_big_quiet_on))
      first
      | go_big_quiet_skip
      | (go_big_quiet_want; go_big_quiet_op; first | go_big_quiet_on | (refine ⟨_, fun _ _ => rfl, ?_⟩; go_big_quiet_on))
      first
      | go_big_quiet_skip
      | (go_big_quiet_want; go_big_quiet_op; first | go_big_quiet_on | (refine ⟨_, fun _ _ => rfl, ?_⟩; go_big_quiet_on))
      first
      | go_big_quiet_skip
      | (go_big_quiet_want; go_big_quiet_op; first | go_big_quiet_on | (refine ⟨_, fun w hw => Calls.ext_of hw (H10.out w hw), ?_⟩; go_big_quiet_on))
      first
      | go_big_quiet_skip
      | (go_big_quiet_want; go_big_quiet_op; first | go_big_quiet_on | (refine ⟨.int .i64 (n : Int), fun w hw => by (obtain ⟨_, c1, _⟩ := HV.out.ext hw; simp [c1, Result.andThen]), ?_⟩; go_big_quiet_on))
      first
      | go_big_quiet_skip
      | (go_big_quiet_want; go_big_quiet_op; first | go_big_quiet_on | (refine ⟨_, fun _ _ => rfl, ?_⟩; go_big_quiet_on))
      first
      | go_big_quiet_skip
      | (go_big_quiet_want; go_big_quiet_op; first | go_big_quiet_on | (refine ⟨_, fun _ _ => rfl, ?_⟩; go_big_quiet_on))
      first
      | go_big_quiet_skip
      | (go_big_quiet_want; go_big_quiet_op; first | go_big_quiet_on | (refine ⟨.int .i64 (n : Int), fun w hw => by (obtain ⟨_, c1, _⟩ := HV.out.ext hw; simp [c1, Result.andThen]), ?_⟩; go_big_quiet_on))
      first
      | go_big_quiet_skip
      | (go_big_quiet_want; go_big_quiet_op; first | go_big_quiet_on | (refine ⟨_, fun _ _ => rfl, ?_⟩; go_big_quiet_on))
      first
      | go_big_quiet_skip
      | (go_big_quiet_want; go_big_quiet_op; first | go_big_quiet_on | (refine ⟨_, fun _ _ => rfl, ?_⟩; go_big_quiet_on))
      first
      | go_big_quiet_skip
      | (go_big_quiet_want; go_big_quiet_op; first | go_big_quiet_on | (refine ⟨.int .i64 (n : Int), fun w hw => by (obtain ⟨_, c1, _⟩ := HV.out.ext hw; simp [c1, Result.andThen]), ?_⟩; go_big_quiet_on))
      first
      | go_big_quiet_skip
      | (go_big_quiet_want; go_big_quiet_op; first | go_big_quiet_on | (refine ⟨_, fun _ _ => rfl, ?_⟩; go_big_quiet_on))
      first
      | go_big_quiet_skip
      | (go_big_quiet_want; go_big_quiet_op; first | go_big_quiet_on | (refine ⟨_, fun _ _ => rfl, ?_⟩; go_big_quiet_on))
      first
      | go_big_quiet_skip
      | (go_big_quiet_want; go_big_quiet_op; first | go_big_quiet_on | (refine ⟨_, fun _ _ => rfl, ?_⟩; go_big_quiet_on))
      first
      | go_big_quiet_skip
      | (go_big_quiet_want; go_big_quiet_op; first | go_big_quiet_on | (refine ⟨_, fun _ _ => rfl, ?_⟩; go_big_quiet_on))
      first
      | go_big_quiet_skip
      | (go_big_quiet_want; go_big_quiet_op; first | go_big_quiet_on | (refine ⟨_, fun _ _ => rfl, ?_⟩; go_big_quiet_on))
      first
      | go_big_quiet_skip
      | (go_big_quiet_want; go_big_quiet_op; first | go_big_quiet_on | (refine ⟨_, fun _ _ => rfl, ?_⟩; go_big_quiet_on))
      first
      | go_big_quiet_skip
      | (go_big_quiet_want; go_big_quiet_op; first | go_big_quiet_on | (refine ⟨_, fun w hw => Calls.ext_of hw (HSP.out w hw), ?_⟩; go_big_quiet_on))
      first
      | go_big_quiet_skip
      | (go_big_quiet_want; go_big_quiet_op; first | go_big_quiet_on | (refine ⟨_, fun _ _ => rfl, ?_⟩; go_big_quiet_on))
      first
      | go_big_quiet_skip
      | (go_big_quiet_want; go_big_quiet_op; first | go_big_quiet_on | (refine ⟨_, fun _ _ => rfl, ?_⟩; go_big_quiet_on))
      refine wpQuiet_nil ?_
      intro w3 hw3
      go_wp2
      go_ret
      exact ⟨rfl, HE.out.trans hw3⟩
end Go.Proofs.Ytejngpbeogaapaa
