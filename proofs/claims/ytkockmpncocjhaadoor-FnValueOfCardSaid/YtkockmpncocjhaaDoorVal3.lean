/-
  The constructors of lineprotocol.Value.
-/
import Derived.Test.YtkockmpncocjhaaDoorVal2
import Derived.Laws.BitsAll
import Derived.Deep.RegionWith
namespace Go.Proofs.YtkockmpncocjhaaDoor
open Go.RowKit
set_option linter.unusedVariables false
set_option linter.unusedSimpArgs false

theorem andNot63 (F : Nat) (hF : F < 18446744073709551616) : bits .andNot .u64 (F : Int) 9223372036854775808 = ((F % 9223372036854775808 : Nat) : Int) := by
  have h := u64_andNot_nat F 9223372036854775808 hF (by decide)
  have e : F &&& (18446744073709551615 - 9223372036854775808) = F % 9223372036854775808 := Nat.and_two_pow_sub_one_eq_mod F 63
  rw [e] at h
  exact h
set_option maxRecDepth 100000 in
theorem abs_any (F : Nat) (w : World) (hF : F < 18446744073709551616) :
    Calls Tryd.prog 37 #[.float .f64 F] w fun e w' => e = .returned (.float .f64 (F % 9223372036854775808)) ∧ w = w' := by
  have B := bits_ F
  have HB := andNot63 F hF
  have FB := frombits_ ((F % 9223372036854775808 : Nat) : Int)
  rw [Int.toNat_natCast] at FB
  generalize F % 9223372036854775808 = G at HB FB ⊢
  go_enter Tryd.func37, Tryd.ntmps37
  go_wp2
  go_ret
  exact ⟨rfl, rfl⟩
set_option maxRecDepth 100000 in
theorem isInf_any (F : Nat) (w : World) (hF : F < 18446744073709551616) :
    Calls Tryd.prog 27 #[.float .f64 F, .int .i64 0] w fun e w' => e = .returned (.bool (Ieee.double.order (F % 9223372036854775808) maxF == some .gt)) ∧ w = w' := by
  have AB := abs_any F w hF
  generalize F % 9223372036854775808 = G at AB ⊢
  unfold maxF
  have AB := hide AB
  go_enter Tryd.func27, Tryd.ntmps27
  go_wp2_with fail
  refine AB.out.mono ?_
  rintro e w1 ⟨rfl, rfl⟩
  go_wp2
  go_ret
  exact ⟨rfl, rfl⟩
set_option maxRecDepth 100000 in
theorem isNaN_any (F : Nat) (w : World) :
    Calls Tryd.prog 28 #[.float .f64 F] w fun e w' => e = .returned (.bool (Ieee.double.order F F != some .eq)) ∧ w = w' := by
  go_enter Tryd.func28, Tryd.ntmps28
  go_wp2
  go_ret
  exact ⟨rfl, rfl⟩
set_option maxRecDepth 100000 in
theorem floatVal_any (F : Nat) (w : World) (hF : F < 18446744073709551616) :
    Calls Tryd.prog 21 #[.float .f64 F] w fun e w' => e = .returned (if finB F = true then .tuple #[lpV F none 0 0 4, .bool true] else .tuple #[lpV 0 none 0 0 0, .bool false]) ∧ Ext w w' := by
  have BI := bits_ F
  have I := hide (fun w => isInf_any F w hF)
  have N := hide (fun w => isNaN_any F w)
  by_cases hf : finB F = true
  · rw [if_pos hf]
    have e1 : (Ieee.double.order (F % 9223372036854775808) maxF == some .gt) = false := by rw [beq_eq_false_iff_ne]; exact abs_fin hf
    have e2 : (Ieee.double.order F F != some .eq) = false := by rw [eq_self hf]; rfl
    rw [e1] at I
    rw [e2] at N
    clear e1 e2 hf
    unfold lpV
    go_enter Tryd.func21, Tryd.ntmps21
    go_wp2_with fail
    refine (I.out _).mono ?_
    rintro e w1 ⟨rfl, rfl⟩
    go_wp2_with fail
    refine (N.out _).mono ?_
    rintro e w1 ⟨rfl, rfl⟩
    go_wp2
    refine bodyPost_ret (v := .tuple #[lpV F none 0 0 4, .bool true]) (by simp [results, Tryd.results21, go_sem, lpV]) rfl ⟨by unfold lpV; rfl, by repeat (first | exact Ext.refl _ | refine Ext.alloc ?_ _ | refine Ext.setCell ?_ (by first | (simp; done) | (simp; omega)) _)⟩
  · rw [if_neg hf]
    have hf2 : finB F = false := by simpa using hf
    rcases abs_inf hf2 with h | h
    · have e1 : (Ieee.double.order (F % 9223372036854775808) maxF == some .gt) = true := by rw [show Ieee.double.order (F % 9223372036854775808) maxF = some .gt from h]; rfl
      rw [e1] at I
      clear e1 hf hf2 h N
      unfold lpV
      go_enter Tryd.func21, Tryd.ntmps21
      go_wp2_with fail
      refine (I.out _).mono ?_
      rintro e w1 ⟨rfl, rfl⟩
      go_wp2
      refine bodyPost_ret (v := .tuple #[lpV 0 none 0 0 0, .bool false]) (by simp [results, Tryd.results21, go_sem, lpV]) rfl ⟨by unfold lpV; rfl, by repeat (first | exact Ext.refl _ | refine Ext.alloc ?_ _ | refine Ext.setCell ?_ (by first | (simp; done) | (simp; omega)) _)⟩
    · have e2 : (Ieee.double.order F F != some .eq) = true := by rw [h]; rfl
      rw [e2] at N
      clear e2 hf hf2 h
      generalize (Ieee.double.order (F % 9223372036854775808) maxF == some .gt) = b at I
      unfold lpV
      cases b
      · go_enter Tryd.func21, Tryd.ntmps21
        go_wp2_with fail
        refine (I.out _).mono ?_
        rintro e w1 ⟨rfl, rfl⟩
        go_wp2_with fail
        refine (N.out _).mono ?_
        rintro e w1 ⟨rfl, rfl⟩
        go_wp2
        refine bodyPost_ret (v := .tuple #[lpV 0 none 0 0 0, .bool false]) (by simp [results, Tryd.results21, go_sem, lpV]) rfl ⟨by unfold lpV; rfl, by repeat (first | exact Ext.refl _ | refine Ext.alloc ?_ _ | refine Ext.setCell ?_ (by first | (simp; done) | (simp; omega)) _)⟩
      · go_enter Tryd.func21, Tryd.ntmps21
        go_wp2_with fail
        refine (I.out _).mono ?_
        rintro e w1 ⟨rfl, rfl⟩
        go_wp2
        refine bodyPost_ret (v := .tuple #[lpV 0 none 0 0 0, .bool false]) (by simp [results, Tryd.results21, go_sem, lpV]) rfl ⟨by unfold lpV; rfl, by repeat (first | exact Ext.refl _ | refine Ext.alloc ?_ _ | refine Ext.setCell ?_ (by first | (simp; done) | (simp; omega)) _)⟩
set_option maxRecDepth 100000 in
theorem wrapU (N : Int) : IntKind.u64.wrap N = N % 18446744073709551616 := by simp [IntKind.wrap, IntKind.signed, IntKind.bits]
set_option maxRecDepth 100000 in
theorem intVal_any (N : Int) (w : World) :
    Calls Tryd.prog 19 #[.int .i64 N] w fun e w' => e = .returned (lpV (N % 18446744073709551616) none 0 0 2) ∧ Ext w w' := by
  unfold lpV
  go_enter Tryd.func19, Tryd.ntmps19
  go_wp2
  refine bodyPost_ret (v := lpV (N % 18446744073709551616) none 0 0 2) (by simp [results, Tryd.results19, go_sem, lpV, wrapU]) rfl ⟨by unfold lpV; rfl, by repeat (first | exact Ext.refl _ | refine Ext.alloc ?_ _ | refine Ext.setCell ?_ (by first | (simp; done) | (simp; omega)) _)⟩
set_option maxRecDepth 100000 in
theorem uintVal_any (U : Int) (w : World) (h0 : 0 ≤ U) (h1 : U < 18446744073709551616) :
    Calls Tryd.prog 20 #[.int .u64 U] w fun e w' => e = .returned (lpV U none 0 0 3) ∧ Ext w w' := by
  unfold lpV
  go_enter Tryd.func20, Tryd.ntmps20
  go_wp2
  refine bodyPost_ret (v := lpV U none 0 0 3) (by simp [results, Tryd.results20, go_sem, lpV]) rfl ⟨by unfold lpV; rfl, by repeat (first | exact Ext.refl _ | refine Ext.alloc ?_ _ | refine Ext.setCell ?_ (by first | (simp; done) | (simp; omega)) _)⟩
set_option maxRecDepth 100000 in
theorem boolVal_any (b : Bool) (w : World) :
    Calls Tryd.prog 22 #[.bool b] w fun e w' => e = .returned (lpV (if b then 1 else 0) none 0 0 5) ∧ Ext w w' := by
  unfold lpV
  cases b
  · go_enter Tryd.func22, Tryd.ntmps22
    go_wp2
    refine bodyPost_ret (v := lpV 0 none 0 0 5) (by simp [results, Tryd.results22, go_sem, lpV]) rfl ⟨by unfold lpV; rfl, by repeat (first | exact Ext.refl _ | refine Ext.alloc ?_ _ | refine Ext.setCell ?_ (by first | (simp; done) | (simp; omega)) _)⟩
  · go_enter Tryd.func22, Tryd.ntmps22
    go_wp2
    refine bodyPost_ret (v := lpV 1 none 0 0 5) (by simp [results, Tryd.results22, go_sem, lpV]) rfl ⟨by unfold lpV; rfl, by repeat (first | exact Ext.refl _ | refine Ext.alloc ?_ _ | refine Ext.setCell ?_ (by first | (simp; done) | (simp; omega)) _)⟩
end Go.Proofs.YtkockmpncocjhaaDoor
