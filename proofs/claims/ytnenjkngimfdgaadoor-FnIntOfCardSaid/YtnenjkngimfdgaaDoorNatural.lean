/-
  spec.Natural: its contract, where the text has no more than 18 digits.
-/
import Derived.Test.YtnenjkngimfdgaaDoorSpecP
namespace Go.Proofs.YtnenjkngimfdgaaDoor
open Go.RowKit
set_option linter.unusedVariables false
set_option linter.unusedSimpArgs false

def natU (s : ByteArray) : Int := if isNat s.data.toList then dval s.data.toList else 0
def natB (s : ByteArray) : Bool := isNat s.data.toList

theorem dval_small (l : List UInt8) (h : digs l = true) (hl : l.length ≤ 18) : 0 ≤ dval l ∧ dval l ≤ 999999999999999999 := by
  rw [dv_dval l h hl]
  have hb := dv_bd l h
  have : (10 : Int) ^ l.length ≤ 10 ^ 18 := by
    have := Nat.pow_le_pow_right (n := 10) (by decide) hl
    exact_mod_cast this
  omega

set_option maxRecDepth 100000 in
set_option maxHeartbeats 2000000 in
theorem natural_any (s : ByteArray) (w : World) (hs : s.size ≤ 2147483647) (hg : natB s = true → s.size ≤ 18) :
    Calls Tryd.prog 11 #[.string s] w fun e w' => e = .returned (.tuple #[.int .u64 (natU s), .bool (natB s)]) ∧ Ext w w' := by
  go_enter Tryd.func11, Tryd.ntmps11
  go_wp2_with fail
  go_loop [2, 4] (fun s2 s4 => ∃ k : Nat, ∃ v : Int, k ≤ s.size ∧ s4 = .int .i64 k ∧ s2 = .int .u64 v ∧ 0 ≤ v ∧ v < 18446744073709551616 ∧ Hid (v = dval (s.data.toList.take k)) ∧ Hid (digs (s.data.toList.take k) = true)) (fun _ s4 => s.size - (intOf s4).toNat)
  case atStart => exact ⟨0, 0, by omega, rfl, rfl, by omega, by omega, hide (by simp [dval]), hide (by simp [digs])⟩
  case round =>
    obtain ⟨k, v, hk, rfl, rfl, v0, v1, HV, HD⟩ := hrel
    by_cases hlt : k < s.size
    · have hb := s[k].toNat_lt
      have HS := hide (take_snoc s.data.toList k (by rw [size_data]; exact hlt))
      by_cases hdig : 48 ≤ (s[k].toNat : Int) ∧ (s[k].toNat : Int) ≤ 57
      · obtain ⟨d0, d1⟩ := hdig
        have wd : IntKind.u64.wrap ((s[k].toNat : Int) - 48) = (s[k].toNat : Int) - 48 := by simp [IntKind.wrap, IntKind.bits, IntKind.signed]; omega
        by_cases hov : 1844674407370955161 < v ∨ (v = 1844674407370955161 ∧ 5 < (s[k].toNat : Int) - 48)
        · have HF : Hid (natU s = 0 ∧ natB s = false) := hide (by
            have hnb : natB s = false := by
              cases hq : natB s with
              | false => rfl
              | true =>
                have h18 := hg hq
                have := dval_small _ HD.out (by rw [List.length_take, size_data]; omega)
                rw [← HV.out] at this
                omega
            exact ⟨by unfold natU; rw [show isNat s.data.toList = false from hnb]; rfl, hnb⟩)
          clear hg HV HD HS
          rcases hov with h | ⟨h, h5⟩
          · go_wp2
            go_ret2
            exact ⟨by rw [HF.out.1, HF.out.2]; rfl, Ext.refl _⟩
          · subst h
            go_wp2
            go_ret2
            exact ⟨by rw [HF.out.1, HF.out.2]; rfl, Ext.refl _⟩
        · have wn : IntKind.u64.wrap (IntKind.u64.wrap (10 * v) + ((s[k].toNat : Int) - 48)) = (v * 10 + ((s[k].toNat : Int) - 48)) % 18446744073709551616 := by
            have := u64_step v ((s[k].toNat : Int) - 48)
            rwa [Int.mul_comm v 10] at this ⊢
          have HV2 : Hid ((v * 10 + ((s[k].toNat : Int) - 48)) % 18446744073709551616 = dval (s.data.toList.take (k + 1))) := hide (by
            rw [HS.out, dval_snoc, ← HV.out]; rfl)
          have HD2 : Hid (digs (s.data.toList.take (k + 1)) = true) := hide (by
            rw [HS.out, digs_snoc, HD.out]
            have e : s.data.toList[k]'(by rw [size_data]; exact hlt) = s[k] := rfl
            rw [e, decide_eq_true d0, decide_eq_true d1]; rfl)
          obtain ⟨r0, r1⟩ : 0 ≤ (v * 10 + ((s[k].toNat : Int) - 48)) % 18446744073709551616 ∧ (v * 10 + ((s[k].toNat : Int) - 48)) % 18446744073709551616 < 18446744073709551616 := by omega
          have n1 : ¬ 1844674407370955161 < v := by omega
          clear hg HV HD HS
          by_cases he : v = 1844674407370955161
          · have h5 : ¬ 5 < (s[k].toNat : Int) - 48 := by omega
            clear hov
            have HEQ := hide he
            go_wp2
            go_round
            case rel => exact ⟨k + 1, _, by omega, by go_num, rfl, by omega, by omega, hide (by rw [← HV2.out, HEQ.out]; omega), HD2⟩
            case measure => simp [intOf]; omega
          · clear hov
            go_wp2
            go_round
            case rel => exact ⟨k + 1, _, by omega, by go_num, rfl, by omega, by omega, hide (by rw [← HV2.out]; omega), HD2⟩
            case measure => simp [intOf]; omega
      · have HF : Hid (natU s = 0 ∧ natB s = false) := hide (by
          have hnb : natB s = false := by
            have h := not_digs (l := s.data.toList) (k := k) (by rw [size_data]; exact hlt) hdig
            unfold natB isNat
            cases hq : (decide (s.data.toList ≠ []) && digs s.data.toList) with
            | false => rfl
            | true => simp only [Bool.and_eq_true, decide_eq_true_eq] at hq; exact absurd hq h
          exact ⟨by unfold natU; rw [show isNat s.data.toList = false from hnb]; rfl, hnb⟩)
        clear hg HV HD HS
        rcases (by omega : (s[k].toNat : Int) < 48 ∨ (48 ≤ (s[k].toNat : Int) ∧ 57 < (s[k].toNat : Int))) with h | ⟨h, h2⟩
        all_goals
          clear hdig
          go_wp2
          go_ret2
          exact ⟨by rw [HF.out.1, HF.out.2]; rfl, Ext.refl _⟩
    · have hkk : k = s.size := by omega
      have hl := size_data s
      have HE : Hid (v = dval s.data.toList ∧ digs s.data.toList = true) := hide (by
        have h1 := HV.out
        have h2 := HD.out
        rw [List.take_of_length_le (by omega)] at h1 h2
        exact ⟨h1, h2⟩)
      clear HV HD hg
      by_cases hz : s.size = 0
      · have hnil : s.data.toList = [] := List.eq_nil_of_length_eq_zero (by omega)
        have HF : Hid (natU s = v ∧ natB s = false) := hide (by
          refine ⟨?_, by unfold natB isNat; rw [hnil]; rfl⟩
          rw [HE.out.1]
          unfold natU isNat; rw [hnil]; rfl)
        have dz : decide (0 < (s.size : Int)) = false := decide_eq_false (by omega)
        clear HE hnil hl
        go_wp2
        go_ret2
        exact ⟨by rw [HF.out.1, HF.out.2]; rfl, Ext.refl _⟩
      · have hnn : s.data.toList ≠ [] := fun h => by rw [h] at hl; simp at hl; omega
        have HF : Hid (natU s = v ∧ natB s = true) := hide (by
          have hb : natB s = true := by unfold natB isNat; rw [HE.out.2]; simp [hnn]
          refine ⟨?_, hb⟩
          unfold natU; rw [show isNat s.data.toList = true from hb, HE.out.1]; rfl)
        have dz : decide (0 < (s.size : Int)) = true := decide_eq_true (by omega)
        have dz2 : decide (0 < s.size) = true := decide_eq_true (by omega)
        clear HE hnn hl
        go_wp2
        go_ret2
        exact ⟨by rw [HF.out.1, HF.out.2]; rfl, Ext.refl _⟩
end Go.Proofs.YtnenjkngimfdgaaDoor
