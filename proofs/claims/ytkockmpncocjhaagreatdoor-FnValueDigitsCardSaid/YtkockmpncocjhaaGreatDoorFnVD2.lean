/-
  laws.FnValueDigits returns true, at every input.
-/
import Derived.Test.YtkockmpncocjhaaGreatDoorFnVD
import Derived.Lib.ItoaMem
import Derived.Lib.SmallJoins
import Derived.Sort.Grow
namespace Go.Proofs.YtkockmpncocjhaaGreatDoor
open Go.RowKit Go.Lib
set_option linter.unusedVariables false
set_option linter.unusedSimpArgs false

def TabP (w : World) : Prop := Lib.TabIs Tryz.prog w "internal/strconv.uint64pow10" .u64 Lib.pow10Tab
theorem TabP.ext {w w' : World} (h : TabP w) (hx : Ext w w') : TabP w' :=
  Joins.tab_stays (g := 1) (by kernel_rfl) h hx (Nat.le_refl _)
theorem format_any (n : Int) (h0 : -9223372036854775808 ≤ n) (h1 : n ≤ 9223372036854775807) (w : World) (hT : TabP w) :
    Calls Tryz.prog 4 #[.int .i64 n, .int .i64 10] w fun e w' => e = .returned (.string ⟨(itoa n).toArray⟩) ∧ Ext w w' :=
  (Tryz.strconv_FormatInt_10 n h0 h1 w hT).mono fun e w' ⟨he, k, os, hw⟩ => ⟨he, by
    subst hw
    exact ((Ext.refl w).drewN k).trans ⟨rfl, rfl, rfl, by simp [Go.Sort.grow], fun i hi => by simp [Go.Sort.grow, Array.getElem?_append]; intro h; simp at hi; omega⟩⟩
theorem len_of {s : ByteArray} {l : List UInt8} (h : s.data.toList = l) (hl : l.length ≤ 1000000) : s.size ≤ 1000000 := by
  have h2 := congrArg List.length h
  rw [Array.length_toList] at h2
  have h3 : s.size = l.length := h2
  omega
theorem digs_len (z m : Nat) (hz : z ≤ 500) (hm : m ≤ 9223372036854775808) : (digs z m).length ≤ 600 := by
  unfold digs
  rw [List.length_append, List.length_replicate, decDigits_length]
  have := nDigits_le20 m (by omega)
  omega
theorem vd_pos (m z d : Nat) (plus : Bool) (w : World) (hm : m ≤ 9223372036854775807) (hz : z ≤ 500) (hd : d ≤ 9) (a1 a2 a3 : Addr) (hE : ErrsW w a1 a2 a3) (hT : TabP w) :
    Calls Tryz.prog 3 #[.int .i64 (m : Nat), .int .i64 z, .bool plus, .int .i64 d] w fun e w' => e = .returned (.bool true) ∧ Ext w w' := by
  have FI : ∀ W, Ext w W → Calls Tryz.prog 4 #[.int .i64 (m : Nat), .int .i64 10] W fun e w' => e = .returned (.string ⟨(decDigits m).toArray⟩) ∧ Ext W w' := fun W hx => by
    have h := format_any (m : Nat) (by omega) (by omega) W (hT.ext hx)
    rw [itoa_nonneg] at h
    exact h
  have MA := fun W => many_any z W hz
  have hlen := digs_len z m hz (by omega)
  have sz1 : ∀ (g : List UInt8) (s : ByteArray), g.length ≤ 1 → s.data.toList = g ++ digs z m → s.size ≤ 1000000 := fun g s hg h => len_of h (by rw [List.length_append]; omega)
  have sz2 : ∀ (g : List UInt8) (s : ByteArray), g.length ≤ 1 → s.data.toList = g ++ digs z m ++ [UInt8.ofNat (48 + d)] → s.size ≤ 1000000 := fun g s hg h => len_of h (by rw [List.length_append, List.length_append, List.length_singleton]; omega)
  have one := fun (g : Sgn) (h : g.fits m = true) => int_one g z m h
  cases plus
  · have V1 : ∀ W s, Ext w W → s.data.toList = [] ++ digs z m → Calls Tryz.prog 6 #[.int .i64 2, .string s] W fun e w' => e = .returned (.tuple #[ivV 2 ⟨#[]⟩ (m : Nat) 0 0 false, .bool true, .bool false]) ∧ Ext W w' := fun W s hx h =>
      vi_ok s (m : Nat) W (sz1 [] s (by simp) h) (by rw [h]; exact int_one .no z m (by simp [Sgn.fits]; omega)) (by omega) (by omega)
    have V2 : ∀ W s, Ext w W → s.data.toList = [] ++ digs z m → Calls Tryz.prog 6 #[.int .i64 3, .string s] W fun e w' => e = .returned (.tuple #[ivV 3 ⟨#[]⟩ 0 (m : Nat) 0 false, .bool true, .bool false]) ∧ Ext W w' := fun W s hx h =>
      vu_ok s m W (sz1 [] s (by simp) h) (by rw [h]; exact uint_one z m (by omega)) (by omega)
    by_cases hr : m * 10 + d ≤ 9223372036854775807
    · have V3 : ∀ W s, Ext w W → s.data.toList = [] ++ digs z m ++ [UInt8.ofNat (48 + d)] → Calls Tryz.prog 6 #[.int .i64 2, .string s] W fun e w' => e = .returned (.tuple #[ivV 2 ⟨#[]⟩ ((m : Int) * 10 + d) 0 0 false, .bool true, .bool false]) ∧ Ext W w' := fun W s hx h =>
        vi_ok s ((m : Int) * 10 + d) W (sz2 [] s (by simp) h) (by
          have h2 := int_more .no z m d (by simp [Sgn.fits]; omega) (by omega)
          rw [if_pos (by simp [Sgn.fits]; omega)] at h2
          rw [h]
          simpa [Sgn.bytes, Sgn.of] using h2) (by omega) (by omega)
      by_cases h0 : m = 0
      · subst h0
        have e : ((0 : Nat) : Int) * 10 + (d : Int) = (d : Int) := by omega
        have V30 := V3
        rw [e] at V30
        exact vd_no_zero 0 z d (d : Int) w (Nat.le_refl _) hz hd (by omega) rfl (hide FI) (hide MA) (hide V1) (hide V2) (hide V30)
      · exact vd_no_in m z d _ w (by omega) hm hz hd hr rfl (hide FI) (hide MA) (hide V1) (hide V2) (hide V3)
    · exact vd_no_out m z d 0 w (by omega) hm hz hd (by omega) (hide FI) (hide MA) (hide V1) (hide V2) (hide fun W s hx h => vi_range s a1 a2 a3 W (hE.ext hx) (sz2 [] s (by simp) h) (by
          have h2 := int_more .no z m d (by simp [Sgn.fits]; omega) (by omega)
          rw [if_neg (by simp [Sgn.fits]; omega)] at h2
          rw [h]
          simpa [Sgn.bytes] using h2))
  · have V1 : ∀ W s, Ext w W → s.data.toList = [43] ++ digs z m → Calls Tryz.prog 6 #[.int .i64 2, .string s] W fun e w' => e = .returned (.tuple #[ivV 2 ⟨#[]⟩ (m : Nat) 0 0 false, .bool true, .bool false]) ∧ Ext W w' := fun W s hx h =>
      vi_ok s (m : Nat) W (sz1 [43] s (by simp) h) (by rw [h]; exact int_one .plus z m (by simp [Sgn.fits]; omega)) (by omega) (by omega)
    have V2 : ∀ W s, Ext w W → s.data.toList = [43] ++ digs z m → Calls Tryz.prog 6 #[.int .i64 3, .string s] W fun e w' => e = .returned (.tuple #[ivV 0 ⟨#[]⟩ 0 0 0 false, .bool false, .bool false]) ∧ Ext W w' := fun W s hx h =>
      vu_syntax s a1 a2 a3 W (hE.ext hx) (sz1 [43] s (by simp) h) (by rw [h]; exact uint_sign 43 _ (by decide))
    by_cases hr : m * 10 + d ≤ 9223372036854775807
    · have V3 : ∀ W s, Ext w W → s.data.toList = [43] ++ digs z m ++ [UInt8.ofNat (48 + d)] → Calls Tryz.prog 6 #[.int .i64 2, .string s] W fun e w' => e = .returned (.tuple #[ivV 2 ⟨#[]⟩ ((m : Int) * 10 + d) 0 0 false, .bool true, .bool false]) ∧ Ext W w' := fun W s hx h =>
        vi_ok s ((m : Int) * 10 + d) W (sz2 [43] s (by simp) h) (by
          have h2 := int_more .plus z m d (by simp [Sgn.fits]; omega) (by omega)
          rw [if_pos (by simp [Sgn.fits]; omega)] at h2
          rw [h]
          simpa [Sgn.bytes, Sgn.of] using h2) (by omega) (by omega)
      by_cases h0 : m = 0
      · subst h0
        have e : ((0 : Nat) : Int) * 10 + (d : Int) = (d : Int) := by omega
        have V30 := V3
        rw [e] at V30
        exact vd_plus_zero 0 z d (d : Int) w (Nat.le_refl _) hz hd (by omega) rfl (hide FI) (hide MA) (hide V1) (hide V2) (hide V30)
      · exact vd_plus_in m z d _ w (by omega) hm hz hd hr rfl (hide FI) (hide MA) (hide V1) (hide V2) (hide V3)
    · exact vd_plus_out m z d 0 w (by omega) hm hz hd (by omega) (hide FI) (hide MA) (hide V1) (hide V2) (hide fun W s hx h => vi_range s a1 a2 a3 W (hE.ext hx) (sz2 [43] s (by simp) h) (by
          have h2 := int_more .plus z m d (by simp [Sgn.fits]; omega) (by omega)
          rw [if_neg (by simp [Sgn.fits]; omega)] at h2
          rw [h]
          simpa [Sgn.bytes] using h2))
theorem vd_neg (m z d : Nat) (plus : Bool) (w : World) (hm1 : 1 ≤ m) (hm : m ≤ 9223372036854775808) (hz : z ≤ 500) (hd : d ≤ 9) (a1 a2 a3 : Addr) (hE : ErrsW w a1 a2 a3) (hT : TabP w) :
    Calls Tryz.prog 3 #[.int .i64 (-(m : Nat)), .int .i64 z, .bool plus, .int .i64 d] w fun e w' => e = .returned (.bool true) ∧ Ext w w' := by
  have FI : ∀ W, Ext w W → Calls Tryz.prog 4 #[.int .i64 (-(m : Nat)), .int .i64 10] W fun e w' => e = .returned (.string ⟨(45 :: decDigits m).toArray⟩) ∧ Ext W w' := fun W hx => by
    have h := format_any (-(m : Nat)) (by omega) (by omega) W (hT.ext hx)
    rw [itoa_neg m hm1] at h
    exact h
  have MA := fun W => many_any z W hz
  have hlen := digs_len z m hz hm
  have sz1 : ∀ (s : ByteArray), s.data.toList = [45] ++ digs z m → s.size ≤ 1000000 := fun s h => len_of h (by rw [List.length_append, List.length_singleton]; omega)
  have sz2 : ∀ (s : ByteArray), s.data.toList = [45] ++ digs z m ++ [UInt8.ofNat (48 + d)] → s.size ≤ 1000000 := fun s h => len_of h (by rw [List.length_append, List.length_append, List.length_singleton, List.length_singleton]; omega)
  have V1 : ∀ W s, Ext w W → s.data.toList = [45] ++ digs z m → Calls Tryz.prog 6 #[.int .i64 2, .string s] W fun e w' => e = .returned (.tuple #[ivV 2 ⟨#[]⟩ (-(m : Nat)) 0 0 false, .bool true, .bool false]) ∧ Ext W w' := fun W s hx h =>
    vi_ok s (-(m : Nat)) W (sz1 s h) (by rw [h]; exact int_one .minus z m (by simp [Sgn.fits]; omega)) (by omega) (by omega)
  have V2 : ∀ W s, Ext w W → s.data.toList = [45] ++ digs z m → Calls Tryz.prog 6 #[.int .i64 3, .string s] W fun e w' => e = .returned (.tuple #[ivV 0 ⟨#[]⟩ 0 0 0 false, .bool false, .bool false]) ∧ Ext W w' := fun W s hx h =>
    vu_syntax s a1 a2 a3 W (hE.ext hx) (sz1 s h) (by rw [h]; exact uint_sign 45 _ (by decide))
  by_cases hr : m * 10 + d ≤ 9223372036854775808
  · have V3 : ∀ W s, Ext w W → s.data.toList = [45] ++ digs z m ++ [UInt8.ofNat (48 + d)] → Calls Tryz.prog 6 #[.int .i64 2, .string s] W fun e w' => e = .returned (.tuple #[ivV 2 ⟨#[]⟩ (-((m : Int) * 10 + d)) 0 0 false, .bool true, .bool false]) ∧ Ext W w' := fun W s hx h =>
      vi_ok s (-((m : Int) * 10 + d)) W (sz2 s h) (by
        have h2 := int_more .minus z m d (by simp [Sgn.fits]; omega) (by omega)
        rw [if_pos (by simp [Sgn.fits]; omega)] at h2
        rw [h]
        have e : Sgn.minus.of (m * 10 + d) = -((m : Int) * 10 + d) := by simp [Sgn.of]
        rw [e] at h2
        simpa [Sgn.bytes] using h2) (by omega) (by omega)
    exact vd_minus_in m z d _ plus w hm1 hm hz hd hr rfl (hide FI) (hide MA) (hide V1) (hide V2) (hide V3)
  · exact vd_minus_out m z d 0 plus w hm1 hm hz hd (by omega) (hide FI) (hide MA) (hide V1) (hide V2) (hide fun W s hx h => vi_range s a1 a2 a3 W (hE.ext hx) (sz2 s h) (by
        have h2 := int_more .minus z m d (by simp [Sgn.fits]; omega) (by omega)
        rw [if_neg (by simp [Sgn.fits]; omega)] at h2
        rw [h]
        simpa [Sgn.bytes] using h2))
theorem fnValueDigits_walk (n zeros : Int) (plus : Bool) (digit : Int) (h0 : (Lit.int .i64 n).wf = true) (h1 : (Lit.int .i64 zeros).wf = true) (h3 : (Lit.int .i64 digit).wf = true) (a1 a2 a3 : Addr) (w : World) (hE : ErrsW w a1 a2 a3) (hT : TabP w) :
    Calls Tryz.prog 3 #[.int .i64 n, .int .i64 zeros, .bool plus, .int .i64 digit] w fun e w' => e = .returned (.bool true) ∧ Below w.heap.size w w' := by
  suffices h : Calls Tryz.prog 3 #[.int .i64 n, .int .i64 zeros, .bool plus, .int .i64 digit] w fun e w' => e = .returned (.bool true) ∧ Ext w w' from h.mono fun e w' ⟨h1, h2⟩ => ⟨h1, h2.below⟩
  have hb : -9223372036854775808 ≤ n ∧ n ≤ 9223372036854775807 := by
    simp [Lit.wf, IntKind.signed, IntKind.bits, IntKind.min, IntKind.max] at h0
    omega
  by_cases hg : 0 ≤ zeros ∧ zeros ≤ 500 ∧ 0 ≤ digit ∧ digit ≤ 9
  · obtain ⟨z, rfl⟩ := Int.eq_ofNat_of_zero_le hg.1
    obtain ⟨d, rfl⟩ := Int.eq_ofNat_of_zero_le hg.2.2.1
    by_cases hn : 0 ≤ n
    · obtain ⟨m, rfl⟩ := Int.eq_ofNat_of_zero_le hn
      exact vd_pos m z d plus w (by omega) (by omega) (by omega) a1 a2 a3 hE hT
    · obtain ⟨m, hm⟩ := Int.eq_ofNat_of_zero_le (show 0 ≤ -n by omega)
      obtain rfl : n = -(m : Nat) := by omega
      exact vd_neg m z d plus w (by omega) (by omega) (by omega) (by omega) a1 a2 a3 hE hT
  · exact vd_guard n zeros digit plus w hg
end Go.Proofs.YtkockmpncocjhaaGreatDoor
