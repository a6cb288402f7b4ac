/-
  The walk of laws.FnParse: numbers out of digits, by impl.ParseInt and impl.ParseUint, against spec.Parsed.
-/
import Derived.Test.YtlnidgkcgjlnaaaParsed
namespace Go.Proofs.Ytlnidgkcgjlnaaa
open Go.RowKit
set_option linter.unusedVariables false
set_option linter.unusedSimpArgs false

/-! ### the law -/
theorem isNat_sign {l : List UInt8} (h0 : 0 < l.length) (h : (l[0].toNat : Int) = 45 ∨ (l[0].toNat : Int) = 43) : isNat l = false := by
  cases hn : isNat l
  · rfl
  · simp only [isNat, Bool.and_eq_true] at hn
    have := List.all_eq_true.1 hn.2 _ (List.getElem_mem h0)
    simp only [Bool.and_eq_true, decide_eq_true_eq] at this
    omega
theorem isNat_isInt {l : List UInt8} (h : isInt l = false) : isNat l = false := by
  by_cases h0 : 0 < l.length
  · by_cases hs : (l[0].toNat : Int) = 45 ∨ (l[0].toNat : Int) = 43
    · exact isNat_sign h0 hs
    · have e := unsign_none h0 (by omega) (by omega)
      simpa [isInt, isNat, e] using h
  · have : l = [] := List.eq_nil_of_length_eq_zero (by omega)
    subst this; rfl
theorem isNat_none {l : List UInt8} (h0 : 0 < l.length) (h : (l[0].toNat : Int) ≠ 45) (h' : (l[0].toNat : Int) ≠ 43) : isNat l = isInt l ∧ unsign l = l ∧ neg l = false := by
  have e := unsign_none h0 h h'
  refine ⟨by simp [isInt, isNat, e], e, ?_⟩
  rw [neg_of h0]; simpa using h
theorem small_digits {l : List UInt8} (hi : isInt l = true) (hg : great l = false) : digs (unsign l) = true ∧ (unsign l).length ≤ 18 := by
  simp only [isInt, Bool.and_eq_true] at hi
  have hd := hi.2
  simp [great, hd] at hg
  exact ⟨hd, hg⟩
theorem pval_bd {l : List UInt8} (hi : isInt l = true) (hg : great l = false) : ival l = pval l ∧ -999999999999999999 ≤ pval l ∧ pval l ≤ 999999999999999999 := by
  obtain ⟨hd, hl⟩ := small_digits hi hg
  have hb := dv_small18 (unsign l) hd 18 (by omega)
  rw [List.take_of_length_le hl] at hb
  have he : pval l = if neg l then - dv (unsign l) else dv (unsign l) := by simp [pval, hi, List.take_of_length_le hl]
  have hv : ival l = if neg l then wrap64 (- wrap64 (dv (unsign l))) else wrap64 (dv (unsign l)) := by simp [ival, dv_dval _ hd hl]
  rw [he, hv]
  cases neg l <;> simp [wrap64] <;> omega
theorem dval_pval {l : List UInt8} (hi : isInt l = true) (hg : great l = false) (hu : unsign l = l) (hn : neg l = false) : dval l = pval l ∧ 0 ≤ pval l := by
  obtain ⟨hd, hl⟩ := small_digits hi hg
  have hb := dv_small18 (unsign l) hd 18 (by omega)
  rw [List.take_of_length_le hl] at hb
  have he : pval l = dv (unsign l) := by simp [pval, hi, hn, List.take_of_length_le hl]
  rw [hu] at he hd hl hb
  rw [he, dv_dval _ hd hl]
  exact ⟨rfl, hb.1⟩

theorem parseInt_seven (w : World) : Calls Try.prog 20 #[.string ⟨#[55]⟩] w fun e w' => e = .returned (.tuple #[.int .i64 7, .bool true]) ∧ Ext w w' := by
  have h := implParseInt_any ⟨#[55]⟩ w (by decide)
  rw [show intOr (⟨#[55]⟩ : ByteArray).data.toList = 7 by decide +kernel, show isInt (⟨#[55]⟩ : ByteArray).data.toList = true by decide] at h
  exact h

set_option maxHeartbeats 1000000 in
/-- The law's way, once the answers of its callees are known. -/
theorem fnParse_core (s : ByteArray) (w : World) (hl : s.size ≤ 100) (x : Int) (i p : Bool) (u : Int) (hx0 : -999999999999999999 ≤ x) (hx1 : x ≤ 999999999999999999)
    (HP : Hid (∀ w, Calls Try.prog 19 #[.string s] w fun e w' => e = .returned (.tuple #[.int .i64 x, .bool i, .bool false]) ∧ w = w'))
    (HI : Hid (∀ w, Calls Try.prog 20 #[.string s] w fun e w' => e = .returned (.tuple #[.int .i64 (if i then x else 0), .bool i]) ∧ Ext w w'))
    (HU : Hid (∀ w, Calls Try.prog 21 #[.string s] w fun e w' => e = .returned (.tuple #[.int .u64 (if p then x else 0), .bool p]) ∧ Ext w w'))
    (hp : (i = false ∧ p = false) ∨ (i = true ∧ 0 < s.size ∧ p = true ∧ 0 ≤ x ∧ ∀ h : 0 < s.size, (s[0].toNat : Int) ≠ 45 ∧ (s[0].toNat : Int) ≠ 43) ∨ (i = true ∧ 0 < s.size ∧ p = false ∧ ∀ h : 0 < s.size, (s[0].toNat : Int) = 45 ∨ (s[0].toNat : Int) = 43)) :
    Calls Try.prog 7 #[.string s] w fun e w' => e = .returned (.bool true) ∧ Below w.heap.size w w' := by
  rcases hp with ⟨rfl, rfl⟩ | ⟨rfl, h0, rfl, hx, hs⟩ | ⟨rfl, h0, rfl, hs⟩
  · simp only [Bool.false_eq_true, if_false] at HI HU
    go_enter Try.func7, Try.ntmps7
    go_wp2_with fail
    refine (HP.out _).mono ?_; rintro e w1 ⟨rfl, rfl⟩
    go_wp2_with fail
    refine (HI.out _).mono ?_; rintro e w1 ⟨rfl, hx1⟩
    go_wp2_with fail
    refine (HU.out _).mono ?_; rintro e w2 ⟨rfl, hx2⟩
    go_wp2_with fail
    refine (parseInt_seven _).mono ?_; rintro e w3 ⟨rfl, hx3⟩
    go_wp2
    go_ret
    exact ⟨rfl, (hx1.trans hx2).trans hx3⟩
  · simp only [if_true] at HI HU
    obtain ⟨hs1, hs2⟩ := hs h0
    have hb1 : ((s[0].toNat : Int) == 45) = false := by rw [beq_eq_false_iff_ne]; exact hs1
    have hb2 : ((s[0].toNat : Int) == 43) = false := by rw [beq_eq_false_iff_ne]; exact hs2
    have hn1 : ((s[0].toNat : Int) != 45) = true := by rw [bne_iff_ne]; exact hs1
    have hn2 : ((s[0].toNat : Int) != 43) = true := by rw [bne_iff_ne]; exact hs2
    clear hs hs1 hs2
    go_enter Try.func7, Try.ntmps7
    go_wp2_with fail
    refine (HP.out _).mono ?_; rintro e w1 ⟨rfl, rfl⟩
    go_wp2_with fail
    refine (HI.out _).mono ?_; rintro e w1 ⟨rfl, hx1⟩
    go_wp2_with fail
    refine (HU.out _).mono ?_; rintro e w2 ⟨rfl, hx2⟩
    go_wp2_with fail
    refine (parseInt_seven _).mono ?_; rintro e w3 ⟨rfl, hx3⟩
    go_wp2
    go_ret
    exact ⟨rfl, (hx1.trans hx2).trans hx3⟩
  · simp only [Bool.false_eq_true, if_false, if_true] at HI HU
    rcases hs h0 with hs1 | hs1
    all_goals
      clear hs
      go_enter Try.func7, Try.ntmps7
      go_wp2_with fail
      refine (HP.out _).mono ?_; rintro e w1 ⟨rfl, rfl⟩
      go_wp2_with fail
      refine (HI.out _).mono ?_; rintro e w1 ⟨rfl, hx1⟩
      go_wp2_with fail
      refine (HU.out _).mono ?_; rintro e w2 ⟨rfl, hx2⟩
      go_wp2_with fail
      refine (parseInt_seven _).mono ?_; rintro e w3 ⟨rfl, hx3⟩
      go_wp2
      go_ret
      exact ⟨rfl, (hx1.trans hx2).trans hx3⟩

set_option maxHeartbeats 400000 in
theorem fnParse_walk (s : ByteArray) (hs : s.size ≤ maxLen) (w : World) : Calls Try.prog 7 #[.string s] w fun e w' => e = .returned (.bool true) ∧ Below w.heap.size w w' := by
  unfold maxLen at hs
  by_cases h1 : 2147483647 < s.size
  · go_enter Try.func7, Try.ntmps7
    go_wp2
    go_ret
    exact ⟨rfl, Below.refl _ _⟩
  · have HP := hide (fun w => parsed_any s w (by omega))
    by_cases h2 : 100 < s.size
    · clear hs
      go_enter Try.func7, Try.ntmps7
      go_wp2_with fail
      refine (HP.out _).mono ?_; rintro e w1 ⟨rfl, rfl⟩
      go_wp2
      go_ret
      exact ⟨rfl, Below.refl _ _⟩
    · cases hg : great s.data.toList
      · have hi := fun w => implParseInt_any s w (by omega)
        have hu := fun w => implParseUint_any s w (by omega)
        have hP := HP.out
        rw [hg] at hP
        by_cases h0 : 0 < s.size
        · have h0' : 0 < s.data.toList.length := by rw [size_data]; exact h0
          cases hI : isInt s.data.toList
          · have hN := isNat_isInt hI
            simp only [intOr, natOr, hI, hN, pval_bad hI, Bool.false_eq_true, if_false] at hi hu hP
            exact fnParse_core s w (by omega) 0 false false 0 (by omega) (by omega) (hide hP) (hide (by simpa using hi)) (hide (by simpa using hu)) (.inl ⟨rfl, rfl⟩)
          · obtain ⟨e1, b0, b1⟩ := pval_bd hI hg
            by_cases hsg : (s[0].toNat : Int) = 45 ∨ (s[0].toNat : Int) = 43
            · have hN := isNat_sign h0' hsg
              simp only [intOr, natOr, hI, hN, e1, if_true, Bool.false_eq_true, if_false] at hi hu hP
              exact fnParse_core s w (by omega) _ true false 0 b0 b1 (hide hP) (hide (by simpa using hi)) (hide (by simpa using hu)) (.inr (.inr ⟨rfl, h0, rfl, fun _ => hsg⟩))
            · obtain ⟨hN, hun, hng⟩ := isNat_none h0' (by intro h; exact hsg (.inl h)) (by intro h; exact hsg (.inr h))
              rw [hI] at hN
              obtain ⟨e2, b2⟩ := dval_pval hI hg hun hng
              simp only [intOr, natOr, hI, hN, e1, e2, if_true] at hi hu hP
              exact fnParse_core s w (by omega) _ true true 0 b0 b1 (hide hP) (hide (by simpa using hi)) (hide (by simpa using hu)) (.inr (.inl ⟨rfl, h0, rfl, b2, fun _ => ⟨fun h => hsg (.inl h), fun h => hsg (.inr h)⟩⟩))
        · have hI : isInt s.data.toList = false := by
            have : s.data.toList = [] := List.eq_nil_of_length_eq_zero (by rw [size_data]; omega)
            rw [this]; rfl
          have hN := isNat_isInt hI
          simp only [intOr, natOr, hI, hN, pval_bad hI, Bool.false_eq_true, if_false] at hi hu hP
          exact fnParse_core s w (by omega) 0 false false 0 (by omega) (by omega) (hide hP) (hide (by simpa using hi)) (hide (by simpa using hu)) (.inl ⟨rfl, rfl⟩)
      · have hP := HP.out
        rw [hg] at hP
        have HP2 := hide hP
        clear hP HP hg hs
        go_enter Try.func7, Try.ntmps7
        go_wp2_with fail
        refine (HP2.out _).mono ?_; rintro e w1 ⟨rfl, rfl⟩
        go_wp2
        go_ret
        exact ⟨rfl, Below.refl _ _⟩

end Go.Proofs.Ytlnidgkcgjlnaaa
