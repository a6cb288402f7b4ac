/-
  The walk of laws.FnIntOf: numbers of so many bytes, against spec.Parsed and spec.Natural.
-/
import Derived.Test.YtnenjkngimfdgaaDoorIntOf2
import Derived.Test.YtnenjkngimfdgaaDoorNatural
import Derived.Lib.Strings
namespace Go.Proofs.YtnenjkngimfdgaaDoor
open Go.RowKit
set_option linter.unusedVariables false
set_option linter.unusedSimpArgs false

theorem small_digits {l : List UInt8} (hi : isInt l = true) (hg : great l = false) : digs (unsign l) = true ∧ (unsign l).length ≤ 18 := by
  simp only [isInt, Bool.and_eq_true] at hi
  have hd := hi.2
  simp [great, hd] at hg
  exact ⟨hd, hg⟩
theorem pval_bd {l : List UInt8} (hi : isInt l = true) (hg : great l = false) : ival l = pval l := by
  obtain ⟨hd, hl⟩ := small_digits hi hg
  have hb := dv_small18 (unsign l) hd 18 (by omega)
  rw [List.take_of_length_le hl] at hb
  have he : pval l = if neg l then - dv (unsign l) else dv (unsign l) := by simp [pval, hi, List.take_of_length_le hl]
  have hv : ival l = if neg l then wrap64 (- wrap64 (dv (unsign l))) else wrap64 (dv (unsign l)) := by simp [ival, dv_dval _ hd hl]
  rw [he, hv]
  cases neg l <;> simp [wrap64] <;> omega
theorem nat_small {l : List UInt8} (hn : isNat l = true) (hg : great l = false) : l.length ≤ 18 := by
  have hn2 := (isNat_iff l).1 hn
  have h0 : 0 < l.length := List.length_pos_iff.2 hn2.1
  by_cases hs : (l[0].toNat : Int) = 45 ∨ (l[0].toNat : Int) = 43
  · have := List.all_eq_true.1 hn2.2 _ (List.getElem_mem h0)
    simp only [Bool.and_eq_true, decide_eq_true_eq] at this
    omega
  · have e := unsign_none h0 (by omega) (by omega)
    simp [great, e, hn2.2] at hg
    exact hg
theorem take_extract (s : ByteArray) (n : Nat) : (s.extract 0 n).data.toList = s.data.toList.take n := by
  simp [ByteArray.data_extract, Array.toList_extract, List.extract]

theorem usable_any (b : Bool) (w : World) : Calls Tryd.prog 12 #[.bool b] w fun e w' => e = .returned (.int .i64 (if b then 0 else 1)) ∧ w = w' := by
  cases b <;>
  · go_enter Tryd.func12, Tryd.ntmps12
    go_wp2
    go_ret
    exact ⟨rfl, rfl⟩
theorem mAsked_nil (s : ByteArray) (w : World) : Calls Tryd.prog 7 #[.string s, .slice none 0 0] w fun e w' => e = .returned (.bool (decide (s.size ≤ 2000))) ∧ w = w' := by
  by_cases h : s.size ≤ 2000
  · have hd := decide_eq_true h
    go_enter Tryd.func7, Tryd.ntmps7
    go_wp2
    go_ret
    exact ⟨by first | rfl | simp [h], rfl⟩
  · have hd := decide_eq_false h
    go_enter Tryd.func7, Tryd.ntmps7
    go_wp2
    go_ret
    exact ⟨by first | rfl | simp [h], rfl⟩

theorem seven : iVal 2 (⟨#[45, 55]⟩ : ByteArray).data.toList = -7 := by decide +kernel

set_option maxRecDepth 100000 in
set_option maxHeartbeats 2000000 in
theorem fnIntOf_core (s : ByteArray) (n : Nat) (w : World) (hs : s.size ≤ 2000) (hn : n ≤ 500) (hle : n ≤ s.size) (x u k7 : Int) (i p : Bool) (hx : i = false → x = 0) (hu : p = false → u = 0)
    (HI : Hid (∀ w1, Ext w w1 → Calls Tryd.prog 8 #[.string s, .int .i64 n] w1 fun e w' => e = .returned (.tuple #[.int .i64 x, .int .i64 (if i then 0 else 1)]) ∧ Ext w1 w'))
    (HU : Hid (∀ w1, Ext w w1 → Calls Tryd.prog 9 #[.string s, .int .i64 n] w1 fun e w' => e = .returned (.tuple #[.int .u64 u, .int .i64 (if p then 0 else 1)]) ∧ Ext w1 w'))
    (H7 : Hid (∀ w1, Ext w w1 → Calls Tryd.prog 8 #[.string ⟨#[45, 55]⟩, .int .i64 2] w1 fun e w' => e = .returned (.tuple #[.int .i64 (-7), .int .i64 k7]) ∧ Ext w1 w'))
    (HP : Hid (∀ w1, Calls Tryd.prog 10 #[.string (s.extract 0 n)] w1 fun e w' => e = .returned (.tuple #[.int .i64 x, .bool i, .bool false]) ∧ w1 = w'))
    (HN : Hid (∀ w1, Calls Tryd.prog 11 #[.string (s.extract 0 n)] w1 fun e w' => e = .returned (.tuple #[.int .u64 u, .bool p]) ∧ Ext w1 w')) :
    Calls Tryd.prog 3 #[.string s, .int .i64 n] w fun e w' => e = .returned (.bool true) ∧ Below w.heap.size w w' := by
  have hd0 : decide (s.size ≤ 2000) = true := decide_eq_true hs
  have hgt : ¬ (s.size : Int) < (n : Int) := by omega
  cases i <;> cases p
  all_goals
    try (obtain rfl := hx rfl)
    try (obtain rfl := hu rfl)
    clear hx hu
    go_enter Tryd.func3, Tryd.ntmps3
    go_wp2_with fail
    refine (mAsked_nil s _).mono ?_
    rintro e w1 ⟨rfl, rfl⟩
    go_wp2_with fail
    refine (HI.out _ (Ext.refl _)).mono ?_
    rintro e w1 ⟨rfl, hx⟩
    have X1 := hide hx
    clear hx
    go_wp2_with fail
    refine (HU.out _ X1.out).mono ?_
    rintro e w2 ⟨rfl, hx⟩
    have X2 := hide (X1.out.trans hx)
    clear hx
    go_wp2_with fail
    refine (H7.out _ X2.out).mono ?_
    rintro e w3 ⟨rfl, hx⟩
    have X3 := hide (X2.out.trans hx)
    clear hx X1 X2
    go_wp2_with fail
    refine (HP.out _).mono ?_
    rintro e w4 ⟨rfl, rfl⟩
    go_wp2_with fail
    refine (HN.out _).mono ?_
    rintro e w4 ⟨rfl, hx⟩
    have X4 := hide (X3.out.trans hx)
    clear hx X3
    go_wp2_with (go_at_call 12; refine (usable_any _ _).mono ?_; rintro e w5 ⟨rfl, rfl⟩)
    go_ret
    exact ⟨rfl, X4.out⟩

set_option maxRecDepth 100000 in
set_option maxHeartbeats 2000000 in
theorem fnIntOf_walk (s : ByteArray) (n : Int) (hs : s.size ≤ maxLen) (hwf : (Lit.int .i64 n).wf = true) (ad ad2 : Addr) (B : Nat) (w : World) (hEU : EofAt w B ad ∧ UeofAt w B ad2) :
    Calls Tryd.prog 3 #[.string s, .int .i64 n] w fun e w' => e = .returned (.bool true) ∧ Below w.heap.size w w' := by
  obtain ⟨hE, hU⟩ := hEU
  clear hs hwf
  by_cases h0 : 2147483647 < (s.size : Int)
  · go_enter Tryd.func3, Tryd.ntmps3
    go_wp2
    go_ret
    exact ⟨rfl, Below.refl _ _⟩
  rcases Nat.lt_or_ge 2000 s.size with h1 | h1
  · have hd0 : decide (s.size ≤ 2000) = false := decide_eq_false (by omega)
    go_enter Tryd.func3, Tryd.ntmps3
    go_wp2_with fail
    refine (mAsked_nil s _).mono ?_
    rintro e w1 ⟨rfl, rfl⟩
    go_wp2
    go_ret
    exact ⟨rfl, Below.refl _ _⟩
  have hd0 : decide (s.size ≤ 2000) = true := decide_eq_true h1
  by_cases h2 : n < 0
  · go_enter Tryd.func3, Tryd.ntmps3
    go_wp2_with fail
    refine (mAsked_nil s _).mono ?_
    rintro e w1 ⟨rfl, rfl⟩
    go_wp2
    go_ret
    exact ⟨rfl, Below.refl _ _⟩
  by_cases h3 : 500 < n
  · go_enter Tryd.func3, Tryd.ntmps3
    go_wp2_with fail
    refine (mAsked_nil s _).mono ?_
    rintro e w1 ⟨rfl, rfl⟩
    go_wp2
    go_ret
    exact ⟨rfl, Below.refl _ _⟩
  obtain ⟨k, rfl⟩ : ∃ k : Nat, n = k := ⟨n.toNat, by omega⟩
  have HI : Hid (∀ w1, Ext w w1 → Calls Tryd.prog 8 #[.string s, .int .i64 k] w1 fun e w' => e = .returned (.tuple #[.int .i64 (iVal k s.data.toList), .int .i64 (iSt k s.data.toList)]) ∧ Ext w1 w') := hide fun w1 hx =>
    implIntOf_any s k w1 B ad ad2 (by omega) (by omega) (hE.chg (Chg.of_ext hx []) (by simp)) (hU.chg (Chg.of_ext hx []) (by simp))
  have HU : Hid (∀ w1, Ext w w1 → Calls Tryd.prog 9 #[.string s, .int .i64 k] w1 fun e w' => e = .returned (.tuple #[.int .u64 (uVal k s.data.toList), .int .i64 (uSt k s.data.toList)]) ∧ Ext w1 w') := hide fun w1 hx =>
    implUintOf_any s k w1 B ad ad2 (by omega) (by omega) (hE.chg (Chg.of_ext hx []) (by simp)) (hU.chg (Chg.of_ext hx []) (by simp))
  have H7 : Hid (∀ w1, Ext w w1 → Calls Tryd.prog 8 #[.string ⟨#[45, 55]⟩, .int .i64 2] w1 fun e w' => e = .returned (.tuple #[.int .i64 (-7), .int .i64 (iSt 2 (⟨#[45, 55]⟩ : ByteArray).data.toList)]) ∧ Ext w1 w') := hide fun w1 hx => by
    have h := implIntOf_any ⟨#[45, 55]⟩ 2 w1 B ad ad2 (by omega) (by decide) (hE.chg (Chg.of_ext hx []) (by simp)) (hU.chg (Chg.of_ext hx []) (by simp))
    rw [seven] at h
    exact h
  clear hE hU
  generalize iSt 2 (⟨#[45, 55]⟩ : ByteArray).data.toList = k7 at H7
  by_cases h4 : s.size < k
  · have e1 : iSt k s.data.toList = 2 := by rw [iSt, if_neg (by rw [size_data]; omega)]
    have e2 : uSt k s.data.toList = 2 := by rw [uSt, if_neg (by rw [size_data]; omega)]
    rw [e1] at HI
    rw [e2] at HU
    clear e1 e2
    generalize iVal k s.data.toList = x1 at HI
    generalize uVal k s.data.toList = x2 at HU
    have h5 : (s.size : Int) < (k : Int) := by omega
    go_enter Tryd.func3, Tryd.ntmps3
    go_wp2_with fail
    refine (mAsked_nil s _).mono ?_
    rintro e w1 ⟨rfl, rfl⟩
    go_wp2_with fail
    refine (HI.out _ (Ext.refl _)).mono ?_
    rintro e w1 ⟨rfl, hx⟩
    have X1 := hide hx
    clear hx
    go_wp2_with fail
    refine (HU.out _ X1.out).mono ?_
    rintro e w2 ⟨rfl, hx⟩
    have X2 := hide (X1.out.trans hx)
    clear hx
    go_wp2_with fail
    refine (H7.out _ X2.out).mono ?_
    rintro e w3 ⟨rfl, hx⟩
    have X3 := hide (X2.out.trans hx)
    clear hx X1 X2
    go_wp2
    go_ret
    exact ⟨rfl, X3.out⟩
  have hle : k ≤ s.data.toList.length := by rw [size_data]; omega
  have he := take_extract s k
  have hex : (s.extract 0 k).size = k := by rw [ByteArray.size_extract]; omega
  cases hg : great (s.data.toList.take k) with
  | true =>
    have HP : Hid (∀ w1, Calls Tryd.prog 10 #[.string (s.extract 0 k)] w1 fun e w' => e = .returned (.tuple #[.int .i64 (pval (s.data.toList.take k)), .bool (isInt (s.data.toList.take k)), .bool true]) ∧ w1 = w') := hide fun w1 => by
      have h := parsed_any (s.extract 0 k) w1 (by omega)
      rwa [he, hg] at h
    generalize iVal k s.data.toList = x1 at HI
    generalize uVal k s.data.toList = x2 at HU
    generalize iSt k s.data.toList = x3 at HI
    generalize uSt k s.data.toList = x4 at HU
    generalize pval (s.data.toList.take k) = x5 at HP
    generalize isInt (s.data.toList.take k) = x6 at HP
    have h5 : ¬ (s.size : Int) < (k : Int) := by omega
    clear he hex hle hg
    go_enter Tryd.func3, Tryd.ntmps3
    go_wp2_with fail
    refine (mAsked_nil s _).mono ?_
    rintro e w1 ⟨rfl, rfl⟩
    go_wp2_with fail
    refine (HI.out _ (Ext.refl _)).mono ?_
    rintro e w1 ⟨rfl, hx⟩
    have X1 := hide hx
    clear hx
    go_wp2_with fail
    refine (HU.out _ X1.out).mono ?_
    rintro e w2 ⟨rfl, hx⟩
    have X2 := hide (X1.out.trans hx)
    clear hx
    go_wp2_with fail
    refine (H7.out _ X2.out).mono ?_
    rintro e w3 ⟨rfl, hx⟩
    have X3 := hide (X2.out.trans hx)
    clear hx X1 X2
    go_wp2_with fail
    refine (HP.out _).mono ?_
    rintro e w4 ⟨rfl, rfl⟩
    go_wp2
    go_ret
    exact ⟨rfl, X3.out⟩
  | false =>
    have e1 : iVal k s.data.toList = if isInt (s.data.toList.take k) then pval (s.data.toList.take k) else 0 := by
      cases hi : isInt (s.data.toList.take k)
      · rw [iVal, if_neg (by rw [hi]; simp)]; rfl
      · rw [iVal, if_pos ⟨hle, hi⟩, pval_bd hi hg]; rfl
    have e2 : iSt k s.data.toList = if isInt (s.data.toList.take k) then 0 else 1 := by rw [iSt, if_pos hle]
    have e3 : uVal k s.data.toList = if isNat (s.data.toList.take k) then dval (s.data.toList.take k) else 0 := by
      cases hi : isNat (s.data.toList.take k)
      · rw [uVal, if_neg (by rw [hi]; simp)]; rfl
      · rw [uVal, if_pos ⟨hle, hi⟩]; rfl
    have e4 : uSt k s.data.toList = if isNat (s.data.toList.take k) then 0 else 1 := by rw [uSt, if_pos hle]
    rw [e1, e2] at HI
    rw [e3, e4] at HU
    refine fnIntOf_core s k w h1 (by omega) (by omega) _ _ k7 (isInt (s.data.toList.take k)) (isNat (s.data.toList.take k)) (fun h => by rw [h]; rfl) (fun h => by rw [h]; rfl) HI HU H7 (hide fun w1 => ?_) (hide fun w1 => ?_)
    · have h := parsed_any (s.extract 0 k) w1 (by omega)
      rw [he, hg] at h
      have e5 : pval (s.data.toList.take k) = if isInt (s.data.toList.take k) then pval (s.data.toList.take k) else 0 := by
        cases hi : isInt (s.data.toList.take k)
        · rw [pval_bad hi]; rfl
        · rfl
      rwa [e5] at h
    · have h := natural_any (s.extract 0 k) w1 (by omega) (fun h => by
        unfold natB at h
        rw [he] at h
        have := nat_small h hg
        rw [List.length_take] at this
        omega)
      unfold natU natB at h
      rwa [he] at h
end Go.Proofs.YtnenjkngimfdgaaDoor
