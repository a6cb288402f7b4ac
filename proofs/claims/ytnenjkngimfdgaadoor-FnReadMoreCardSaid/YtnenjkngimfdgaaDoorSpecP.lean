/-
  impl.ParseInt, impl.ParseUint and spec.Parsed: what they tell of any text.
-/
import Derived.Test.YtnenjkngimfdgaaDoorParse
import Derived.Lib.IndexBytes
namespace Go.Proofs.YtnenjkngimfdgaaDoor
open Go.RowKit
set_option linter.unusedVariables false
set_option linter.unusedSimpArgs false

def isInt (l : List UInt8) : Bool := decide (unsign l ≠ []) && digs (unsign l)
def isNat (l : List UInt8) : Bool := decide (l ≠ []) && digs l
def intOr (l : List UInt8) : Int := if isInt l then ival l else 0
def natOr (l : List UInt8) : Int := if isNat l then dval l else 0

/-! ### spec.Parsed -/
theorem take_snoc_s (s : ByteArray) (k : Nat) (h : k < s.size) : s.data.toList.take (k + 1) = s.data.toList.take k ++ [s[k]] := by
  rw [List.take_succ_eq_append_getElem (by simpa using h)]; rfl
/-- A number of digits. -/
def dv (l : List UInt8) : Int := l.foldl (fun n c => 10 * n + ((c.toNat : Int) - 48)) 0
theorem dv_snoc (l : List UInt8) (c : UInt8) : dv (l ++ [c]) = 10 * dv l + ((c.toNat : Int) - 48) := by simp [dv]
theorem dv_bd (l : List UInt8) (h : digs l = true) : 0 ≤ dv l ∧ dv l < 10 ^ l.length := by
  revert h
  refine snoc_ind (P := fun l => digs l = true → 0 ≤ dv l ∧ dv l < 10 ^ l.length) ?_ ?_ l
  · intro _; simp [dv]
  · intro l c ih h
    rw [digs_snoc] at h
    simp only [Bool.and_eq_true, decide_eq_true_eq] at h
    obtain ⟨h1, h2, h3⟩ := h
    have := ih h1
    rw [dv_snoc, List.length_append, List.length_singleton, Int.pow_succ]
    omega
theorem pow10_le {a b : Nat} (h : a ≤ b) : (10 : Int) ^ a ≤ 10 ^ b := by
  have := Nat.pow_le_pow_right (n := 10) (by omega) h
  have e : ∀ k : Nat, (10 : Int) ^ k = ((10 ^ k : Nat) : Int) := fun k => by simp
  rw [e, e]
  omega
theorem dv_dval (l : List UInt8) (h : digs l = true) (hl : l.length ≤ 18) : dval l = dv l := by
  revert h hl
  refine snoc_ind (P := fun l => digs l = true → l.length ≤ 18 → dval l = dv l) ?_ ?_ l
  · intro _ _; simp [dv, dval]
  · intro l c ih h hl
    have hb := dv_bd _ h
    rw [digs_snoc] at h
    simp only [Bool.and_eq_true, decide_eq_true_eq] at h
    obtain ⟨h1, h2, h3⟩ := h
    rw [dval_snoc, ih h1 (by simp at hl; omega)]
    rw [dv_snoc] at hb ⊢
    have h10 := pow10_le hl
    have : (10 : Int) ^ 18 = 1000000000000000000 := by decide
    omega

/-- What spec.Parsed tells: the number of the first 18 digits. -/
def pval (l : List UInt8) : Int := if isInt l then (if neg l then - dv ((unsign l).take 18) else dv ((unsign l).take 18)) else 0
def great (l : List UInt8) : Bool := digs (unsign l) && decide (18 < (unsign l).length)

theorem pval_bad {l : List UInt8} (h : isInt l = false) : pval l = 0 := by simp [pval, h]
theorem great_bad {l : List UInt8} (h : digs (unsign l) = false) : great l = false := by simp [great, h]

theorem dv_small (d : ByteArray) (k : Nat) (h : digs (d.data.toList.take k) = true) : k < 18 → 0 ≤ dv (d.data.toList.take k) ∧ dv (d.data.toList.take k) ≤ 99999999999999999 := by
  intro hk
  have := dv_bd _ h
  have h1 : (d.data.toList.take k).length ≤ 17 := by have := List.length_take_le k d.data.toList; omega
  have h10 := pow10_le h1
  have : (10 : Int) ^ 17 = 100000000000000000 := by decide
  omega
theorem bad_digit (d : ByteArray) (k : Nat) (hk : k < d.size) (h : ¬ (48 ≤ (d[k].toNat : Int) ∧ (d[k].toNat : Int) ≤ 57)) : digs d.data.toList = false := by
  cases hd : digs d.data.toList
  · rfl
  · have hm : d[k] ∈ d.data.toList := by
      have : d[k] = d.data.toList[k]'(by rw [size_data]; exact hk) := rfl
      rw [this]; exact List.getElem_mem _
    have := List.all_eq_true.1 hd _ hm
    simp only [Bool.and_eq_true, decide_eq_true_eq] at this
    exact absurd this h

theorem parsed_end {l d : List UInt8} {x : Int} {a b : Bool} (hd : d = unsign l) (hg : digs d = true) (ha : a = decide (0 < d.length)) (hb : b = decide (18 < d.length))
    (hx : x = if neg l ∧ 0 < d.length then - dv (d.take 18) else dv (d.take 18)) : Ending.returned (.tuple #[.int .i64 x, .bool a, .bool b]) = Ending.returned (.tuple #[.int .i64 (pval l), .bool (isInt l), .bool (great l)]) := by
  subst hd
  have h1 : isInt l = decide (0 < (unsign l).length) := by
    rw [Bool.eq_iff_iff]; simp [isInt, hg, List.length_pos_iff]
  have h2 : great l = decide (18 < (unsign l).length) := by simp [great, hg]
  have h3 : pval l = x := by
    rw [hx]
    unfold pval
    rw [h1]
    by_cases h0 : 0 < (unsign l).length
    · simp [h0]
    · have : unsign l = [] := List.eq_nil_of_length_eq_zero (by omega)
      simp [this, dv]
  rw [h1, h2, h3, ha, hb]

theorem dv_small18 (l : List UInt8) (h : digs l = true) (k : Nat) (hk : k ≤ 18) : 0 ≤ dv (l.take k) ∧ dv (l.take k) ≤ 999999999999999999 := by
  have hd : digs (l.take k) = true := List.all_eq_true.2 fun x hx => List.all_eq_true.1 h x (List.mem_of_mem_take hx)
  have := dv_bd _ hd
  have h1 : (l.take k).length ≤ 18 := by have := List.length_take_le k l; omega
  have h10 := pow10_le h1
  have : (10 : Int) ^ 18 = 1000000000000000000 := by decide
  omega
theorem neg_s {s : ByteArray} (h0 : 0 < s.size) : neg s.data.toList = decide ((s[0].toNat : Int) = 45) := neg_of (l := s.data.toList) (by rw [size_data]; exact h0)
theorem unsign_s {s : ByteArray} (h0 : 0 < s.size) (h : (s[0].toNat : Int) = 45 ∨ (s[0].toNat : Int) = 43) : (s.extract 1 s.size).data.toList = unsign s.data.toList := by
  rw [unsign_sign (l := s.data.toList) (by rw [size_data]; exact h0) h, Lib.extract_to_end]
theorem unsign_s_none {s : ByteArray} (h0 : 0 < s.size) (h : (s[0].toNat : Int) ≠ 45) (h' : (s[0].toNat : Int) ≠ 43) : s.data.toList = unsign s.data.toList :=
  (unsign_none (l := s.data.toList) (by rw [size_data]; exact h0) h h').symm

set_option maxHeartbeats 4000000 in
/-- What spec.Parsed tells of a text that begins with a sign. -/
theorem parsed_sign (s : ByteArray) (w : World) (hl : s.size ≤ 2147483647) (h0 : 0 < s.size) (hs : (s[0].toNat : Int) = 45 ∨ (s[0].toNat : Int) = 43) :
    Calls Tryd.prog 10 #[.string s] w fun e w' => e = .returned (.tuple #[.int .i64 (pval s.data.toList), .bool (isInt s.data.toList), .bool (great s.data.toList)]) ∧ w = w' := by
  have hd := unsign_s h0 hs
  have hdl : (s.extract 1 s.size).size ≤ 2147483647 := by rw [ByteArray.size_extract]; omega
  have hng := neg_s h0
  rcases hs with hs | hs
  all_goals
    have NEG := hide hng
    clear hng
    go_enter Tryd.func10, Tryd.ntmps10
    go_wp2
    generalize s.extract 1 s.size = d at *
    have HD := hide hd
    clear hd
    go_loop [2, 6] (fun n i => ∃ k : Nat, k ≤ d.size ∧ i = .int .i64 k ∧ n = .int .i64 (dv (d.data.toList.take (min k 18))) ∧ Hid (digs (d.data.toList.take k) = true)) (fun _ i => d.size - (intOf i).toNat)
    case atStart => exact ⟨0, by omega, rfl, by simp [dv], hide (by simp [digs])⟩
    case round =>
      obtain ⟨k, hk, rfl, rfl, hd⟩ := hrel
      by_cases hlt : k < d.size
      · have HT := hide (take_snoc_s d k hlt)
        by_cases hdig : 48 ≤ (d[k].toNat : Int) ∧ (d[k].toNat : Int) ≤ 57
        · obtain ⟨hd0, hd1⟩ := hdig
          have HB := hide (dv_small d k hd.out)
          by_cases hk18 : k < 18
          · have e18 : min k 18 = k := by omega
            obtain ⟨hb0, hb1⟩ := HB.out hk18
            rw [e18]
            have E18 : Hid (min (k + 1) 18 = k + 1) := hide (by omega)
            clear e18 HB
            go_wp2
            go_round
            case rel =>
              refine ⟨k + 1, by omega, by go_num, ?_, hide ?_⟩
              · rw [E18.out, unhide HT, dv_snoc]
              · rw [unhide HT, digs_snoc, hd.out]; simp [hd0, hd1]
            case measure => simp [intOf]; omega
          · have E18 : Hid (min (k + 1) 18 = min k 18) := hide (by omega)
            clear HB
            go_wp2
            go_round
            case rel =>
              refine ⟨k + 1, by omega, by go_num, ?_, hide ?_⟩
              · rw [E18.out]
              · rw [unhide HT, digs_snoc, hd.out]; simp [hd0, hd1]
            case measure => simp [intOf]; omega
        · have HB := hide (bad_digit d k hlt hdig)
          by_cases hlo : (d[k].toNat : Int) < 48
          all_goals
            go_wp2
            go_ret3
            have hb := HB.out
            rw [HD.out] at hb
            have h1 : isInt s.data.toList = false := by simp [isInt, hb]
            exact ⟨by rw [pval_bad h1, h1, great_bad hb]; rfl, rfl⟩
      · have HK : Hid (k = d.size) := hide (by omega)
        have hd2 : Hid (digs d.data.toList = true) := hide (by have := hd.out; rwa [List.take_of_length_le (by rw [size_data]; omega)] at this)
        have HM : Hid (d.data.toList.take (min k 18) = d.data.toList.take 18) := hide (by
          by_cases h : k ≤ 18
          · rw [Nat.min_eq_left h, List.take_of_length_le (by rw [size_data]; omega), List.take_of_length_le (by rw [size_data]; omega)]
          · rw [Nat.min_eq_right (by omega)])
        have HL : Hid (d.data.toList.length = d.size) := hide (size_data d)
        obtain ⟨b0, b1⟩ := dv_small18 d.data.toList hd2.out (min k 18) (by omega)
        clear hd
        rcases (by omega : d.size = 0 ∨ (0 < d.size ∧ d.size ≤ 18) ∨ 18 < d.size) with hz | ⟨hz, hg⟩ | hg
        all_goals
          go_wp2
          go_ret3
          refine ⟨parsed_end (d := d.data.toList) HD.out hd2.out ?_ ?_ ?_, rfl⟩
          all_goals try simp only [HM.out]
          all_goals try simp only [HL.out]
          all_goals first
            | (simp [hz, NEG.out, hs]; done)
            | (simp [show 0 < d.size from by omega, NEG.out, hs]; done)
            | (simp [NEG.out, hs]; omega)
            | (go_goals; sorry)

set_option maxHeartbeats 4000000 in
/-- .. of one that does not. -/
theorem parsed_none (s : ByteArray) (w : World) (hl : s.size ≤ 2147483647) (h0 : 0 < s.size) (hs1 : ((s[0].toNat : Int) == 45) = false) (hs2 : ((s[0].toNat : Int) == 43) = false) :
    Calls Tryd.prog 10 #[.string s] w fun e w' => e = .returned (.tuple #[.int .i64 (pval s.data.toList), .bool (isInt s.data.toList), .bool (great s.data.toList)]) ∧ w = w' := by
  have HD := hide (unsign_s_none h0 (by simpa using hs1) (by simpa using hs2))
  have NEG : Hid (neg s.data.toList = false) := hide (by rw [neg_s h0]; simpa using hs1)
  · go_enter Tryd.func10, Tryd.ntmps10
    go_wp2
    go_loop [2, 6] (fun n i => ∃ k : Nat, k ≤ s.size ∧ i = .int .i64 k ∧ n = .int .i64 (dv (s.data.toList.take (min k 18))) ∧ Hid (digs (s.data.toList.take k) = true)) (fun _ i => s.size - (intOf i).toNat)
    case atStart => exact ⟨0, by omega, rfl, by simp [dv], hide (by simp [digs])⟩
    case round =>
      obtain ⟨k, hk, rfl, rfl, hd⟩ := hrel
      by_cases hlt : k < s.size
      · have HT := hide (take_snoc_s s k hlt)
        by_cases hdig : 48 ≤ (s[k].toNat : Int) ∧ (s[k].toNat : Int) ≤ 57
        · obtain ⟨hd0, hd1⟩ := hdig
          have HB := hide (dv_small s k hd.out)
          by_cases hk18 : k < 18
          · have e18 : min k 18 = k := by omega
            obtain ⟨hb0, hb1⟩ := HB.out hk18
            rw [e18]
            have E18 : Hid (min (k + 1) 18 = k + 1) := hide (by omega)
            clear e18 HB
            go_wp2
            go_round
            case rel =>
              refine ⟨k + 1, by omega, by go_num, ?_, hide ?_⟩
              · rw [E18.out, unhide HT, dv_snoc]
              · rw [unhide HT, digs_snoc, hd.out]; simp [hd0, hd1]
            case measure => simp [intOf]; omega
          · have E18 : Hid (min (k + 1) 18 = min k 18) := hide (by omega)
            clear HB
            go_wp2
            go_round
            case rel =>
              refine ⟨k + 1, by omega, by go_num, ?_, hide ?_⟩
              · rw [E18.out]
              · rw [unhide HT, digs_snoc, hd.out]; simp [hd0, hd1]
            case measure => simp [intOf]; omega
        · have HB := hide (bad_digit s k hlt hdig)
          by_cases hlo : (s[k].toNat : Int) < 48
          all_goals
            go_wp2
            go_ret3
            have hb := HB.out
            rw [HD.out] at hb
            have h1 : isInt s.data.toList = false := by simp [isInt, hb]
            exact ⟨by rw [pval_bad h1, h1, great_bad hb]; rfl, rfl⟩
      · have HK : Hid (k = s.size) := hide (by omega)
        have hd2 : Hid (digs s.data.toList = true) := hide (by have := hd.out; rwa [List.take_of_length_le (by rw [size_data]; omega)] at this)
        have HM : Hid (s.data.toList.take (min k 18) = s.data.toList.take 18) := hide (by
          by_cases h : k ≤ 18
          · rw [Nat.min_eq_left h, List.take_of_length_le (by rw [size_data]; omega), List.take_of_length_le (by rw [size_data]; omega)]
          · rw [Nat.min_eq_right (by omega)])
        have HL : Hid (s.data.toList.length = s.size) := hide (size_data s)
        obtain ⟨b0, b1⟩ := dv_small18 s.data.toList hd2.out (min k 18) (by omega)
        clear hd
        rcases (by omega : (0 < s.size ∧ s.size ≤ 18) ∨ 18 < s.size) with ⟨hz, hg⟩ | hg
        all_goals
          go_wp2
          go_ret3
          refine ⟨parsed_end (d := s.data.toList) HD.out hd2.out ?_ ?_ ?_, rfl⟩
          all_goals try simp only [HM.out]
          all_goals try simp only [HL.out]
          all_goals first
            | (simp [hz, NEG.out]; done)
            | (simp [hg, NEG.out]; done)
            | (simp [NEG.out]; omega)
            | (go_goals; sorry)

theorem parsed_empty (s : ByteArray) (w : World) (h0 : s.size = 0) :
    Calls Tryd.prog 10 #[.string s] w fun e w' => e = .returned (.tuple #[.int .i64 (pval s.data.toList), .bool (isInt s.data.toList), .bool (great s.data.toList)]) ∧ w = w' := by
  have HD : Hid (s.data.toList = unsign s.data.toList) := hide (by
    have : s.data.toList = [] := List.eq_nil_of_length_eq_zero (by rw [size_data]; exact h0)
    rw [this]; rfl)
  have HE : Hid (s.data.toList = []) := hide (List.eq_nil_of_length_eq_zero (by rw [size_data]; exact h0))
  go_enter Tryd.func10, Tryd.ntmps10
  go_wp2
  go_loop [2, 6] (fun n i => i = .int .i64 0 ∧ n = .int .i64 0) (fun _ i => s.size - (intOf i).toNat)
  case atStart => exact ⟨rfl, rfl⟩
  case round =>
    obtain ⟨rfl, rfl⟩ := hrel
    go_wp2
    go_ret3
    refine ⟨parsed_end (d := s.data.toList) HD.out (by rw [HE.out]; rfl) (by rw [HE.out]; rfl) (by rw [HE.out]; rfl) ?_, rfl⟩
    rw [HE.out]
    rfl

/-- What spec.Parsed tells. -/
theorem parsed_any (s : ByteArray) (w : World) (hl : s.size ≤ 2147483647) :
    Calls Tryd.prog 10 #[.string s] w fun e w' => e = .returned (.tuple #[.int .i64 (pval s.data.toList), .bool (isInt s.data.toList), .bool (great s.data.toList)]) ∧ w = w' := by
  by_cases h0 : s.size = 0
  · exact parsed_empty s w h0
  · by_cases hs : (s[0].toNat : Int) = 45 ∨ (s[0].toNat : Int) = 43
    · exact parsed_sign s w hl (by omega) hs
    · exact parsed_none s w hl (by omega) (by rw [beq_eq_false_iff_ne]; omega) (by rw [beq_eq_false_iff_ne]; omega)

end Go.Proofs.YtnenjkngimfdgaaDoor
