/-
  zzFits20; spec.ScanOf.
-/
import Derived.Test.YtepeokoeempfgaaDoorScan2
namespace Go.Proofs.YtepeokoeempfgaaDoor
open Go.RowKit
set_option linter.unusedVariables false
set_option linter.unusedSimpArgs false

def fits20B (c k pt ty : ByteArray) : Bool := decide ((c.size : Int) ≤ 2147483647) && decide ((k.size : Int) ≤ 2147483647) && decide ((pt.size : Int) ≤ 2147483647) && decide ((ty.size : Int) ≤ 2147483647)
set_option maxRecDepth 100000 in
theorem fits20_any (c k pt : ByteArray) (n : Int) (ty : ByteArray) (w : World) :
    Calls Tryd.prog 14 #[.agg #[.string c, .string k, .string pt, .int .i64 n, .string ty]] w fun e w' => e = .returned (.bool (fits20B c k pt ty)) ∧ Ext w w' := by
  have hp : c.size ≤ 9223372036854775807 → True := fun _ => trivial
  by_cases h1 : (c.size : Int) ≤ 2147483647
  · by_cases h2 : (k.size : Int) ≤ 2147483647
    · by_cases h3 : (pt.size : Int) ≤ 2147483647
      · by_cases h4 : (ty.size : Int) ≤ 2147483647
        · have hF : fits20B c k pt ty = true := by simp [fits20B]; omega
          rw [hF]
          go_enter Tryd.func14, Tryd.ntmps14
          go_wp2
          go_ret
          exact ⟨rfl, (Ext.refl w).alloc _⟩
        · have hF : fits20B c k pt ty = false := by simp [fits20B]; omega
          rw [hF]
          go_enter Tryd.func14, Tryd.ntmps14
          go_wp2
          go_ret
          exact ⟨rfl, (Ext.refl w).alloc _⟩
      · have hF : fits20B c k pt ty = false := by simp [fits20B]; omega
        rw [hF]
        go_enter Tryd.func14, Tryd.ntmps14
        go_wp2
        go_ret
        exact ⟨rfl, (Ext.refl w).alloc _⟩
    · have hF : fits20B c k pt ty = false := by simp [fits20B]; omega
      rw [hF]
      go_enter Tryd.func14, Tryd.ntmps14
      go_wp2
      go_ret
      exact ⟨rfl, (Ext.refl w).alloc _⟩
  · have hF : fits20B c k pt ty = false := by simp [fits20B]; omega
    rw [hF]
    go_enter Tryd.func14, Tryd.ntmps14
    go_wp2
    go_ret
    exact ⟨rfl, (Ext.refl w).alloc _⟩

theorem digitsN_any (n : Int) (h0 : 0 < n) (h1 : n ≤ 9223372036854775807) (w : World) :
    Calls Tryd.prog 30 #[.int .u64 n] w fun e w' => e = .returned (.string (numT n)) ∧ Ext w w' := by
  have h := digits_any n.toNat (by omega) w
  have e : ((n.toNat : Nat) : Int) = n := Int.toNat_of_nonneg (by omega)
  rw [e] at h
  have e2 : numT n = ⟨(Lib.decDigits n.toNat).toArray⟩ := by unfold numT Lib.itoa; rw [if_neg (by omega)]
  rw [e2]
  exact h
theorem scanC_full (c : ByteArray) (h : c.toList.isEmpty = false) : scanC c = upT c := by unfold scanC; rw [h]; rfl
theorem scanC_none (c : ByteArray) (h : c.toList.isEmpty = true) : scanC c = sSCAN := by unfold scanC; rw [h]; exact up_scan
theorem upT_empty (c : ByteArray) : (upT c).toList.isEmpty = c.toList.isEmpty := by
  have h1 : ∀ s : ByteArray, s.toList.isEmpty = decide (s.size = 0) := fun s => by
    rw [ByteArray.toList_eq]
    cases hs : s.data.toList with
    | nil => have : s.size = 0 := by rw [← size_data, hs]; rfl
             simp [this]
    | cons a r => have : s.size ≠ 0 := by rw [← size_data, hs]; simp
                  simp [this]
  rw [h1, h1, upT_size]

set_option maxRecDepth 100000 in
set_option maxHeartbeats 4000000 in
theorem specScan_any (c k pt : ByteArray) (n : Int) (ty cur : ByteArray) (h1 : n ≤ 9223372036854775807) (hc : c.size ≤ 1000) (w : World) :
    Calls Tryd.prog 17 #[.agg #[.string c, .string k, .string pt, .int .i64 n, .string ty], .string cur] w fun e w' => ∃ A' cap, e = .returned (.tuple #[.string (scanC c), .slice A' (l5 ((scanC c).toList == [83, 67, 65, 78]) k cur pt n ty).length cap]) ∧ RS w' A' (l5 ((scanC c).toList == [83, 67, 65, 78]) k cur pt n ty) ∧ Ext w w' := by
  have TU : Hid (∀ w1, Calls Tryd.prog 21 #[.string c] w1 fun e w' => e = .returned (.string (upT c)) ∧ Ext w1 w') := hide fun w1 => upper_any c w1 (by omega)
  have SF := hide (scanC_full c)
  have SN := hide (scanC_none c)
  have hUE := upT_empty c
  generalize c.toList.isEmpty = bE at hUE SF SN
  generalize upT c = U at TU hUE SF
  generalize scanC c = S at SF SN ⊢
  generalize hbS : (S.toList == [83, 67, 65, 78]) = bS
  have DG : Hid (0 < n → ∀ w1, Calls Tryd.prog 30 #[.int .u64 n] w1 fun e w' => e = .returned (.string (numT n)) ∧ Ext w1 w') := hide fun h0 w1 => digitsN_any n h0 h1 w1
  have HN := hide h1
  clear h1
  go_enter Tryd.func17, Tryd.ntmps17
  go_wp2_with fail
  refine (TU.out _).mono ?_
  rintro e w1 ⟨rfl, hx⟩
  have hb := (Blk.new w 36 #[.string c, .string k, .string pt, .int .i64 n, .string ty]).chg (Chg.of_ext hx []) (by simp)
  have I0 : Hid (ScW w w1 w1.heap.size c k pt n ty (.slice none 0 0) [] w1) := hide (by
    have q0 := hb.cell 0
    have q1 := hb.cell 1
    have q2 := hb.cell 2
    have q3 := hb.cell 3
    have q4 := hb.cell 4
    simp at q0 q1 q2 q3 q4
    exact ⟨World.ownsRow_nil _ _ _ _, Below.refl _ _, ⟨q0, q1, q2, q3, q4⟩, rfl, by have := hx.sizes; simp at this; omega⟩)
  have HX1 : Hid (Ext w w1) := hide (((Ext.refl w).alloc _).trans hx)
  clear hb hx TU
  go_upto_if 10 with fail
  go_cut [4] (fun s4 wx => s4 = .string S ∧ wx = w1)
  case first =>
    cases bE with
    | true =>
      have hS := SN.out rfl
      unfold sSCAN at hS
      go_wp2
      go_meet
      case rel => exact ⟨by rw [hS], rfl⟩
    | false =>
      have hS := SF.out rfl
      go_wp2
      go_meet
      case rel => exact ⟨by rw [hS], rfl⟩
  obtain ⟨hs4, hwc⟩ := hcut
  subst hs4 hwc
  clear SF SN hUE
  rename World => w1
  go_upto_if 12 with fail
  go_cut [5] (fun s5 wx => Hid (ScW w w1 w1.heap.size c k pt n ty s5 (opt (!bS) [k]) wx))
  case first =>
    cases bS with
    | true =>
      go_wp2
      go_meet
      case rel => exact hide I0.out
    | false =>
      obtain ⟨v', w', hrun, H⟩ := I0.out.add [k] (by simp) _ rfl
      obtain ⟨-, q1, -⟩ := I0.out.cells
      have H2 := hide H
      clear H I0
      simp only [ss, List.map_cons, List.map_nil, List.length_cons, List.length_nil, Nat.zero_add, Nat.reduceAdd, sMATCH, sCOUNT, sTYPE] at hrun
      go_wp2_with (at_builtin; refine wpList_append_run rfl _ _ _ _ rfl _ _ _ rfl rfl hrun ?_)
      go_meet
      case rel => exact hide H2.out
  clear I0
  obtain ⟨v', w', hrun, H⟩ := hcut.out.add [cur] (by have := opt_length (!bS) [k]; simp at *; omega) _ rfl
  have H2 : Hid (ScW w w1 w1.heap.size c k pt n ty v' (l2 bS k cur) w') := hide H
  have H5 := hide (l2_length bS k cur)
  obtain ⟨q0, q1, q2, q3, q4⟩ := H.cells
  clear hcut H hbS
  simp only [ss, List.map_cons, List.map_nil, List.length_cons, List.length_nil, Nat.zero_add, Nat.reduceAdd, sMATCH, sCOUNT, sTYPE] at hrun
  go_upto_if 24 with (at_builtin; refine wpList_append_run rfl _ _ _ _ rfl _ _ _ rfl rfl hrun ?_)
  clear q0 q1 q2 q3 q4 hrun
  go_cut [5] (fun s5 wx => Hid (ScW w w1 w1.heap.size c k pt n ty s5 (l3 bS k cur pt) wx))
  case first =>
    obtain ⟨q0, q1, q2, q3, q4⟩ := H2.out.cells
    cases hE : pt.toList.isEmpty with
    | true =>
      have H3 : Hid (ScW w w1 w1.heap.size c k pt n ty _ (l3 bS k cur pt) _) := hide (by
        unfold l3; rw [hE]; simp only [opt, Bool.not_true, Bool.false_eq_true, if_false, List.append_nil]; exact H2.out)
      go_wp2
      go_meet
      case rel => exact H3
    | false =>
      obtain ⟨v2, w2, hrun, H⟩ := H2.out.add [sMATCH, pt] (by have := H5.out; simp; omega) _ rfl
      have H3 : Hid (ScW w w1 w1.heap.size c k pt n ty v2 (l3 bS k cur pt) w2) := hide (by
        unfold l3; rw [hE]; exact H)
      clear H H2
      simp only [ss, List.map_cons, List.map_nil, List.length_cons, List.length_nil, Nat.zero_add, Nat.reduceAdd, sMATCH, sCOUNT, sTYPE] at hrun
      go_wp2_with (at_builtin; refine wpList_append_run rfl _ _ _ _ rfl _ _ _ rfl rfl hrun ?_)
      go_meet
      case rel => exact H3
  clear H2 H5
  have H5 := hide (l3_length bS k cur pt)
  obtain ⟨q0, q1, q2, q3, q4⟩ := hcut.out.cells
  go_upto_if 32 with fail
  clear q0 q1 q2 q3 q4
  have H2 := hcut
  clear hcut
  go_cut [5] (fun s5 wx => Hid (ScW w w1 w1.heap.size c k pt n ty s5 (l4 bS k cur pt n) wx))
  case first =>
    obtain ⟨q0, q1, q2, q3, q4⟩ := H2.out.cells
    by_cases hE : 0 < n
    · have CALL := hide (DG.out hE)
      have hn1 := HN.out
      go_wp2_with fail
      refine (CALL.out _).mono ?_
      rintro e w2 ⟨rfl, hx⟩
      obtain ⟨v2, w3, hrun, H⟩ := (H2.out.on hx).add [sCOUNT, numT n] (by have := H5.out; simp; omega) _ rfl
      have H3 : Hid (ScW w w1 w1.heap.size c k pt n ty v2 (l4 bS k cur pt n) w3) := hide (by
        unfold l4; rw [decide_eq_true hE]; exact H)
      clear H H2 hx CALL
      simp only [ss, List.map_cons, List.map_nil, List.length_cons, List.length_nil, Nat.zero_add, Nat.reduceAdd, sMATCH, sCOUNT, sTYPE] at hrun
      go_wp2_with (at_builtin; refine wpList_append_run rfl _ _ _ _ rfl _ _ _ rfl rfl hrun ?_)
      go_meet
      case rel => exact H3
    · have H3 : Hid (ScW w w1 w1.heap.size c k pt n ty _ (l4 bS k cur pt n) _) := hide (by
        unfold l4; rw [decide_eq_false hE]; simp only [opt, Bool.false_eq_true, if_false, List.append_nil]; exact H2.out)
      go_wp2
      go_meet
      case rel => exact H3
  clear H2 H5
  have H5 := hide (l4_length bS k cur pt n)
  obtain ⟨q0, q1, q2, q3, q4⟩ := hcut.out.cells
  go_upto_if 42 with fail
  clear q0 q1 q2 q3 q4
  have H2 := hcut
  clear hcut
  go_cut [5] (fun s5 wx => Hid (ScW w w1 w1.heap.size c k pt n ty s5 (l5 bS k cur pt n ty) wx))
  case first =>
    obtain ⟨q0, q1, q2, q3, q4⟩ := H2.out.cells
    cases hE : ty.toList.isEmpty with
    | true =>
      have H3 : Hid (ScW w w1 w1.heap.size c k pt n ty _ (l5 bS k cur pt n ty) _) := hide (by
        unfold l5; rw [hE]; simp only [opt, Bool.not_true, Bool.false_eq_true, if_false, List.append_nil]; exact H2.out)
      go_wp2
      go_meet
      case rel => exact H3
    | false =>
      obtain ⟨v2, w2, hrun, H⟩ := H2.out.add [sTYPE, ty] (by have := H5.out; simp; omega) _ rfl
      have H3 : Hid (ScW w w1 w1.heap.size c k pt n ty v2 (l5 bS k cur pt n ty) w2) := hide (by
        unfold l5; rw [hE]; exact H)
      clear H H2
      simp only [ss, List.map_cons, List.map_nil, List.length_cons, List.length_nil, Nat.zero_add, Nat.reduceAdd, sMATCH, sCOUNT, sTYPE] at hrun
      go_wp2_with (at_builtin; refine wpList_append_run rfl _ _ _ _ rfl _ _ _ rfl rfl hrun ?_)
      go_meet
      case rel => exact H3
  clear H2 H5
  obtain ⟨A, cap, hv, hcap1, hcap2, hA⟩ := own_slice hcut.out.1
  subst hv
  have HF := hide (And.intro (rs_of_own hcut.out.1) (HX1.out.trans hcut.out.2.1))
  clear hcut hA
  go_wp2
  exact bodyPost_ret (v := .tuple #[.string S, .slice A (l5 bS k cur pt n ty).length cap]) (by simp [results, Tryd.results17, go_sem]) rfl ⟨A, cap, rfl, HF.out.1, HF.out.2⟩
end Go.Proofs.YtepeokoeempfgaaDoor
