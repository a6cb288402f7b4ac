/-
  The walk of laws.FnValueDigits.
-/
import Derived.Test.YtkockmpncocjhaaGreatDoorVd
import Derived.Test.YtkockmpncocjhaaGreatDoorMany
import Derived.BigQuiet
import Derived.Lib.ValidAsc
import Derived.Lib.ItoaLen
import Derived.Deep.DeepCutAuto
import Derived.Deep.CutBlock
namespace Go.Proofs.YtkockmpncocjhaaGreatDoor
open Go.RowKit Go.Lib
set_option linter.unusedVariables false
set_option linter.unusedSimpArgs false

theorem one_str (d : Nat) (hd : d ≤ 9) (W : World) : (convert 31 9 (.slice (some ⟨W.heap.size, 0, none⟩) 1 1)).run Tryz.prog (W.alloc (.cells #[.int .u8 (48 + (d : Int))] 5)) = .ok (.string ⟨#[UInt8.ofNat (48 + d)]⟩) (W.alloc (.cells #[.int .u8 (48 + (d : Int))] 5)) := by
  have hR : RBytes (W.alloc (.cells #[.int .u8 (48 + (d : Int))] 5)) (some ⟨W.heap.size, 0, none⟩) [UInt8.ofNat (48 + d)] := rbytes_blk (Blk.new W _ _) (fun j hj => by
    have : j = 0 := by simp at hj; omega
    subst this
    have e := d48 (d := d) (by omega)
    have e2 : (([UInt8.ofNat (48 + d)] : List UInt8)[0]).toNat = 48 + d := e
    rw [e2]
    simp)
  have h2 := run_string_n (P := Tryz.prog) _ _ _ _ Tryz.underlying31 Tryz.underlying5 Tryz.underlying9 1 1 rfl hR
  rw [h2]
set_option maxRecDepth 100000 in
theorem vd_guard (n zeros digit : Int) (plus : Bool) (w : World) (h : ¬ (0 ≤ zeros ∧ zeros ≤ 500 ∧ 0 ≤ digit ∧ digit ≤ 9)) :
    Calls Tryz.prog 3 #[.int .i64 n, .int .i64 zeros, .bool plus, .int .i64 digit] w fun e w' => e = .returned (.bool true) ∧ Ext w w' := by
  by_cases h0 : zeros < 0
  · go_enter Tryz.func3, Tryz.ntmps3
    go_wp2
    go_ret
    exact ⟨rfl, Ext.refl w⟩
  · have h0b : decide (zeros < 0) = false := decide_eq_false h0
    by_cases h1 : 500 < zeros
    · go_enter Tryz.func3, Tryz.ntmps3
      go_wp2
      go_ret
      exact ⟨rfl, Ext.refl w⟩
    · have h1b : decide (500 < zeros) = false := decide_eq_false h1
      by_cases h2 : digit < 0
      · clear h
        go_enter Tryz.func3, Tryz.ntmps3
        go_wp2
        go_ret
        exact ⟨rfl, Ext.refl w⟩
      · have h2b : decide (digit < 0) = false := decide_eq_false h2
        have h3 : 9 < digit := by omega
        clear h
        go_enter Tryz.func3, Tryz.ntmps3
        go_wp2
        go_ret
        exact ⟨rfl, Ext.refl w⟩
set_option maxRecDepth 100000 in
set_option maxHeartbeats 1000000 in
theorem vd_no_in (m z d : Nat) (X : Int) (w : World) (hm1 : 1 ≤ m) (hm : m ≤ 9223372036854775807) (hz : z ≤ 500) (hd : d ≤ 9) (hr : m * 10 + d ≤ 9223372036854775807) (hX : X = (m : Int) * 10 + (d : Int))
    (FI : Hid (∀ W, Ext w W → Calls Tryz.prog 4 #[.int .i64 (m : Nat), .int .i64 10] W fun e w' => e = .returned (.string ⟨(decDigits m).toArray⟩) ∧ Ext W w')) (MA : Hid (∀ W, Calls Tryz.prog 5 #[.string ⟨#[48]⟩, .int .i64 z] W fun e w' => e = .returned (.tuple #[.string ⟨(List.replicate z 48).toArray⟩, .bool true]) ∧ Ext W w'))
    (V1 : Hid (∀ W s, Ext w W → s.data.toList = ([] ++ digs z m) → Calls Tryz.prog 6 #[.int .i64 2, .string s] W fun e w' => e = .returned (.tuple #[.agg #[.int .i64 2, .string ⟨#[]⟩, .int .i64 (m : Nat), .int .u64 0, .float .f64 0, .bool false], .bool true, .bool false]) ∧ Ext W w')) (V2 : Hid (∀ W s, Ext w W → s.data.toList = ([] ++ digs z m) → Calls Tryz.prog 6 #[.int .i64 3, .string s] W fun e w' => e = .returned (.tuple #[.agg #[.int .i64 3, .string ⟨#[]⟩, .int .i64 0, .int .u64 (m : Nat), .float .f64 0, .bool false], .bool true, .bool false]) ∧ Ext W w'))
    (V3 : Hid (∀ W s, Ext w W → s.data.toList = ([] ++ digs z m) ++ [UInt8.ofNat (48 + d)] → Calls Tryz.prog 6 #[.int .i64 2, .string s] W fun e w' => e = .returned (.tuple #[.agg #[.int .i64 2, .string ⟨#[]⟩, .int .i64 X, .int .u64 0, .float .f64 0, .bool false], .bool true, .bool false]) ∧ Ext W w')) :
    Calls Tryz.prog 3 #[.int .i64 (m : Nat), .int .i64 z, .bool false, .int .i64 d] w fun e w' => e = .returned (.bool true) ∧ Ext w w' := by
  have z0 : (z : Int) ≤ 500 := by omega
  have d0 : (d : Int) ≤ 9 := by omega
  have d1 : (0 : Int) ≤ (d : Int) := by omega
  have m0 : (m : Int) ≤ 9223372036854775807 := by omega
  have zb1 : decide ((z : Int) < 0) = false := decide_eq_false (by omega)
  have zb2 : decide ((500 : Int) < (z : Int)) = false := decide_eq_false (by omega)
  have db1 : decide ((d : Int) < 0) = false := decide_eq_false (by omega)
  have db2 : decide ((9 : Int) < (d : Int)) = false := decide_eq_false (by omega)
  obtain ⟨S9, hS9⟩ : ∃ S9 : ByteArray, S9 = ⟨(decDigits m).toArray⟩ := ⟨_, rfl⟩
  rw [← hS9] at FI
  have H9 := hide (show S9.data.toList = decDigits m by rw [hS9])
  obtain ⟨AH, hAH⟩ : ∃ AH : ByteArray, AH = ⟨(List.replicate z 48).toArray⟩ := ⟨_, rfl⟩
  rw [← hAH] at MA
  have HA := hide (show AH.data.toList = List.replicate z 48 by rw [hAH])
  have hA5 : AH.size ≤ 500 := by have h := congrArg List.length HA.out; rw [Array.length_toList, List.length_replicate] at h; have h2 : AH.size = z := h; omega
  have hnd := Lib.nDigits_le20 m (by omega)
  have h95 : S9.size ≤ 21 := by have h := congrArg List.length H9.out; rw [Array.length_toList] at h; simp [decDigits_length] at h; have h2 : S9.size = S9.data.size := rfl; omega
  clear hS9 hAH
  have hXb : (X == (m : Int) * 10 + (d : Int)) = true := by rw [hX]; simp
  clear hX
  have mz : (((m : Nat) : Int) == 0) = false := by simp; omega
  have mr : (m : Int) * 10 + (d : Int) ≤ 9223372036854775807 := by omega
  go_enter Tryz.func3, Tryz.ntmps3
  go_wp2_with fail
  refine (FI.out _ (Ext.refl w)).mono ?_
  rintro e w1 ⟨rfl, hx⟩
  have HX := hide hx
  clear hx FI
  go_wp2_with fail
  refine (MA.out _).mono ?_
  rintro e w2 ⟨rfl, hx⟩
  replace HX := hide (HX.out.trans hx)
  clear hx MA
  go_wp2_with fail
  refine (V1.out _ _ HX.out ?_).mono ?_
  · simp [digs, ByteArray.data_append, HA.out, H9.out]
  rintro e w3 ⟨rfl, hx⟩
  replace HX := hide (HX.out.trans hx)
  clear hx V1
  have SF := store_floatS (P := Tryz.prog) ⟨w3.heap.size, 4, none⟩ 0
  go_upto_region 11 with fail
  have HB := hide (Blk.new w3 28 #[.int .i64 2, .string ⟨#[]⟩, .int .i64 (m : Nat), .int .u64 0, .float .f64 0, .bool false])
  replace HX := hide (HX.out.alloc (.cells #[.int .i64 2, .string ⟨#[]⟩, .int .i64 (m : Nat), .int .u64 0, .float .f64 0, .bool false] 28))
  clear SF
  generalize hg : w3.heap.size = g1 at HB ⊢
  generalize w3.alloc (.cells #[.int .i64 2, .string ⟨#[]⟩, .int .i64 (m : Nat), .int .u64 0, .float .f64 0, .bool false] 28) = w4 at HB HX ⊢
  clear hg
  have c0 := HB.out.cell 0
  have c1 := HB.out.cell 1
  have c2 := HB.out.cell 2
  have c3 := HB.out.cell 3
  have c4 := HB.out.cell 4
  have c5 := HB.out.cell 5
  simp at c0 c1 c2 c3 c4 c5
  clear HB c1 c4 c5
  clear c3
  go_wp2_with fail
  refine (V2.out _ _ HX.out ?_).mono ?_
  · simp [digs, ByteArray.data_append, HA.out, H9.out]
  rintro e w5 ⟨rfl, hx⟩
  replace HX := hide (HX.out.trans hx)
  clear hx V2 c0 c2
  have SF := store_floatS (P := Tryz.prog) ⟨w5.heap.size, 4, none⟩ 0
  go_upto_region 14 with fail
  have HB := hide (Blk.new w5 28 #[.int .i64 3, .string ⟨#[]⟩, .int .i64 0, .int .u64 (m : Nat), .float .f64 0, .bool false])
  replace HX := hide (HX.out.alloc (.cells #[.int .i64 3, .string ⟨#[]⟩, .int .i64 0, .int .u64 (m : Nat), .float .f64 0, .bool false] 28))
  clear SF
  generalize hg : w5.heap.size = g2 at HB ⊢
  generalize w5.alloc (.cells #[.int .i64 3, .string ⟨#[]⟩, .int .i64 0, .int .u64 (m : Nat), .float .f64 0, .bool false] 28) = w6 at HB HX ⊢
  clear hg
  have c0 := HB.out.cell 0
  have c1 := HB.out.cell 1
  have c2 := HB.out.cell 2
  have c3 := HB.out.cell 3
  have c4 := HB.out.cell 4
  have c5 := HB.out.cell 5
  simp at c0 c1 c2 c3 c4 c5
  clear HB c1 c4 c5
  clear c0 c2
  have cvb := one_str d hd w6
  obtain ⟨DG, hDG⟩ : ∃ DG : ByteArray, DG = ⟨#[UInt8.ofNat (48 + d)]⟩ := ⟨_, rfl⟩
  rw [← hDG] at cvb
  have HD := hide (show DG.data.toList = [UInt8.ofNat (48 + d)] by rw [hDG])
  have hd1 : DG.size ≤ 1 := by rw [hDG]; exact Nat.le_refl _
  clear hDG
  go_wp2_with fail
  refine (V3.out _ _ (HX.out.alloc _) ?_).mono ?_
  · simp [digs, ByteArray.data_append, HA.out, H9.out, HD.out]
  rintro e w7 ⟨rfl, hx⟩
  replace HX := hide ((HX.out.alloc _).trans hx)
  clear hx V3 c3 cvb
  have SF := store_floatS (P := Tryz.prog) ⟨w7.heap.size, 4, none⟩ 0
  go_upto_region 17 with fail
  have HB := hide (Blk.new w7 28 #[.int .i64 2, .string ⟨#[]⟩, .int .i64 X, .int .u64 0, .float .f64 0, .bool false])
  replace HX := hide (HX.out.alloc (.cells #[.int .i64 2, .string ⟨#[]⟩, .int .i64 X, .int .u64 0, .float .f64 0, .bool false] 28))
  clear SF
  generalize hg : w7.heap.size = g3 at HB ⊢
  generalize w7.alloc (.cells #[.int .i64 2, .string ⟨#[]⟩, .int .i64 X, .int .u64 0, .float .f64 0, .bool false] 28) = w8 at HB HX ⊢
  clear hg
  have c0 := HB.out.cell 0
  have c1 := HB.out.cell 1
  have c2 := HB.out.cell 2
  have c3 := HB.out.cell 3
  have c4 := HB.out.cell 4
  have c5 := HB.out.cell 5
  simp at c0 c1 c2 c3 c4 c5
  clear HB c1 c4 c5
  clear c0 c3
  have mneg : decide ((m : Int) < 0) = false := decide_eq_false (by omega)
  have mpos : decide ((0 : Int) ≤ (m : Int)) = true := decide_eq_true (by omega)
  obtain ⟨Q, hQ⟩ : ∃ Q, Int.tdiv (9223372036854775807 - (d : Int)) 10 = Q := ⟨_, rfl⟩
  have hQ2 : Q = (9223372036854775807 - (d : Int)) / 10 := by rw [← hQ]; exact Int.tdiv_eq_ediv_of_nonneg (by omega)
  have hwQ : wrap64 Q = Q := by unfold wrap64; omega
  have hq2 : ¬ Q < (m : Int) := by omega
  have hq : decide (Q < (m : Int)) = false := decide_eq_false (by omega)
  clear hQ2
  go_wp2_with fail
  all_goals (go_ret; exact ⟨rfl, HX.out⟩)
set_option maxRecDepth 100000 in
set_option maxHeartbeats 1000000 in
theorem vd_no_out (m z d : Nat) (X : Int) (w : World) (hm1 : 1 ≤ m) (hm : m ≤ 9223372036854775807) (hz : z ≤ 500) (hd : d ≤ 9) (hr : 9223372036854775807 < m * 10 + d) 
    (FI : Hid (∀ W, Ext w W → Calls Tryz.prog 4 #[.int .i64 (m : Nat), .int .i64 10] W fun e w' => e = .returned (.string ⟨(decDigits m).toArray⟩) ∧ Ext W w')) (MA : Hid (∀ W, Calls Tryz.prog 5 #[.string ⟨#[48]⟩, .int .i64 z] W fun e w' => e = .returned (.tuple #[.string ⟨(List.replicate z 48).toArray⟩, .bool true]) ∧ Ext W w'))
    (V1 : Hid (∀ W s, Ext w W → s.data.toList = ([] ++ digs z m) → Calls Tryz.prog 6 #[.int .i64 2, .string s] W fun e w' => e = .returned (.tuple #[.agg #[.int .i64 2, .string ⟨#[]⟩, .int .i64 (m : Nat), .int .u64 0, .float .f64 0, .bool false], .bool true, .bool false]) ∧ Ext W w')) (V2 : Hid (∀ W s, Ext w W → s.data.toList = ([] ++ digs z m) → Calls Tryz.prog 6 #[.int .i64 3, .string s] W fun e w' => e = .returned (.tuple #[.agg #[.int .i64 3, .string ⟨#[]⟩, .int .i64 0, .int .u64 (m : Nat), .float .f64 0, .bool false], .bool true, .bool false]) ∧ Ext W w'))
    (V3 : Hid (∀ W s, Ext w W → s.data.toList = ([] ++ digs z m) ++ [UInt8.ofNat (48 + d)] → Calls Tryz.prog 6 #[.int .i64 2, .string s] W fun e w' => e = .returned (.tuple #[.agg #[.int .i64 0, .string ⟨#[]⟩, .int .i64 0, .int .u64 0, .float .f64 0, .bool false], .bool false, .bool true]) ∧ Ext W w')) :
    Calls Tryz.prog 3 #[.int .i64 (m : Nat), .int .i64 z, .bool false, .int .i64 d] w fun e w' => e = .returned (.bool true) ∧ Ext w w' := by
  have z0 : (z : Int) ≤ 500 := by omega
  have d0 : (d : Int) ≤ 9 := by omega
  have d1 : (0 : Int) ≤ (d : Int) := by omega
  have m0 : (m : Int) ≤ 9223372036854775807 := by omega
  have zb1 : decide ((z : Int) < 0) = false := decide_eq_false (by omega)
  have zb2 : decide ((500 : Int) < (z : Int)) = false := decide_eq_false (by omega)
  have db1 : decide ((d : Int) < 0) = false := decide_eq_false (by omega)
  have db2 : decide ((9 : Int) < (d : Int)) = false := decide_eq_false (by omega)
  obtain ⟨S9, hS9⟩ : ∃ S9 : ByteArray, S9 = ⟨(decDigits m).toArray⟩ := ⟨_, rfl⟩
  rw [← hS9] at FI
  have H9 := hide (show S9.data.toList = decDigits m by rw [hS9])
  obtain ⟨AH, hAH⟩ : ∃ AH : ByteArray, AH = ⟨(List.replicate z 48).toArray⟩ := ⟨_, rfl⟩
  rw [← hAH] at MA
  have HA := hide (show AH.data.toList = List.replicate z 48 by rw [hAH])
  have hA5 : AH.size ≤ 500 := by have h := congrArg List.length HA.out; rw [Array.length_toList, List.length_replicate] at h; have h2 : AH.size = z := h; omega
  have hnd := Lib.nDigits_le20 m (by omega)
  have h95 : S9.size ≤ 21 := by have h := congrArg List.length H9.out; rw [Array.length_toList] at h; simp [decDigits_length] at h; have h2 : S9.size = S9.data.size := rfl; omega
  clear hS9 hAH
  have mz : (((m : Nat) : Int) == 0) = false := by simp; omega
  go_enter Tryz.func3, Tryz.ntmps3
  go_wp2_with fail
  refine (FI.out _ (Ext.refl w)).mono ?_
  rintro e w1 ⟨rfl, hx⟩
  have HX := hide hx
  clear hx FI
  go_wp2_with fail
  refine (MA.out _).mono ?_
  rintro e w2 ⟨rfl, hx⟩
  replace HX := hide (HX.out.trans hx)
  clear hx MA
  go_wp2_with fail
  refine (V1.out _ _ HX.out ?_).mono ?_
  · simp [digs, ByteArray.data_append, HA.out, H9.out]
  rintro e w3 ⟨rfl, hx⟩
  replace HX := hide (HX.out.trans hx)
  clear hx V1
  have SF := store_floatS (P := Tryz.prog) ⟨w3.heap.size, 4, none⟩ 0
  go_upto_region 11 with fail
  have HB := hide (Blk.new w3 28 #[.int .i64 2, .string ⟨#[]⟩, .int .i64 (m : Nat), .int .u64 0, .float .f64 0, .bool false])
  replace HX := hide (HX.out.alloc (.cells #[.int .i64 2, .string ⟨#[]⟩, .int .i64 (m : Nat), .int .u64 0, .float .f64 0, .bool false] 28))
  clear SF
  generalize hg : w3.heap.size = g1 at HB ⊢
  generalize w3.alloc (.cells #[.int .i64 2, .string ⟨#[]⟩, .int .i64 (m : Nat), .int .u64 0, .float .f64 0, .bool false] 28) = w4 at HB HX ⊢
  clear hg
  have c0 := HB.out.cell 0
  have c1 := HB.out.cell 1
  have c2 := HB.out.cell 2
  have c3 := HB.out.cell 3
  have c4 := HB.out.cell 4
  have c5 := HB.out.cell 5
  simp at c0 c1 c2 c3 c4 c5
  clear HB c1 c4 c5
  clear c3
  go_wp2_with fail
  refine (V2.out _ _ HX.out ?_).mono ?_
  · simp [digs, ByteArray.data_append, HA.out, H9.out]
  rintro e w5 ⟨rfl, hx⟩
  replace HX := hide (HX.out.trans hx)
  clear hx V2 c0 c2
  have SF := store_floatS (P := Tryz.prog) ⟨w5.heap.size, 4, none⟩ 0
  go_upto_region 14 with fail
  have HB := hide (Blk.new w5 28 #[.int .i64 3, .string ⟨#[]⟩, .int .i64 0, .int .u64 (m : Nat), .float .f64 0, .bool false])
  replace HX := hide (HX.out.alloc (.cells #[.int .i64 3, .string ⟨#[]⟩, .int .i64 0, .int .u64 (m : Nat), .float .f64 0, .bool false] 28))
  clear SF
  generalize hg : w5.heap.size = g2 at HB ⊢
  generalize w5.alloc (.cells #[.int .i64 3, .string ⟨#[]⟩, .int .i64 0, .int .u64 (m : Nat), .float .f64 0, .bool false] 28) = w6 at HB HX ⊢
  clear hg
  have c0 := HB.out.cell 0
  have c1 := HB.out.cell 1
  have c2 := HB.out.cell 2
  have c3 := HB.out.cell 3
  have c4 := HB.out.cell 4
  have c5 := HB.out.cell 5
  simp at c0 c1 c2 c3 c4 c5
  clear HB c1 c4 c5
  clear c0 c2
  have cvb := one_str d hd w6
  obtain ⟨DG, hDG⟩ : ∃ DG : ByteArray, DG = ⟨#[UInt8.ofNat (48 + d)]⟩ := ⟨_, rfl⟩
  rw [← hDG] at cvb
  have HD := hide (show DG.data.toList = [UInt8.ofNat (48 + d)] by rw [hDG])
  have hd1 : DG.size ≤ 1 := by rw [hDG]; exact Nat.le_refl _
  clear hDG
  go_wp2_with fail
  refine (V3.out _ _ (HX.out.alloc _) ?_).mono ?_
  · simp [digs, ByteArray.data_append, HA.out, H9.out, HD.out]
  rintro e w7 ⟨rfl, hx⟩
  replace HX := hide ((HX.out.alloc _).trans hx)
  clear hx V3 c3 cvb
  have SF := store_floatS (P := Tryz.prog) ⟨w7.heap.size, 4, none⟩ 0
  go_upto_region 17 with fail
  have HB := hide (Blk.new w7 28 #[.int .i64 0, .string ⟨#[]⟩, .int .i64 0, .int .u64 0, .float .f64 0, .bool false])
  replace HX := hide (HX.out.alloc (.cells #[.int .i64 0, .string ⟨#[]⟩, .int .i64 0, .int .u64 0, .float .f64 0, .bool false] 28))
  clear SF
  generalize hg : w7.heap.size = g3 at HB ⊢
  generalize w7.alloc (.cells #[.int .i64 0, .string ⟨#[]⟩, .int .i64 0, .int .u64 0, .float .f64 0, .bool false] 28) = w8 at HB HX ⊢
  clear hg
  have c0 := HB.out.cell 0
  have c1 := HB.out.cell 1
  have c2 := HB.out.cell 2
  have c3 := HB.out.cell 3
  have c4 := HB.out.cell 4
  have c5 := HB.out.cell 5
  simp at c0 c1 c2 c3 c4 c5
  clear HB c1 c4 c5
  clear c0 c3
  have mneg : decide ((m : Int) < 0) = false := decide_eq_false (by omega)
  have mpos : decide ((0 : Int) ≤ (m : Int)) = true := decide_eq_true (by omega)
  obtain ⟨Q, hQ⟩ : ∃ Q, Int.tdiv (9223372036854775807 - (d : Int)) 10 = Q := ⟨_, rfl⟩
  have hQ2 : Q = (9223372036854775807 - (d : Int)) / 10 := by rw [← hQ]; exact Int.tdiv_eq_ediv_of_nonneg (by omega)
  have hwQ : wrap64 Q = Q := by unfold wrap64; omega
  have hq2 :  Q < (m : Int) := by omega
  have hq : decide (Q < (m : Int)) = true := decide_eq_true (by omega)
  clear hQ2
  go_wp2_with fail
  all_goals (go_ret; exact ⟨rfl, HX.out⟩)
set_option maxRecDepth 100000 in
set_option maxHeartbeats 1000000 in
theorem vd_no_zero (m z d : Nat) (X : Int) (w : World) (hm : m ≤ 0) (hz : z ≤ 500) (hd : d ≤ 9) (hr : m * 10 + d ≤ 9223372036854775807) (hX : X = (d : Int))
    (FI : Hid (∀ W, Ext w W → Calls Tryz.prog 4 #[.int .i64 0, .int .i64 10] W fun e w' => e = .returned (.string ⟨(decDigits 0).toArray⟩) ∧ Ext W w')) (MA : Hid (∀ W, Calls Tryz.prog 5 #[.string ⟨#[48]⟩, .int .i64 z] W fun e w' => e = .returned (.tuple #[.string ⟨(List.replicate z 48).toArray⟩, .bool true]) ∧ Ext W w'))
    (V1 : Hid (∀ W s, Ext w W → s.data.toList = ([] ++ digs z 0) → Calls Tryz.prog 6 #[.int .i64 2, .string s] W fun e w' => e = .returned (.tuple #[.agg #[.int .i64 2, .string ⟨#[]⟩, .int .i64 0, .int .u64 0, .float .f64 0, .bool false], .bool true, .bool false]) ∧ Ext W w')) (V2 : Hid (∀ W s, Ext w W → s.data.toList = ([] ++ digs z 0) → Calls Tryz.prog 6 #[.int .i64 3, .string s] W fun e w' => e = .returned (.tuple #[.agg #[.int .i64 3, .string ⟨#[]⟩, .int .i64 0, .int .u64 0, .float .f64 0, .bool false], .bool true, .bool false]) ∧ Ext W w'))
    (V3 : Hid (∀ W s, Ext w W → s.data.toList = ([] ++ digs z 0) ++ [UInt8.ofNat (48 + d)] → Calls Tryz.prog 6 #[.int .i64 2, .string s] W fun e w' => e = .returned (.tuple #[.agg #[.int .i64 2, .string ⟨#[]⟩, .int .i64 X, .int .u64 0, .float .f64 0, .bool false], .bool true, .bool false]) ∧ Ext W w')) :
    Calls Tryz.prog 3 #[.int .i64 0, .int .i64 z, .bool false, .int .i64 d] w fun e w' => e = .returned (.bool true) ∧ Ext w w' := by
  have z0 : (z : Int) ≤ 500 := by omega
  have d0 : (d : Int) ≤ 9 := by omega
  have d1 : (0 : Int) ≤ (d : Int) := by omega
  have m0 : (m : Int) ≤ 9223372036854775807 := by omega
  have zb1 : decide ((z : Int) < 0) = false := decide_eq_false (by omega)
  have zb2 : decide ((500 : Int) < (z : Int)) = false := decide_eq_false (by omega)
  have db1 : decide ((d : Int) < 0) = false := decide_eq_false (by omega)
  have db2 : decide ((9 : Int) < (d : Int)) = false := decide_eq_false (by omega)
  obtain ⟨S9, hS9⟩ : ∃ S9 : ByteArray, S9 = ⟨(decDigits 0).toArray⟩ := ⟨_, rfl⟩
  rw [← hS9] at FI
  have H9 := hide (show S9.data.toList = decDigits 0 by rw [hS9])
  obtain ⟨AH, hAH⟩ : ∃ AH : ByteArray, AH = ⟨(List.replicate z 48).toArray⟩ := ⟨_, rfl⟩
  rw [← hAH] at MA
  have HA := hide (show AH.data.toList = List.replicate z 48 by rw [hAH])
  have hA5 : AH.size ≤ 500 := by have h := congrArg List.length HA.out; rw [Array.length_toList, List.length_replicate] at h; have h2 : AH.size = z := h; omega
  have hnd := Lib.nDigits_le20 0 (by omega)
  have h95 : S9.size ≤ 21 := by have h := congrArg List.length H9.out; rw [Array.length_toList] at h; simp [decDigits_length] at h; have h2 : S9.size = S9.data.size := rfl; omega
  clear hS9 hAH
  have hXb : (X == (d : Int)) = true := by rw [hX]; simp
  clear hX
  go_enter Tryz.func3, Tryz.ntmps3
  go_wp2_with fail
  refine (FI.out _ (Ext.refl w)).mono ?_
  rintro e w1 ⟨rfl, hx⟩
  have HX := hide hx
  clear hx FI
  go_wp2_with fail
  refine (MA.out _).mono ?_
  rintro e w2 ⟨rfl, hx⟩
  replace HX := hide (HX.out.trans hx)
  clear hx MA
  go_wp2_with fail
  refine (V1.out _ _ HX.out ?_).mono ?_
  · simp [digs, ByteArray.data_append, HA.out, H9.out]
  rintro e w3 ⟨rfl, hx⟩
  replace HX := hide (HX.out.trans hx)
  clear hx V1
  have SF := store_floatS (P := Tryz.prog) ⟨w3.heap.size, 4, none⟩ 0
  go_upto_region 11 with fail
  have HB := hide (Blk.new w3 28 #[.int .i64 2, .string ⟨#[]⟩, .int .i64 0, .int .u64 0, .float .f64 0, .bool false])
  replace HX := hide (HX.out.alloc (.cells #[.int .i64 2, .string ⟨#[]⟩, .int .i64 0, .int .u64 0, .float .f64 0, .bool false] 28))
  clear SF
  generalize hg : w3.heap.size = g1 at HB ⊢
  generalize w3.alloc (.cells #[.int .i64 2, .string ⟨#[]⟩, .int .i64 0, .int .u64 0, .float .f64 0, .bool false] 28) = w4 at HB HX ⊢
  clear hg
  have c0 := HB.out.cell 0
  have c1 := HB.out.cell 1
  have c2 := HB.out.cell 2
  have c3 := HB.out.cell 3
  have c4 := HB.out.cell 4
  have c5 := HB.out.cell 5
  simp at c0 c1 c2 c3 c4 c5
  clear HB c1 c4 c5
  clear c3
  go_wp2_with fail
  refine (V2.out _ _ HX.out ?_).mono ?_
  · simp [digs, ByteArray.data_append, HA.out, H9.out]
  rintro e w5 ⟨rfl, hx⟩
  replace HX := hide (HX.out.trans hx)
  clear hx V2 c0 c2
  have SF := store_floatS (P := Tryz.prog) ⟨w5.heap.size, 4, none⟩ 0
  go_upto_region 14 with fail
  have HB := hide (Blk.new w5 28 #[.int .i64 3, .string ⟨#[]⟩, .int .i64 0, .int .u64 0, .float .f64 0, .bool false])
  replace HX := hide (HX.out.alloc (.cells #[.int .i64 3, .string ⟨#[]⟩, .int .i64 0, .int .u64 0, .float .f64 0, .bool false] 28))
  clear SF
  generalize hg : w5.heap.size = g2 at HB ⊢
  generalize w5.alloc (.cells #[.int .i64 3, .string ⟨#[]⟩, .int .i64 0, .int .u64 0, .float .f64 0, .bool false] 28) = w6 at HB HX ⊢
  clear hg
  have c0 := HB.out.cell 0
  have c1 := HB.out.cell 1
  have c2 := HB.out.cell 2
  have c3 := HB.out.cell 3
  have c4 := HB.out.cell 4
  have c5 := HB.out.cell 5
  simp at c0 c1 c2 c3 c4 c5
  clear HB c1 c4 c5
  clear c0 c2
  have cvb := one_str d hd w6
  obtain ⟨DG, hDG⟩ : ∃ DG : ByteArray, DG = ⟨#[UInt8.ofNat (48 + d)]⟩ := ⟨_, rfl⟩
  rw [← hDG] at cvb
  have HD := hide (show DG.data.toList = [UInt8.ofNat (48 + d)] by rw [hDG])
  have hd1 : DG.size ≤ 1 := by rw [hDG]; exact Nat.le_refl _
  clear hDG
  go_wp2_with fail
  refine (V3.out _ _ (HX.out.alloc _) ?_).mono ?_
  · simp [digs, ByteArray.data_append, HA.out, H9.out, HD.out]
  rintro e w7 ⟨rfl, hx⟩
  replace HX := hide ((HX.out.alloc _).trans hx)
  clear hx V3 c3 cvb
  have SF := store_floatS (P := Tryz.prog) ⟨w7.heap.size, 4, none⟩ 0
  go_upto_region 17 with fail
  have HB := hide (Blk.new w7 28 #[.int .i64 2, .string ⟨#[]⟩, .int .i64 X, .int .u64 0, .float .f64 0, .bool false])
  replace HX := hide (HX.out.alloc (.cells #[.int .i64 2, .string ⟨#[]⟩, .int .i64 X, .int .u64 0, .float .f64 0, .bool false] 28))
  clear SF
  generalize hg : w7.heap.size = g3 at HB ⊢
  generalize w7.alloc (.cells #[.int .i64 2, .string ⟨#[]⟩, .int .i64 X, .int .u64 0, .float .f64 0, .bool false] 28) = w8 at HB HX ⊢
  clear hg
  have c0 := HB.out.cell 0
  have c1 := HB.out.cell 1
  have c2 := HB.out.cell 2
  have c3 := HB.out.cell 3
  have c4 := HB.out.cell 4
  have c5 := HB.out.cell 5
  simp at c0 c1 c2 c3 c4 c5
  clear HB c1 c4 c5
  clear c0 c3
  obtain ⟨Q, hQ⟩ : ∃ Q, Int.tdiv (9223372036854775807 - (d : Int)) 10 = Q := ⟨_, rfl⟩
  have hQ2 : Q = (9223372036854775807 - (d : Int)) / 10 := by rw [← hQ]; exact Int.tdiv_eq_ediv_of_nonneg (by omega)
  have hwQ : wrap64 Q = Q := by unfold wrap64; omega
  have hq2 : ¬ Q < 0 := by omega
  have hq : decide (Q < 0) = false := decide_eq_false (by omega)
  clear hQ2
  go_wp2_with fail
  all_goals (go_ret; exact ⟨rfl, HX.out⟩)
set_option maxRecDepth 100000 in
set_option maxHeartbeats 1000000 in
theorem vd_plus_in (m z d : Nat) (X : Int) (w : World) (hm1 : 1 ≤ m) (hm : m ≤ 9223372036854775807) (hz : z ≤ 500) (hd : d ≤ 9) (hr : m * 10 + d ≤ 9223372036854775807) (hX : X = (m : Int) * 10 + (d : Int))
    (FI : Hid (∀ W, Ext w W → Calls Tryz.prog 4 #[.int .i64 (m : Nat), .int .i64 10] W fun e w' => e = .returned (.string ⟨(decDigits m).toArray⟩) ∧ Ext W w')) (MA : Hid (∀ W, Calls Tryz.prog 5 #[.string ⟨#[48]⟩, .int .i64 z] W fun e w' => e = .returned (.tuple #[.string ⟨(List.replicate z 48).toArray⟩, .bool true]) ∧ Ext W w'))
    (V1 : Hid (∀ W s, Ext w W → s.data.toList = ([43] ++ digs z m) → Calls Tryz.prog 6 #[.int .i64 2, .string s] W fun e w' => e = .returned (.tuple #[.agg #[.int .i64 2, .string ⟨#[]⟩, .int .i64 (m : Nat), .int .u64 0, .float .f64 0, .bool false], .bool true, .bool false]) ∧ Ext W w')) (V2 : Hid (∀ W s, Ext w W → s.data.toList = ([43] ++ digs z m) → Calls Tryz.prog 6 #[.int .i64 3, .string s] W fun e w' => e = .returned (.tuple #[.agg #[.int .i64 0, .string ⟨#[]⟩, .int .i64 0, .int .u64 0, .float .f64 0, .bool false], .bool false, .bool false]) ∧ Ext W w'))
    (V3 : Hid (∀ W s, Ext w W → s.data.toList = ([43] ++ digs z m) ++ [UInt8.ofNat (48 + d)] → Calls Tryz.prog 6 #[.int .i64 2, .string s] W fun e w' => e = .returned (.tuple #[.agg #[.int .i64 2, .string ⟨#[]⟩, .int .i64 X, .int .u64 0, .float .f64 0, .bool false], .bool true, .bool false]) ∧ Ext W w')) :
    Calls Tryz.prog 3 #[.int .i64 (m : Nat), .int .i64 z, .bool true, .int .i64 d] w fun e w' => e = .returned (.bool true) ∧ Ext w w' := by
  have z0 : (z : Int) ≤ 500 := by omega
  have d0 : (d : Int) ≤ 9 := by omega
  have d1 : (0 : Int) ≤ (d : Int) := by omega
  have m0 : (m : Int) ≤ 9223372036854775807 := by omega
  have zb1 : decide ((z : Int) < 0) = false := decide_eq_false (by omega)
  have zb2 : decide ((500 : Int) < (z : Int)) = false := decide_eq_false (by omega)
  have db1 : decide ((d : Int) < 0) = false := decide_eq_false (by omega)
  have db2 : decide ((9 : Int) < (d : Int)) = false := decide_eq_false (by omega)
  obtain ⟨S9, hS9⟩ : ∃ S9 : ByteArray, S9 = ⟨(decDigits m).toArray⟩ := ⟨_, rfl⟩
  rw [← hS9] at FI
  have H9 := hide (show S9.data.toList = decDigits m by rw [hS9])
  obtain ⟨AH, hAH⟩ : ∃ AH : ByteArray, AH = ⟨(List.replicate z 48).toArray⟩ := ⟨_, rfl⟩
  rw [← hAH] at MA
  have HA := hide (show AH.data.toList = List.replicate z 48 by rw [hAH])
  have hA5 : AH.size ≤ 500 := by have h := congrArg List.length HA.out; rw [Array.length_toList, List.length_replicate] at h; have h2 : AH.size = z := h; omega
  have hnd := Lib.nDigits_le20 m (by omega)
  have h95 : S9.size ≤ 21 := by have h := congrArg List.length H9.out; rw [Array.length_toList] at h; simp [decDigits_length] at h; have h2 : S9.size = S9.data.size := rfl; omega
  clear hS9 hAH
  have hXb : (X == (m : Int) * 10 + (d : Int)) = true := by rw [hX]; simp
  clear hX
  have mz : (((m : Nat) : Int) == 0) = false := by simp; omega
  have mr : (m : Int) * 10 + (d : Int) ≤ 9223372036854775807 := by omega
  go_enter Tryz.func3, Tryz.ntmps3
  go_wp2_with fail
  refine (FI.out _ (Ext.refl w)).mono ?_
  rintro e w1 ⟨rfl, hx⟩
  have HX := hide hx
  clear hx FI
  go_wp2_with fail
  refine (MA.out _).mono ?_
  rintro e w2 ⟨rfl, hx⟩
  replace HX := hide (HX.out.trans hx)
  clear hx MA
  go_wp2_with fail
  refine (V1.out _ _ HX.out ?_).mono ?_
  · simp [digs, ByteArray.data_append, HA.out, H9.out]
  rintro e w3 ⟨rfl, hx⟩
  replace HX := hide (HX.out.trans hx)
  clear hx V1
  have SF := store_floatS (P := Tryz.prog) ⟨w3.heap.size, 4, none⟩ 0
  go_upto_region 11 with fail
  have HB := hide (Blk.new w3 28 #[.int .i64 2, .string ⟨#[]⟩, .int .i64 (m : Nat), .int .u64 0, .float .f64 0, .bool false])
  replace HX := hide (HX.out.alloc (.cells #[.int .i64 2, .string ⟨#[]⟩, .int .i64 (m : Nat), .int .u64 0, .float .f64 0, .bool false] 28))
  clear SF
  generalize hg : w3.heap.size = g1 at HB ⊢
  generalize w3.alloc (.cells #[.int .i64 2, .string ⟨#[]⟩, .int .i64 (m : Nat), .int .u64 0, .float .f64 0, .bool false] 28) = w4 at HB HX ⊢
  clear hg
  have c0 := HB.out.cell 0
  have c1 := HB.out.cell 1
  have c2 := HB.out.cell 2
  have c3 := HB.out.cell 3
  have c4 := HB.out.cell 4
  have c5 := HB.out.cell 5
  simp at c0 c1 c2 c3 c4 c5
  clear HB c1 c4 c5
  clear c3
  go_wp2_with fail
  refine (V2.out _ _ HX.out ?_).mono ?_
  · simp [digs, ByteArray.data_append, HA.out, H9.out]
  rintro e w5 ⟨rfl, hx⟩
  replace HX := hide (HX.out.trans hx)
  clear hx V2 c0 c2
  have SF := store_floatS (P := Tryz.prog) ⟨w5.heap.size, 4, none⟩ 0
  go_upto_region 14 with fail
  have HB := hide (Blk.new w5 28 #[.int .i64 0, .string ⟨#[]⟩, .int .i64 0, .int .u64 0, .float .f64 0, .bool false])
  replace HX := hide (HX.out.alloc (.cells #[.int .i64 0, .string ⟨#[]⟩, .int .i64 0, .int .u64 0, .float .f64 0, .bool false] 28))
  clear SF
  generalize hg : w5.heap.size = g2 at HB ⊢
  generalize w5.alloc (.cells #[.int .i64 0, .string ⟨#[]⟩, .int .i64 0, .int .u64 0, .float .f64 0, .bool false] 28) = w6 at HB HX ⊢
  clear hg
  have c0 := HB.out.cell 0
  have c1 := HB.out.cell 1
  have c2 := HB.out.cell 2
  have c3 := HB.out.cell 3
  have c4 := HB.out.cell 4
  have c5 := HB.out.cell 5
  simp at c0 c1 c2 c3 c4 c5
  clear HB c1 c4 c5
  clear c0 c2
  have cvb := one_str d hd w6
  obtain ⟨DG, hDG⟩ : ∃ DG : ByteArray, DG = ⟨#[UInt8.ofNat (48 + d)]⟩ := ⟨_, rfl⟩
  rw [← hDG] at cvb
  have HD := hide (show DG.data.toList = [UInt8.ofNat (48 + d)] by rw [hDG])
  have hd1 : DG.size ≤ 1 := by rw [hDG]; exact Nat.le_refl _
  clear hDG
  go_wp2_with fail
  refine (V3.out _ _ (HX.out.alloc _) ?_).mono ?_
  · simp [digs, ByteArray.data_append, HA.out, H9.out, HD.out]
  rintro e w7 ⟨rfl, hx⟩
  replace HX := hide ((HX.out.alloc _).trans hx)
  clear hx V3 c3 cvb
  have SF := store_floatS (P := Tryz.prog) ⟨w7.heap.size, 4, none⟩ 0
  go_upto_region 17 with fail
  have HB := hide (Blk.new w7 28 #[.int .i64 2, .string ⟨#[]⟩, .int .i64 X, .int .u64 0, .float .f64 0, .bool false])
  replace HX := hide (HX.out.alloc (.cells #[.int .i64 2, .string ⟨#[]⟩, .int .i64 X, .int .u64 0, .float .f64 0, .bool false] 28))
  clear SF
  generalize hg : w7.heap.size = g3 at HB ⊢
  generalize w7.alloc (.cells #[.int .i64 2, .string ⟨#[]⟩, .int .i64 X, .int .u64 0, .float .f64 0, .bool false] 28) = w8 at HB HX ⊢
  clear hg
  have c0 := HB.out.cell 0
  have c1 := HB.out.cell 1
  have c2 := HB.out.cell 2
  have c3 := HB.out.cell 3
  have c4 := HB.out.cell 4
  have c5 := HB.out.cell 5
  simp at c0 c1 c2 c3 c4 c5
  clear HB c1 c4 c5
  clear c0 c3
  have mneg : decide ((m : Int) < 0) = false := decide_eq_false (by omega)
  have mpos : decide ((0 : Int) ≤ (m : Int)) = true := decide_eq_true (by omega)
  obtain ⟨Q, hQ⟩ : ∃ Q, Int.tdiv (9223372036854775807 - (d : Int)) 10 = Q := ⟨_, rfl⟩
  have hQ2 : Q = (9223372036854775807 - (d : Int)) / 10 := by rw [← hQ]; exact Int.tdiv_eq_ediv_of_nonneg (by omega)
  have hwQ : wrap64 Q = Q := by unfold wrap64; omega
  have hq2 : ¬ Q < (m : Int) := by omega
  have hq : decide (Q < (m : Int)) = false := decide_eq_false (by omega)
  clear hQ2
  go_wp2_with fail
  all_goals (go_ret; exact ⟨rfl, HX.out⟩)
set_option maxRecDepth 100000 in
set_option maxHeartbeats 1000000 in
theorem vd_plus_out (m z d : Nat) (X : Int) (w : World) (hm1 : 1 ≤ m) (hm : m ≤ 9223372036854775807) (hz : z ≤ 500) (hd : d ≤ 9) (hr : 9223372036854775807 < m * 10 + d) 
    (FI : Hid (∀ W, Ext w W → Calls Tryz.prog 4 #[.int .i64 (m : Nat), .int .i64 10] W fun e w' => e = .returned (.string ⟨(decDigits m).toArray⟩) ∧ Ext W w')) (MA : Hid (∀ W, Calls Tryz.prog 5 #[.string ⟨#[48]⟩, .int .i64 z] W fun e w' => e = .returned (.tuple #[.string ⟨(List.replicate z 48).toArray⟩, .bool true]) ∧ Ext W w'))
    (V1 : Hid (∀ W s, Ext w W → s.data.toList = ([43] ++ digs z m) → Calls Tryz.prog 6 #[.int .i64 2, .string s] W fun e w' => e = .returned (.tuple #[.agg #[.int .i64 2, .string ⟨#[]⟩, .int .i64 (m : Nat), .int .u64 0, .float .f64 0, .bool false], .bool true, .bool false]) ∧ Ext W w')) (V2 : Hid (∀ W s, Ext w W → s.data.toList = ([43] ++ digs z m) → Calls Tryz.prog 6 #[.int .i64 3, .string s] W fun e w' => e = .returned (.tuple #[.agg #[.int .i64 0, .string ⟨#[]⟩, .int .i64 0, .int .u64 0, .float .f64 0, .bool false], .bool false, .bool false]) ∧ Ext W w'))
    (V3 : Hid (∀ W s, Ext w W → s.data.toList = ([43] ++ digs z m) ++ [UInt8.ofNat (48 + d)] → Calls Tryz.prog 6 #[.int .i64 2, .string s] W fun e w' => e = .returned (.tuple #[.agg #[.int .i64 0, .string ⟨#[]⟩, .int .i64 0, .int .u64 0, .float .f64 0, .bool false], .bool false, .bool true]) ∧ Ext W w')) :
    Calls Tryz.prog 3 #[.int .i64 (m : Nat), .int .i64 z, .bool true, .int .i64 d] w fun e w' => e = .returned (.bool true) ∧ Ext w w' := by
  have z0 : (z : Int) ≤ 500 := by omega
  have d0 : (d : Int) ≤ 9 := by omega
  have d1 : (0 : Int) ≤ (d : Int) := by omega
  have m0 : (m : Int) ≤ 9223372036854775807 := by omega
  have zb1 : decide ((z : Int) < 0) = false := decide_eq_false (by omega)
  have zb2 : decide ((500 : Int) < (z : Int)) = false := decide_eq_false (by omega)
  have db1 : decide ((d : Int) < 0) = false := decide_eq_false (by omega)
  have db2 : decide ((9 : Int) < (d : Int)) = false := decide_eq_false (by omega)
  obtain ⟨S9, hS9⟩ : ∃ S9 : ByteArray, S9 = ⟨(decDigits m).toArray⟩ := ⟨_, rfl⟩
  rw [← hS9] at FI
  have H9 := hide (show S9.data.toList = decDigits m by rw [hS9])
  obtain ⟨AH, hAH⟩ : ∃ AH : ByteArray, AH = ⟨(List.replicate z 48).toArray⟩ := ⟨_, rfl⟩
  rw [← hAH] at MA
  have HA := hide (show AH.data.toList = List.replicate z 48 by rw [hAH])
  have hA5 : AH.size ≤ 500 := by have h := congrArg List.length HA.out; rw [Array.length_toList, List.length_replicate] at h; have h2 : AH.size = z := h; omega
  have hnd := Lib.nDigits_le20 m (by omega)
  have h95 : S9.size ≤ 21 := by have h := congrArg List.length H9.out; rw [Array.length_toList] at h; simp [decDigits_length] at h; have h2 : S9.size = S9.data.size := rfl; omega
  clear hS9 hAH
  have mz : (((m : Nat) : Int) == 0) = false := by simp; omega
  go_enter Tryz.func3, Tryz.ntmps3
  go_wp2_with fail
  refine (FI.out _ (Ext.refl w)).mono ?_
  rintro e w1 ⟨rfl, hx⟩
  have HX := hide hx
  clear hx FI
  go_wp2_with fail
  refine (MA.out _).mono ?_
  rintro e w2 ⟨rfl, hx⟩
  replace HX := hide (HX.out.trans hx)
  clear hx MA
  go_wp2_with fail
  refine (V1.out _ _ HX.out ?_).mono ?_
  · simp [digs, ByteArray.data_append, HA.out, H9.out]
  rintro e w3 ⟨rfl, hx⟩
  replace HX := hide (HX.out.trans hx)
  clear hx V1
  have SF := store_floatS (P := Tryz.prog) ⟨w3.heap.size, 4, none⟩ 0
  go_upto_region 11 with fail
  have HB := hide (Blk.new w3 28 #[.int .i64 2, .string ⟨#[]⟩, .int .i64 (m : Nat), .int .u64 0, .float .f64 0, .bool false])
  replace HX := hide (HX.out.alloc (.cells #[.int .i64 2, .string ⟨#[]⟩, .int .i64 (m : Nat), .int .u64 0, .float .f64 0, .bool false] 28))
  clear SF
  generalize hg : w3.heap.size = g1 at HB ⊢
  generalize w3.alloc (.cells #[.int .i64 2, .string ⟨#[]⟩, .int .i64 (m : Nat), .int .u64 0, .float .f64 0, .bool false] 28) = w4 at HB HX ⊢
  clear hg
  have c0 := HB.out.cell 0
  have c1 := HB.out.cell 1
  have c2 := HB.out.cell 2
  have c3 := HB.out.cell 3
  have c4 := HB.out.cell 4
  have c5 := HB.out.cell 5
  simp at c0 c1 c2 c3 c4 c5
  clear HB c1 c4 c5
  clear c3
  go_wp2_with fail
  refine (V2.out _ _ HX.out ?_).mono ?_
  · simp [digs, ByteArray.data_append, HA.out, H9.out]
  rintro e w5 ⟨rfl, hx⟩
  replace HX := hide (HX.out.trans hx)
  clear hx V2 c0 c2
  have SF := store_floatS (P := Tryz.prog) ⟨w5.heap.size, 4, none⟩ 0
  go_upto_region 14 with fail
  have HB := hide (Blk.new w5 28 #[.int .i64 0, .string ⟨#[]⟩, .int .i64 0, .int .u64 0, .float .f64 0, .bool false])
  replace HX := hide (HX.out.alloc (.cells #[.int .i64 0, .string ⟨#[]⟩, .int .i64 0, .int .u64 0, .float .f64 0, .bool false] 28))
  clear SF
  generalize hg : w5.heap.size = g2 at HB ⊢
  generalize w5.alloc (.cells #[.int .i64 0, .string ⟨#[]⟩, .int .i64 0, .int .u64 0, .float .f64 0, .bool false] 28) = w6 at HB HX ⊢
  clear hg
  have c0 := HB.out.cell 0
  have c1 := HB.out.cell 1
  have c2 := HB.out.cell 2
  have c3 := HB.out.cell 3
  have c4 := HB.out.cell 4
  have c5 := HB.out.cell 5
  simp at c0 c1 c2 c3 c4 c5
  clear HB c1 c4 c5
  clear c0 c2
  have cvb := one_str d hd w6
  obtain ⟨DG, hDG⟩ : ∃ DG : ByteArray, DG = ⟨#[UInt8.ofNat (48 + d)]⟩ := ⟨_, rfl⟩
  rw [← hDG] at cvb
  have HD := hide (show DG.data.toList = [UInt8.ofNat (48 + d)] by rw [hDG])
  have hd1 : DG.size ≤ 1 := by rw [hDG]; exact Nat.le_refl _
  clear hDG
  go_wp2_with fail
  refine (V3.out _ _ (HX.out.alloc _) ?_).mono ?_
  · simp [digs, ByteArray.data_append, HA.out, H9.out, HD.out]
  rintro e w7 ⟨rfl, hx⟩
  replace HX := hide ((HX.out.alloc _).trans hx)
  clear hx V3 c3 cvb
  have SF := store_floatS (P := Tryz.prog) ⟨w7.heap.size, 4, none⟩ 0
  go_upto_region 17 with fail
  have HB := hide (Blk.new w7 28 #[.int .i64 0, .string ⟨#[]⟩, .int .i64 0, .int .u64 0, .float .f64 0, .bool false])
  replace HX := hide (HX.out.alloc (.cells #[.int .i64 0, .string ⟨#[]⟩, .int .i64 0, .int .u64 0, .float .f64 0, .bool false] 28))
  clear SF
  generalize hg : w7.heap.size = g3 at HB ⊢
  generalize w7.alloc (.cells #[.int .i64 0, .string ⟨#[]⟩, .int .i64 0, .int .u64 0, .float .f64 0, .bool false] 28) = w8 at HB HX ⊢
  clear hg
  have c0 := HB.out.cell 0
  have c1 := HB.out.cell 1
  have c2 := HB.out.cell 2
  have c3 := HB.out.cell 3
  have c4 := HB.out.cell 4
  have c5 := HB.out.cell 5
  simp at c0 c1 c2 c3 c4 c5
  clear HB c1 c4 c5
  clear c0 c3
  have mneg : decide ((m : Int) < 0) = false := decide_eq_false (by omega)
  have mpos : decide ((0 : Int) ≤ (m : Int)) = true := decide_eq_true (by omega)
  obtain ⟨Q, hQ⟩ : ∃ Q, Int.tdiv (9223372036854775807 - (d : Int)) 10 = Q := ⟨_, rfl⟩
  have hQ2 : Q = (9223372036854775807 - (d : Int)) / 10 := by rw [← hQ]; exact Int.tdiv_eq_ediv_of_nonneg (by omega)
  have hwQ : wrap64 Q = Q := by unfold wrap64; omega
  have hq2 :  Q < (m : Int) := by omega
  have hq : decide (Q < (m : Int)) = true := decide_eq_true (by omega)
  clear hQ2
  go_wp2_with fail
  all_goals (go_ret; exact ⟨rfl, HX.out⟩)
set_option maxRecDepth 100000 in
set_option maxHeartbeats 1000000 in
theorem vd_plus_zero (m z d : Nat) (X : Int) (w : World) (hm : m ≤ 0) (hz : z ≤ 500) (hd : d ≤ 9) (hr : m * 10 + d ≤ 9223372036854775807) (hX : X = (d : Int))
    (FI : Hid (∀ W, Ext w W → Calls Tryz.prog 4 #[.int .i64 0, .int .i64 10] W fun e w' => e = .returned (.string ⟨(decDigits 0).toArray⟩) ∧ Ext W w')) (MA : Hid (∀ W, Calls Tryz.prog 5 #[.string ⟨#[48]⟩, .int .i64 z] W fun e w' => e = .returned (.tuple #[.string ⟨(List.replicate z 48).toArray⟩, .bool true]) ∧ Ext W w'))
    (V1 : Hid (∀ W s, Ext w W → s.data.toList = ([43] ++ digs z 0) → Calls Tryz.prog 6 #[.int .i64 2, .string s] W fun e w' => e = .returned (.tuple #[.agg #[.int .i64 2, .string ⟨#[]⟩, .int .i64 0, .int .u64 0, .float .f64 0, .bool false], .bool true, .bool false]) ∧ Ext W w')) (V2 : Hid (∀ W s, Ext w W → s.data.toList = ([43] ++ digs z 0) → Calls Tryz.prog 6 #[.int .i64 3, .string s] W fun e w' => e = .returned (.tuple #[.agg #[.int .i64 0, .string ⟨#[]⟩, .int .i64 0, .int .u64 0, .float .f64 0, .bool false], .bool false, .bool false]) ∧ Ext W w'))
    (V3 : Hid (∀ W s, Ext w W → s.data.toList = ([43] ++ digs z 0) ++ [UInt8.ofNat (48 + d)] → Calls Tryz.prog 6 #[.int .i64 2, .string s] W fun e w' => e = .returned (.tuple #[.agg #[.int .i64 2, .string ⟨#[]⟩, .int .i64 X, .int .u64 0, .float .f64 0, .bool false], .bool true, .bool false]) ∧ Ext W w')) :
    Calls Tryz.prog 3 #[.int .i64 0, .int .i64 z, .bool true, .int .i64 d] w fun e w' => e = .returned (.bool true) ∧ Ext w w' := by
  have z0 : (z : Int) ≤ 500 := by omega
  have d0 : (d : Int) ≤ 9 := by omega
  have d1 : (0 : Int) ≤ (d : Int) := by omega
  have m0 : (m : Int) ≤ 9223372036854775807 := by omega
  have zb1 : decide ((z : Int) < 0) = false := decide_eq_false (by omega)
  have zb2 : decide ((500 : Int) < (z : Int)) = false := decide_eq_false (by omega)
  have db1 : decide ((d : Int) < 0) = false := decide_eq_false (by omega)
  have db2 : decide ((9 : Int) < (d : Int)) = false := decide_eq_false (by omega)
  obtain ⟨S9, hS9⟩ : ∃ S9 : ByteArray, S9 = ⟨(decDigits 0).toArray⟩ := ⟨_, rfl⟩
  rw [← hS9] at FI
  have H9 := hide (show S9.data.toList = decDigits 0 by rw [hS9])
  obtain ⟨AH, hAH⟩ : ∃ AH : ByteArray, AH = ⟨(List.replicate z 48).toArray⟩ := ⟨_, rfl⟩
  rw [← hAH] at MA
  have HA := hide (show AH.data.toList = List.replicate z 48 by rw [hAH])
  have hA5 : AH.size ≤ 500 := by have h := congrArg List.length HA.out; rw [Array.length_toList, List.length_replicate] at h; have h2 : AH.size = z := h; omega
  have hnd := Lib.nDigits_le20 0 (by omega)
  have h95 : S9.size ≤ 21 := by have h := congrArg List.length H9.out; rw [Array.length_toList] at h; simp [decDigits_length] at h; have h2 : S9.size = S9.data.size := rfl; omega
  clear hS9 hAH
  have hXb : (X == (d : Int)) = true := by rw [hX]; simp
  clear hX
  go_enter Tryz.func3, Tryz.ntmps3
  go_wp2_with fail
  refine (FI.out _ (Ext.refl w)).mono ?_
  rintro e w1 ⟨rfl, hx⟩
  have HX := hide hx
  clear hx FI
  go_wp2_with fail
  refine (MA.out _).mono ?_
  rintro e w2 ⟨rfl, hx⟩
  replace HX := hide (HX.out.trans hx)
  clear hx MA
  go_wp2_with fail
  refine (V1.out _ _ HX.out ?_).mono ?_
  · simp [digs, ByteArray.data_append, HA.out, H9.out]
  rintro e w3 ⟨rfl, hx⟩
  replace HX := hide (HX.out.trans hx)
  clear hx V1
  have SF := store_floatS (P := Tryz.prog) ⟨w3.heap.size, 4, none⟩ 0
  go_upto_region 11 with fail
  have HB := hide (Blk.new w3 28 #[.int .i64 2, .string ⟨#[]⟩, .int .i64 0, .int .u64 0, .float .f64 0, .bool false])
  replace HX := hide (HX.out.alloc (.cells #[.int .i64 2, .string ⟨#[]⟩, .int .i64 0, .int .u64 0, .float .f64 0, .bool false] 28))
  clear SF
  generalize hg : w3.heap.size = g1 at HB ⊢
  generalize w3.alloc (.cells #[.int .i64 2, .string ⟨#[]⟩, .int .i64 0, .int .u64 0, .float .f64 0, .bool false] 28) = w4 at HB HX ⊢
  clear hg
  have c0 := HB.out.cell 0
  have c1 := HB.out.cell 1
  have c2 := HB.out.cell 2
  have c3 := HB.out.cell 3
  have c4 := HB.out.cell 4
  have c5 := HB.out.cell 5
  simp at c0 c1 c2 c3 c4 c5
  clear HB c1 c4 c5
  clear c3
  go_wp2_with fail
  refine (V2.out _ _ HX.out ?_).mono ?_
  · simp [digs, ByteArray.data_append, HA.out, H9.out]
  rintro e w5 ⟨rfl, hx⟩
  replace HX := hide (HX.out.trans hx)
  clear hx V2 c0 c2
  have SF := store_floatS (P := Tryz.prog) ⟨w5.heap.size, 4, none⟩ 0
  go_upto_region 14 with fail
  have HB := hide (Blk.new w5 28 #[.int .i64 0, .string ⟨#[]⟩, .int .i64 0, .int .u64 0, .float .f64 0, .bool false])
  replace HX := hide (HX.out.alloc (.cells #[.int .i64 0, .string ⟨#[]⟩, .int .i64 0, .int .u64 0, .float .f64 0, .bool false] 28))
  clear SF
  generalize hg : w5.heap.size = g2 at HB ⊢
  generalize w5.alloc (.cells #[.int .i64 0, .string ⟨#[]⟩, .int .i64 0, .int .u64 0, .float .f64 0, .bool false] 28) = w6 at HB HX ⊢
  clear hg
  have c0 := HB.out.cell 0
  have c1 := HB.out.cell 1
  have c2 := HB.out.cell 2
  have c3 := HB.out.cell 3
  have c4 := HB.out.cell 4
  have c5 := HB.out.cell 5
  simp at c0 c1 c2 c3 c4 c5
  clear HB c1 c4 c5
  clear c0 c2
  have cvb := one_str d hd w6
  obtain ⟨DG, hDG⟩ : ∃ DG : ByteArray, DG = ⟨#[UInt8.ofNat (48 + d)]⟩ := ⟨_, rfl⟩
  rw [← hDG] at cvb
  have HD := hide (show DG.data.toList = [UInt8.ofNat (48 + d)] by rw [hDG])
  have hd1 : DG.size ≤ 1 := by rw [hDG]; exact Nat.le_refl _
  clear hDG
  go_wp2_with fail
  refine (V3.out _ _ (HX.out.alloc _) ?_).mono ?_
  · simp [digs, ByteArray.data_append, HA.out, H9.out, HD.out]
  rintro e w7 ⟨rfl, hx⟩
  replace HX := hide ((HX.out.alloc _).trans hx)
  clear hx V3 c3 cvb
  have SF := store_floatS (P := Tryz.prog) ⟨w7.heap.size, 4, none⟩ 0
  go_upto_region 17 with fail
  have HB := hide (Blk.new w7 28 #[.int .i64 2, .string ⟨#[]⟩, .int .i64 X, .int .u64 0, .float .f64 0, .bool false])
  replace HX := hide (HX.out.alloc (.cells #[.int .i64 2, .string ⟨#[]⟩, .int .i64 X, .int .u64 0, .float .f64 0, .bool false] 28))
  clear SF
  generalize hg : w7.heap.size = g3 at HB ⊢
  generalize w7.alloc (.cells #[.int .i64 2, .string ⟨#[]⟩, .int .i64 X, .int .u64 0, .float .f64 0, .bool false] 28) = w8 at HB HX ⊢
  clear hg
  have c0 := HB.out.cell 0
  have c1 := HB.out.cell 1
  have c2 := HB.out.cell 2
  have c3 := HB.out.cell 3
  have c4 := HB.out.cell 4
  have c5 := HB.out.cell 5
  simp at c0 c1 c2 c3 c4 c5
  clear HB c1 c4 c5
  clear c0 c3
  obtain ⟨Q, hQ⟩ : ∃ Q, Int.tdiv (9223372036854775807 - (d : Int)) 10 = Q := ⟨_, rfl⟩
  have hQ2 : Q = (9223372036854775807 - (d : Int)) / 10 := by rw [← hQ]; exact Int.tdiv_eq_ediv_of_nonneg (by omega)
  have hwQ : wrap64 Q = Q := by unfold wrap64; omega
  have hq2 : ¬ Q < 0 := by omega
  have hq : decide (Q < 0) = false := decide_eq_false (by omega)
  clear hQ2
  go_wp2_with fail
  all_goals (go_ret; exact ⟨rfl, HX.out⟩)
set_option maxRecDepth 100000 in
set_option maxHeartbeats 1000000 in
theorem vd_minus_in (m z d : Nat) (X : Int) (plus : Bool) (w : World) (hm1 : 1 ≤ m) (hm : m ≤ 9223372036854775808) (hz : z ≤ 500) (hd : d ≤ 9) (hr : m * 10 + d ≤ 9223372036854775808) (hX : X = -((m : Int) * 10 + (d : Int)))
    (FI : Hid (∀ W, Ext w W → Calls Tryz.prog 4 #[.int .i64 (-(m : Nat)), .int .i64 10] W fun e w' => e = .returned (.string ⟨(45 :: decDigits m).toArray⟩) ∧ Ext W w')) (MA : Hid (∀ W, Calls Tryz.prog 5 #[.string ⟨#[48]⟩, .int .i64 z] W fun e w' => e = .returned (.tuple #[.string ⟨(List.replicate z 48).toArray⟩, .bool true]) ∧ Ext W w'))
    (V1 : Hid (∀ W s, Ext w W → s.data.toList = ([45] ++ digs z m) → Calls Tryz.prog 6 #[.int .i64 2, .string s] W fun e w' => e = .returned (.tuple #[.agg #[.int .i64 2, .string ⟨#[]⟩, .int .i64 (-(m : Nat)), .int .u64 0, .float .f64 0, .bool false], .bool true, .bool false]) ∧ Ext W w')) (V2 : Hid (∀ W s, Ext w W → s.data.toList = ([45] ++ digs z m) → Calls Tryz.prog 6 #[.int .i64 3, .string s] W fun e w' => e = .returned (.tuple #[.agg #[.int .i64 0, .string ⟨#[]⟩, .int .i64 0, .int .u64 0, .float .f64 0, .bool false], .bool false, .bool false]) ∧ Ext W w'))
    (V3 : Hid (∀ W s, Ext w W → s.data.toList = ([45] ++ digs z m) ++ [UInt8.ofNat (48 + d)] → Calls Tryz.prog 6 #[.int .i64 2, .string s] W fun e w' => e = .returned (.tuple #[.agg #[.int .i64 2, .string ⟨#[]⟩, .int .i64 X, .int .u64 0, .float .f64 0, .bool false], .bool true, .bool false]) ∧ Ext W w')) :
    Calls Tryz.prog 3 #[.int .i64 (-(m : Nat)), .int .i64 z, .bool plus, .int .i64 d] w fun e w' => e = .returned (.bool true) ∧ Ext w w' := by
  have z0 : (z : Int) ≤ 500 := by omega
  have d0 : (d : Int) ≤ 9 := by omega
  have d1 : (0 : Int) ≤ (d : Int) := by omega
  have m0 : (m : Int) ≤ 9223372036854775808 := by omega
  have zb1 : decide ((z : Int) < 0) = false := decide_eq_false (by omega)
  have zb2 : decide ((500 : Int) < (z : Int)) = false := decide_eq_false (by omega)
  have db1 : decide ((d : Int) < 0) = false := decide_eq_false (by omega)
  have db2 : decide ((9 : Int) < (d : Int)) = false := decide_eq_false (by omega)
  obtain ⟨S9, hS9⟩ : ∃ S9 : ByteArray, S9 = ⟨(45 :: decDigits m).toArray⟩ := ⟨_, rfl⟩
  rw [← hS9] at FI
  have H9 := hide (show S9.data.toList = 45 :: decDigits m by rw [hS9])
  obtain ⟨AH, hAH⟩ : ∃ AH : ByteArray, AH = ⟨(List.replicate z 48).toArray⟩ := ⟨_, rfl⟩
  rw [← hAH] at MA
  have HA := hide (show AH.data.toList = List.replicate z 48 by rw [hAH])
  have hA5 : AH.size ≤ 500 := by have h := congrArg List.length HA.out; rw [Array.length_toList, List.length_replicate] at h; have h2 : AH.size = z := h; omega
  have hnd := Lib.nDigits_le20 m (by omega)
  have h95 : S9.size ≤ 21 := by have h := congrArg List.length H9.out; rw [Array.length_toList] at h; simp [decDigits_length] at h; have h2 : S9.size = S9.data.size := rfl; omega
  clear hS9 hAH
  have hXb : (X == -(m : Int) * 10 + -(d : Int)) = true := by rw [hX, beq_iff_eq]; omega
  clear hX
  have mz : (((-(m : Nat)) : Int) == 0) = false := by simp; omega
  have mr : (m : Int) * 10 + (d : Int) ≤ 9223372036854775808 := by omega
  go_enter Tryz.func3, Tryz.ntmps3
  go_wp2_with fail
  refine (FI.out _ (Ext.refl w)).mono ?_
  rintro e w1 ⟨rfl, hx⟩
  have HX := hide hx
  clear hx FI
  have hlen : (S9.size : Int) = 1 + (nDigits m : Int) := by have h := congrArg List.length H9.out; rw [Array.length_toList, List.length_cons, decDigits_length] at h; have h2 : S9.size = nDigits m + 1 := h; omega
  have hnd2 := nDigits_pos m
  have hle : (1 : Int) ≤ (S9.size : Int) := by omega
  have hneg : (-(m : Int)) < 0 := by omega
  go_wp2_with fail
  go_big_quiet (fail)
  have HX2 := hide (HX.out.drewN nq)
  clear HX
  generalize w1.drewN nq = w1b at HX2 ⊢
  have HX := hide HX2.out
  clear HX2
  obtain ⟨S1, hS1⟩ : ∃ S1, S9.extract 1 S9.size = S1 := ⟨_, rfl⟩
  have H1 := hide (show S1.data.toList = decDigits m by rw [← hS1, Lib.ext_list, H9.out]; rfl)
  have h15 : S1.size ≤ 20 := by rw [← hS1, Lib.ext_size]; omega
  rw [hS1]
  clear hS1 H9 hlen hle
  go_wp2_with fail
  refine (MA.out _).mono ?_
  rintro e w2 ⟨rfl, hx⟩
  replace HX := hide (HX.out.trans hx)
  clear hx MA
  go_wp2_with fail
  refine (V1.out _ _ HX.out ?_).mono ?_
  · simp [digs, ByteArray.data_append, HA.out, H1.out]
  rintro e w3 ⟨rfl, hx⟩
  replace HX := hide (HX.out.trans hx)
  clear hx V1
  have SF := store_floatS (P := Tryz.prog) ⟨w3.heap.size, 4, none⟩ 0
  go_upto_region 11 with fail
  have HB := hide (Blk.new w3 28 #[.int .i64 2, .string ⟨#[]⟩, .int .i64 (-(m : Nat)), .int .u64 0, .float .f64 0, .bool false])
  replace HX := hide (HX.out.alloc (.cells #[.int .i64 2, .string ⟨#[]⟩, .int .i64 (-(m : Nat)), .int .u64 0, .float .f64 0, .bool false] 28))
  clear SF
  generalize hg : w3.heap.size = g1 at HB ⊢
  generalize w3.alloc (.cells #[.int .i64 2, .string ⟨#[]⟩, .int .i64 (-(m : Nat)), .int .u64 0, .float .f64 0, .bool false] 28) = w4 at HB HX ⊢
  clear hg
  have c0 := HB.out.cell 0
  have c1 := HB.out.cell 1
  have c2 := HB.out.cell 2
  have c3 := HB.out.cell 3
  have c4 := HB.out.cell 4
  have c5 := HB.out.cell 5
  simp at c0 c1 c2 c3 c4 c5
  clear HB c1 c4 c5
  clear c3
  go_wp2_with fail
  refine (V2.out _ _ HX.out ?_).mono ?_
  · simp [digs, ByteArray.data_append, HA.out, H1.out]
  rintro e w5 ⟨rfl, hx⟩
  replace HX := hide (HX.out.trans hx)
  clear hx V2 c0 c2
  have SF := store_floatS (P := Tryz.prog) ⟨w5.heap.size, 4, none⟩ 0
  go_upto_region 14 with fail
  have HB := hide (Blk.new w5 28 #[.int .i64 0, .string ⟨#[]⟩, .int .i64 0, .int .u64 0, .float .f64 0, .bool false])
  replace HX := hide (HX.out.alloc (.cells #[.int .i64 0, .string ⟨#[]⟩, .int .i64 0, .int .u64 0, .float .f64 0, .bool false] 28))
  clear SF
  generalize hg : w5.heap.size = g2 at HB ⊢
  generalize w5.alloc (.cells #[.int .i64 0, .string ⟨#[]⟩, .int .i64 0, .int .u64 0, .float .f64 0, .bool false] 28) = w6 at HB HX ⊢
  clear hg
  have c0 := HB.out.cell 0
  have c1 := HB.out.cell 1
  have c2 := HB.out.cell 2
  have c3 := HB.out.cell 3
  have c4 := HB.out.cell 4
  have c5 := HB.out.cell 5
  simp at c0 c1 c2 c3 c4 c5
  clear HB c1 c4 c5
  clear c0 c2
  have cvb := one_str d hd w6
  obtain ⟨DG, hDG⟩ : ∃ DG : ByteArray, DG = ⟨#[UInt8.ofNat (48 + d)]⟩ := ⟨_, rfl⟩
  rw [← hDG] at cvb
  have HD := hide (show DG.data.toList = [UInt8.ofNat (48 + d)] by rw [hDG])
  have hd1 : DG.size ≤ 1 := by rw [hDG]; exact Nat.le_refl _
  clear hDG
  go_wp2_with fail
  refine (V3.out _ _ (HX.out.alloc _) ?_).mono ?_
  · simp [digs, ByteArray.data_append, HA.out, H1.out, HD.out]
  rintro e w7 ⟨rfl, hx⟩
  replace HX := hide ((HX.out.alloc _).trans hx)
  clear hx V3 c3 cvb
  have SF := store_floatS (P := Tryz.prog) ⟨w7.heap.size, 4, none⟩ 0
  go_upto_region 17 with fail
  have HB := hide (Blk.new w7 28 #[.int .i64 2, .string ⟨#[]⟩, .int .i64 X, .int .u64 0, .float .f64 0, .bool false])
  replace HX := hide (HX.out.alloc (.cells #[.int .i64 2, .string ⟨#[]⟩, .int .i64 X, .int .u64 0, .float .f64 0, .bool false] 28))
  clear SF
  generalize hg : w7.heap.size = g3 at HB ⊢
  generalize w7.alloc (.cells #[.int .i64 2, .string ⟨#[]⟩, .int .i64 X, .int .u64 0, .float .f64 0, .bool false] 28) = w8 at HB HX ⊢
  clear hg
  have c0 := HB.out.cell 0
  have c1 := HB.out.cell 1
  have c2 := HB.out.cell 2
  have c3 := HB.out.cell 3
  have c4 := HB.out.cell 4
  have c5 := HB.out.cell 5
  simp at c0 c1 c2 c3 c4 c5
  clear HB c1 c4 c5
  clear c0 c3
  have mneg : decide (-(m : Int) < 0) = true := decide_eq_true (by omega)
  have mneg2 : -(m : Int) < 0 := by omega
  have mpos : decide ((0 : Int) ≤ -(m : Int)) = false := decide_eq_false (by omega)
  have mpos2 : ¬ (0 : Int) ≤ -(m : Int) := by omega
  obtain ⟨Q, hQ⟩ : ∃ Q, (-9223372036854775808 + (d : Int)).tdiv 10 = Q := ⟨_, rfl⟩
  have hQ2 : Q = -((9223372036854775808 - (d : Int)) / 10) := by rw [← hQ, show -9223372036854775808 + (d : Int) = -(9223372036854775808 - (d : Int)) by omega, Int.neg_tdiv, Int.tdiv_eq_ediv_of_nonneg (by omega)]
  have hwQ : wrap64 Q = Q := by unfold wrap64; omega
  have hq2 : ¬ -(m : Int) < Q := by omega
  have hq : decide (-(m : Int) < Q) = false := decide_eq_false (by omega)
  clear hQ2
  go_wp2_with fail
  all_goals (go_ret; exact ⟨rfl, HX.out⟩)
set_option maxRecDepth 100000 in
set_option maxHeartbeats 1000000 in
theorem vd_minus_out (m z d : Nat) (X : Int) (plus : Bool) (w : World) (hm1 : 1 ≤ m) (hm : m ≤ 9223372036854775808) (hz : z ≤ 500) (hd : d ≤ 9) (hr : 9223372036854775808 < m * 10 + d) 
    (FI : Hid (∀ W, Ext w W → Calls Tryz.prog 4 #[.int .i64 (-(m : Nat)), .int .i64 10] W fun e w' => e = .returned (.string ⟨(45 :: decDigits m).toArray⟩) ∧ Ext W w')) (MA : Hid (∀ W, Calls Tryz.prog 5 #[.string ⟨#[48]⟩, .int .i64 z] W fun e w' => e = .returned (.tuple #[.string ⟨(List.replicate z 48).toArray⟩, .bool true]) ∧ Ext W w'))
    (V1 : Hid (∀ W s, Ext w W → s.data.toList = ([45] ++ digs z m) → Calls Tryz.prog 6 #[.int .i64 2, .string s] W fun e w' => e = .returned (.tuple #[.agg #[.int .i64 2, .string ⟨#[]⟩, .int .i64 (-(m : Nat)), .int .u64 0, .float .f64 0, .bool false], .bool true, .bool false]) ∧ Ext W w')) (V2 : Hid (∀ W s, Ext w W → s.data.toList = ([45] ++ digs z m) → Calls Tryz.prog 6 #[.int .i64 3, .string s] W fun e w' => e = .returned (.tuple #[.agg #[.int .i64 0, .string ⟨#[]⟩, .int .i64 0, .int .u64 0, .float .f64 0, .bool false], .bool false, .bool false]) ∧ Ext W w'))
    (V3 : Hid (∀ W s, Ext w W → s.data.toList = ([45] ++ digs z m) ++ [UInt8.ofNat (48 + d)] → Calls Tryz.prog 6 #[.int .i64 2, .string s] W fun e w' => e = .returned (.tuple #[.agg #[.int .i64 0, .string ⟨#[]⟩, .int .i64 0, .int .u64 0, .float .f64 0, .bool false], .bool false, .bool true]) ∧ Ext W w')) :
    Calls Tryz.prog 3 #[.int .i64 (-(m : Nat)), .int .i64 z, .bool plus, .int .i64 d] w fun e w' => e = .returned (.bool true) ∧ Ext w w' := by
  have z0 : (z : Int) ≤ 500 := by omega
  have d0 : (d : Int) ≤ 9 := by omega
  have d1 : (0 : Int) ≤ (d : Int) := by omega
  have m0 : (m : Int) ≤ 9223372036854775808 := by omega
  have zb1 : decide ((z : Int) < 0) = false := decide_eq_false (by omega)
  have zb2 : decide ((500 : Int) < (z : Int)) = false := decide_eq_false (by omega)
  have db1 : decide ((d : Int) < 0) = false := decide_eq_false (by omega)
  have db2 : decide ((9 : Int) < (d : Int)) = false := decide_eq_false (by omega)
  obtain ⟨S9, hS9⟩ : ∃ S9 : ByteArray, S9 = ⟨(45 :: decDigits m).toArray⟩ := ⟨_, rfl⟩
  rw [← hS9] at FI
  have H9 := hide (show S9.data.toList = 45 :: decDigits m by rw [hS9])
  obtain ⟨AH, hAH⟩ : ∃ AH : ByteArray, AH = ⟨(List.replicate z 48).toArray⟩ := ⟨_, rfl⟩
  rw [← hAH] at MA
  have HA := hide (show AH.data.toList = List.replicate z 48 by rw [hAH])
  have hA5 : AH.size ≤ 500 := by have h := congrArg List.length HA.out; rw [Array.length_toList, List.length_replicate] at h; have h2 : AH.size = z := h; omega
  have hnd := Lib.nDigits_le20 m (by omega)
  have h95 : S9.size ≤ 21 := by have h := congrArg List.length H9.out; rw [Array.length_toList] at h; simp [decDigits_length] at h; have h2 : S9.size = S9.data.size := rfl; omega
  clear hS9 hAH
  have mz : (((-(m : Nat)) : Int) == 0) = false := by simp; omega
  go_enter Tryz.func3, Tryz.ntmps3
  go_wp2_with fail
  refine (FI.out _ (Ext.refl w)).mono ?_
  rintro e w1 ⟨rfl, hx⟩
  have HX := hide hx
  clear hx FI
  have hlen : (S9.size : Int) = 1 + (nDigits m : Int) := by have h := congrArg List.length H9.out; rw [Array.length_toList, List.length_cons, decDigits_length] at h; have h2 : S9.size = nDigits m + 1 := h; omega
  have hnd2 := nDigits_pos m
  have hle : (1 : Int) ≤ (S9.size : Int) := by omega
  have hneg : (-(m : Int)) < 0 := by omega
  go_wp2_with fail
  go_big_quiet (fail)
  have HX2 := hide (HX.out.drewN nq)
  clear HX
  generalize w1.drewN nq = w1b at HX2 ⊢
  have HX := hide HX2.out
  clear HX2
  obtain ⟨S1, hS1⟩ : ∃ S1, S9.extract 1 S9.size = S1 := ⟨_, rfl⟩
  have H1 := hide (show S1.data.toList = decDigits m by rw [← hS1, Lib.ext_list, H9.out]; rfl)
  have h15 : S1.size ≤ 20 := by rw [← hS1, Lib.ext_size]; omega
  rw [hS1]
  clear hS1 H9 hlen hle
  go_wp2_with fail
  refine (MA.out _).mono ?_
  rintro e w2 ⟨rfl, hx⟩
  replace HX := hide (HX.out.trans hx)
  clear hx MA
  go_wp2_with fail
  refine (V1.out _ _ HX.out ?_).mono ?_
  · simp [digs, ByteArray.data_append, HA.out, H1.out]
  rintro e w3 ⟨rfl, hx⟩
  replace HX := hide (HX.out.trans hx)
  clear hx V1
  have SF := store_floatS (P := Tryz.prog) ⟨w3.heap.size, 4, none⟩ 0
  go_upto_region 11 with fail
  have HB := hide (Blk.new w3 28 #[.int .i64 2, .string ⟨#[]⟩, .int .i64 (-(m : Nat)), .int .u64 0, .float .f64 0, .bool false])
  replace HX := hide (HX.out.alloc (.cells #[.int .i64 2, .string ⟨#[]⟩, .int .i64 (-(m : Nat)), .int .u64 0, .float .f64 0, .bool false] 28))
  clear SF
  generalize hg : w3.heap.size = g1 at HB ⊢
  generalize w3.alloc (.cells #[.int .i64 2, .string ⟨#[]⟩, .int .i64 (-(m : Nat)), .int .u64 0, .float .f64 0, .bool false] 28) = w4 at HB HX ⊢
  clear hg
  have c0 := HB.out.cell 0
  have c1 := HB.out.cell 1
  have c2 := HB.out.cell 2
  have c3 := HB.out.cell 3
  have c4 := HB.out.cell 4
  have c5 := HB.out.cell 5
  simp at c0 c1 c2 c3 c4 c5
  clear HB c1 c4 c5
  clear c3
  go_wp2_with fail
  refine (V2.out _ _ HX.out ?_).mono ?_
  · simp [digs, ByteArray.data_append, HA.out, H1.out]
  rintro e w5 ⟨rfl, hx⟩
  replace HX := hide (HX.out.trans hx)
  clear hx V2 c0 c2
  have SF := store_floatS (P := Tryz.prog) ⟨w5.heap.size, 4, none⟩ 0
  go_upto_region 14 with fail
  have HB := hide (Blk.new w5 28 #[.int .i64 0, .string ⟨#[]⟩, .int .i64 0, .int .u64 0, .float .f64 0, .bool false])
  replace HX := hide (HX.out.alloc (.cells #[.int .i64 0, .string ⟨#[]⟩, .int .i64 0, .int .u64 0, .float .f64 0, .bool false] 28))
  clear SF
  generalize hg : w5.heap.size = g2 at HB ⊢
  generalize w5.alloc (.cells #[.int .i64 0, .string ⟨#[]⟩, .int .i64 0, .int .u64 0, .float .f64 0, .bool false] 28) = w6 at HB HX ⊢
  clear hg
  have c0 := HB.out.cell 0
  have c1 := HB.out.cell 1
  have c2 := HB.out.cell 2
  have c3 := HB.out.cell 3
  have c4 := HB.out.cell 4
  have c5 := HB.out.cell 5
  simp at c0 c1 c2 c3 c4 c5
  clear HB c1 c4 c5
  clear c0 c2
  have cvb := one_str d hd w6
  obtain ⟨DG, hDG⟩ : ∃ DG : ByteArray, DG = ⟨#[UInt8.ofNat (48 + d)]⟩ := ⟨_, rfl⟩
  rw [← hDG] at cvb
  have HD := hide (show DG.data.toList = [UInt8.ofNat (48 + d)] by rw [hDG])
  have hd1 : DG.size ≤ 1 := by rw [hDG]; exact Nat.le_refl _
  clear hDG
  go_wp2_with fail
  refine (V3.out _ _ (HX.out.alloc _) ?_).mono ?_
  · simp [digs, ByteArray.data_append, HA.out, H1.out, HD.out]
  rintro e w7 ⟨rfl, hx⟩
  replace HX := hide ((HX.out.alloc _).trans hx)
  clear hx V3 c3 cvb
  have SF := store_floatS (P := Tryz.prog) ⟨w7.heap.size, 4, none⟩ 0
  go_upto_region 17 with fail
  have HB := hide (Blk.new w7 28 #[.int .i64 0, .string ⟨#[]⟩, .int .i64 0, .int .u64 0, .float .f64 0, .bool false])
  replace HX := hide (HX.out.alloc (.cells #[.int .i64 0, .string ⟨#[]⟩, .int .i64 0, .int .u64 0, .float .f64 0, .bool false] 28))
  clear SF
  generalize hg : w7.heap.size = g3 at HB ⊢
  generalize w7.alloc (.cells #[.int .i64 0, .string ⟨#[]⟩, .int .i64 0, .int .u64 0, .float .f64 0, .bool false] 28) = w8 at HB HX ⊢
  clear hg
  have c0 := HB.out.cell 0
  have c1 := HB.out.cell 1
  have c2 := HB.out.cell 2
  have c3 := HB.out.cell 3
  have c4 := HB.out.cell 4
  have c5 := HB.out.cell 5
  simp at c0 c1 c2 c3 c4 c5
  clear HB c1 c4 c5
  clear c0 c3
  have mneg : decide (-(m : Int) < 0) = true := decide_eq_true (by omega)
  have mneg2 : -(m : Int) < 0 := by omega
  have mpos : decide ((0 : Int) ≤ -(m : Int)) = false := decide_eq_false (by omega)
  have mpos2 : ¬ (0 : Int) ≤ -(m : Int) := by omega
  obtain ⟨Q, hQ⟩ : ∃ Q, (-9223372036854775808 + (d : Int)).tdiv 10 = Q := ⟨_, rfl⟩
  have hQ2 : Q = -((9223372036854775808 - (d : Int)) / 10) := by rw [← hQ, show -9223372036854775808 + (d : Int) = -(9223372036854775808 - (d : Int)) by omega, Int.neg_tdiv, Int.tdiv_eq_ediv_of_nonneg (by omega)]
  have hwQ : wrap64 Q = Q := by unfold wrap64; omega
  have hq2 :  -(m : Int) < Q := by omega
  have hq : decide (-(m : Int) < Q) = true := decide_eq_true (by omega)
  clear hQ2
  go_wp2_with fail
  all_goals (go_ret; exact ⟨rfl, HX.out⟩)
end Go.Proofs.YtkockmpncocjhaaGreatDoor
