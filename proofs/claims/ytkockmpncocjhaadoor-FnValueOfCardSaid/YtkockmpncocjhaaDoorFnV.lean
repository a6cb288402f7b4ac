/-
  The walk of laws.FnValueOf.
-/
import Derived.Test.YtkockmpncocjhaaDoorCanB
import Derived.Deep.DeepBigQuietO
import Derived.Deep.DeepCutAuto
import Derived.Deep.CutBlock
namespace Go.Proofs.YtkockmpncocjhaaDoor
open Go.RowKit Go.Lib Go.Shelf
set_option linter.unusedVariables false
set_option linter.unusedSimpArgs false

set_option maxRecDepth 100000 in
theorem fv_big (k : Int) (s : ByteArray) (N U : Int) (F : Nat) (b raw : Bool) (w : World) (FI : Hid (∀ W, Calls Tryd.prog 4 #[ivV k s N U F b] W fun e w' => e = .returned (.bool false) ∧ Ext W w')) :
    Calls Tryd.prog 3 #[ivV k s N U F b, .bool raw] w fun e w' => e = .returned (.bool true) ∧ Ext w w' := by
  unfold ivV at FI ⊢
  go_enter Tryd.func3, Tryd.ntmps3
  go_wp2_with fail
  refine (FI.out _).mono ?_
  rintro e w1 ⟨rfl, hx⟩
  have HX := hide (((Ext.refl w).alloc _).trans hx)
  go_wp2
  go_ret
  exact ⟨rfl, HX.out⟩
set_option maxRecDepth 100000 in
theorem fv_kind (k : Int) (s : ByteArray) (N U : Int) (F : Nat) (b raw : Bool) (w : World) (FI : Hid (∀ W, Calls Tryd.prog 4 #[ivV k s N U F b] W fun e w' => e = .returned (.bool true) ∧ Ext W w')) (KI : Hid (∀ W g, Blk W g 25 #[.int .i64 k, .string s, .int .i64 N, .int .u64 U, .float .f64 F, .bool b] → Calls Tryd.prog 5 #[.slice (some ⟨g, 0, none⟩) 1 1] W fun e w' => e = .returned (.bool false) ∧ Ext W w')) :
    Calls Tryd.prog 3 #[ivV k s N U F b, .bool raw] w fun e w' => e = .returned (.bool true) ∧ Ext w w' := by
  unfold ivV at *
  go_enter Tryd.func3, Tryd.ntmps3
  go_wp2_with fail
  refine (FI.out _).mono ?_
  rintro e w1 ⟨rfl, hx⟩
  have HX := hide (((Ext.refl w).alloc (.cells #[.int .i64 k, .string s, .int .i64 N, .int .u64 U, .float .f64 F, .bool b] 25)).trans hx)
  have HB := hide ((Blk.new w 25 #[.int .i64 k, .string s, .int .i64 N, .int .u64 U, .float .f64 F, .bool b]).chg (Chg.of_ext hx []) (by simp))
  clear hx FI
  have c0 := HB.out.cell 0
  have c1 := HB.out.cell 1
  have c2 := HB.out.cell 2
  have c3 := HB.out.cell 3
  have c4 := HB.out.cell 4
  have c5 := HB.out.cell 5
  simp at c0 c1 c2 c3 c4 c5
  go_wp2_with fail
  refine (KI.out _ _ (Blk.new w1 25 #[.int .i64 k, .string s, .int .i64 N, .int .u64 U, .float .f64 F, .bool b])).mono ?_
  rintro e w2 ⟨rfl, hx⟩
  replace HX := hide ((HX.out.alloc _).trans hx)
  replace HB := hide ((HB.out.alloc (.cells #[.int .i64 k, .string s, .int .i64 N, .int .u64 U, .float .f64 F, .bool b] 25)).chg (Chg.of_ext hx []) (by simp))
  clear hx KI c0 c1 c2 c3 c4 c5
  clear HB
  go_wp2
  go_ret
  exact ⟨rfl, HX.out⟩
set_option maxRecDepth 100000 in
theorem fv_no (k : Int) (s : ByteArray) (N U : Int) (F : Nat) (b raw : Bool) (k1 : Int) (r : ByteArray) (N1 U1 : Int) (F1 : Nat) (b1 : Bool) (w : World) (FI : Hid (∀ W, Calls Tryd.prog 4 #[ivV k s N U F b] W fun e w' => e = .returned (.bool true) ∧ Ext W w')) (KI : Hid (∀ W g, Blk W g 25 #[.int .i64 k, .string s, .int .i64 N, .int .u64 U, .float .f64 F, .bool b] → Calls Tryd.prog 5 #[.slice (some ⟨g, 0, none⟩) 1 1] W fun e w' => e = .returned (.bool true) ∧ Ext W w')) (VO : Hid (∀ W, Ext w W → Calls Tryd.prog 6 #[ivV k s N U F b] W fun e w' => e = .returned (.tuple #[.agg #[.int .i64 k1, .string r, .int .i64 N1, .int .u64 U1, .float .f64 F1, .bool b1], .bool false]) ∧ Ext W w')) (VN : Hid (∀ W, Ext w W → Calls Tryd.prog 7 #[ivV k s N U F b, .bool raw] W fun e w' => e = .returned (.tuple #[.agg #[.int .i64 k1, .string r, .int .i64 N1, .int .u64 U1, .float .f64 F1, .bool b1], .bool false]) ∧ Ext W w')) (CB : Hid (∀ W, Calls Tryd.prog 8 #[ivV k s N U F b] W fun e w' => e = .returned (.bool false) ∧ Ext W w')) :
    Calls Tryd.prog 3 #[ivV k s N U F b, .bool raw] w fun e w' => e = .returned (.bool true) ∧ Ext w w' := by
  unfold ivV at *
  go_enter Tryd.func3, Tryd.ntmps3
  go_wp2_with fail
  refine (FI.out _).mono ?_
  rintro e w1 ⟨rfl, hx⟩
  have HX := hide (((Ext.refl w).alloc (.cells #[.int .i64 k, .string s, .int .i64 N, .int .u64 U, .float .f64 F, .bool b] 25)).trans hx)
  have HB := hide ((Blk.new w 25 #[.int .i64 k, .string s, .int .i64 N, .int .u64 U, .float .f64 F, .bool b]).chg (Chg.of_ext hx []) (by simp))
  clear hx FI
  have c0 := HB.out.cell 0
  have c1 := HB.out.cell 1
  have c2 := HB.out.cell 2
  have c3 := HB.out.cell 3
  have c4 := HB.out.cell 4
  have c5 := HB.out.cell 5
  simp at c0 c1 c2 c3 c4 c5
  go_wp2_with fail
  refine (KI.out _ _ (Blk.new w1 25 #[.int .i64 k, .string s, .int .i64 N, .int .u64 U, .float .f64 F, .bool b])).mono ?_
  rintro e w2 ⟨rfl, hx⟩
  replace HX := hide ((HX.out.alloc _).trans hx)
  replace HB := hide ((HB.out.alloc (.cells #[.int .i64 k, .string s, .int .i64 N, .int .u64 U, .float .f64 F, .bool b] 25)).chg (Chg.of_ext hx []) (by simp))
  clear hx KI c0 c1 c2 c3 c4 c5
  have c0 := HB.out.cell 0
  have c1 := HB.out.cell 1
  have c2 := HB.out.cell 2
  have c3 := HB.out.cell 3
  have c4 := HB.out.cell 4
  have c5 := HB.out.cell 5
  simp at c0 c1 c2 c3 c4 c5
  go_wp2_with fail
  refine (VO.out _ HX.out).mono ?_
  rintro e w3 ⟨rfl, hx⟩
  replace HX := hide (HX.out.trans hx)
  replace HB := hide (HB.out.chg (Chg.of_ext hx []) (by simp))
  clear hx VO c0 c1 c2 c3 c4 c5
  have SF := store_floatS (P := Tryd.prog) ⟨w3.heap.size, 4, none⟩ F1
  go_upto_region 6 with fail
  have HB1 := hide (Blk.new w3 25 #[.int .i64 k1, .string r, .int .i64 N1, .int .u64 U1, .float .f64 F1, .bool b1])
  replace HX := hide (HX.out.alloc (.cells #[.int .i64 k1, .string r, .int .i64 N1, .int .u64 U1, .float .f64 F1, .bool b1] 25))
  replace HB := hide (HB.out.alloc (.cells #[.int .i64 k1, .string r, .int .i64 N1, .int .u64 U1, .float .f64 F1, .bool b1] 25))
  clear SF
  generalize hg1 : w3.heap.size = g1 at HB1 ⊢
  generalize w3.alloc (.cells #[.int .i64 k1, .string r, .int .i64 N1, .int .u64 U1, .float .f64 F1, .bool b1] 25) = w4 at HB1 HX HB ⊢
  clear hg1
  have c0 := HB.out.cell 0
  have c1 := HB.out.cell 1
  have c2 := HB.out.cell 2
  have c3 := HB.out.cell 3
  have c4 := HB.out.cell 4
  have c5 := HB.out.cell 5
  simp at c0 c1 c2 c3 c4 c5
  go_wp2_with fail
  refine (VN.out _ HX.out).mono ?_
  rintro e w5 ⟨rfl, hx⟩
  replace HX := hide (HX.out.trans hx)
  replace HB := hide (HB.out.chg (Chg.of_ext hx []) (by simp))
  replace HB1 := hide (HB1.out.chg (Chg.of_ext hx []) (by simp))
  clear hx VN c0 c1 c2 c3 c4 c5
  have SF := store_floatS (P := Tryd.prog) ⟨w5.heap.size, 4, none⟩ F1
  go_upto_region 7 with fail
  have HB2 := hide (Blk.new w5 25 #[.int .i64 k1, .string r, .int .i64 N1, .int .u64 U1, .float .f64 F1, .bool b1])
  replace HX := hide (HX.out.alloc (.cells #[.int .i64 k1, .string r, .int .i64 N1, .int .u64 U1, .float .f64 F1, .bool b1] 25))
  replace HB := hide (HB.out.alloc (.cells #[.int .i64 k1, .string r, .int .i64 N1, .int .u64 U1, .float .f64 F1, .bool b1] 25))
  replace HB1 := hide (HB1.out.alloc (.cells #[.int .i64 k1, .string r, .int .i64 N1, .int .u64 U1, .float .f64 F1, .bool b1] 25))
  clear SF
  generalize hg2 : w5.heap.size = g2 at HB2 ⊢
  generalize w5.alloc (.cells #[.int .i64 k1, .string r, .int .i64 N1, .int .u64 U1, .float .f64 F1, .bool b1] 25) = w6 at HB1 HB2 HX HB ⊢
  clear hg2
  have c0 := HB.out.cell 0
  have c1 := HB.out.cell 1
  have c2 := HB.out.cell 2
  have c3 := HB.out.cell 3
  have c4 := HB.out.cell 4
  have c5 := HB.out.cell 5
  simp at c0 c1 c2 c3 c4 c5
  go_wp2_with fail
  refine (CB.out _).mono ?_
  rintro e w7 ⟨rfl, hx⟩
  replace HX := hide (HX.out.trans hx)
  replace HB := hide (HB.out.chg (Chg.of_ext hx []) (by simp))
  replace HB1 := hide (HB1.out.chg (Chg.of_ext hx []) (by simp))
  replace HB2 := hide (HB2.out.chg (Chg.of_ext hx []) (by simp))
  clear hx CB c0 c1 c2 c3 c4 c5
  go_wp2
  go_ret
  exact ⟨rfl, HX.out⟩
set_option maxRecDepth 100000 in
set_option maxHeartbeats 2000000 in
theorem fv_yes (k : Int) (s : ByteArray) (N U : Int) (F : Nat) (b raw : Bool) (k1 : Int) (r : ByteArray) (N1 U1 : Int) (F1 : Nat) (b1 : Bool) (w : World) (FI : Hid (∀ W, Calls Tryd.prog 4 #[ivV k s N U F b] W fun e w' => e = .returned (.bool true) ∧ Ext W w')) (KI : Hid (∀ W g, Blk W g 25 #[.int .i64 k, .string s, .int .i64 N, .int .u64 U, .float .f64 F, .bool b] → Calls Tryd.prog 5 #[.slice (some ⟨g, 0, none⟩) 1 1] W fun e w' => e = .returned (.bool true) ∧ Ext W w')) (VO : Hid (∀ W, Ext w W → Calls Tryd.prog 6 #[ivV k s N U F b] W fun e w' => e = .returned (.tuple #[.agg #[.int .i64 k1, .string r, .int .i64 N1, .int .u64 U1, .float .f64 F1, .bool b1], .bool true]) ∧ Ext W w')) (VN : Hid (∀ W, Ext w W → Calls Tryd.prog 7 #[ivV k s N U F b, .bool raw] W fun e w' => e = .returned (.tuple #[.agg #[.int .i64 k1, .string r, .int .i64 N1, .int .u64 U1, .float .f64 F1, .bool b1], .bool true]) ∧ Ext W w')) (CB : Hid (∀ W, Calls Tryd.prog 8 #[ivV k s N U F b] W fun e w' => e = .returned (.bool true) ∧ Ext W w')) (LP : Hid (∀ W, Calls Tryd.prog 10 #[ivV k s N U F b] W fun e w' => e = .returned (.agg #[.int .i64 k1, .string r, .int .i64 N1, .int .u64 U1, .float .f64 F1, .bool b1]) ∧ Ext W w')) (SM : Hid (∀ W, Calls Tryd.prog 9 #[.agg #[.int .i64 k1, .string r, .int .i64 N1, .int .u64 U1, .float .f64 F1, .bool b1], .agg #[.int .i64 k1, .string r, .int .i64 N1, .int .u64 U1, .float .f64 F1, .bool b1]] W fun e w' => e = .returned (.bool true) ∧ Ext W w')) :
    Calls Tryd.prog 3 #[ivV k s N U F b, .bool raw] w fun e w' => e = .returned (.bool true) ∧ Ext w w' := by
  unfold ivV at *
  go_enter Tryd.func3, Tryd.ntmps3
  go_wp2_with fail
  refine (FI.out _).mono ?_
  rintro e w1 ⟨rfl, hx⟩
  have HX := hide (((Ext.refl w).alloc (.cells #[.int .i64 k, .string s, .int .i64 N, .int .u64 U, .float .f64 F, .bool b] 25)).trans hx)
  have HB := hide ((Blk.new w 25 #[.int .i64 k, .string s, .int .i64 N, .int .u64 U, .float .f64 F, .bool b]).chg (Chg.of_ext hx []) (by simp))
  clear hx FI
  have c0 := HB.out.cell 0
  have c1 := HB.out.cell 1
  have c2 := HB.out.cell 2
  have c3 := HB.out.cell 3
  have c4 := HB.out.cell 4
  have c5 := HB.out.cell 5
  simp at c0 c1 c2 c3 c4 c5
  go_wp2_with fail
  refine (KI.out _ _ (Blk.new w1 25 #[.int .i64 k, .string s, .int .i64 N, .int .u64 U, .float .f64 F, .bool b])).mono ?_
  rintro e w2 ⟨rfl, hx⟩
  replace HX := hide ((HX.out.alloc _).trans hx)
  replace HB := hide ((HB.out.alloc (.cells #[.int .i64 k, .string s, .int .i64 N, .int .u64 U, .float .f64 F, .bool b] 25)).chg (Chg.of_ext hx []) (by simp))
  clear hx KI c0 c1 c2 c3 c4 c5
  have c0 := HB.out.cell 0
  have c1 := HB.out.cell 1
  have c2 := HB.out.cell 2
  have c3 := HB.out.cell 3
  have c4 := HB.out.cell 4
  have c5 := HB.out.cell 5
  simp at c0 c1 c2 c3 c4 c5
  go_wp2_with fail
  refine (VO.out _ HX.out).mono ?_
  rintro e w3 ⟨rfl, hx⟩
  replace HX := hide (HX.out.trans hx)
  replace HB := hide (HB.out.chg (Chg.of_ext hx []) (by simp))
  clear hx VO c0 c1 c2 c3 c4 c5
  have SF := store_floatS (P := Tryd.prog) ⟨w3.heap.size, 4, none⟩ F1
  go_upto_region 6 with fail
  have HB1 := hide (Blk.new w3 25 #[.int .i64 k1, .string r, .int .i64 N1, .int .u64 U1, .float .f64 F1, .bool b1])
  replace HX := hide (HX.out.alloc (.cells #[.int .i64 k1, .string r, .int .i64 N1, .int .u64 U1, .float .f64 F1, .bool b1] 25))
  replace HB := hide (HB.out.alloc (.cells #[.int .i64 k1, .string r, .int .i64 N1, .int .u64 U1, .float .f64 F1, .bool b1] 25))
  clear SF
  generalize hg1 : w3.heap.size = g1 at HB1 ⊢
  generalize w3.alloc (.cells #[.int .i64 k1, .string r, .int .i64 N1, .int .u64 U1, .float .f64 F1, .bool b1] 25) = w4 at HB1 HX HB ⊢
  clear hg1
  have c0 := HB.out.cell 0
  have c1 := HB.out.cell 1
  have c2 := HB.out.cell 2
  have c3 := HB.out.cell 3
  have c4 := HB.out.cell 4
  have c5 := HB.out.cell 5
  simp at c0 c1 c2 c3 c4 c5
  go_wp2_with fail
  refine (VN.out _ HX.out).mono ?_
  rintro e w5 ⟨rfl, hx⟩
  replace HX := hide (HX.out.trans hx)
  replace HB := hide (HB.out.chg (Chg.of_ext hx []) (by simp))
  replace HB1 := hide (HB1.out.chg (Chg.of_ext hx []) (by simp))
  clear hx VN c0 c1 c2 c3 c4 c5
  have SF := store_floatS (P := Tryd.prog) ⟨w5.heap.size, 4, none⟩ F1
  go_upto_region 7 with fail
  have HB2 := hide (Blk.new w5 25 #[.int .i64 k1, .string r, .int .i64 N1, .int .u64 U1, .float .f64 F1, .bool b1])
  replace HX := hide (HX.out.alloc (.cells #[.int .i64 k1, .string r, .int .i64 N1, .int .u64 U1, .float .f64 F1, .bool b1] 25))
  replace HB := hide (HB.out.alloc (.cells #[.int .i64 k1, .string r, .int .i64 N1, .int .u64 U1, .float .f64 F1, .bool b1] 25))
  replace HB1 := hide (HB1.out.alloc (.cells #[.int .i64 k1, .string r, .int .i64 N1, .int .u64 U1, .float .f64 F1, .bool b1] 25))
  clear SF
  generalize hg2 : w5.heap.size = g2 at HB2 ⊢
  generalize w5.alloc (.cells #[.int .i64 k1, .string r, .int .i64 N1, .int .u64 U1, .float .f64 F1, .bool b1] 25) = w6 at HB1 HB2 HX HB ⊢
  clear hg2
  have c0 := HB.out.cell 0
  have c1 := HB.out.cell 1
  have c2 := HB.out.cell 2
  have c3 := HB.out.cell 3
  have c4 := HB.out.cell 4
  have c5 := HB.out.cell 5
  simp at c0 c1 c2 c3 c4 c5
  go_wp2_with fail
  refine (CB.out _).mono ?_
  rintro e w7 ⟨rfl, hx⟩
  replace HX := hide (HX.out.trans hx)
  replace HB := hide (HB.out.chg (Chg.of_ext hx []) (by simp))
  replace HB1 := hide (HB1.out.chg (Chg.of_ext hx []) (by simp))
  replace HB2 := hide (HB2.out.chg (Chg.of_ext hx []) (by simp))
  clear hx CB c0 c1 c2 c3 c4 c5
  go_upto_region 9 with fail
  refine wp_region_ext w7 w7 (by kernel_rfl) (by kernel_rfl) (Ext.refl _) ?_
  first
  | go_big_quiet_skip
  | (go_big_quiet_want; go_big_quiet_op; first | go_big_quiet_on | (refine ⟨_, fun _ _ => rfl, ?_⟩; go_big_quiet_on))
  first
  | go_big_quiet_skip
  | (go_big_quiet_want; go_big_quiet_op; first | go_big_quiet_on | (refine ⟨_, fun _ _ => rfl, ?_⟩; go_big_quiet_on))
  first
  | go_big_quiet_skip
  | (go_big_quiet_want; go_big_quiet_op; first | go_big_quiet_on | (refine ⟨_, fun _ _ => rfl, ?_⟩; go_big_quiet_on))
  first
  | go_big_quiet_skip
  | (go_big_quiet_want; go_big_quiet_op; first | go_big_quiet_on | (refine ⟨_, fun _ _ => rfl, ?_⟩; go_big_quiet_on))
  first
  | go_big_quiet_skip
  | (go_big_quiet_want; go_big_quiet_op; first | go_big_quiet_on | (refine ⟨_, fun _ _ => rfl, ?_⟩; go_big_quiet_on))
  first
  | go_big_quiet_skip
  | (go_big_quiet_want; go_big_quiet_op; first | go_big_quiet_on | (refine ⟨.agg #[.int .i64 k1, .string r, .int .i64 N1, .int .u64 U1, .float .f64 F1, .bool b1], fun w hw => by (have hb := HB1.out.chg (Chg.of_ext hw []) (by simp); have c0 := hb.cell 0; have c1 := hb.cell 1; have c2 := hb.cell 2; have c3 := hb.cell 3; have c4 := hb.cell 4; have c5 := hb.cell 5; simp at c0 c1 c2 c3 c4 c5; simp [c0, c1, c2, c3, c4, c5, Result.andThen]), ?_⟩; go_big_quiet_on))
  first
  | go_big_quiet_skip
  | (go_big_quiet_want; go_big_quiet_op; first | go_big_quiet_on | (refine ⟨.agg #[.int .i64 k, .string s, .int .i64 N, .int .u64 U, .float .f64 F, .bool b], fun w hw => by (have hb := HB.out.chg (Chg.of_ext hw []) (by simp); have c0 := hb.cell 0; have c1 := hb.cell 1; have c2 := hb.cell 2; have c3 := hb.cell 3; have c4 := hb.cell 4; have c5 := hb.cell 5; simp at c0 c1 c2 c3 c4 c5; simp [c0, c1, c2, c3, c4, c5, Result.andThen]), ?_⟩; go_big_quiet_on))
  first
  | go_big_quiet_skip
  | (go_big_quiet_want; go_big_quiet_op; first | go_big_quiet_on | (refine ⟨_, fun w hw => Calls.ext_of hw (LP.out w), ?_⟩; go_big_quiet_on))
  first
  | go_big_quiet_skip
  | (go_big_quiet_want; go_big_quiet_op; first | go_big_quiet_on | (refine ⟨_, fun w hw => Calls.ext_of hw (SM.out w), ?_⟩; go_big_quiet_on))
  first
  | go_big_quiet_skip
  | (go_big_quiet_want; go_big_quiet_op; first | go_big_quiet_on | (refine ⟨_, fun _ _ => rfl, ?_⟩; go_big_quiet_on))
  first
  | go_big_quiet_skip
  | (go_big_quiet_want; go_big_quiet_op; first | go_big_quiet_on | (refine ⟨_, fun _ _ => rfl, ?_⟩; go_big_quiet_on))
  first
  | go_big_quiet_skip
  | (go_big_quiet_want; go_big_quiet_op; first | go_big_quiet_on | (refine ⟨.agg #[.int .i64 k1, .string r, .int .i64 N1, .int .u64 U1, .float .f64 F1, .bool b1], fun w hw => by (have hb := HB2.out.chg (Chg.of_ext hw []) (by simp); have c0 := hb.cell 0; have c1 := hb.cell 1; have c2 := hb.cell 2; have c3 := hb.cell 3; have c4 := hb.cell 4; have c5 := hb.cell 5; simp at c0 c1 c2 c3 c4 c5; simp [c0, c1, c2, c3, c4, c5, Result.andThen]), ?_⟩; go_big_quiet_on))
  first
  | go_big_quiet_skip
  | (go_big_quiet_want; go_big_quiet_op; first | go_big_quiet_on | (refine ⟨.agg #[.int .i64 k, .string s, .int .i64 N, .int .u64 U, .float .f64 F, .bool b], fun w hw => by (have hb := HB.out.chg (Chg.of_ext hw []) (by simp); have c0 := hb.cell 0; have c1 := hb.cell 1; have c2 := hb.cell 2; have c3 := hb.cell 3; have c4 := hb.cell 4; have c5 := hb.cell 5; simp at c0 c1 c2 c3 c4 c5; simp [c0, c1, c2, c3, c4, c5, Result.andThen]), ?_⟩; go_big_quiet_on))
  first
  | go_big_quiet_skip
  | (go_big_quiet_want; go_big_quiet_op; first | go_big_quiet_on | (refine ⟨_, fun w hw => Calls.ext_of hw (LP.out w), ?_⟩; go_big_quiet_on))
  first
  | go_big_quiet_skip
  | (go_big_quiet_want; go_big_quiet_op; first | go_big_quiet_on | (refine ⟨_, fun w hw => Calls.ext_of hw (SM.out w), ?_⟩; go_big_quiet_on))
  first
  | go_big_quiet_skip
  | (go_big_quiet_want; go_big_quiet_op; first | go_big_quiet_on | (refine ⟨_, fun _ _ => rfl, ?_⟩; go_big_quiet_on))
  first
  | go_big_quiet_skip
  | (go_big_quiet_want; go_big_quiet_op; first | go_big_quiet_on | (refine ⟨_, fun _ _ => rfl, ?_⟩; go_big_quiet_on))
  refine wpQuiet_nil ?_
  intro w8 hw8
  go_wp2
  go_ret
  exact ⟨rfl, HX.out.trans hw8⟩
end Go.Proofs.YtkockmpncocjhaaDoor
