/-
  impl.accessed, impl.plain: a value as data.
-/
import Derived.Test.YtkockmpncocjhaaGreatDoorVal
import Derived.Deep.RegionWith
namespace Go.Proofs.YtkockmpncocjhaaGreatDoor
open Go.RowKit
set_option linter.unusedVariables false
set_option linter.unusedSimpArgs false

/-- A value as data. -/
def ivV (k : Int) (s : ByteArray) (N U : Int) (F : Nat) (b : Bool) : Value := .agg #[.int .i64 k, .string s, .int .i64 N, .int .u64 U, .float .f64 F, .bool b]
theorem store_float {P : Program} (a : Addr) (F : Nat) (W : World) (v : Value) (hc : W.cell? a = some v) (hf : W.frozen? a = false) : (store a (.float .f64 F)).run P W = .ok () (W.setCell a (.float .f64 F)) := by
  rw [run_store P W a (.float .f64 F) _ rfl, hc]
  simp [hf]
set_option maxRecDepth 100000 in
set_option maxHeartbeats 1000000 in
theorem acc1_any (A : Option Addr) (n c : Nat) (s : ByteArray) (w : World) (hn : n = s.size) (hR : RBytes w A s.data.toList) (hs : s.size ≤ 1000000) :
    Calls Tryz.prog 17 #[lpV 0 A n c 0, .int .i64 1] w fun e w' => e = .returned (ivV 1 s 0 0 0 false) ∧ Ext w w' := by
  have AV : Hid (∀ w1, Ext w w1 → Calls Tryz.prog 34 #[lpV 0 A n c 0] w1 fun e w' => e = .returned (.string s) ∧ Ext w1 w') := hide fun w1 hx => stringV_any A n c s w1 hn (hR.chg (Chg.of_ext hx []) (by simp)) hs
  clear hn hR hs
  unfold lpV at AV ⊢
  unfold ivV
  go_enter Tryz.func17, Tryz.ntmps17
  go_wp2_with fail
  refine (AV.out _ (((Ext.refl w).alloc _).alloc _)).mono ?_
  rintro e w1 ⟨rfl, hx⟩
  have hb := (Blk.new_at (w.alloc (.cells #[.int .u64 0, .slice A n c, .int .u8 0] 35)) 28 #[.int .i64 0, .string .empty, .int .i64 0, .int .u64 0, .float .f64 0, .bool false] (k := w.heap.size + 1) (by simp)).chg (Chg.of_ext hx []) (by simp)
  have c0 := hb.cell 0
  have f0 := hb.frozen 0
  have c1 := hb.cell 1
  have f1 := hb.frozen 1
  have c2 := hb.cell 2
  have f2 := hb.frozen 2
  have c3 := hb.cell 3
  have f3 := hb.frozen 3
  have c4 := hb.cell 4
  have f4 := hb.frozen 4
  have c5 := hb.cell 5
  have f5 := hb.frozen 5
  simp at c0 c1 c2 c3 c4 c5
  have SF : (store ⟨w.heap.size + 1, 4, none⟩ (.float .f64 0)).run Tryz.prog ((((w1.setCell ⟨w.heap.size + 1, 0, none⟩ (.int .i64 1)).setCell ⟨w.heap.size + 1, 1, none⟩ (.string s)).setCell ⟨w.heap.size + 1, 2, none⟩ (.int .i64 0)).setCell ⟨w.heap.size + 1, 3, none⟩ (.int .u64 0)) = .ok () (((((w1.setCell ⟨w.heap.size + 1, 0, none⟩ (.int .i64 1)).setCell ⟨w.heap.size + 1, 1, none⟩ (.string s)).setCell ⟨w.heap.size + 1, 2, none⟩ (.int .i64 0)).setCell ⟨w.heap.size + 1, 3, none⟩ (.int .u64 0)).setCell ⟨w.heap.size + 1, 4, none⟩ (.float .f64 0)) := store_float _ _ _ (.float .f64 0) (by simp [go_sem, c4]) (by simp [go_sem, f4])
  have HX : Hid (Ext w w1) := hide ((((Ext.refl w).alloc _).alloc _).trans hx)
  clear hx AV hb
  go_wp2
  refine bodyPost_ret (v := ivV 1 s 0 0 0 false) (by simp [results, Tryz.results17, go_sem, ivV, c0, c1, c2, c3, c4, c5, f0, f1, f2, f3, f4, f5]) rfl ⟨by unfold ivV; rfl, ?_⟩
  exact (((((HX.out.setCell (by simp) _).setCell (by simp) _).setCell (by simp) _).setCell (by simp) _).setCell (by simp) _).setCell (by simp) _
set_option maxRecDepth 100000 in
set_option maxHeartbeats 1000000 in
theorem acc2_any (num : Int) (w : World) (h0 : 0 ≤ num) (h1 : num < 18446744073709551616) :
    Calls Tryz.prog 17 #[lpV num none 0 0 2, .int .i64 2] w fun e w' => e = .returned (ivV 2 ⟨#[]⟩ (wrap64 num) 0 0 false) ∧ Ext w w' := by
  have AV : Hid (∀ w1, Ext w w1 → Calls Tryz.prog 35 #[lpV num none 0 0 2] w1 fun e w' => e = .returned (.int .i64 (wrap64 num)) ∧ Ext w1 w') := hide fun w1 hx => intV_any num w1 h0 h1
  unfold lpV at AV ⊢
  unfold ivV
  go_enter Tryz.func17, Tryz.ntmps17
  go_wp2_with fail
  refine (AV.out _ (((Ext.refl w).alloc _).alloc _)).mono ?_
  rintro e w1 ⟨rfl, hx⟩
  have hb := (Blk.new_at (w.alloc (.cells #[.int .u64 num, .slice none 0 0, .int .u8 2] 35)) 28 #[.int .i64 0, .string .empty, .int .i64 0, .int .u64 0, .float .f64 0, .bool false] (k := w.heap.size + 1) (by simp)).chg (Chg.of_ext hx []) (by simp)
  have c0 := hb.cell 0
  have f0 := hb.frozen 0
  have c1 := hb.cell 1
  have f1 := hb.frozen 1
  have c2 := hb.cell 2
  have f2 := hb.frozen 2
  have c3 := hb.cell 3
  have f3 := hb.frozen 3
  have c4 := hb.cell 4
  have f4 := hb.frozen 4
  have c5 := hb.cell 5
  have f5 := hb.frozen 5
  simp at c0 c1 c2 c3 c4 c5
  have SF : (store ⟨w.heap.size + 1, 4, none⟩ (.float .f64 0)).run Tryz.prog ((((w1.setCell ⟨w.heap.size + 1, 0, none⟩ (.int .i64 2)).setCell ⟨w.heap.size + 1, 1, none⟩ (.string ⟨#[]⟩)).setCell ⟨w.heap.size + 1, 2, none⟩ (.int .i64 (wrap64 num))).setCell ⟨w.heap.size + 1, 3, none⟩ (.int .u64 0)) = .ok () (((((w1.setCell ⟨w.heap.size + 1, 0, none⟩ (.int .i64 2)).setCell ⟨w.heap.size + 1, 1, none⟩ (.string ⟨#[]⟩)).setCell ⟨w.heap.size + 1, 2, none⟩ (.int .i64 (wrap64 num))).setCell ⟨w.heap.size + 1, 3, none⟩ (.int .u64 0)).setCell ⟨w.heap.size + 1, 4, none⟩ (.float .f64 0)) := store_float _ _ _ (.float .f64 0) (by simp [go_sem, c4]) (by simp [go_sem, f4])
  have HX : Hid (Ext w w1) := hide ((((Ext.refl w).alloc _).alloc _).trans hx)
  clear hx AV hb
  go_wp2
  refine bodyPost_ret (v := ivV 2 ⟨#[]⟩ (wrap64 num) 0 0 false) (by simp [results, Tryz.results17, go_sem, ivV, c0, c1, c2, c3, c4, c5, f0, f1, f2, f3, f4, f5]) rfl ⟨by unfold ivV; rfl, ?_⟩
  exact (((((HX.out.setCell (by simp) _).setCell (by simp) _).setCell (by simp) _).setCell (by simp) _).setCell (by simp) _).setCell (by simp) _
set_option maxRecDepth 100000 in
set_option maxHeartbeats 1000000 in
theorem acc3_any (num : Int) (w : World) (h0 : 0 ≤ num) (h1 : num < 18446744073709551616) :
    Calls Tryz.prog 17 #[lpV num none 0 0 3, .int .i64 3] w fun e w' => e = .returned (ivV 3 ⟨#[]⟩ 0 num 0 false) ∧ Ext w w' := by
  have AV : Hid (∀ w1, Ext w w1 → Calls Tryz.prog 36 #[lpV num none 0 0 3] w1 fun e w' => e = .returned (.int .u64 num) ∧ Ext w1 w') := hide fun w1 hx => uintV_any num w1 h0 h1
  unfold lpV at AV ⊢
  unfold ivV
  go_enter Tryz.func17, Tryz.ntmps17
  go_wp2_with fail
  refine (AV.out _ (((Ext.refl w).alloc _).alloc _)).mono ?_
  rintro e w1 ⟨rfl, hx⟩
  have hb := (Blk.new_at (w.alloc (.cells #[.int .u64 num, .slice none 0 0, .int .u8 3] 35)) 28 #[.int .i64 0, .string .empty, .int .i64 0, .int .u64 0, .float .f64 0, .bool false] (k := w.heap.size + 1) (by simp)).chg (Chg.of_ext hx []) (by simp)
  have c0 := hb.cell 0
  have f0 := hb.frozen 0
  have c1 := hb.cell 1
  have f1 := hb.frozen 1
  have c2 := hb.cell 2
  have f2 := hb.frozen 2
  have c3 := hb.cell 3
  have f3 := hb.frozen 3
  have c4 := hb.cell 4
  have f4 := hb.frozen 4
  have c5 := hb.cell 5
  have f5 := hb.frozen 5
  simp at c0 c1 c2 c3 c4 c5
  have SF : (store ⟨w.heap.size + 1, 4, none⟩ (.float .f64 0)).run Tryz.prog ((((w1.setCell ⟨w.heap.size + 1, 0, none⟩ (.int .i64 3)).setCell ⟨w.heap.size + 1, 1, none⟩ (.string ⟨#[]⟩)).setCell ⟨w.heap.size + 1, 2, none⟩ (.int .i64 0)).setCell ⟨w.heap.size + 1, 3, none⟩ (.int .u64 num)) = .ok () (((((w1.setCell ⟨w.heap.size + 1, 0, none⟩ (.int .i64 3)).setCell ⟨w.heap.size + 1, 1, none⟩ (.string ⟨#[]⟩)).setCell ⟨w.heap.size + 1, 2, none⟩ (.int .i64 0)).setCell ⟨w.heap.size + 1, 3, none⟩ (.int .u64 num)).setCell ⟨w.heap.size + 1, 4, none⟩ (.float .f64 0)) := store_float _ _ _ (.float .f64 0) (by simp [go_sem, c4]) (by simp [go_sem, f4])
  have HX : Hid (Ext w w1) := hide ((((Ext.refl w).alloc _).alloc _).trans hx)
  clear hx AV hb
  go_wp2
  refine bodyPost_ret (v := ivV 3 ⟨#[]⟩ 0 num 0 false) (by simp [results, Tryz.results17, go_sem, ivV, c0, c1, c2, c3, c4, c5, f0, f1, f2, f3, f4, f5]) rfl ⟨by unfold ivV; rfl, ?_⟩
  exact (((((HX.out.setCell (by simp) _).setCell (by simp) _).setCell (by simp) _).setCell (by simp) _).setCell (by simp) _).setCell (by simp) _
set_option maxRecDepth 100000 in
set_option maxHeartbeats 1000000 in
theorem acc4_any (num : Nat) (w : World) (h1 : num < 18446744073709551616) :
    Calls Tryz.prog 17 #[lpV num none 0 0 4, .int .i64 4] w fun e w' => e = .returned (ivV 4 ⟨#[]⟩ 0 0 num false) ∧ Ext w w' := by
  have AV : Hid (∀ w1, Ext w w1 → Calls Tryz.prog 37 #[lpV num none 0 0 4] w1 fun e w' => e = .returned (.float .f64 num) ∧ Ext w1 w') := hide fun w1 hx => floatV_any num w1 h1
  unfold lpV at AV ⊢
  unfold ivV
  go_enter Tryz.func17, Tryz.ntmps17
  go_wp2_with fail
  refine (AV.out _ (((Ext.refl w).alloc _).alloc _)).mono ?_
  rintro e w1 ⟨rfl, hx⟩
  have hb := (Blk.new_at (w.alloc (.cells #[.int .u64 num, .slice none 0 0, .int .u8 4] 35)) 28 #[.int .i64 0, .string .empty, .int .i64 0, .int .u64 0, .float .f64 0, .bool false] (k := w.heap.size + 1) (by simp)).chg (Chg.of_ext hx []) (by simp)
  have c0 := hb.cell 0
  have f0 := hb.frozen 0
  have c1 := hb.cell 1
  have f1 := hb.frozen 1
  have c2 := hb.cell 2
  have f2 := hb.frozen 2
  have c3 := hb.cell 3
  have f3 := hb.frozen 3
  have c4 := hb.cell 4
  have f4 := hb.frozen 4
  have c5 := hb.cell 5
  have f5 := hb.frozen 5
  simp at c0 c1 c2 c3 c4 c5
  have SF : (store ⟨w.heap.size + 1, 4, none⟩ (.float .f64 num)).run Tryz.prog ((((w1.setCell ⟨w.heap.size + 1, 0, none⟩ (.int .i64 4)).setCell ⟨w.heap.size + 1, 1, none⟩ (.string ⟨#[]⟩)).setCell ⟨w.heap.size + 1, 2, none⟩ (.int .i64 0)).setCell ⟨w.heap.size + 1, 3, none⟩ (.int .u64 0)) = .ok () (((((w1.setCell ⟨w.heap.size + 1, 0, none⟩ (.int .i64 4)).setCell ⟨w.heap.size + 1, 1, none⟩ (.string ⟨#[]⟩)).setCell ⟨w.heap.size + 1, 2, none⟩ (.int .i64 0)).setCell ⟨w.heap.size + 1, 3, none⟩ (.int .u64 0)).setCell ⟨w.heap.size + 1, 4, none⟩ (.float .f64 num)) := store_float _ _ _ (.float .f64 0) (by simp [go_sem, c4]) (by simp [go_sem, f4])
  have HX : Hid (Ext w w1) := hide ((((Ext.refl w).alloc _).alloc _).trans hx)
  clear hx AV hb
  go_wp2
  refine bodyPost_ret (v := ivV 4 ⟨#[]⟩ 0 0 num false) (by simp [results, Tryz.results17, go_sem, ivV, c0, c1, c2, c3, c4, c5, f0, f1, f2, f3, f4, f5]) rfl ⟨by unfold ivV; rfl, ?_⟩
  exact (((((HX.out.setCell (by simp) _).setCell (by simp) _).setCell (by simp) _).setCell (by simp) _).setCell (by simp) _).setCell (by simp) _
set_option maxRecDepth 100000 in
set_option maxHeartbeats 1000000 in
theorem acc5_any (num : Int) (w : World) (h0 : 0 ≤ num) (h1 : num < 18446744073709551616) :
    Calls Tryz.prog 17 #[lpV num none 0 0 5, .int .i64 5] w fun e w' => e = .returned (ivV 5 ⟨#[]⟩ 0 0 0 (num != 0)) ∧ Ext w w' := by
  have AV : Hid (∀ w1, Ext w w1 → Calls Tryz.prog 38 #[lpV num none 0 0 5] w1 fun e w' => e = .returned (.bool (num != 0)) ∧ Ext w1 w') := hide fun w1 hx => boolV_any num w1 h0 h1
  unfold lpV at AV ⊢
  unfold ivV
  go_enter Tryz.func17, Tryz.ntmps17
  go_wp2_with fail
  refine (AV.out _ (((Ext.refl w).alloc _).alloc _)).mono ?_
  rintro e w1 ⟨rfl, hx⟩
  have hb := (Blk.new_at (w.alloc (.cells #[.int .u64 num, .slice none 0 0, .int .u8 5] 35)) 28 #[.int .i64 0, .string .empty, .int .i64 0, .int .u64 0, .float .f64 0, .bool false] (k := w.heap.size + 1) (by simp)).chg (Chg.of_ext hx []) (by simp)
  have c0 := hb.cell 0
  have f0 := hb.frozen 0
  have c1 := hb.cell 1
  have f1 := hb.frozen 1
  have c2 := hb.cell 2
  have f2 := hb.frozen 2
  have c3 := hb.cell 3
  have f3 := hb.frozen 3
  have c4 := hb.cell 4
  have f4 := hb.frozen 4
  have c5 := hb.cell 5
  have f5 := hb.frozen 5
  simp at c0 c1 c2 c3 c4 c5
  have SF : (store ⟨w.heap.size + 1, 4, none⟩ (.float .f64 0)).run Tryz.prog ((((w1.setCell ⟨w.heap.size + 1, 0, none⟩ (.int .i64 5)).setCell ⟨w.heap.size + 1, 1, none⟩ (.string ⟨#[]⟩)).setCell ⟨w.heap.size + 1, 2, none⟩ (.int .i64 0)).setCell ⟨w.heap.size + 1, 3, none⟩ (.int .u64 0)) = .ok () (((((w1.setCell ⟨w.heap.size + 1, 0, none⟩ (.int .i64 5)).setCell ⟨w.heap.size + 1, 1, none⟩ (.string ⟨#[]⟩)).setCell ⟨w.heap.size + 1, 2, none⟩ (.int .i64 0)).setCell ⟨w.heap.size + 1, 3, none⟩ (.int .u64 0)).setCell ⟨w.heap.size + 1, 4, none⟩ (.float .f64 0)) := store_float _ _ _ (.float .f64 0) (by simp [go_sem, c4]) (by simp [go_sem, f4])
  have HX : Hid (Ext w w1) := hide ((((Ext.refl w).alloc _).alloc _).trans hx)
  clear hx AV hb
  go_wp2
  refine bodyPost_ret (v := ivV 5 ⟨#[]⟩ 0 0 0 (num != 0)) (by simp [results, Tryz.results17, go_sem, ivV, c0, c1, c2, c3, c4, c5, f0, f1, f2, f3, f4, f5]) rfl ⟨by unfold ivV; rfl, ?_⟩
  exact (((((HX.out.setCell (by simp) _).setCell (by simp) _).setCell (by simp) _).setCell (by simp) _).setCell (by simp) _).setCell (by simp) _
end Go.Proofs.YtkockmpncocjhaaGreatDoor
