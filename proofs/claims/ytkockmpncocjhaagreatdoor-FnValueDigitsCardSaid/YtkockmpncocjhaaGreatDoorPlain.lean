/-
  impl.plain: a value of the package as data.
-/
import Derived.Test.YtkockmpncocjhaaGreatDoorVal2
import Derived.Test.YtkockmpncocjhaaGreatDoorTwo
import Derived.RegionTactic
namespace Go.Proofs.YtkockmpncocjhaaGreatDoor
open Go.RowKit Go.Lib
set_option linter.unusedVariables false
set_option linter.unusedSimpArgs false

set_option maxRecDepth 100000 in
set_option maxHeartbeats 1000000 in
theorem plainR_any (num : Int) (A : Option Addr) (n c : Nat) (j k : Int) (s : ByteArray) (N U : Int) (F : Nat) (b : Bool) (w : World)
    (KI : Hid (∀ W, Calls Tryz.prog 18 #[lpV num A n c j] W fun e w' => e = .returned (.int .u8 k) ∧ Ext W w'))
    (AC : Hid (∀ W, Ext w W → Calls Tryz.prog 17 #[lpV num A n c j, .int .i64 k] W fun e w' => e = .returned (ivV k s N U F b) ∧ Ext W w')) (h0 : 1 ≤ k) (h1 : k ≤ 5) :
    Calls Tryz.prog 11 #[lpV num A n c j] w fun e w' => e = .returned (ivV k s N U F b) ∧ Ext w w' := by
  unfold lpV at KI AC ⊢
  unfold ivV at AC ⊢
  have hwr : IntKind.i64.wrap k = k := by simp [IntKind.wrap, IntKind.signed, IntKind.bits]; omega
  go_enter Tryz.func11, Tryz.ntmps11
  go_wp2_with fail
  have hb := (Blk.new w 35 #[.int .u64 num, .slice A n c, .int .u8 j]).alloc (.cells #[.int .i64 0, .string ⟨#[]⟩, .int .i64 0, .int .u64 0, .float .f64 0, .bool false] 28)
  have hb2 := hide (Blk.new_at (w.alloc (.cells #[.int .u64 num, .slice A n c, .int .u8 j] 35)) 28 #[.int .i64 0, .string ⟨#[]⟩, .int .i64 0, .int .u64 0, .float .f64 0, .bool false] (k := w.heap.size + 1) (by simp))
  have HW : Hid (Ext w ((w.alloc (.cells #[.int .u64 num, .slice A n c, .int .u8 j] 35)).alloc (.cells #[.int .i64 0, .string ⟨#[]⟩, .int .i64 0, .int .u64 0, .float .f64 0, .bool false] 28))) := hide (((Ext.refl w).alloc _).alloc _)
  generalize (w.alloc (.cells #[.int .u64 num, .slice A n c, .int .u8 j] 35)).alloc (.cells #[.int .i64 0, .string ⟨#[]⟩, .int .i64 0, .int .u64 0, .float .f64 0, .bool false] 28) = W at hb hb2 HW ⊢
  have c0 := hb.cell 0
  have c1 := hb.cell 1
  have c2 := hb.cell 2
  simp at c0 c1 c2
  clear hb
  refine wp_region_any (by kernel_rfl) ?_
  change wpAny _ _ _ _ _ _ _ (World.drew _)
  refine wpAny_load_first (i := 1) (j := 0) (v := .agg #[.int .u64 num, .slice A n c, .int .u8 j]) (u := .agg #[.int .u64 num, .slice A n c, .int .u8 j]) rfl rfl (by kernel_rfl) (by kernel_rfl) (by kernel_rfl) (by kernel_rfl) (by kernel_rfl) (by decide) ⟨by rfl, ?_⟩ ⟨by rfl, ?_⟩ ?_
  · go_simp
  · go_simp
  refine wpAny_ready (rs := [0, 2]) (by kernel_rfl) (by simp) ?_
  refine AllReady.cons rfl (fun K0 hK => ?_) ?_
  · go_simp
    try (refine hK _ _ ?_; clear hK K0)
    refine wpAny_ready (rs := [2]) (by kernel_rfl) (by simp) ?_
    refine AllReady.cons rfl (fun K0 hK => ?_) AllReady.nil
    go_simp
    go_wp2_with (go_at_call 18; refine (KI.out _).mono ?_; rintro e w1 ⟨rfl, hx⟩)
    have c0 := hx.cellOf (a := W.drew) c0
    have c1 := hx.cellOf (a := W.drew) c1
    have c2 := hx.cellOf (a := W.drew) c2
    have HX1 : Hid (Ext W w1) := hide ((Ext.refl W).drew.trans hx)
    clear hx
    try (refine hK _ _ ?_; clear hK K0)
    refine wpAny_take (i := 3) (v := ?_) rfl (by kernel_rfl) (by kernel_rfl) (by kernel_rfl) (fun _ _ _ h => h) (Or.inl ⟨by rfl, ?_⟩) ?_
    rotate_left
    · (intro w; go_simp <;> with_reducible rfl)
    try rw [hwr]
    refine wpAny_ready (rs := [4]) (by kernel_rfl) (by simp) ?_
    refine AllReady.cons rfl (fun K0 hK => ?_) AllReady.nil
    go_simp
    go_wp2_with (go_at_call 17; refine (AC.out _ (HW.out.trans HX1.out)).mono ?_; rintro e w2 ⟨rfl, hx2⟩)
    have hb3 := hb2.out.chg (Chg.of_ext (HX1.out.trans hx2) []) (by simp)
    have d0 := hb3.cell 0
    have f0 := hb3.frozen 0
    have d1 := hb3.cell 1
    have f1 := hb3.frozen 1
    have d2 := hb3.cell 2
    have f2 := hb3.frozen 2
    have d3 := hb3.cell 3
    have f3 := hb3.frozen 3
    have d4 := hb3.cell 4
    have f4 := hb3.frozen 4
    have d5 := hb3.cell 5
    have f5 := hb3.frozen 5
    simp at d0 d1 d2 d3 d4 d5
    have SF : (store ⟨w.heap.size + 1, 4, none⟩ (.float .f64 F)).run Tryz.prog ((((w2.setCell ⟨w.heap.size + 1, 0, none⟩ (.int .i64 k)).setCell ⟨w.heap.size + 1, 1, none⟩ (.string s)).setCell ⟨w.heap.size + 1, 2, none⟩ (.int .i64 N)).setCell ⟨w.heap.size + 1, 3, none⟩ (.int .u64 U)) = .ok () (((((w2.setCell ⟨w.heap.size + 1, 0, none⟩ (.int .i64 k)).setCell ⟨w.heap.size + 1, 1, none⟩ (.string s)).setCell ⟨w.heap.size + 1, 2, none⟩ (.int .i64 N)).setCell ⟨w.heap.size + 1, 3, none⟩ (.int .u64 U)).setCell ⟨w.heap.size + 1, 4, none⟩ (.float .f64 F)) := store_float _ _ _ (.float .f64 0) (by simp [go_sem, d4]) (by simp [go_sem, f4])
    have HX2 : Hid (Ext w w2) := hide ((HW.out.trans HX1.out).trans hx2)
    clear hx2 hb3 HX1 KI AC
    try (refine hK _ _ ?_; clear hK K0)
    refine wpAny_ready (rs := [5]) (by kernel_rfl) (by simp) ?_
    refine AllReady.cons rfl (fun K0 hK => ?_) AllReady.nil
    go_simp
    try (refine hK _ _ ?_; clear hK K0)
    refine wpAny_done (by kernel_rfl) ?_ _
    go_wp2
    refine bodyPost_ret (v := .agg #[.int .i64 k, .string s, .int .i64 N, .int .u64 U, .float .f64 F, .bool b]) (by simp [results, Tryz.results11, go_sem, d0, d1, d2, d3, d4, d5, f0, f1, f2, f3, f4, f5]) rfl ⟨rfl, ?_⟩
    exact (((((HX2.out.setCell (by simp) _).setCell (by simp) _).setCell (by simp) _).setCell (by simp) _).setCell (by simp) _).setCell (by simp) _
  · refine AllReady.cons rfl (fun K0 hK => ?_) AllReady.nil
    go_simp
    go_wp2_with (go_at_call 18; refine (KI.out _).mono ?_; rintro e w1 ⟨rfl, hx⟩)
    have c0 := hx.cellOf (a := W.drew) c0
    have c1 := hx.cellOf (a := W.drew) c1
    have c2 := hx.cellOf (a := W.drew) c2
    have HX1 : Hid (Ext W w1) := hide ((Ext.refl W).drew.trans hx)
    clear hx
    try (refine hK _ _ ?_; clear hK K0)
    refine wpAny_take (i := 3) (v := ?_) rfl (by kernel_rfl) (by kernel_rfl) (by kernel_rfl) (fun _ _ _ h => h) (Or.inl ⟨by rfl, ?_⟩) ?_
    rotate_left
    · (intro w; go_simp <;> with_reducible rfl)
    try rw [hwr]
    refine wpAny_ready (rs := [0]) (by kernel_rfl) (by simp) ?_
    refine AllReady.cons rfl (fun K0 hK => ?_) AllReady.nil
    go_simp
    try (refine hK _ _ ?_; clear hK K0)
    refine wpAny_ready (rs := [4]) (by kernel_rfl) (by simp) ?_
    refine AllReady.cons rfl (fun K0 hK => ?_) AllReady.nil
    go_simp
    go_wp2_with (go_at_call 17; refine (AC.out _ (HW.out.trans HX1.out)).mono ?_; rintro e w2 ⟨rfl, hx2⟩)
    have hb3 := hb2.out.chg (Chg.of_ext (HX1.out.trans hx2) []) (by simp)
    have d0 := hb3.cell 0
    have f0 := hb3.frozen 0
    have d1 := hb3.cell 1
    have f1 := hb3.frozen 1
    have d2 := hb3.cell 2
    have f2 := hb3.frozen 2
    have d3 := hb3.cell 3
    have f3 := hb3.frozen 3
    have d4 := hb3.cell 4
    have f4 := hb3.frozen 4
    have d5 := hb3.cell 5
    have f5 := hb3.frozen 5
    simp at d0 d1 d2 d3 d4 d5
    have SF : (store ⟨w.heap.size + 1, 4, none⟩ (.float .f64 F)).run Tryz.prog ((((w2.setCell ⟨w.heap.size + 1, 0, none⟩ (.int .i64 k)).setCell ⟨w.heap.size + 1, 1, none⟩ (.string s)).setCell ⟨w.heap.size + 1, 2, none⟩ (.int .i64 N)).setCell ⟨w.heap.size + 1, 3, none⟩ (.int .u64 U)) = .ok () (((((w2.setCell ⟨w.heap.size + 1, 0, none⟩ (.int .i64 k)).setCell ⟨w.heap.size + 1, 1, none⟩ (.string s)).setCell ⟨w.heap.size + 1, 2, none⟩ (.int .i64 N)).setCell ⟨w.heap.size + 1, 3, none⟩ (.int .u64 U)).setCell ⟨w.heap.size + 1, 4, none⟩ (.float .f64 F)) := store_float _ _ _ (.float .f64 0) (by simp [go_sem, d4]) (by simp [go_sem, f4])
    have HX2 : Hid (Ext w w2) := hide ((HW.out.trans HX1.out).trans hx2)
    clear hx2 hb3 HX1 KI AC
    try (refine hK _ _ ?_; clear hK K0)
    refine wpAny_ready (rs := [5]) (by kernel_rfl) (by simp) ?_
    refine AllReady.cons rfl (fun K0 hK => ?_) AllReady.nil
    go_simp
    try (refine hK _ _ ?_; clear hK K0)
    refine wpAny_done (by kernel_rfl) ?_ _
    go_wp2
    refine bodyPost_ret (v := .agg #[.int .i64 k, .string s, .int .i64 N, .int .u64 U, .float .f64 F, .bool b]) (by simp [results, Tryz.results11, go_sem, d0, d1, d2, d3, d4, d5, f0, f1, f2, f3, f4, f5]) rfl ⟨rfl, ?_⟩
    exact (((((HX2.out.setCell (by simp) _).setCell (by simp) _).setCell (by simp) _).setCell (by simp) _).setCell (by simp) _).setCell (by simp) _
end Go.Proofs.YtkockmpncocjhaaGreatDoor
