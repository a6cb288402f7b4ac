/-
  impl.plain of a made value; impl.ValueOf, impl.ValueNew.
-/
import Derived.Test.YtkockmpncocjhaaDoorNewV
namespace Go.Proofs.YtkockmpncocjhaaDoor
open Go.RowKit Go.Lib Go.Shelf
set_option linter.unusedVariables false
set_option linter.unusedSimpArgs false

/-- A value with the other kinds' fields empty. -/
def plainV (k : Int) (s : ByteArray) (N U : Int) (F : Nat) (b : Bool) : Value :=
  ivV k (if k = 1 then s else ⟨#[]⟩) (if k = 2 then N else 0) (if k = 3 then U else 0) (if k = 4 then F else 0) (if k = 5 then b else false)
def zeroV : Value := ivV 0 ⟨#[]⟩ 0 0 0 false
theorem wrap_back (N : Int) (h0 : -9223372036854775808 ≤ N) (h1 : N ≤ 9223372036854775807) : wrap64 (N % 18446744073709551616) = N := by unfold wrap64; omega
theorem plain_any (k : Int) (s : ByteArray) (N U : Int) (F : Nat) (b : Bool) (w : World) (B : Nat) (x : Value) (hs : s.size ≤ 1000000) (hN0 : -9223372036854775808 ≤ N) (hN1 : N ≤ 9223372036854775807) (hU0 : 0 ≤ U) (hU1 : U < 18446744073709551616) (hF : F < 18446744073709551616) (h : LpOf w B x k s N U F b) :
    Calls Tryd.prog 13 #[x] w fun e w' => e = .returned (plainV k s N U F b) ∧ Ext w w' := by
  rcases h with ⟨rfl, A, n, c, rfl, hn, hR, _⟩ | ⟨rfl, rfl⟩ | ⟨rfl, rfl⟩ | ⟨rfl, rfl⟩ | ⟨rfl, rfl⟩
  · exact plainR_any 0 A n c 0 1 s 0 0 0 false w (hide fun W => kind_any 0 A n c 0 W (by decide) (by decide)) (hide fun W hx => acc1_any A n c s W hn (hR.chg (Chg.of_ext hx []) (by simp)) hs) (by decide) (by decide)
  · have e := wrap_back N hN0 hN1
    refine plainR_any (N % 18446744073709551616) none 0 0 2 2 ⟨#[]⟩ N 0 0 false w (hide fun W => kind_any _ none 0 0 2 W (by decide) (by decide)) (hide fun W hx => ?_) (by decide) (by decide)
    have h := acc2_any (N % 18446744073709551616) W (by omega) (by omega)
    rw [e] at h
    exact h
  · exact plainR_any U none 0 0 3 3 ⟨#[]⟩ 0 U 0 false w (hide fun W => kind_any _ none 0 0 3 W (by decide) (by decide)) (hide fun W hx => acc3_any U W hU0 hU1) (by decide) (by decide)
  · exact plainR_any F none 0 0 4 4 ⟨#[]⟩ 0 0 F false w (hide fun W => kind_any _ none 0 0 4 W (by decide) (by decide)) (hide fun W hx => acc4_any F W hF) (by decide) (by decide)
  · have e : ((if b then (1 : Int) else 0) != 0) = b := by cases b <;> rfl
    refine plainR_any (if b then 1 else 0) none 0 0 5 5 ⟨#[]⟩ 0 0 0 b w (hide fun W => kind_any _ none 0 0 5 W (by decide) (by decide)) (hide fun W hx => ?_) (by decide) (by decide)
    have h := acc5_any (if b then 1 else 0) W (by split <;> decide) (by split <;> decide)
    rw [e] at h
    exact h
theorem vo_idle (args : Array Value) (w : World) : CallsD Tryd.prog 11 args .returning w fun e u' w' => e = .returned (.tuple #[]) ∧ u' = .returning ∧ w' = w :=
  idle_of w nilTest_any Tryd.func11 rfl rfl (by decide) (by decide)
theorem vn_idle (args : Array Value) (w : World) : CallsD Tryd.prog 14 args .returning w fun e u' w' => e = .returned (.tuple #[]) ∧ u' = .returning ∧ w' = w :=
  idle_of w nilTest_any Tryd.func14 rfl rfl (by decide) (by decide)
set_option maxRecDepth 100000 in
set_option maxHeartbeats 2000000 in
theorem implVO_no (k : Int) (s : ByteArray) (N U : Int) (F : Nat) (b : Bool) (w : World) (VC : Hid (∀ W, Ext w W → Calls Tryd.prog 12 #[ivV k s N U F b] W fun e w' => (∃ x, e = .returned (.tuple #[x, .bool false]) ∧ Made W.heap.size k s N U F b false w' x) ∧ Ext W w')) :
    Calls Tryd.prog 6 #[ivV k s N U F b] w fun e w' => e = .returned (.tuple #[zeroV, .bool false]) ∧ Ext w w' := by
  have hmf : ∀ (fn : Fn) (first cap : Array Value) (w : World), (Instr.makeFunc fn first cap).run Tryd.prog w = .ok (.func fn first cap) w := fun _ _ _ _ => rfl
  unfold zeroV
  unfold ivV at VC ⊢
  go_enter_defers Tryd.func6, Tryd.ntmps6
  go_wp2_with fail
  refine (VC.out _ ((((Ext.refl w).alloc _).alloc _).alloc _)).mono ?_
  rintro e w1 ⟨⟨x, rfl, hM⟩, hx⟩
  obtain ⟨num, A, n, c, j, rfl⟩ := hM.1
  have hr1 := (((Blk.new_at (w.alloc (.cells #[.int .i64 k, .string s, .int .i64 N, .int .u64 U, .float .f64 F, .bool b] 25)) 25 #[.int .i64 0, .string ⟨#[]⟩, .int .i64 0, .int .u64 0, .float .f64 0, .bool false] (k := w.heap.size + 1) (by simp)).alloc (.cells #[.bool false] 4)).chg (Chg.of_ext hx []) (by simp))
  have hr2 := ((Blk.new_at ((w.alloc (.cells #[.int .i64 k, .string s, .int .i64 N, .int .u64 U, .float .f64 F, .bool b] 25)).alloc (.cells #[.int .i64 0, .string ⟨#[]⟩, .int .i64 0, .int .u64 0, .float .f64 0, .bool false] 25)) 4 #[.bool false] (k := w.heap.size + 1 + 1) (by simp)).chg (Chg.of_ext hx []) (by simp))
  have HX : Hid (Ext w w1) := hide (((((Ext.refl w).alloc _).alloc _).alloc _).trans hx)
  have hz1 : w.heap.size + 1 + 1 + 1 ≤ w1.heap.size := by have := hx.sizes; simp at this; omega
  have HZ := hide hz1
  clear VC hx hz1 hM
  unfold lpV
  have d0 := hr1.cell 0
  have df0 := hr1.frozen 0
  have d1 := hr1.cell 1
  have df1 := hr1.frozen 1
  have d2 := hr1.cell 2
  have df2 := hr1.frozen 2
  have d3 := hr1.cell 3
  have df3 := hr1.frozen 3
  have d4 := hr1.cell 4
  have df4 := hr1.frozen 4
  have d5 := hr1.cell 5
  have df5 := hr1.frozen 5
  have d6 := hr2.cell 0
  have df6 := hr2.frozen 0
  simp at d0 d1 d2 d3 d4 d5 d6
  have q1 : w.heap.size + 1 ≠ w1.heap.size := by have := HZ.out; omega
  have q2 : w.heap.size + 1 + 1 ≠ w1.heap.size := by have := HZ.out; omega
  have q3 := q1.symm
  have q4 := q2.symm
  have q5 : w.heap.size + 1 < w1.heap.size := by have := HZ.out; omega
  have q6 : w.heap.size + 1 + 1 < w1.heap.size := by have := HZ.out; omega
  clear hr1 hr2
  have SF : (store ⟨w.heap.size + 1, 4, none⟩ (.float .f64 0)).run Tryd.prog (((((w1.setCell ⟨w.heap.size + 1, 0, none⟩ (.int .i64 0)).setCell ⟨w.heap.size + 1, 1, none⟩ (.string ⟨#[]⟩)).setCell ⟨w.heap.size + 1, 2, none⟩ (.int .i64 0)).setCell ⟨w.heap.size + 1, 3, none⟩ (.int .u64 0)).alloc (.cells #[.int .u64 num, .slice A n c, .int .u8 j] 38)) = .ok () ((((((w1.setCell ⟨w.heap.size + 1, 0, none⟩ (.int .i64 0)).setCell ⟨w.heap.size + 1, 1, none⟩ (.string ⟨#[]⟩)).setCell ⟨w.heap.size + 1, 2, none⟩ (.int .i64 0)).setCell ⟨w.heap.size + 1, 3, none⟩ (.int .u64 0)).setCell ⟨w.heap.size + 1, 4, none⟩ (.float .f64 0)).alloc (.cells #[.int .u64 num, .slice A n c, .int .u8 j] 38)) := by
    have h := store_float (P := Tryd.prog) ⟨w.heap.size + 1, 4, none⟩ 0 (((((w1.setCell ⟨w.heap.size + 1, 0, none⟩ (.int .i64 0)).setCell ⟨w.heap.size + 1, 1, none⟩ (.string ⟨#[]⟩)).setCell ⟨w.heap.size + 1, 2, none⟩ (.int .i64 0)).setCell ⟨w.heap.size + 1, 3, none⟩ (.int .u64 0)).alloc (.cells #[.int .u64 num, .slice A n c, .int .u8 j] 38)) (.float .f64 0) (by simp [go_sem, d4, q1, q3, q5]) (by simp [go_sem, df4, q1, q3, q5])
    rw [h]
    simp [go_sem, q1, q2, q3, q4, q5, q6]
  go_wp2
  refine door_idle (vo_idle _ _) (by simp [go_sem]) ?_
  refine ⟨.tuple #[.agg #[.int .i64 0, .string ⟨#[]⟩, .int .i64 0, .int .u64 0, .float .f64 0, .bool false], .bool false], ?_, rfl, ?_⟩
  · simp [results, Tryd.results6, go_sem, d0, df0, d1, df1, d2, df2, d3, df3, d4, df4, d5, df5, d6, df6, q1, q2, q3, q4, q5, q6]
  · exact (((((((HX.out.setCell (by simp) _).setCell (by simp) _).setCell (by simp) _).setCell (by simp) _).setCell (by simp) _).setCell (by simp) _).setCell (by simp; omega) _).alloc _
set_option maxRecDepth 100000 in
set_option maxHeartbeats 2000000 in
theorem implVO_yes (k : Int) (s : ByteArray) (N U : Int) (F : Nat) (b : Bool) (k1 : Int) (r : ByteArray) (N1 U1 : Int) (F1 : Nat) (b1 : Bool) (w : World) (VC : Hid (∀ W, Ext w W → Calls Tryd.prog 12 #[ivV k s N U F b] W fun e w' => (∃ x, e = .returned (.tuple #[x, .bool true]) ∧ Made W.heap.size k s N U F b true w' x) ∧ Ext W w')) (PL : Hid (∀ W x, Ext w W → LpOf W 0 x k s N U F b → Calls Tryd.prog 13 #[x] W fun e w' => e = .returned (ivV k1 r N1 U1 F1 b1) ∧ Ext W w')) :
    Calls Tryd.prog 6 #[ivV k s N U F b] w fun e w' => e = .returned (.tuple #[ivV k1 r N1 U1 F1 b1, .bool true]) ∧ Ext w w' := by
  have hmf : ∀ (fn : Fn) (first cap : Array Value) (w : World), (Instr.makeFunc fn first cap).run Tryd.prog w = .ok (.func fn first cap) w := fun _ _ _ _ => rfl
  unfold ivV at VC PL ⊢
  go_enter_defers Tryd.func6, Tryd.ntmps6
  go_wp2_with fail
  refine (VC.out _ ((((Ext.refl w).alloc _).alloc _).alloc _)).mono ?_
  rintro e w1 ⟨⟨x, rfl, hM⟩, hx⟩
  obtain ⟨num, A, n, c, j, rfl⟩ := hM.1
  have hr1 := (((Blk.new_at (w.alloc (.cells #[.int .i64 k, .string s, .int .i64 N, .int .u64 U, .float .f64 F, .bool b] 25)) 25 #[.int .i64 0, .string ⟨#[]⟩, .int .i64 0, .int .u64 0, .float .f64 0, .bool false] (k := w.heap.size + 1) (by simp)).alloc (.cells #[.bool false] 4)).chg (Chg.of_ext hx []) (by simp))
  have hr2 := ((Blk.new_at ((w.alloc (.cells #[.int .i64 k, .string s, .int .i64 N, .int .u64 U, .float .f64 F, .bool b] 25)).alloc (.cells #[.int .i64 0, .string ⟨#[]⟩, .int .i64 0, .int .u64 0, .float .f64 0, .bool false] 25)) 4 #[.bool false] (k := w.heap.size + 1 + 1) (by simp)).chg (Chg.of_ext hx []) (by simp))
  have HX : Hid (Ext w w1) := hide (((((Ext.refl w).alloc _).alloc _).alloc _).trans hx)
  have hz1 : w.heap.size + 1 + 1 + 1 ≤ w1.heap.size := by have := hx.sizes; simp at this; omega
  have HZ := hide hz1
  have HM := hide ((hM.2 rfl).less (Nat.zero_le _))
  clear VC hx hz1 hM
  unfold lpV at HM ⊢
  go_wp2_with fail
  refine (PL.out _ _ (HX.out.alloc _) (HM.out.ext ((Ext.refl _).alloc _))).mono ?_
  rintro e w2 ⟨rfl, hx2⟩
  replace hr1 := (hr1.alloc (.cells #[.int .u64 num, .slice A n c, .int .u8 j] 38)).chg (Chg.of_ext hx2 []) (by simp)
  replace hr2 := (hr2.alloc (.cells #[.int .u64 num, .slice A n c, .int .u8 j] 38)).chg (Chg.of_ext hx2 []) (by simp)
  replace HX : Hid (Ext w w2) := hide ((HX.out.alloc _).trans hx2)
  have d0 := hr1.cell 0
  have df0 := hr1.frozen 0
  have d1 := hr1.cell 1
  have df1 := hr1.frozen 1
  have d2 := hr1.cell 2
  have df2 := hr1.frozen 2
  have d3 := hr1.cell 3
  have df3 := hr1.frozen 3
  have d4 := hr1.cell 4
  have df4 := hr1.frozen 4
  have d5 := hr1.cell 5
  have df5 := hr1.frozen 5
  have d6 := hr2.cell 0
  have df6 := hr2.frozen 0
  simp at d0 d1 d2 d3 d4 d5 d6
  clear hr1 hr2 hx2 PL HM HZ
  have SF : (store ⟨w.heap.size + 1, 4, none⟩ (.float .f64 F1)).run Tryd.prog ((((w2.setCell ⟨w.heap.size + 1, 0, none⟩ (.int .i64 k1)).setCell ⟨w.heap.size + 1, 1, none⟩ (.string r)).setCell ⟨w.heap.size + 1, 2, none⟩ (.int .i64 N1)).setCell ⟨w.heap.size + 1, 3, none⟩ (.int .u64 U1)) = .ok () (((((w2.setCell ⟨w.heap.size + 1, 0, none⟩ (.int .i64 k1)).setCell ⟨w.heap.size + 1, 1, none⟩ (.string r)).setCell ⟨w.heap.size + 1, 2, none⟩ (.int .i64 N1)).setCell ⟨w.heap.size + 1, 3, none⟩ (.int .u64 U1)).setCell ⟨w.heap.size + 1, 4, none⟩ (.float .f64 F1)) := store_float _ _ _ (.float .f64 0) (by simp [go_sem, d4]) (by simp [go_sem, df4])
  go_wp2
  refine door_idle (vo_idle _ _) (by simp [go_sem]) ?_
  refine ⟨.tuple #[.agg #[.int .i64 k1, .string r, .int .i64 N1, .int .u64 U1, .float .f64 F1, .bool b1], .bool true], ?_, rfl, ?_⟩
  · simp [results, Tryd.results6, go_sem, d0, df0, d1, df1, d2, df2, d3, df3, d4, df4, d5, df5, d6, df6]
  · exact ((((((HX.out.setCell (by simp) _).setCell (by simp) _).setCell (by simp) _).setCell (by simp) _).setCell (by simp) _).setCell (by simp) _).setCell (by simp; omega) _
set_option maxRecDepth 100000 in
set_option maxHeartbeats 2000000 in
theorem implVN_no (k : Int) (s : ByteArray) (N U : Int) (F : Nat) (b : Bool) (raw : Bool) (w : World) (Q : World → Value → Prop) (VA : Hid (∀ W, Ext w W → Calls Tryd.prog 16 #[ivV k s N U F b, .bool raw] W fun e w' => (∃ v, e = .returned v ∧ Q w' v) ∧ Ext W w')) (VC : Hid (∀ W v, Ext w W → Q W v → Calls Tryd.prog 15 #[v] W fun e w' => (∃ x, e = .returned (.tuple #[x, .bool false]) ∧ Made W.heap.size k s N U F b false w' x) ∧ Ext W w')) :
    Calls Tryd.prog 7 #[ivV k s N U F b, .bool raw] w fun e w' => e = .returned (.tuple #[zeroV, .bool false]) ∧ Ext w w' := by
  have hmf : ∀ (fn : Fn) (first cap : Array Value) (w : World), (Instr.makeFunc fn first cap).run Tryd.prog w = .ok (.func fn first cap) w := fun _ _ _ _ => rfl
  unfold zeroV
  unfold ivV at VA ⊢
  go_enter_defers Tryd.func7, Tryd.ntmps7
  go_wp2_with fail
  refine (VA.out _ ((((Ext.refl w).alloc _).alloc _).alloc _)).mono ?_
  rintro e w0 ⟨⟨v, rfl, hQ⟩, hx00⟩
  go_wp2_with fail
  refine (VC.out _ _ (((((Ext.refl w).alloc _).alloc _).alloc _).trans hx00) hQ).mono ?_
  rintro e w1 ⟨⟨x, rfl, hM⟩, hx01⟩
  have hx := hx00.trans hx01
  replace hM := hM.less hx00.sizes
  obtain ⟨num, A, n, c, j, rfl⟩ := hM.1
  have hr1 := (((Blk.new_at (w.alloc (.cells #[.int .i64 k, .string s, .int .i64 N, .int .u64 U, .float .f64 F, .bool b] 25)) 25 #[.int .i64 0, .string ⟨#[]⟩, .int .i64 0, .int .u64 0, .float .f64 0, .bool false] (k := w.heap.size + 1) (by simp)).alloc (.cells #[.bool false] 4)).chg (Chg.of_ext hx []) (by simp))
  have hr2 := ((Blk.new_at ((w.alloc (.cells #[.int .i64 k, .string s, .int .i64 N, .int .u64 U, .float .f64 F, .bool b] 25)).alloc (.cells #[.int .i64 0, .string ⟨#[]⟩, .int .i64 0, .int .u64 0, .float .f64 0, .bool false] 25)) 4 #[.bool false] (k := w.heap.size + 1 + 1) (by simp)).chg (Chg.of_ext hx []) (by simp))
  have HX : Hid (Ext w w1) := hide (((((Ext.refl w).alloc _).alloc _).alloc _).trans hx)
  have hz1 : w.heap.size + 1 + 1 + 1 ≤ w1.heap.size := by have := hx.sizes; simp at this; omega
  have HZ := hide hz1
  clear VC hx hz1 VA hx00 hx01 hQ hM
  unfold lpV
  have d0 := hr1.cell 0
  have df0 := hr1.frozen 0
  have d1 := hr1.cell 1
  have df1 := hr1.frozen 1
  have d2 := hr1.cell 2
  have df2 := hr1.frozen 2
  have d3 := hr1.cell 3
  have df3 := hr1.frozen 3
  have d4 := hr1.cell 4
  have df4 := hr1.frozen 4
  have d5 := hr1.cell 5
  have df5 := hr1.frozen 5
  have d6 := hr2.cell 0
  have df6 := hr2.frozen 0
  simp at d0 d1 d2 d3 d4 d5 d6
  have q1 : w.heap.size + 1 ≠ w1.heap.size := by have := HZ.out; omega
  have q2 : w.heap.size + 1 + 1 ≠ w1.heap.size := by have := HZ.out; omega
  have q3 := q1.symm
  have q4 := q2.symm
  have q5 : w.heap.size + 1 < w1.heap.size := by have := HZ.out; omega
  have q6 : w.heap.size + 1 + 1 < w1.heap.size := by have := HZ.out; omega
  clear hr1 hr2
  have SF : (store ⟨w.heap.size + 1, 4, none⟩ (.float .f64 0)).run Tryd.prog (((((w1.setCell ⟨w.heap.size + 1, 0, none⟩ (.int .i64 0)).setCell ⟨w.heap.size + 1, 1, none⟩ (.string ⟨#[]⟩)).setCell ⟨w.heap.size + 1, 2, none⟩ (.int .i64 0)).setCell ⟨w.heap.size + 1, 3, none⟩ (.int .u64 0)).alloc (.cells #[.int .u64 num, .slice A n c, .int .u8 j] 38)) = .ok () ((((((w1.setCell ⟨w.heap.size + 1, 0, none⟩ (.int .i64 0)).setCell ⟨w.heap.size + 1, 1, none⟩ (.string ⟨#[]⟩)).setCell ⟨w.heap.size + 1, 2, none⟩ (.int .i64 0)).setCell ⟨w.heap.size + 1, 3, none⟩ (.int .u64 0)).setCell ⟨w.heap.size + 1, 4, none⟩ (.float .f64 0)).alloc (.cells #[.int .u64 num, .slice A n c, .int .u8 j] 38)) := by
    have h := store_float (P := Tryd.prog) ⟨w.heap.size + 1, 4, none⟩ 0 (((((w1.setCell ⟨w.heap.size + 1, 0, none⟩ (.int .i64 0)).setCell ⟨w.heap.size + 1, 1, none⟩ (.string ⟨#[]⟩)).setCell ⟨w.heap.size + 1, 2, none⟩ (.int .i64 0)).setCell ⟨w.heap.size + 1, 3, none⟩ (.int .u64 0)).alloc (.cells #[.int .u64 num, .slice A n c, .int .u8 j] 38)) (.float .f64 0) (by simp [go_sem, d4, q1, q3, q5]) (by simp [go_sem, df4, q1, q3, q5])
    rw [h]
    simp [go_sem, q1, q2, q3, q4, q5, q6]
  go_wp2
  refine door_idle (vn_idle _ _) (by simp [go_sem]) ?_
  refine ⟨.tuple #[.agg #[.int .i64 0, .string ⟨#[]⟩, .int .i64 0, .int .u64 0, .float .f64 0, .bool false], .bool false], ?_, rfl, ?_⟩
  · simp [results, Tryd.results7, go_sem, d0, df0, d1, df1, d2, df2, d3, df3, d4, df4, d5, df5, d6, df6, q1, q2, q3, q4, q5, q6]
  · exact (((((((HX.out.setCell (by simp) _).setCell (by simp) _).setCell (by simp) _).setCell (by simp) _).setCell (by simp) _).setCell (by simp) _).setCell (by simp; omega) _).alloc _
set_option maxRecDepth 100000 in
set_option maxHeartbeats 2000000 in
theorem implVN_yes (k : Int) (s : ByteArray) (N U : Int) (F : Nat) (b : Bool) (raw : Bool) (k1 : Int) (r : ByteArray) (N1 U1 : Int) (F1 : Nat) (b1 : Bool) (w : World) (Q : World → Value → Prop) (VA : Hid (∀ W, Ext w W → Calls Tryd.prog 16 #[ivV k s N U F b, .bool raw] W fun e w' => (∃ v, e = .returned v ∧ Q w' v) ∧ Ext W w')) (VC : Hid (∀ W v, Ext w W → Q W v → Calls Tryd.prog 15 #[v] W fun e w' => (∃ x, e = .returned (.tuple #[x, .bool true]) ∧ Made W.heap.size k s N U F b true w' x) ∧ Ext W w')) (PL : Hid (∀ W x, Ext w W → LpOf W 0 x k s N U F b → Calls Tryd.prog 13 #[x] W fun e w' => e = .returned (ivV k1 r N1 U1 F1 b1) ∧ Ext W w')) :
    Calls Tryd.prog 7 #[ivV k s N U F b, .bool raw] w fun e w' => e = .returned (.tuple #[ivV k1 r N1 U1 F1 b1, .bool true]) ∧ Ext w w' := by
  have hmf : ∀ (fn : Fn) (first cap : Array Value) (w : World), (Instr.makeFunc fn first cap).run Tryd.prog w = .ok (.func fn first cap) w := fun _ _ _ _ => rfl
  unfold ivV at VA PL ⊢
  go_enter_defers Tryd.func7, Tryd.ntmps7
  go_wp2_with fail
  refine (VA.out _ ((((Ext.refl w).alloc _).alloc _).alloc _)).mono ?_
  rintro e w0 ⟨⟨v, rfl, hQ⟩, hx00⟩
  go_wp2_with fail
  refine (VC.out _ _ (((((Ext.refl w).alloc _).alloc _).alloc _).trans hx00) hQ).mono ?_
  rintro e w1 ⟨⟨x, rfl, hM⟩, hx01⟩
  have hx := hx00.trans hx01
  replace hM := hM.less hx00.sizes
  obtain ⟨num, A, n, c, j, rfl⟩ := hM.1
  have hr1 := (((Blk.new_at (w.alloc (.cells #[.int .i64 k, .string s, .int .i64 N, .int .u64 U, .float .f64 F, .bool b] 25)) 25 #[.int .i64 0, .string ⟨#[]⟩, .int .i64 0, .int .u64 0, .float .f64 0, .bool false] (k := w.heap.size + 1) (by simp)).alloc (.cells #[.bool false] 4)).chg (Chg.of_ext hx []) (by simp))
  have hr2 := ((Blk.new_at ((w.alloc (.cells #[.int .i64 k, .string s, .int .i64 N, .int .u64 U, .float .f64 F, .bool b] 25)).alloc (.cells #[.int .i64 0, .string ⟨#[]⟩, .int .i64 0, .int .u64 0, .float .f64 0, .bool false] 25)) 4 #[.bool false] (k := w.heap.size + 1 + 1) (by simp)).chg (Chg.of_ext hx []) (by simp))
  have HX : Hid (Ext w w1) := hide (((((Ext.refl w).alloc _).alloc _).alloc _).trans hx)
  have hz1 : w.heap.size + 1 + 1 + 1 ≤ w1.heap.size := by have := hx.sizes; simp at this; omega
  have HZ := hide hz1
  have HM := hide ((hM.2 rfl).less (Nat.zero_le _))
  clear VC hx hz1 VA hx00 hx01 hQ hM
  unfold lpV at HM ⊢
  go_wp2_with fail
  refine (PL.out _ _ (HX.out.alloc _) (HM.out.ext ((Ext.refl _).alloc _))).mono ?_
  rintro e w2 ⟨rfl, hx2⟩
  replace hr1 := (hr1.alloc (.cells #[.int .u64 num, .slice A n c, .int .u8 j] 38)).chg (Chg.of_ext hx2 []) (by simp)
  replace hr2 := (hr2.alloc (.cells #[.int .u64 num, .slice A n c, .int .u8 j] 38)).chg (Chg.of_ext hx2 []) (by simp)
  replace HX : Hid (Ext w w2) := hide ((HX.out.alloc _).trans hx2)
  have d0 := hr1.cell 0
  have df0 := hr1.frozen 0
  have d1 := hr1.cell 1
  have df1 := hr1.frozen 1
  have d2 := hr1.cell 2
  have df2 := hr1.frozen 2
  have d3 := hr1.cell 3
  have df3 := hr1.frozen 3
  have d4 := hr1.cell 4
  have df4 := hr1.frozen 4
  have d5 := hr1.cell 5
  have df5 := hr1.frozen 5
  have d6 := hr2.cell 0
  have df6 := hr2.frozen 0
  simp at d0 d1 d2 d3 d4 d5 d6
  clear hr1 hr2 hx2 PL HM HZ
  have SF : (store ⟨w.heap.size + 1, 4, none⟩ (.float .f64 F1)).run Tryd.prog ((((w2.setCell ⟨w.heap.size + 1, 0, none⟩ (.int .i64 k1)).setCell ⟨w.heap.size + 1, 1, none⟩ (.string r)).setCell ⟨w.heap.size + 1, 2, none⟩ (.int .i64 N1)).setCell ⟨w.heap.size + 1, 3, none⟩ (.int .u64 U1)) = .ok () (((((w2.setCell ⟨w.heap.size + 1, 0, none⟩ (.int .i64 k1)).setCell ⟨w.heap.size + 1, 1, none⟩ (.string r)).setCell ⟨w.heap.size + 1, 2, none⟩ (.int .i64 N1)).setCell ⟨w.heap.size + 1, 3, none⟩ (.int .u64 U1)).setCell ⟨w.heap.size + 1, 4, none⟩ (.float .f64 F1)) := store_float _ _ _ (.float .f64 0) (by simp [go_sem, d4]) (by simp [go_sem, df4])
  go_wp2
  refine door_idle (vn_idle _ _) (by simp [go_sem]) ?_
  refine ⟨.tuple #[.agg #[.int .i64 k1, .string r, .int .i64 N1, .int .u64 U1, .float .f64 F1, .bool b1], .bool true], ?_, rfl, ?_⟩
  · simp [results, Tryd.results7, go_sem, d0, df0, d1, df1, d2, df2, d3, df3, d4, df4, d5, df5, d6, df6]
  · exact ((((((HX.out.setCell (by simp) _).setCell (by simp) _).setCell (by simp) _).setCell (by simp) _).setCell (by simp) _).setCell (by simp) _).setCell (by simp; omega) _
end Go.Proofs.YtkockmpncocjhaaDoor
