/-
  spec.CanBe, and the law's own functions over values.
-/
import Derived.Test.YtkockmpncocjhaaDoorImplV
import Derived.Test.YtkockmpncocjhaaDoorSpecUtf8
namespace Go.Proofs.YtkockmpncocjhaaDoor
open Go.RowKit Go.Lib Go.Shelf
set_option linter.unusedVariables false
set_option linter.unusedSimpArgs false

theorem sub_fin_run (F : Nat) (h : finB F = true) (w : World) : (binOp .sub 23 (.float .f64 F) (.float .f64 F)).run Tryd.prog w = .ok (.float .f64 0) w := run_float_arith w .sub _ .f64 F F 0 (sub_self h)
theorem sub_inf_run (F : Nat) (h : finB F = false) (w : World) : ∃ c, (binOp .sub 23 (.float .f64 F) (.float .f64 F)).run Tryd.prog w = .ok (.float .f64 c) w.drew ∧ Ieee.double.order c 0 = none := by
  refine ⟨_, ?_, nan_order (nan_cut (w.tape w.drawn (.nanBits .f64 F F))) 0⟩
  have e : FloatKind.f64.format.sub F F = none := sub_inf h
  simp [binOp, Op.floatArith, e, Question.forced, Question.cut]
theorem div_run (F : Nat) (h : finB F = true) : ∃ r, (∀ w, (binOp .quo 23 (.float .f64 4607182418800017408) (.float .f64 F)).run Tryd.prog w = .ok (.float .f64 r) w) ∧ Ieee.double.order r r = some .eq := by
  obtain ⟨r, h1, h2⟩ := div_self h
  exact ⟨r, fun w => run_float_arith w .quo _ .f64 oneF F r h1, h2⟩
theorem store_floatS {P : Program} (a : Addr) (F : Nat) (W : World) (hc : (W.cell? a).isSome = true) (hf : W.frozen? a = false) : (store a (.float .f64 F)).run P W = .ok () (W.setCell a (.float .f64 F)) := by
  obtain ⟨v, hv⟩ := Option.isSome_iff_exists.1 hc
  exact store_float a F W v hv hf
set_option maxRecDepth 100000 in
theorem canBe1 (s : ByteArray) (N U : Int) (F : Nat) (b : Bool) (w : World) (hs : s.size ≤ 100000) :
    Calls Tryd.prog 8 #[ivV 1 s N U F b] w fun e w' => e = .returned (.bool (canB 1 s F)) ∧ Ext w w' := by
  have SU := hide (fun W => specUtf8_any s W hs)
  have e1 : canB 1 s F = validD s.data.toList := rfl
  rw [e1]
  unfold ivV
  go_enter Tryd.func8, Tryd.ntmps8
  go_wp2_with fail
  refine (SU.out _).mono ?_
  rintro e w1 ⟨rfl, hx⟩
  have HX := hide (((Ext.refl w).alloc _).trans hx)
  go_wp2
  go_ret
  exact ⟨rfl, HX.out⟩
set_option maxRecDepth 100000 in
theorem canBe4 (s : ByteArray) (N U : Int) (F : Nat) (b : Bool) (w : World) :
    Calls Tryd.prog 8 #[ivV 4 s N U F b] w fun e w' => e = .returned (.bool (canB 4 s F)) ∧ Ext w w' := by
  have e1 : canB 4 s F = finB F := rfl
  rw [e1]
  by_cases hf : finB F = true
  · have SR := sub_fin_run F hf
    rw [hf]
    unfold ivV
    clear e1
    go_enter Tryd.func8, Tryd.ntmps8
    go_wp2
    go_ret
    exact ⟨rfl, (Ext.refl w).alloc _⟩
  · have hf : finB F = false := by simpa using hf
    obtain ⟨c, SR, ho⟩ := sub_inf_run F hf (w.alloc (.cells #[.int .i64 4, .string s, .int .i64 N, .int .u64 U, .float .f64 F, .bool b] 25))
    rw [hf]
    have HO := hide ho
    clear e1 ho
    unfold ivV
    go_enter Tryd.func8, Tryd.ntmps8
    go_wp2
    go_ret
    have h : (FloatKind.f64.format.order c 0 == some .eq) = false := by show (Ieee.double.order c 0 == some .eq) = false; rw [HO.out]; rfl
    exact ⟨by first | rfl | (simp [h]; done) | (show Ending.returned (.bool (FloatKind.f64.format.order c 0 == some .eq)) = _; rw [h]), ((Ext.refl w).alloc _).drew⟩
set_option maxRecDepth 100000 in
theorem canBe2 (s : ByteArray) (N U : Int) (F : Nat) (b : Bool) (w : World) :
    Calls Tryd.prog 8 #[ivV 2 s N U F b] w fun e w' => e = .returned (.bool (canB 2 s F)) ∧ Ext w w' := by
  have e1 : canB 2 s F = true := rfl
  rw [e1]
  clear e1
  unfold ivV
  go_enter Tryd.func8, Tryd.ntmps8
  go_wp2
  go_ret
  exact ⟨rfl, (Ext.refl w).alloc _⟩
set_option maxRecDepth 100000 in
theorem canBe3 (s : ByteArray) (N U : Int) (F : Nat) (b : Bool) (w : World) :
    Calls Tryd.prog 8 #[ivV 3 s N U F b] w fun e w' => e = .returned (.bool (canB 3 s F)) ∧ Ext w w' := by
  have e1 : canB 3 s F = true := rfl
  rw [e1]
  clear e1
  unfold ivV
  go_enter Tryd.func8, Tryd.ntmps8
  go_wp2
  go_ret
  exact ⟨rfl, (Ext.refl w).alloc _⟩
set_option maxRecDepth 100000 in
theorem canBe5 (s : ByteArray) (N U : Int) (F : Nat) (b : Bool) (w : World) :
    Calls Tryd.prog 8 #[ivV 5 s N U F b] w fun e w' => e = .returned (.bool (canB 5 s F)) ∧ Ext w w' := by
  have e1 : canB 5 s F = true := rfl
  rw [e1]
  clear e1
  unfold ivV
  go_enter Tryd.func8, Tryd.ntmps8
  go_wp2
  go_ret
  exact ⟨rfl, (Ext.refl w).alloc _⟩
set_option maxRecDepth 100000 in
theorem canBe0 (k : Int) (s : ByteArray) (N U : Int) (F : Nat) (b : Bool) (w : World) (h1 : k ≠ 1) (h2 : k ≠ 2) (h3 : k ≠ 3) (h4 : k ≠ 4) (h5 : k ≠ 5) :
    Calls Tryd.prog 8 #[ivV k s N U F b] w fun e w' => e = .returned (.bool (canB k s F)) ∧ Ext w w' := by
  have e1 : canB k s F = false := by unfold canB; rw [if_neg h1, if_neg h4]; simp [h2, h3, h5]
  rw [e1]
  clear e1
  have g1 : (k == 1) = false := by simp [h1]
  have g2 : (k == 2) = false := by simp [h2]
  have g3 : (k == 3) = false := by simp [h3]
  have g4 : (k == 4) = false := by simp [h4]
  have g5 : (k == 5) = false := by simp [h5]
  unfold ivV
  go_enter Tryd.func8, Tryd.ntmps8
  go_wp2
  go_ret
  exact ⟨rfl, (Ext.refl w).alloc _⟩
theorem canBe_any (k : Int) (s : ByteArray) (N U : Int) (F : Nat) (b : Bool) (w : World) (hs : s.size ≤ 100000) :
    Calls Tryd.prog 8 #[ivV k s N U F b] w fun e w' => e = .returned (.bool (canB k s F)) ∧ Ext w w' := by
  by_cases h1 : k = 1
  · subst h1; exact canBe1 s N U F b w hs
  · by_cases h2 : k = 2
    · subst h2; exact canBe2 s N U F b w
    · by_cases h3 : k = 3
      · subst h3; exact canBe3 s N U F b w
      · by_cases h4 : k = 4
        · subst h4; exact canBe4 s N U F b w
        · by_cases h5 : k = 5
          · subst h5; exact canBe5 s N U F b w
          · exact canBe0 k s N U F b w h1 h2 h3 h4 h5
set_option maxRecDepth 100000 in
theorem fits3_any (k : Int) (s : ByteArray) (N U : Int) (F : Nat) (b : Bool) (w : World) (hs : s.size ≤ 2147483647) :
    Calls Tryd.prog 4 #[ivV k s N U F b] w fun e w' => e = .returned (.bool true) ∧ Ext w w' := by
  have hz : ¬ (2147483647 : Int) < (s.size : Int) := by omega
  have hzb : decide ((2147483647 : Int) < (s.size : Int)) = false := decide_eq_false hz
  unfold ivV
  go_enter Tryd.func4, Tryd.ntmps4
  go_wp2
  go_ret
  exact ⟨rfl, (Ext.refl w).alloc _⟩
set_option maxRecDepth 100000 in
theorem fits3_no (k : Int) (s : ByteArray) (N U : Int) (F : Nat) (b : Bool) (w : World) (hs : ¬ s.size ≤ 2147483647) :
    Calls Tryd.prog 4 #[ivV k s N U F b] w fun e w' => e = .returned (.bool false) ∧ Ext w w' := by
  have hz : (2147483647 : Int) < (s.size : Int) := by omega
  have hzb : decide ((2147483647 : Int) < (s.size : Int)) = true := decide_eq_true hz
  unfold ivV
  go_enter Tryd.func4, Tryd.ntmps4
  go_wp2
  go_ret
  exact ⟨rfl, (Ext.refl w).alloc _⟩
set_option maxRecDepth 100000 in
set_option maxHeartbeats 2000000 in
theorem same_any (k : Int) (s : ByteArray) (N U : Int) (F : Nat) (b : Bool) (w : World) (hf : finB F = true) :
    Calls Tryd.prog 9 #[ivV k s N U F b, ivV k s N U F b] w fun e w' => e = .returned (.bool true) ∧ Ext w w' := by
  obtain ⟨r, DR, ho⟩ := div_run F hf
  have ho1 : (FloatKind.f64.format.order r r == some .eq) = true := by show (Ieee.double.order r r == some .eq) = true; rw [ho]; rfl
  have ho2 : (FloatKind.f64.format.order F F == some .eq) = true := by show (Ieee.double.order F F == some .eq) = true; rw [eq_self hf]; rfl
  clear ho hf
  unfold ivV
  go_enter Tryd.func9, Tryd.ntmps9
  go_wp2
  go_ret
  exact ⟨by simp, ((Ext.refl w).alloc _).alloc _⟩
set_option maxRecDepth 100000 in
set_option maxHeartbeats 2000000 in
theorem lPlain1 (s : ByteArray) (N U : Int) (F : Nat) (b : Bool) (w : World) :
    Calls Tryd.prog 10 #[ivV 1 s N U F b] w fun e w' => e = .returned (plainV 1 s N U F b) ∧ Ext w w' := by
  have e0 : plainV 1 s N U F b = .agg #[.int .i64 1, .string s, .int .i64 0, .int .u64 0, .float .f64 0, .bool false] := rfl
  rw [e0]
  clear e0
  have SF0 := store_floatS (P := Tryd.prog) ⟨w.heap.size + 1 + 1, 4, none⟩ 0
  have SF1 := store_floatS (P := Tryd.prog) ⟨w.heap.size + 1, 4, none⟩ 0
  unfold ivV
  go_enter Tryd.func10, Tryd.ntmps10
  go_wp2
  refine bodyPost_ret (v := .agg #[.int .i64 1, .string s, .int .i64 0, .int .u64 0, .float .f64 0, .bool false]) (by simp [results, Tryd.results10, go_sem]) rfl ⟨rfl, ?_⟩
  repeat (first | exact Ext.refl _ | refine Ext.alloc ?_ _ | refine Ext.setCell ?_ (by first | (simp; done) | (simp; omega)) _)
set_option maxRecDepth 100000 in
set_option maxHeartbeats 2000000 in
theorem lPlain2 (s : ByteArray) (N U : Int) (F : Nat) (b : Bool) (w : World) :
    Calls Tryd.prog 10 #[ivV 2 s N U F b] w fun e w' => e = .returned (plainV 2 s N U F b) ∧ Ext w w' := by
  have e0 : plainV 2 s N U F b = .agg #[.int .i64 2, .string ⟨#[]⟩, .int .i64 N, .int .u64 0, .float .f64 0, .bool false] := rfl
  rw [e0]
  clear e0
  have SF0 := store_floatS (P := Tryd.prog) ⟨w.heap.size + 1 + 1, 4, none⟩ 0
  have SF1 := store_floatS (P := Tryd.prog) ⟨w.heap.size + 1, 4, none⟩ 0
  unfold ivV
  go_enter Tryd.func10, Tryd.ntmps10
  go_wp2
  refine bodyPost_ret (v := .agg #[.int .i64 2, .string ⟨#[]⟩, .int .i64 N, .int .u64 0, .float .f64 0, .bool false]) (by simp [results, Tryd.results10, go_sem]) rfl ⟨rfl, ?_⟩
  repeat (first | exact Ext.refl _ | refine Ext.alloc ?_ _ | refine Ext.setCell ?_ (by first | (simp; done) | (simp; omega)) _)
set_option maxRecDepth 100000 in
set_option maxHeartbeats 2000000 in
theorem lPlain3 (s : ByteArray) (N U : Int) (F : Nat) (b : Bool) (w : World) :
    Calls Tryd.prog 10 #[ivV 3 s N U F b] w fun e w' => e = .returned (plainV 3 s N U F b) ∧ Ext w w' := by
  have e0 : plainV 3 s N U F b = .agg #[.int .i64 3, .string ⟨#[]⟩, .int .i64 0, .int .u64 U, .float .f64 0, .bool false] := rfl
  rw [e0]
  clear e0
  have SF0 := store_floatS (P := Tryd.prog) ⟨w.heap.size + 1 + 1, 4, none⟩ 0
  have SF1 := store_floatS (P := Tryd.prog) ⟨w.heap.size + 1, 4, none⟩ 0
  unfold ivV
  go_enter Tryd.func10, Tryd.ntmps10
  go_wp2
  refine bodyPost_ret (v := .agg #[.int .i64 3, .string ⟨#[]⟩, .int .i64 0, .int .u64 U, .float .f64 0, .bool false]) (by simp [results, Tryd.results10, go_sem]) rfl ⟨rfl, ?_⟩
  repeat (first | exact Ext.refl _ | refine Ext.alloc ?_ _ | refine Ext.setCell ?_ (by first | (simp; done) | (simp; omega)) _)
set_option maxRecDepth 100000 in
set_option maxHeartbeats 2000000 in
theorem lPlain4 (s : ByteArray) (N U : Int) (F : Nat) (b : Bool) (w : World) :
    Calls Tryd.prog 10 #[ivV 4 s N U F b] w fun e w' => e = .returned (plainV 4 s N U F b) ∧ Ext w w' := by
  have e0 : plainV 4 s N U F b = .agg #[.int .i64 4, .string ⟨#[]⟩, .int .i64 0, .int .u64 0, .float .f64 F, .bool false] := rfl
  rw [e0]
  clear e0
  have SF0 := store_floatS (P := Tryd.prog) ⟨w.heap.size + 1 + 1, 4, none⟩ 0
  have SF1 := store_floatS (P := Tryd.prog) ⟨w.heap.size + 1, 4, none⟩ F
  have SF2 := store_floatS (P := Tryd.prog) ⟨w.heap.size + 1 + 1, 4, none⟩ F
  unfold ivV
  go_enter Tryd.func10, Tryd.ntmps10
  go_wp2
  refine bodyPost_ret (v := .agg #[.int .i64 4, .string ⟨#[]⟩, .int .i64 0, .int .u64 0, .float .f64 F, .bool false]) (by simp [results, Tryd.results10, go_sem]) rfl ⟨rfl, ?_⟩
  repeat (first | exact Ext.refl _ | refine Ext.alloc ?_ _ | refine Ext.setCell ?_ (by first | (simp; done) | (simp; omega)) _)
set_option maxRecDepth 100000 in
set_option maxHeartbeats 2000000 in
theorem lPlain5 (s : ByteArray) (N U : Int) (F : Nat) (b : Bool) (w : World) :
    Calls Tryd.prog 10 #[ivV 5 s N U F b] w fun e w' => e = .returned (plainV 5 s N U F b) ∧ Ext w w' := by
  have e0 : plainV 5 s N U F b = .agg #[.int .i64 5, .string ⟨#[]⟩, .int .i64 0, .int .u64 0, .float .f64 0, .bool b] := rfl
  rw [e0]
  clear e0
  have SF0 := store_floatS (P := Tryd.prog) ⟨w.heap.size + 1 + 1, 4, none⟩ 0
  have SF1 := store_floatS (P := Tryd.prog) ⟨w.heap.size + 1, 4, none⟩ 0
  unfold ivV
  go_enter Tryd.func10, Tryd.ntmps10
  go_wp2
  refine bodyPost_ret (v := .agg #[.int .i64 5, .string ⟨#[]⟩, .int .i64 0, .int .u64 0, .float .f64 0, .bool b]) (by simp [results, Tryd.results10, go_sem]) rfl ⟨rfl, ?_⟩
  repeat (first | exact Ext.refl _ | refine Ext.alloc ?_ _ | refine Ext.setCell ?_ (by first | (simp; done) | (simp; omega)) _)
set_option maxRecDepth 100000 in
set_option maxHeartbeats 2000000 in
theorem lPlain0 (k : Int) (s : ByteArray) (N U : Int) (F : Nat) (b : Bool) (w : World) (h1 : k ≠ 1) (h2 : k ≠ 2) (h3 : k ≠ 3) (h4 : k ≠ 4) (h5 : k ≠ 5) :
    Calls Tryd.prog 10 #[ivV k s N U F b] w fun e w' => e = .returned (plainV k s N U F b) ∧ Ext w w' := by
  have e0 : plainV k s N U F b = .agg #[.int .i64 k, .string ⟨#[]⟩, .int .i64 0, .int .u64 0, .float .f64 0, .bool false] := by simp [plainV, ivV, h1, h2, h3, h4, h5]
  rw [e0]
  clear e0
  have g1 : (k == 1) = false := by simp [h1]
  have g2 : (k == 2) = false := by simp [h2]
  have g3 : (k == 3) = false := by simp [h3]
  have g4 : (k == 4) = false := by simp [h4]
  have g5 : (k == 5) = false := by simp [h5]
  have SF0 := store_floatS (P := Tryd.prog) ⟨w.heap.size + 1 + 1, 4, none⟩ 0
  have SF1 := store_floatS (P := Tryd.prog) ⟨w.heap.size + 1, 4, none⟩ 0
  unfold ivV
  go_enter Tryd.func10, Tryd.ntmps10
  go_wp2
  refine bodyPost_ret (v := .agg #[.int .i64 k, .string ⟨#[]⟩, .int .i64 0, .int .u64 0, .float .f64 0, .bool false]) (by simp [results, Tryd.results10, go_sem]) rfl ⟨rfl, ?_⟩
  repeat (first | exact Ext.refl _ | refine Ext.alloc ?_ _ | refine Ext.setCell ?_ (by first | (simp; done) | (simp; omega)) _)
/-- Whether statements ask about a value. -/
def kindsB (k : Int) (s : ByteArray) : Bool := decide (0 ≤ k ∧ k ≤ 255 ∧ s.size ≤ 800)
set_option maxRecDepth 100000 in
set_option maxHeartbeats 2000000 in
theorem kinds_any (g : Nat) (k : Int) (s : ByteArray) (N U : Int) (F : Nat) (b : Bool) (w : World) (hb : Blk w g 25 #[.int .i64 k, .string s, .int .i64 N, .int .u64 U, .float .f64 F, .bool b]) :
    Calls Tryd.prog 5 #[.slice (some ⟨g, 0, none⟩) 1 1] w fun e w' => e = .returned (.bool (kindsB k s)) ∧ Ext w w' := by
  have HB := hide hb
  clear hb
  generalize hK : kindsB k s = K
  have HK := hide hK
  clear hK
  go_enter Tryd.func5, Tryd.ntmps5
  go_wp2
  go_loopg [7] 2 (fun gk s7 wx => (s7 = .int .i64 0 ∧ gk = 2 ∨ s7 = .int .i64 1 ∧ gk = 1 ∧ K = true) ∧ Hid (Ext w wx))
  case atStart => exact ⟨.inl ⟨rfl, rfl⟩, hide (Ext.refl w)⟩
  case round =>
    obtain ⟨hrel, HX⟩ := hrel
    rcases hrel with ⟨rfl, rfl⟩ | ⟨rfl, rfl, rfl⟩
    · have hb := HB.out.chg (Chg.of_ext HX.out []) (by simp)
      have c0 := hb.cell 0
      have c1 := hb.cell 1
      have c2 := hb.cell 2
      have c3 := hb.cell 3
      have c4 := hb.cell 4
      have c5 := hb.cell 5
      simp at c0 c1 c2 c3 c4 c5
      have SF := store_floatS (P := Tryd.prog) ⟨wr.heap.size, 4, none⟩ F
      clear hb
      by_cases h0 : k < 0
      · have e0 : K = false := by rw [← HK.out]; unfold kindsB; simp; omega
        subst e0
        go_wp2
        go_ret
        exact ⟨rfl, (by have HX := HX.out; repeat (first | exact HX | refine Ext.alloc ?_ _ | refine Ext.setCell ?_ (by first | (simp; done) | (simp; omega) | (have := HX.sizes; simp; omega)) _))⟩
      · by_cases h1 : 255 < k
        · have e0 : K = false := by rw [← HK.out]; unfold kindsB; simp; omega
          subst e0
          go_wp2
          go_ret
          exact ⟨rfl, (by have HX := HX.out; repeat (first | exact HX | refine Ext.alloc ?_ _ | refine Ext.setCell ?_ (by first | (simp; done) | (simp; omega) | (have := HX.sizes; simp; omega)) _))⟩
        · by_cases h2 : 800 < s.size
          · have e0 : K = false := by rw [← HK.out]; unfold kindsB; simp; omega
            have h2z : (800 : Int) < (s.size : Int) := by omega
            subst e0
            go_wp2
            go_ret
            exact ⟨rfl, (by have HX := HX.out; repeat (first | exact HX | refine Ext.alloc ?_ _ | refine Ext.setCell ?_ (by first | (simp; done) | (simp; omega) | (have := HX.sizes; simp; omega)) _))⟩
          · have e0 : K = true := by rw [← HK.out]; unfold kindsB; simp; omega
            have h2z : ¬ (800 : Int) < (s.size : Int) := by omega
            subst e0
            go_wp2
            go_roundg 1
            case measure => omega
            case rel => exact ⟨by simp, hide (by have HX := HX.out; repeat (first | exact HX | refine Ext.alloc ?_ _ | refine Ext.setCell ?_ (by first | (simp; done) | (simp; omega) | (have := HX.sizes; simp; omega)) _))⟩
    · go_wp2
      go_ret
      exact ⟨rfl, HX.out⟩
end Go.Proofs.YtkockmpncocjhaaDoor
