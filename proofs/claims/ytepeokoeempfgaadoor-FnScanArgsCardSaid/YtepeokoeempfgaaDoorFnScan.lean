/-
  The walk of laws.FnScanArgs: how a scan is asked for.
-/
import Derived.Test.YtepeokoeempfgaaDoorSpecScan
import Derived.Test.YtepeokoeempfgaaDoorTexts
namespace Go.Proofs.YtepeokoeempfgaaDoor
open Go.RowKit
set_option linter.unusedVariables false
set_option linter.unusedSimpArgs false

/-- The greatest of two. -/
def mx (x y : Int) : Int := if x < y then y else x
theorem mx_le (x y b : Int) : mx x y ≤ b ↔ x ≤ b ∧ y ≤ b := by unfold mx; split <;> omega
theorem max2_mx (x y : Int) : Builtin.max2 (.int .i64 x) (.int .i64 y) = pure (.int .i64 (mx x y)) := by simp only [Builtin.max2, gt_iff_lt, mx]
theorem run_max5 {P : Program} (ats : Array TypeId) (ty : TypeId) (x0 x1 x2 x3 x4 : Int) (w : World) :
    (Builtin.max_ ats ty #[.int .i64 x0, .int .i64 x1, .int .i64 x2, .int .i64 x3, .int .i64 x4]).run P w = .ok (.int .i64 (mx (mx (mx (mx x0 x1) x2) x3) x4)) w := by
  simp [Builtin.max_, List.foldlM_cons, List.foldlM_nil, max2_mx, Sem.run_bind, Sem.run_pure, Result.andThen]

set_option maxRecDepth 100000 in
set_option maxHeartbeats 4000000 in
theorem fnScanArgs_walk (c k pt : ByteArray) (n : Int) (ty cur : ByteArray) (z0 : c.size ≤ maxLen) (z1 : k.size ≤ maxLen) (z2 : pt.size ≤ maxLen) (h0 : -9223372036854775808 ≤ n) (h1 : n ≤ 9223372036854775807) (z3 : ty.size ≤ maxLen) (z4 : cur.size ≤ maxLen) (w : World) (hT : TabsU w) (hP : TabP w) :
    Calls Tryd.prog 5 #[.agg #[.string c, .string k, .string pt, .int .i64 n, .string ty], .string cur] w fun e w' => e = .returned (.bool true) ∧ Below w.heap.size w w' := by
  unfold maxLen at z0 z1 z2 z3 z4
  have FI : Hid (∀ w, Calls Tryd.prog 14 #[.agg #[.string c, .string k, .string pt, .int .i64 n, .string ty]] w fun e w' => e = .returned (.bool (fits20B c k pt ty)) ∧ Ext w w') := hide (fits20_any c k pt n ty)
  cases hF : fits20B c k pt ty with
  | false =>
    rw [hF] at FI
    clear hT hP
    go_enter Tryd.func5, Tryd.ntmps5
    go_wp2_with fail
    refine (FI.out _).mono ?_
    rintro e w1 ⟨rfl, hx⟩
    have HX : Hid (Ext w w1) := hide (((Ext.refl w).alloc _).trans hx)
    clear hx
    go_wp2
    go_ret
    exact ⟨rfl, HX.out⟩
  | true =>
    rw [hF] at FI
    have hf : (c.size : Int) ≤ 2147483647 ∧ (k.size : Int) ≤ 2147483647 ∧ (pt.size : Int) ≤ 2147483647 ∧ (ty.size : Int) ≤ 2147483647 := by
      unfold fits20B at hF
      simp only [Bool.and_eq_true, decide_eq_true_eq] at hF
      exact ⟨hF.1.1.1, hF.1.1.2, hF.1.2, hF.2⟩
    by_cases hC : 2147483647 < (cur.size : Int)
    · have d1 := decide_eq_true hC
      clear hT hP hF
      go_enter Tryd.func5, Tryd.ntmps5
      go_wp2_with fail
      refine (FI.out _).mono ?_
      rintro e w1 ⟨rfl, hx⟩
      have HX : Hid (Ext w w1) := hide (((Ext.refl w).alloc _).trans hx)
      clear hx
      go_wp2
      go_ret
      exact ⟨rfl, HX.out⟩
    · have d1 := decide_eq_false hC
      obtain ⟨f1, f2, f3, f4⟩ := hf
      have hmax : Hid (∀ w, (Builtin.max_ #[3, 3, 3, 3, 3] 3 #[.int .i64 c.size, .int .i64 k.size, .int .i64 pt.size, .int .i64 ty.size, .int .i64 cur.size]).run Tryd.prog w = .ok (.int .i64 (mx (mx (mx (mx c.size k.size) pt.size) ty.size) cur.size)) w) := hide fun w => run_max5 _ _ _ _ _ _ _ w
      have AS : Hid (∀ w, Calls Tryd.prog 15 #[.string c] w fun e w' => e = .returned (.bool (asciiB c.data.toList)) ∧ w = w') := hide fun w => ascii_any c w (by omega)
      by_cases hM : mx (mx (mx (mx (c.size : Int) k.size) pt.size) ty.size) cur.size ≤ 200
      · have hM2 : ¬ 200 < mx (mx (mx (mx (c.size : Int) k.size) pt.size) ty.size) cur.size := by omega
        have hM3 : c.size ≤ 200 ∧ k.size ≤ 200 ∧ pt.size ≤ 200 ∧ ty.size ≤ 200 ∧ cur.size ≤ 200 := by
          simp only [mx_le] at hM
          omega
        generalize mx (mx (mx (mx (c.size : Int) k.size) pt.size) ty.size) cur.size = M at hM hM2 hmax
        have d2 := decide_eq_false hM2
        cases hA : asciiB c.data.toList with
        | false =>
          rw [hA] at AS
          clear hF hT hP hA
          go_enter Tryd.func5, Tryd.ntmps5
          go_wp2_with fail
          refine (FI.out _).mono ?_
          rintro e w1 ⟨rfl, hx⟩
          have HX : Hid (Ext w w1) := hide (((Ext.refl w).alloc _).trans hx)
          have HB : Hid (Blk w1 w.heap.size 36 #[.string c, .string k, .string pt, .int .i64 n, .string ty]) := hide ((Blk.new w 36 #[.string c, .string k, .string pt, .int .i64 n, .string ty]).chg (Chg.of_ext hx []) (by simp))
          have q0 := HB.out.cell 0
          have q1 := HB.out.cell 1
          have q2 := HB.out.cell 2
          have q3 := HB.out.cell 3
          have q4 := HB.out.cell 4
          simp at q0 q1 q2 q3 q4
          have hm := hmax.out w1
          clear hx FI
          go_wp2_with fail
          refine (AS.out _).mono ?_
          rintro e w2 ⟨rfl, rfl⟩
          go_wp2
          go_ret
          exact ⟨rfl, HX.out⟩
        | true =>
          rw [hA] at AS
          have IS : Hid (∀ w1, Ext w w1 → Calls Tryd.prog 16 #[.agg #[.string c, .string k, .string pt, .int .i64 n, .string ty], .string cur] w1 fun e w' => ∃ A' cap, e = .returned (.tuple #[.string (scanC c), .slice A' (l5 ((scanC c).toList == [83, 67, 65, 78]) k cur pt n ty).length cap, .bool true]) ∧ RS w' A' (l5 ((scanC c).toList == [83, 67, 65, 78]) k cur pt n ty) ∧ Ext w1 w') := hide fun w1 hx =>
            (implScan_any c k pt n ty cur h0 h1 (by omega) hA ⟨by omega, by omega, by omega, by omega⟩ w1 (hT.ext hx) (hP.ext hx)).mono fun e w' ⟨A', cap, a, b, d, _⟩ => ⟨A', cap, a, b, d⟩
          have SS : Hid (∀ w1, Calls Tryd.prog 17 #[.agg #[.string c, .string k, .string pt, .int .i64 n, .string ty], .string cur] w1 fun e w' => ∃ A' cap, e = .returned (.tuple #[.string (scanC c), .slice A' (l5 ((scanC c).toList == [83, 67, 65, 78]) k cur pt n ty).length cap]) ∧ RS w' A' (l5 ((scanC c).toList == [83, 67, 65, 78]) k cur pt n ty) ∧ Ext w1 w') := hide fun w1 =>
            specScan_any c k pt n ty cur h1 (by omega) w1
          have hkl := l5_length ((scanC c).toList == [83, 67, 65, 78]) k cur pt n ty
          generalize l5 ((scanC c).toList == [83, 67, 65, 78]) k cur pt n ty = L at IS SS hkl
          generalize scanC c = U at IS SS
          clear hF hT hP hA h0 h1
          go_enter Tryd.func5, Tryd.ntmps5
          go_wp2_with fail
          refine (FI.out _).mono ?_
          rintro e w1 ⟨rfl, hx⟩
          have HX : Hid (Ext w w1) := hide (((Ext.refl w).alloc _).trans hx)
          have HB : Hid (Blk w1 w.heap.size 36 #[.string c, .string k, .string pt, .int .i64 n, .string ty]) := hide ((Blk.new w 36 #[.string c, .string k, .string pt, .int .i64 n, .string ty]).chg (Chg.of_ext hx []) (by simp))
          have q0 := HB.out.cell 0
          have q1 := HB.out.cell 1
          have q2 := HB.out.cell 2
          have q3 := HB.out.cell 3
          have q4 := HB.out.cell 4
          simp at q0 q1 q2 q3 q4
          have hm := hmax.out w1
          clear hx FI
          go_wp2_with fail
          refine (AS.out _).mono ?_
          rintro e w2 ⟨rfl, rfl⟩
          clear AS hmax hm
          go_wp2_with fail
          refine (IS.out _ HX.out).mono ?_
          rintro e w2 ⟨A1, c1, rfl, hR1, hx2⟩
          have HX2 := hide (And.intro (HX.out.trans hx2) hR1)
          have HB2 := hide (HB.out.chg (Chg.of_ext hx2 []) (by simp))
          clear q0 q1 q2 q3 q4 hx2 hR1 HX HB IS
          have q0 := HB2.out.cell 0
          have q1 := HB2.out.cell 1
          have q2 := HB2.out.cell 2
          have q3 := HB2.out.cell 3
          have q4 := HB2.out.cell 4
          simp at q0 q1 q2 q3 q4
          go_wp2_with fail
          refine (SS.out _).mono ?_
          rintro e w3 ⟨A2, c2, rfl, hR2, hx3⟩
          have SA : Hid (Calls Tryd.prog 11 #[.slice A1 L.length c1, .slice A2 L.length c2] w3 fun e w' => e = .returned (.bool true) ∧ w3 = w') := hide (same_any A1 A2 L.length c1 c2 L w3 (HX2.out.2.ext hx3) hR2 rfl (by omega))
          have HE : Hid (Ext w w3) := hide (HX2.out.1.trans hx3)
          clear hx3 hR2 SS HX2 HB2
          go_wp2_with fail
          refine SA.out.mono ?_
          rintro e w4 ⟨rfl, rfl⟩
          go_wp2
          go_ret
          exact ⟨rfl, HE.out⟩
      · have hM2 : 200 < mx (mx (mx (mx (c.size : Int) k.size) pt.size) ty.size) cur.size := by omega
        generalize mx (mx (mx (mx (c.size : Int) k.size) pt.size) ty.size) cur.size = M at hM hM2 hmax
        have d2 := decide_eq_true hM2
        clear hF hT hP hM AS
        go_enter Tryd.func5, Tryd.ntmps5
        go_wp2_with fail
        refine (FI.out _).mono ?_
        rintro e w1 ⟨rfl, hx⟩
        have HX : Hid (Ext w w1) := hide (((Ext.refl w).alloc _).trans hx)
        have HB : Hid (Blk w1 w.heap.size 36 #[.string c, .string k, .string pt, .int .i64 n, .string ty]) := hide ((Blk.new w 36 #[.string c, .string k, .string pt, .int .i64 n, .string ty]).chg (Chg.of_ext hx []) (by simp))
        have q0 := HB.out.cell 0
        have q1 := HB.out.cell 1
        have q2 := HB.out.cell 2
        have q3 := HB.out.cell 3
        have q4 := HB.out.cell 4
        simp at q0 q1 q2 q3 q4
        have hm := hmax.out w1
        clear hx FI
        go_wp2
        go_ret
        exact ⟨rfl, HX.out⟩
end Go.Proofs.YtepeokoeempfgaaDoor
