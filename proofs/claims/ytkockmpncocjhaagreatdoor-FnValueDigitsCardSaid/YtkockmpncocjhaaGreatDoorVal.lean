/-
  lineprotocol.Value: its kind, its accessors.
-/
import Derived.Test.YtkockmpncocjhaaGreatDoorStrs
import Derived.Test.YtkockmpncocjhaaGreatDoorFloat
namespace Go.Proofs.YtkockmpncocjhaaGreatDoor
open Go.RowKit
set_option linter.unusedVariables false
set_option linter.unusedSimpArgs false

theorem frombits_ (n : Int) (w : World) : (callFunc 47 #[.int .u64 n]).run Tryz.prog w = .ok (Next.value (.float .f64 n.toNat)) w := by kernel_rfl
theorem bits_ (n : Nat) (w : World) : (callFunc 31 #[.float .f64 n]).run Tryz.prog w = .ok (Next.value (.int .u64 n)) w := by kernel_rfl
/-- A value of the package: its number, its bytes, its kind. -/
def lpV (num : Int) (A : Option Addr) (n c : Nat) (k : Int) : Value := .agg #[.int .u64 num, .slice A n c, .int .u8 k]

set_option maxRecDepth 100000 in
theorem kind_any (num : Int) (A : Option Addr) (n c : Nat) (k : Int) (w : World) (h0 : 0 ≤ k) (h1 : k ≤ 5) :
    Calls Tryz.prog 18 #[lpV num A n c k] w fun e w' => e = .returned (.int .u8 (if k = 0 then 1 else k)) ∧ Ext w w' := by
  unfold lpV
  by_cases hk : k = 0
  · subst hk
    go_enter Tryz.func18, Tryz.ntmps18
    go_wp2
    go_ret
    exact ⟨rfl, (Ext.refl w).alloc _⟩
  · rw [if_neg hk]
    go_enter Tryz.func18, Tryz.ntmps18
    go_wp2
    go_ret
    exact ⟨rfl, (Ext.refl w).alloc _⟩
set_option maxRecDepth 100000 in
theorem mustBe_any (num : Int) (A : Option Addr) (n c : Nat) (k j : Int) (w : World) (h0 : 0 ≤ k) (h1 : k ≤ 5) (hj : (if k = 0 then 1 else k) = j) :
    Calls Tryz.prog 46 #[lpV num A n c k, .int .u8 j] w fun e w' => e = .returned (.tuple #[]) ∧ Ext w w' := by
  have KK := hide (fun w => kind_any num A n c k w h0 h1)
  rw [hj] at KK
  clear hj
  unfold lpV at KK ⊢
  go_enter Tryz.func46, Tryz.ntmps46
  go_wp2_with fail
  refine (KK.out _).mono ?_
  rintro e w1 ⟨rfl, hx⟩
  have HX : Hid (Ext w w1) := hide (((Ext.refl w).alloc _).trans hx)
  clear hx KK
  go_wp2
  go_end0
  exact ⟨rfl, HX.out⟩
set_option maxRecDepth 100000 in
theorem intV_any (num : Int) (w : World) (h0 : 0 ≤ num) (h1 : num < 18446744073709551616) :
    Calls Tryz.prog 35 #[lpV num none 0 0 2] w fun e w' => e = .returned (.int .i64 (wrap64 num)) ∧ Ext w w' := by
  have MB := hide (fun w => mustBe_any num none 0 0 2 2 w (by decide) (by decide) rfl)
  unfold lpV at MB ⊢
  go_enter Tryz.func35, Tryz.ntmps35
  go_wp2_with fail
  refine (MB.out _).mono ?_
  rintro e w1 ⟨rfl, hx⟩
  have hb := (Blk.new w 35 #[.int .u64 num, .slice none 0 0, .int .u8 2]).chg (Chg.of_ext hx []) (by simp)
  have c0 := hb.cell 0
  simp at c0
  have HX : Hid (Ext w w1) := hide (((Ext.refl w).alloc _).trans hx)
  clear hx MB hb
  go_wp2
  go_ret
  exact ⟨by simp, HX.out⟩
-- GEN
set_option maxRecDepth 100000 in
theorem uintV_any (num : Int) (w : World) (h0 : 0 ≤ num) (h1 : num < 18446744073709551616) :
    Calls Tryz.prog 36 #[lpV num none 0 0 3] w fun e w' => e = .returned (.int .u64 num) ∧ Ext w w' := by
  have MB := hide (fun w => mustBe_any num none 0 0 3 3 w (by decide) (by decide) rfl)
  unfold lpV at MB ⊢
  go_enter Tryz.func36, Tryz.ntmps36
  go_wp2_with fail
  refine (MB.out _).mono ?_
  rintro e w1 ⟨rfl, hx⟩
  have hb := (Blk.new w 35 #[.int .u64 num, .slice none 0 0, .int .u8 3]).chg (Chg.of_ext hx []) (by simp)
  have c0 := hb.cell 0
  simp at c0
  have HX : Hid (Ext w w1) := hide (((Ext.refl w).alloc _).trans hx)
  clear hx MB hb
  go_wp2
  go_ret
  exact ⟨by first | rfl | simp, HX.out⟩
set_option maxRecDepth 100000 in
theorem floatV_any (num : Nat) (w : World) (h1 : num < 18446744073709551616) :
    Calls Tryz.prog 37 #[lpV num none 0 0 4] w fun e w' => e = .returned (.float .f64 num) ∧ Ext w w' := by
  have MB := hide (fun w => mustBe_any num none 0 0 4 4 w (by decide) (by decide) rfl)
  unfold lpV at MB ⊢
  have FB := frombits_ (num : Int)
  go_enter Tryz.func37, Tryz.ntmps37
  go_wp2_with fail
  refine (MB.out _).mono ?_
  rintro e w1 ⟨rfl, hx⟩
  have hb := (Blk.new w 35 #[.int .u64 num, .slice none 0 0, .int .u8 4]).chg (Chg.of_ext hx []) (by simp)
  have c0 := hb.cell 0
  simp at c0
  have HX : Hid (Ext w w1) := hide (((Ext.refl w).alloc _).trans hx)
  clear hx MB hb
  go_wp2
  go_ret
  exact ⟨by first | rfl | simp, HX.out⟩
set_option maxRecDepth 100000 in
theorem boolV_any (num : Int) (w : World) (h0 : 0 ≤ num) (h1 : num < 18446744073709551616) :
    Calls Tryz.prog 38 #[lpV num none 0 0 5] w fun e w' => e = .returned (.bool (num != 0)) ∧ Ext w w' := by
  have MB := hide (fun w => mustBe_any num none 0 0 5 5 w (by decide) (by decide) rfl)
  unfold lpV at MB ⊢
  go_enter Tryz.func38, Tryz.ntmps38
  go_wp2_with fail
  refine (MB.out _).mono ?_
  rintro e w1 ⟨rfl, hx⟩
  have hb := (Blk.new w 35 #[.int .u64 num, .slice none 0 0, .int .u8 5]).chg (Chg.of_ext hx []) (by simp)
  have c0 := hb.cell 0
  simp at c0
  have HX : Hid (Ext w w1) := hide (((Ext.refl w).alloc _).trans hx)
  clear hx MB hb
  go_wp2
  go_ret
  exact ⟨by first | rfl | simp, HX.out⟩
set_option maxRecDepth 100000 in
theorem stringV_any (A : Option Addr) (n c : Nat) (s : ByteArray) (w : World) (hn : n = s.size) (hR : RBytes w A s.data.toList) (hs : s.size ≤ 1000000) :
    Calls Tryz.prog 34 #[lpV 0 A n c 0] w fun e w' => e = .returned (.string s) ∧ Ext w w' := by
  have MB := hide (fun w => mustBe_any 0 A n c 0 1 w (by decide) (by decide) rfl)
  have CV : Hid (∀ wx, Ext w wx → (convert 31 9 (.slice A n c)).run Tryz.prog wx = .ok (.string s) wx) := hide fun wx hx => by
    have h := run_string_n (P := Tryz.prog) wx _ _ _ Tryz.underlying31 Tryz.underlying5 Tryz.underlying9 (A := A) (l := s.data.toList) n c (by rw [Array.length_toList]; exact hn.symm) (hR.chg (Chg.of_ext hx []) (by simp))
    rw [h]
  clear hn hs
  unfold lpV at MB ⊢
  go_enter Tryz.func34, Tryz.ntmps34
  go_wp2_with fail
  refine (MB.out _).mono ?_
  rintro e w1 ⟨rfl, hx⟩
  have hb := (Blk.new w 35 #[.int .u64 0, .slice A n c, .int .u8 0]).chg (Chg.of_ext hx []) (by simp)
  have c1 := hb.cell 1
  simp at c1
  have HX : Hid (Ext w w1) := hide (((Ext.refl w).alloc _).trans hx)
  have cv := CV.out w1 HX.out
  clear hx MB hb CV hR
  go_wp2
  go_ret
  exact ⟨rfl, HX.out⟩
end Go.Proofs.YtkockmpncocjhaaGreatDoor
