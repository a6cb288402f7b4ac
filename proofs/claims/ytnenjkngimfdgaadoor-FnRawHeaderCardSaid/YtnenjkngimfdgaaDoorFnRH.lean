/-
  The walk of laws.FnRawHeader.
-/
import Derived.Test.YtnenjkngimfdgaaDoorRawR
namespace Go.Proofs.YtnenjkngimfdgaaDoor
open Go.RowKit
set_option linter.unusedVariables false
set_option linter.unusedSimpArgs false

theorem byte_str (c : UInt8) (z : Int) (hz : z = c.toNat) (W : World) : (convert 38 9 (.slice (some ⟨W.heap.size, 0, none⟩) 1 1)).run Tryd.prog (W.alloc (.cells #[.int .u8 z] 5)) = .ok (.string ⟨#[c]⟩) (W.alloc (.cells #[.int .u8 z] 5)) := by
  subst hz
  have hR : RBytes (W.alloc (.cells #[.int .u8 (c.toNat : Nat)] 5)) (some ⟨W.heap.size, 0, none⟩) [c] := rbytes_blk (Blk.new W _ _) (fun j hj => by
    have : j = 0 := by simp at hj; omega
    subst this
    rfl)
  have h2 := run_string_n (P := Tryd.prog) _ _ _ _ Tryd.underlying38 Tryd.underlying5 Tryd.underlying9 1 1 rfl hR
  rw [h2]
set_option maxRecDepth 100000 in
set_option maxHeartbeats 1000000 in
theorem rh_good (c : UInt8) (tail : ByteArray) (w : World) (hp : Pfx c) (ht : tail.size ≤ 500) :
    Calls Tryd.prog 5 #[.int .i64 (c.toNat : Nat), .string tail] w fun e w' => e = .returned (.bool true) ∧ Ext w w' := by
  have RR : Hid (∀ W s, s.data.toList = c :: 63 :: 13 :: 10 :: tail.data.toList → Calls Tryd.prog 14 #[.string s] W fun e w' => e = .returned (.tuple #[.string ⟨(hdr c).toArray⟩, .int .i64 (tail.size : Nat), .int .i64 0]) ∧ Ext W w') := hide fun W s hs => by
    have h := rawRead_any c tail.data.toList s W hp hs (by rw [size_data]; omega)
    rw [size_data] at h
    exact h
  have RT : Hid (∀ W, Calls Tryd.prog 15 #[.string ⟨(hdr c).toArray⟩] W fun e w' => e = .returned (.tuple #[.bool false, .bool false, .bool true, .bool true]) ∧ Ext W w') := hide fun W => rawTells_any c _ W hp rfl
  have hz1 : ¬ (2147483647 : Int) < (tail.size : Int) := by omega
  have hz2 : ¬ (500 : Int) < (tail.size : Int) := by omega
  have hz1b : decide ((2147483647 : Int) < (tail.size : Int)) = false := decide_eq_false hz1
  have hz2b : decide ((500 : Int) < (tail.size : Int)) = false := decide_eq_false hz2
  obtain ⟨WR, hWR⟩ : ∃ WR : ByteArray, WR = ⟨(hdr c).toArray⟩ := ⟨_, rfl⟩
  have hcat : (⟨#[c]⟩ ++ ⟨#[63, 13, 10]⟩ : ByteArray) = WR := by
    rw [hWR]
    apply ByteArray.ext
    simp [hdr]
  rw [← hWR] at RR RT
  have HWR := hide (show WR.data.toList = hdr c by rw [hWR])
  have hws : WR.size = 4 := by rw [hWR]; rfl
  clear hWR
  rcases hp with rfl | rfl | rfl | rfl | rfl
  · have BS := byte_str 36 36 rfl w
    go_enter Tryd.func5, Tryd.ntmps5
    go_wp2_with fail
    refine (RR.out _ _ ?_).mono ?_
    · first | (rw [ByteArray.data_append, Array.toList_append, HWR.out]; rfl) | (simp [ByteArray.data_append, HWR.out, hdr])
    rintro e w2 ⟨rfl, hx2⟩
    have HX2 := hide hx2
    clear RR hx2
    go_wp2_with fail
    refine (RT.out _).mono ?_
    rintro e w3 ⟨rfl, hx3⟩
    have HX := hide (((Ext.refl w).alloc (.cells #[.int .u8 36] 5)).trans (HX2.out.trans hx3))
    clear RT hx3 HX2
    go_wp2
    go_ret
    exact ⟨by first | rfl | simp, HX.out⟩
  · have BS := byte_str 42 42 rfl w
    go_enter Tryd.func5, Tryd.ntmps5
    go_wp2_with fail
    refine (RR.out _ _ ?_).mono ?_
    · first | (rw [ByteArray.data_append, Array.toList_append, HWR.out]; rfl) | (simp [ByteArray.data_append, HWR.out, hdr])
    rintro e w2 ⟨rfl, hx2⟩
    have HX2 := hide hx2
    clear RR hx2
    go_wp2_with fail
    refine (RT.out _).mono ?_
    rintro e w3 ⟨rfl, hx3⟩
    have HX := hide (((Ext.refl w).alloc (.cells #[.int .u8 42] 5)).trans (HX2.out.trans hx3))
    clear RT hx3 HX2
    go_wp2
    go_ret
    exact ⟨by first | rfl | simp, HX.out⟩
  · have BS := byte_str 37 37 rfl w
    go_enter Tryd.func5, Tryd.ntmps5
    go_wp2_with fail
    refine (RR.out _ _ ?_).mono ?_
    · first | (rw [ByteArray.data_append, Array.toList_append, HWR.out]; rfl) | (simp [ByteArray.data_append, HWR.out, hdr])
    rintro e w2 ⟨rfl, hx2⟩
    have HX2 := hide hx2
    clear RR hx2
    go_wp2_with fail
    refine (RT.out _).mono ?_
    rintro e w3 ⟨rfl, hx3⟩
    have HX := hide (((Ext.refl w).alloc (.cells #[.int .u8 37] 5)).trans (HX2.out.trans hx3))
    clear RT hx3 HX2
    go_wp2
    go_ret
    exact ⟨by first | rfl | simp, HX.out⟩
  · have BS := byte_str 126 126 rfl w
    go_enter Tryd.func5, Tryd.ntmps5
    go_wp2_with fail
    refine (RR.out _ _ ?_).mono ?_
    · first | (rw [ByteArray.data_append, Array.toList_append, HWR.out]; rfl) | (simp [ByteArray.data_append, HWR.out, hdr])
    rintro e w2 ⟨rfl, hx2⟩
    have HX2 := hide hx2
    clear RR hx2
    go_wp2_with fail
    refine (RT.out _).mono ?_
    rintro e w3 ⟨rfl, hx3⟩
    have HX := hide (((Ext.refl w).alloc (.cells #[.int .u8 126] 5)).trans (HX2.out.trans hx3))
    clear RT hx3 HX2
    go_wp2
    go_ret
    exact ⟨by first | rfl | simp, HX.out⟩
  · have BS := byte_str 62 62 rfl w
    go_enter Tryd.func5, Tryd.ntmps5
    go_wp2_with fail
    refine (RR.out _ _ ?_).mono ?_
    · first | (rw [ByteArray.data_append, Array.toList_append, HWR.out]; rfl) | (simp [ByteArray.data_append, HWR.out, hdr])
    rintro e w2 ⟨rfl, hx2⟩
    have HX2 := hide hx2
    clear RR hx2
    go_wp2_with fail
    refine (RT.out _).mono ?_
    rintro e w3 ⟨rfl, hx3⟩
    have HX := hide (((Ext.refl w).alloc (.cells #[.int .u8 62] 5)).trans (HX2.out.trans hx3))
    clear RT hx3 HX2
    go_wp2
    go_ret
    exact ⟨by first | rfl | simp, HX.out⟩
set_option maxRecDepth 100000 in
theorem rh_big (kind : Int) (tail : ByteArray) (w : World) (h : ¬ tail.size ≤ 2147483647) :
    Calls Tryd.prog 5 #[.int .i64 kind, .string tail] w fun e w' => e = .returned (.bool true) ∧ Ext w w' := by
  have hz : (2147483647 : Int) < (tail.size : Int) := by omega
  clear h
  go_enter Tryd.func5, Tryd.ntmps5
  go_wp2
  go_ret
  exact ⟨rfl, Ext.refl w⟩
set_option maxRecDepth 100000 in
theorem rh_kind (kind : Int) (tail : ByteArray) (w : World) (h : tail.size ≤ 2147483647) (h1 : kind ≠ 36) (h2 : kind ≠ 42) (h3 : kind ≠ 37) (h4 : kind ≠ 126) (h5 : kind ≠ 62) :
    Calls Tryd.prog 5 #[.int .i64 kind, .string tail] w fun e w' => e = .returned (.bool true) ∧ Ext w w' := by
  have hz : ¬ (2147483647 : Int) < (tail.size : Int) := by omega
  have hzb : decide ((2147483647 : Int) < (tail.size : Int)) = false := decide_eq_false hz
  have g1 : (kind != 36) = true := by simp [h1]
  have g2 : (kind != 42) = true := by simp [h2]
  have g3 : (kind != 37) = true := by simp [h3]
  have g4 : (kind != 126) = true := by simp [h4]
  have g5 : (kind != 62) = true := by simp [h5]
  clear h
  go_enter Tryd.func5, Tryd.ntmps5
  go_wp2
  go_ret
  exact ⟨rfl, Ext.refl w⟩
set_option maxRecDepth 100000 in
theorem rh_long (c : UInt8) (tail : ByteArray) (w : World) (hp : Pfx c) (h : tail.size ≤ 2147483647) (h2 : ¬ tail.size ≤ 500) :
    Calls Tryd.prog 5 #[.int .i64 (c.toNat : Nat), .string tail] w fun e w' => e = .returned (.bool true) ∧ Ext w w' := by
  have hz : ¬ (2147483647 : Int) < (tail.size : Int) := by omega
  have hzb : decide ((2147483647 : Int) < (tail.size : Int)) = false := decide_eq_false hz
  have hz2 : (500 : Int) < (tail.size : Int) := by omega
  have hz2b : decide ((500 : Int) < (tail.size : Int)) = true := decide_eq_true hz2
  clear h h2
  rcases hp with rfl | rfl | rfl | rfl | rfl
  all_goals
    go_enter Tryd.func5, Tryd.ntmps5
    go_wp2
    go_ret
    exact ⟨rfl, Ext.refl w⟩
theorem rh_set (c : UInt8) (tail : ByteArray) (w : World) (hp : Pfx c) (h : tail.size ≤ 2147483647) :
    Calls Tryd.prog 5 #[.int .i64 (c.toNat : Nat), .string tail] w fun e w' => e = .returned (.bool true) ∧ Ext w w' := by
  by_cases h2 : tail.size ≤ 500
  · exact rh_good c tail w hp h2
  · exact rh_long c tail w hp h h2
theorem fnRawHeader_walk (kind : Int) (tail : ByteArray) (_h1 : (Lit.int .i64 kind).wf = true) (_h2 : tail.size ≤ maxLen) (w : World) :
    Calls Tryd.prog 5 #[.int .i64 kind, .string tail] w fun e w' => e = .returned (.bool true) ∧ Below w.heap.size w w' := by
  suffices h : Calls Tryd.prog 5 #[.int .i64 kind, .string tail] w fun e w' => e = .returned (.bool true) ∧ Ext w w' from h.mono fun e w' ⟨h1, h2⟩ => ⟨h1, h2.below⟩
  by_cases hb : tail.size ≤ 2147483647
  · by_cases h1 : kind = 36
    · subst h1; exact rh_set 36 tail w (.inl rfl) hb
    · by_cases h2 : kind = 42
      · subst h2; exact rh_set 42 tail w (.inr (.inl rfl)) hb
      · by_cases h3 : kind = 37
        · subst h3; exact rh_set 37 tail w (.inr (.inr (.inl rfl))) hb
        · by_cases h4 : kind = 126
          · subst h4; exact rh_set 126 tail w (.inr (.inr (.inr (.inl rfl)))) hb
          · by_cases h5 : kind = 62
            · subst h5; exact rh_set 62 tail w (.inr (.inr (.inr (.inr rfl)))) hb
            · exact rh_kind kind tail w hb h1 h2 h3 h4 h5
  · exact rh_big kind tail w hb
end Go.Proofs.YtnenjkngimfdgaaDoor
