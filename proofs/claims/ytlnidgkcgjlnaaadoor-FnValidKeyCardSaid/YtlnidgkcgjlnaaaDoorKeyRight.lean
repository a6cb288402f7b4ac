/-
  validMeasurementOrKey and spec.KeyRight: contracts.
-/
import Derived.Test.YtlnidgkcgjlnaaaDoorSpecUtf8
import Derived.Test.YtlnidgkcgjlnaaaDoorNamedNP
import Derived.Test.YtlnidgkcgjlnaaaDoorShelf
namespace Go.Proofs.YtlnidgkcgjlnaaaDoor
open Go.Lib
open Go.RowKit
set_option linter.unusedVariables false
set_option linter.unusedSimpArgs false

def oddB (b : UInt8) : Bool := decide (b.toNat < 32) || decide (b.toNat = 127)
/-- What a key must be. -/
def keyOk (s : ByteArray) : Bool := !(s.data.toList.any oddB) && (decide (0 < s.size) && (validD s.data.toList && decide (s.data.toList.getD (s.size - 1) 0 ≠ 92)))

theorem any_take_succ (s : ByteArray) (k : Nat) (h : k < s.size) : (s.data.toList.take (k + 1)).any oddB = ((s.data.toList.take k).any oddB || oddB s[k]) := by
  rw [take_snoc_s s k h]; simp

theorem specOdd_any (b : UInt8) (w : World) : Calls Tryd.prog 18 #[.int .u8 b.toNat] w fun e w' => e = .returned (.bool (oddB b)) ∧ Ext w w' := by
  have hb := b.toNat_lt
  generalize hv : oddB b = v
  have HV : Hid (v = (decide (b.toNat < 32) || decide (b.toNat = 127))) := hide (by rw [← hv]; rfl)
  clear hv
  by_cases h1 : b.toNat < 32
  · have d1 : decide ((b.toNat : Int) < 32) = true := decide_eq_true (by omega)
    have HE : Hid (v = true) := hide (by rw [HV.out]; simp [h1])
    go_enter Tryd.func18, Tryd.ntmps18
    go_wp2
    go_ret
    exact ⟨by rw [HE.out]; rfl, Ext.refl _⟩
  · have d1 : decide ((b.toNat : Int) < 32) = false := decide_eq_false (by omega)
    have e1 : ((b.toNat : Int) == 127) = decide (b.toNat = 127) := by by_cases h : b.toNat = 127 <;> simp [h]; omega
    have HE : Hid (v = decide (b.toNat = 127)) := hide (by rw [HV.out]; simp [h1])
    clear h1
    generalize decide (b.toNat = 127) = d at e1 HE
    go_enter Tryd.func18, Tryd.ntmps18
    go_wp2
    go_ret
    exact ⟨by rw [HE.out]; rfl, Ext.refl _⟩

set_option maxRecDepth 100000 in
set_option maxHeartbeats 1000000 in
theorem keyRight_any (s : ByteArray) (w : World) (hs : s.size ≤ 100000) :
    Calls Tryd.prog 10 #[.string s] w fun e w' => e = .returned (.bool (keyOk s)) ∧ Ext w w' := by
  generalize hV : keyOk s = V
  have HV := hide hV
  have HU := hide (specUtf8_any s · hs)
  clear hV
  go_enter Tryd.func10, Tryd.ntmps10
  go_wp2_with fail
  go_loopw [3] (fun s3 wr => ∃ i : Nat, i ≤ s.size ∧ s3 = .int .i64 i ∧ Hid ((s.data.toList.take i).any oddB = false) ∧ Hid (Ext w wr)) (fun s3 _ => s.size - (Go.RowKit.intOf s3).toNat)
  case atStart => exact ⟨0, by omega, rfl, hide (by simp), hide (Ext.refl w)⟩
  case round =>
    obtain ⟨i, hi, rfl, HI, HX⟩ := hrel
    by_cases hlt : i < s.size
    · have HO := hide (specOdd_any s[i])
      have HN := hide (any_take_succ s i hlt)
      cases ho : oddB s[i]
      · rw [ho] at HO
        have HN2 : Hid ((s.data.toList.take (i + 1)).any oddB = false) := hide (by rw [HN.out, HI.out, ho]; rfl)
        clear ho HN
        go_wp2_with fail
        refine (HO.out _).mono ?_
        rintro e w1 ⟨rfl, hx⟩
        have X1 := hide (HX.out.trans hx)
        clear hx
        go_wp2
        go_roundw
        case rel => exact ⟨i + 1, by omega, by go_num, HN2, X1⟩
        case measure => simp [Go.RowKit.intOf]; omega
      · rw [ho] at HO
        have HE : Hid (V = false) := hide (by
          rw [← HV.out]
          have : s.data.toList.any oddB = true := List.any_eq_true.2 ⟨s[i], List.mem_iff_getElem.2 ⟨i, by rw [size_data]; exact hlt, rfl⟩, ho⟩
          unfold keyOk
          rw [this]; rfl)
        clear ho HN
        go_wp2_with fail
        refine (HO.out _).mono ?_
        rintro e w1 ⟨rfl, hx⟩
        have X1 := hide (HX.out.trans hx)
        clear hx
        go_wp2
        go_ret
        exact ⟨by rw [HE.out]; rfl, X1.out⟩
    · have hA : s.data.toList.any oddB = false := by
        have h := HI.out
        rwa [List.take_of_length_le (by rw [size_data]; omega)] at h
      have HE : Hid (V = (decide (0 < s.size) && (validD s.data.toList && decide (s.data.toList.getD (s.size - 1) 0 ≠ 92)))) := hide (by
        rw [← HV.out]; unfold keyOk; rw [hA]; rfl)
      clear hA
      generalize validD s.data.toList = U at HU HE
      by_cases hz : s = ByteArray.empty
      · have HE2 : Hid (V = false) := hide (by rw [HE.out, hz]; rfl)
        clear HE HI HU HV
        subst hz
        go_wp2
        go_ret
        exact ⟨by rw [HE2.out]; rfl, HX.out⟩
      · have hpos : 0 < s.size := by
          rcases Nat.eq_zero_or_pos s.size with h | h
          · exact absurd (ByteArray.ext (Array.eq_empty_of_size_eq_zero h)) hz
          · exact h
        have hl : s.size - 1 < s.size := by omega
        have hgd := getD_data s (s.size - 1) hl
        have hlb : s[s.size - 1].toNat < 256 := s[s.size - 1].toNat_lt
        have HE3 : Hid (V = (U && !decide (s[s.size - 1].toNat = 92))) := hide (by
          rw [HE.out, hgd]
          have : decide (s[s.size - 1] ≠ 92) = !decide (s[s.size - 1].toNat = 92) := by
            by_cases h : s[s.size - 1] = 92
            · simp [h]
            · have : ¬ s[s.size - 1].toNat = 92 := fun e => h (UInt8.toNat_inj.1 e)
              simp [h, this]
          rw [this, decide_eq_true hpos]; rfl)
        clear HE hgd HI HV
        have hsub : (s.size : Int) - 1 = ((s.size - 1 : Nat) : Int) := by omega
        have hne : s.toList.isEmpty = false := by
          rw [ByteArray.toList_eq]
          cases hq : s.data.toList with
          | nil => have := size_data s; rw [hq] at this; simp at this; omega
          | cons _ _ => rfl
        have e92 : ((s[s.size - 1].toNat : Int) != 92) = !decide (s[s.size - 1].toNat = 92) := by
          by_cases h : s[s.size - 1].toNat = 92 <;> simp [h]; omega
        generalize hdd : (!decide (s[s.size - 1].toNat = 92)) = dd at e92 HE3
        clear hdd
        go_wp2_with fail
        refine (HU.out _).mono ?_
        rintro e w1 ⟨rfl, hx⟩
        have X1 := hide (HX.out.trans hx)
        clear hx
        cases U
        · go_wp2
          go_ret
          exact ⟨by rw [HE3.out]; rfl, X1.out⟩
        · go_wp2
          go_ret
          exact ⟨by rw [HE3.out]; rfl, X1.out⟩
end Go.Proofs.YtlnidgkcgjlnaaaDoor
