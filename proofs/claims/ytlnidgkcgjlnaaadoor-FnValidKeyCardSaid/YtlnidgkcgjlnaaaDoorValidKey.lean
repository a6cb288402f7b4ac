/-
  validMeasurementOrKey: its contract.
-/
import Derived.Test.YtlnidgkcgjlnaaaDoorKeyRight
namespace Go.Proofs.YtlnidgkcgjlnaaaDoor
open Go.Lib
open Go.RowKit
set_option linter.unusedVariables false
set_option linter.unusedSimpArgs false

def Tabs (w : World) : Prop := Lib.Utf8Tabs (Tryd.laysValid_ren.g 3) (Tryd.laysValid_ren.g 4) w
theorem Tabs.ext {w w' : World} (h : Tabs w) (hx : Ext w w') : Tabs w' := by
  unfold Tabs Lib.Utf8Tabs at *
  exact ⟨fun c hc => hx.cellOf (h.1 c hc), fun i hi => ⟨hx.cellOf (h.2 i hi).1, hx.cellOf (h.2 i hi).2⟩⟩

theorem np_odd (b : UInt8) : fNonPrint b.toNat = oddB b := by
  have h : ((List.range 256).all fun i => fNonPrint i == (decide (i < 32) || decide (i = 127))) = true := by decide +kernel
  have := List.all_eq_true.1 h b.toNat (List.mem_range.2 (by have := b.toNat_lt; omega))
  unfold oddB
  simpa using this

set_option maxRecDepth 100000 in
set_option maxHeartbeats 1000000 in
theorem validKey_any (s : ByteArray) (w : World) (hs : s.size ≤ 100000) (hT : Tabs w) :
    Calls Tryd.prog 21 #[.string s] w fun e w' => e = .returned (.bool (keyOk s)) ∧ Ext w w' := by
  generalize hV : keyOk s = V
  have HV := hide hV
  have HU : Hid (∀ w', Ext w w' → Calls Tryd.prog 22 #[.string s] w' fun e w'' => e = .returned (.bool (validD s.data.toList)) ∧ Ext w' w'') := hide fun w' hx =>
    Any.utf8_ValidString Tryd.laysValid s w' (by omega) (hT.ext hx)
  clear hV hT
  by_cases hz : s = ByteArray.empty
  · have HE2 : Hid (V = false) := hide (by rw [← HV.out, hz]; rfl)
    clear HV HU
    subst hz
    go_enter Tryd.func21, Tryd.ntmps21
    go_wp2
    go_ret
    exact ⟨by rw [HE2.out]; rfl, Ext.refl _⟩
  · have hpos : 0 < s.size := by
      rcases Nat.eq_zero_or_pos s.size with h | h
      · exact absurd (ByteArray.ext (Array.eq_empty_of_size_eq_zero h)) hz
      · exact h
    have hne : s.toList.isEmpty = false := by
      rw [ByteArray.toList_eq]
      cases hq : s.data.toList with
      | nil => have := size_data s; rw [hq] at this; simp at this; omega
      | cons _ _ => rfl
    have HVV : Hid (V = (!(s.data.toList.any oddB) && (validD s.data.toList && decide (s.data.toList.getD (s.size - 1) 0 ≠ 92)))) := hide (by
      rw [← HV.out]; unfold keyOk; rw [decide_eq_true hpos]; rfl)
    clear HV
    generalize validD s.data.toList = U at HU HVV
    cases U
    · have HE : Hid (V = false) := hide (by rw [HVV.out]; simp)
      clear HVV
      go_enter Tryd.func21, Tryd.ntmps21
      go_wp2_with fail
      refine (HU.out _ (Ext.refl w)).mono ?_
      rintro e w1 ⟨rfl, hx⟩
      have X1 := hide hx
      clear hx
      go_wp2
      go_ret
      exact ⟨by rw [HE.out]; rfl, X1.out⟩
    · go_enter Tryd.func21, Tryd.ntmps21
      go_wp2_with fail
      refine (HU.out _ (Ext.refl w)).mono ?_
      rintro e w1 ⟨rfl, hx⟩
      have X1 := hide hx
      clear hx
      go_wp2_with fail
      go_loopw [3] (fun s3 wr => ∃ i : Nat, i ≤ s.size ∧ s3 = .int .i64 i ∧ Hid ((s.data.toList.take i).any oddB = false) ∧ Hid (Ext w wr)) (fun s3 _ => s.size - (Go.RowKit.intOf s3).toNat)
      case atStart => exact ⟨0, by omega, rfl, hide (by simp), X1⟩
      case round =>
        obtain ⟨i, hi, rfl, HI, HX⟩ := hrel
        by_cases hlt : i < s.size
        · have HN := hide (any_take_succ s i hlt)
          have hb := s[i].toNat_lt
          have HG := hide (fun (w : World) (g : Nat) (h : SetAt w g fNonPrint) => get_any w g fNonPrint s[i] h)
          rw [np_odd] at HG
          cases ho : oddB s[i]
          · rw [ho] at HG
            have HN2 : Hid ((s.data.toList.take (i + 1)).any oddB = false) := hide (by rw [HN.out, HI.out, ho]; rfl)
            clear HN ho HVV HU HI
            go_upto_region 8 with fail
            go_region_with (first
              | (go_at_call 23; refine (fNonPrint_any _).mono ?_; rintro e w2 ⟨g2, rfl, hx2, hs2⟩; have X2 := hide hx2; have S2 := hide hs2; clear hx2 hs2)
              | (go_at_call 24; refine (HG.out _ _ S2.out).mono ?_; rintro e w3 ⟨rfl, hx3⟩; have X3 := hide hx3; clear hx3))
            all_goals
              have HY := hide ((HX.out.drew.trans X2.out).trans X3.out)
              clear X2 X3 S2 HX HG
              go_wp2
              go_roundw
              case rel => exact ⟨i + 1, by omega, by go_num, HN2, HY⟩
              case measure => simp [Go.RowKit.intOf]; omega
          · rw [ho] at HG
            have HE : Hid (V = false) := hide (by
              rw [HVV.out]
              have : s.data.toList.any oddB = true := List.any_eq_true.2 ⟨s[i], List.mem_iff_getElem.2 ⟨i, by rw [size_data]; exact hlt, rfl⟩, ho⟩
              rw [this]; rfl)
            clear HN ho HVV HU HI
            go_upto_region 8 with fail
            go_region_with (first
              | (go_at_call 23; refine (fNonPrint_any _).mono ?_; rintro e w2 ⟨g2, rfl, hx2, hs2⟩; have X2 := hide hx2; have S2 := hide hs2; clear hx2 hs2)
              | (go_at_call 24; refine (HG.out _ _ S2.out).mono ?_; rintro e w3 ⟨rfl, hx3⟩; have X3 := hide hx3; clear hx3))
            all_goals
              have HY := hide ((HX.out.drew.trans X2.out).trans X3.out)
              clear X2 X3 S2 HX HG
              go_wp2
              go_ret
              exact ⟨by rw [HE.out]; rfl, HY.out⟩
        · have hA : s.data.toList.any oddB = false := by
            have h := HI.out
            rwa [List.take_of_length_le (by rw [size_data]; omega)] at h
          have hl : s.size - 1 < s.size := by omega
          have hgd := getD_data s (s.size - 1) hl
          have hlb : s[s.size - 1].toNat < 256 := s[s.size - 1].toNat_lt
          have HE3 : Hid (V = (!decide (s[s.size - 1].toNat = 92))) := hide (by
            rw [HVV.out, hA, hgd]
            have : decide (s[s.size - 1] ≠ 92) = !decide (s[s.size - 1].toNat = 92) := by
              by_cases h : s[s.size - 1] = 92
              · simp [h]
              · have : ¬ s[s.size - 1].toNat = 92 := fun e => h (UInt8.toNat_inj.1 e)
                simp [h, this]
            rw [this]; rfl)
          clear HVV hgd HI hA
          have hsub : (s.size : Int) - 1 = ((s.size - 1 : Nat) : Int) := by omega
          have e92 : ((s[s.size - 1].toNat : Int) == 92) = decide (s[s.size - 1].toNat = 92) := by
            by_cases h : s[s.size - 1].toNat = 92 <;> simp [h]; omega
          cases hdd : decide (s[s.size - 1].toNat = 92)
          all_goals
            rw [hdd] at e92 HE3
            clear hdd
            go_wp2
            go_ret
            exact ⟨by rw [HE3.out]; rfl, HX.out⟩
end Go.Proofs.YtlnidgkcgjlnaaaDoor
