/-
  spec.UTF8: its contract.
-/
import Derived.Test.YtkockmpncocjhaaDoorUtf8
import Derived.Deep.DeepCutAuto
import Derived.Deep.CutBlock
namespace Go.Proofs.YtkockmpncocjhaaDoor
open Go.Lib
open Go.RowKit
set_option linter.unusedVariables false
set_option linter.unusedSimpArgs false

theorem getD_data (s : ByteArray) (i : Nat) (h : i < s.size) : s.data.toList.getD i 0 = s[i] := by
  have h2 : i < s.data.toList.length := by rw [size_data]; exact h
  rw [List.getD_eq_getElem?_getD, List.getElem?_eq_getElem h2]; rfl

set_option maxRecDepth 100000 in
set_option maxHeartbeats 4000000 in
theorem specUtf8_any (s : ByteArray) (w : World) (hs : s.size ≤ 100000) :
    Calls Tryd.prog 17 #[.string s] w fun e w' => e = .returned (.bool (validD s.data.toList)) ∧ Ext w w' := by
  generalize hV : validD s.data.toList = V
  have HV := hide hV
  clear hV
  go_enter Tryd.func17, Tryd.ntmps17
  go_wp2_with fail
  go_loop [3] (fun s3 => ∃ i : Nat, i ≤ s.size ∧ s3 = .int .i64 i ∧ Hid (validD (s.data.toList.drop i) = V)) (fun s3 => s.size - (intOf s3).toNat)
  case atStart => exact ⟨0, by omega, rfl, hide (by simpa using HV.out)⟩
  case round =>
    obtain ⟨i, hi, rfl, HI⟩ := hrel
    by_cases hlt : i < s.size
    · have HB := hide (getD_data s i hlt)
      have hb := s[i].toNat_lt
      go_upto_block 2 with fail
      generalize hbb : s[i].toNat = b at hb HB ⊢
      have HBB : Hid ((s.data.toList.getD i 0).toNat = b) := hide (by rw [HB.out, hbb])
      clear HB
      have HL : Hid (i < s.data.toList.length) := hide (by rw [size_data]; exact hlt)
      clear hbb
      go_cut [4, 5, 6, 7] from 9 to 80 (fun s4 s5 s6 s7 wx => s4 = .int .u8 b ∧ s5 = .int .i64 (nOf b) ∧ s6 = .int .u8 (loOf b 1) ∧ s7 = .int .u8 (hiOf b 1) ∧ Hid (nOf b ≠ 9) ∧ wx = w)
      case first =>
        rcases (by omega : (b < 128) ∨ (194 ≤ b ∧ b ≤ 223) ∨ (b = 224) ∨ (225 ≤ b ∧ b ≤ 236) ∨ (b = 237) ∨ (238 ≤ b ∧ b ≤ 239) ∨ (b = 240) ∨ (241 ≤ b ∧ b ≤ 243) ∨ (b = 244) ∨ (128 ≤ b ∧ b ≤ 193) ∨ (245 ≤ b)) with hc | hc | hc | hc | hc | hc | hc | hc | hc | hc | hc
        · have HN : Hid (nOf b = 0 ∧ loOf b 1 = 128 ∧ hiOf b 1 = 191) := hide (by unfold nOf loOf hiOf; refine ⟨?_, ?_, ?_⟩ <;> (repeat' split) <;> omega)
          clear HI HBB HL HV
          go_wp2
          go_meet
          case rel => exact ⟨by first | rfl | (rw [hc]; rfl), by rw [HN.out.1]; rfl, by rw [HN.out.2.1]; rfl, by rw [HN.out.2.2]; rfl, hide (by rw [HN.out.1]; decide), rfl⟩
        · have HN : Hid (nOf b = 1 ∧ loOf b 1 = 128 ∧ hiOf b 1 = 191) := hide (by unfold nOf loOf hiOf; refine ⟨?_, ?_, ?_⟩ <;> (repeat' split) <;> omega)
          clear HI HBB HL HV
          go_wp2
          go_meet
          case rel => exact ⟨by first | rfl | (rw [hc]; rfl), by rw [HN.out.1]; rfl, by rw [HN.out.2.1]; rfl, by rw [HN.out.2.2]; rfl, hide (by rw [HN.out.1]; decide), rfl⟩
        · have HN : Hid (nOf b = 2 ∧ loOf b 1 = 160 ∧ hiOf b 1 = 191) := hide (by unfold nOf loOf hiOf; refine ⟨?_, ?_, ?_⟩ <;> (repeat' split) <;> omega)
          clear HI HBB HL HV
          go_wp2
          go_meet
          case rel => exact ⟨by first | rfl | (rw [hc]; rfl), by rw [HN.out.1]; rfl, by rw [HN.out.2.1]; rfl, by rw [HN.out.2.2]; rfl, hide (by rw [HN.out.1]; decide), rfl⟩
        · have HN : Hid (nOf b = 2 ∧ loOf b 1 = 128 ∧ hiOf b 1 = 191) := hide (by unfold nOf loOf hiOf; refine ⟨?_, ?_, ?_⟩ <;> (repeat' split) <;> omega)
          clear HI HBB HL HV
          go_wp2
          go_meet
          case rel => exact ⟨by first | rfl | (rw [hc]; rfl), by rw [HN.out.1]; rfl, by rw [HN.out.2.1]; rfl, by rw [HN.out.2.2]; rfl, hide (by rw [HN.out.1]; decide), rfl⟩
        · have HN : Hid (nOf b = 2 ∧ loOf b 1 = 128 ∧ hiOf b 1 = 159) := hide (by unfold nOf loOf hiOf; refine ⟨?_, ?_, ?_⟩ <;> (repeat' split) <;> omega)
          clear HI HBB HL HV
          go_wp2
          go_meet
          case rel => exact ⟨by first | rfl | (rw [hc]; rfl), by rw [HN.out.1]; rfl, by rw [HN.out.2.1]; rfl, by rw [HN.out.2.2]; rfl, hide (by rw [HN.out.1]; decide), rfl⟩
        · have HN : Hid (nOf b = 2 ∧ loOf b 1 = 128 ∧ hiOf b 1 = 191) := hide (by unfold nOf loOf hiOf; refine ⟨?_, ?_, ?_⟩ <;> (repeat' split) <;> omega)
          clear HI HBB HL HV
          go_wp2
          go_meet
          case rel => exact ⟨by first | rfl | (rw [hc]; rfl), by rw [HN.out.1]; rfl, by rw [HN.out.2.1]; rfl, by rw [HN.out.2.2]; rfl, hide (by rw [HN.out.1]; decide), rfl⟩
        · have HN : Hid (nOf b = 3 ∧ loOf b 1 = 144 ∧ hiOf b 1 = 191) := hide (by unfold nOf loOf hiOf; refine ⟨?_, ?_, ?_⟩ <;> (repeat' split) <;> omega)
          clear HI HBB HL HV
          go_wp2
          go_meet
          case rel => exact ⟨by first | rfl | (rw [hc]; rfl), by rw [HN.out.1]; rfl, by rw [HN.out.2.1]; rfl, by rw [HN.out.2.2]; rfl, hide (by rw [HN.out.1]; decide), rfl⟩
        · have HN : Hid (nOf b = 3 ∧ loOf b 1 = 128 ∧ hiOf b 1 = 191) := hide (by unfold nOf loOf hiOf; refine ⟨?_, ?_, ?_⟩ <;> (repeat' split) <;> omega)
          clear HI HBB HL HV
          go_wp2
          go_meet
          case rel => exact ⟨by first | rfl | (rw [hc]; rfl), by rw [HN.out.1]; rfl, by rw [HN.out.2.1]; rfl, by rw [HN.out.2.2]; rfl, hide (by rw [HN.out.1]; decide), rfl⟩
        · have HN : Hid (nOf b = 3 ∧ loOf b 1 = 128 ∧ hiOf b 1 = 143) := hide (by unfold nOf loOf hiOf; refine ⟨?_, ?_, ?_⟩ <;> (repeat' split) <;> omega)
          clear HI HBB HL HV
          go_wp2
          go_meet
          case rel => exact ⟨by first | rfl | (rw [hc]; rfl), by rw [HN.out.1]; rfl, by rw [HN.out.2.1]; rfl, by rw [HN.out.2.2]; rfl, hide (by rw [HN.out.1]; decide), rfl⟩
        · have HF : Hid (V = false) := hide (by rw [← HI.out]; exact valid_bad _ i HL.out (by rw [HBB.out]; unfold nOf; (repeat' split) <;> omega))
          clear HI HBB HL HV
          go_wp2
          go_ret
          exact ⟨by rw [HF.out]; rfl, Ext.refl _⟩
        · have HF : Hid (V = false) := hide (by rw [← HI.out]; exact valid_bad _ i HL.out (by rw [HBB.out]; unfold nOf; (repeat' split) <;> omega))
          clear HI HBB HL HV
          go_wp2
          go_ret
          exact ⟨by rw [HF.out]; rfl, Ext.refl _⟩
      case rest =>
        obtain ⟨rfl, rfl, rfl, rfl, HN9, rfl⟩ := hcut
        have HQ := hide (show 128 ≤ b → (∀ j, 1 ≤ j → j ≤ nOf b → Fits s.data.toList i j) → validD (s.data.toList.drop i) = validD (s.data.toList.drop (i + nOf b + 1)) from fun h hf => by
          have := (valid_multi s.data.toList i HL.out (by rw [HBB.out]; exact h) (by rw [HBB.out]; exact HN9.out)).1
          rw [HBB.out] at this
          exact this hf)
        have HZ := hide (show ∀ k, 1 ≤ k → k ≤ nOf b → ¬ Fits s.data.toList i k → V = false from fun k k1 k2 hf => by
          have h128 : 128 ≤ b := by
            rcases Nat.lt_or_ge b 128 with h | h
            · have : nOf b = 0 := by unfold nOf; rw [if_pos h]
              omega
            · exact h
          have := (valid_multi s.data.toList i HL.out (by rw [HBB.out]; exact h128) (by rw [HBB.out]; exact HN9.out)).2
          rw [HBB.out] at this
          rw [← HI.out]
          exact this k k1 k2 hf)
        have HA := hide (show nOf b = 0 → validD (s.data.toList.drop i) = validD (s.data.toList.drop (i + 1)) from fun h => valid_ascii _ i HL.out (by
          rw [HBB.out]
          unfold nOf at h
          split at h
          · assumption
          · split at h
            · omega
            · split at h
              · omega
              · split at h <;> omega))
        have hn3 : nOf b ≤ 3 := by
          have := HN9.out
          unfold nOf at this ⊢
          (repeat' split) <;> simp_all
        have HF : Hid (∀ j, Fits s.data.toList i j ↔ (i + j < s.size ∧ loOf b j ≤ (s.data.toList.getD (i + j) 0).toNat ∧ (s.data.toList.getD (i + j) 0).toNat ≤ hiOf b j)) := hide fun j => by
          unfold Fits; rw [HBB.out, size_data]
        have H128 : Hid (nOf b ≠ 0 → 128 ≤ b) := hide (fun h => by
          rcases Nat.lt_or_ge b 128 with h2 | h2
          · exact absurd (by unfold nOf; rw [if_pos h2]) h
          · exact h2)
        clear HBB HL
        generalize hnn : nOf b = n at *
        clear hnn
        go_wp2_with fail
        go_loop [6, 7, 8] (fun s6 s7 s8 => ∃ k : Nat, 1 ≤ k ∧ k ≤ n + 1 ∧ s8 = .int .i64 k ∧ s6 = .int .u8 (loOf b k) ∧ s7 = .int .u8 (hiOf b k) ∧ Hid (∀ j, 1 ≤ j → j < k → Fits s.data.toList i j)) (fun _ _ s8 => n + 1 - (intOf s8).toNat)
        case atStart => exact ⟨1, by omega, by omega, rfl, rfl, rfl, hide (fun j h1 h2 => by omega)⟩
        case round =>
          obtain ⟨k, hk1, hk2, rfl, rfl, rfl, HG⟩ := hrel
          by_cases hkn : k ≤ n
          · have e1 : loOf b (k + 1) = 128 := by unfold loOf; rw [if_neg (by omega)]
            have e2 : hiOf b (k + 1) = 191 := by unfold hiOf; rw [if_neg (by omega)]
            have HE := hide (And.intro e1 e2)
            clear e1 e2
            have hlo : loOf b k ≤ 255 := by unfold loOf; (repeat' split) <;> omega
            have hhi : hiOf b k ≤ 255 := by unfold hiOf; (repeat' split) <;> omega
            have HFk := HF.out k
            generalize loOf b k = lo at hlo HFk
            generalize hiOf b k = hi' at hhi HFk
            by_cases hik : i + k < s.size
            · have hgd := getD_data s (i + k) hik
              rw [hgd] at HFk
              clear hgd
              have hgb := s[i + k].toNat_lt
              have HFK := hide HFk
              clear HFk
              rcases (by omega : s[i + k].toNat < lo ∨ (lo ≤ s[i + k].toNat ∧ hi' < s[i + k].toNat) ∨ (lo ≤ s[i + k].toNat ∧ s[i + k].toNat ≤ hi')) with hc | ⟨hc, hd⟩ | ⟨hc, hd⟩
              · have HV0 : Hid (V = false) := hide (HZ.out k hk1 hkn (fun h => by have := HFK.out.1 h; omega))
                clear HZ HQ HA HI HV HFK HF HG
                go_wp2
                go_ret
                exact ⟨by rw [HV0.out]; rfl, Ext.refl _⟩
              · have HV0 : Hid (V = false) := hide (HZ.out k hk1 hkn (fun h => by have := HFK.out.1 h; omega))
                clear HZ HQ HA HI HV HFK HF HG
                go_wp2
                go_ret
                exact ⟨by rw [HV0.out]; rfl, Ext.refl _⟩
              · have HG2 : Hid (∀ j, 1 ≤ j → j < k + 1 → Fits s.data.toList i j) := hide (fun j h1 h2 => by
                  rcases (by omega : j < k ∨ j = k) with h | rfl
                  · exact HG.out j h1 h
                  · exact HFK.out.2 ⟨hik, hc, hd⟩)
                clear HFK HG
                go_wp2
                go_round
                case rel => exact ⟨k + 1, by omega, by omega, by go_num, by rw [HE.out.1]; rfl, by rw [HE.out.2]; rfl, HG2⟩
                case measure => simp [intOf]; omega
            · have HV0 : Hid (V = false) := hide (HZ.out k hk1 hkn (fun h => hik (HFk.1 h).1))
              clear HZ HQ HA HI HV HFk HF HG
              go_wp2
              go_ret
              exact ⟨by rw [HV0.out]; rfl, Ext.refl _⟩
          · have HG2 : Hid (∀ j, 1 ≤ j → j ≤ n → Fits s.data.toList i j) := hide (fun j h1 h2 => HG.out j h1 (by omega))
            have HNX : Hid (validD (s.data.toList.drop (i + n + 1)) = V) := hide (by
              rw [← HI.out]
              by_cases h0 : n = 0
              · rw [HA.out h0, h0]
              · rw [HQ.out (H128.out h0) HG2.out])
            have hbd : i + n + 1 ≤ s.size := by
              by_cases h0 : n = 0
              · omega
              · have := ((HF.out n).1 (HG2.out n (by omega) (Nat.le_refl n))).1
                omega
            clear HG HG2 HQ HZ HA HF H128
            go_wp2
            go_round
            case rel => exact ⟨i + n + 1, by omega, by go_num, HNX⟩
            case measure => simp [intOf]; omega
    · have HE : Hid (V = true) := hide (by
        rw [← HI.out, List.drop_of_length_le (by rw [size_data]; omega)]; rfl)
      go_wp2
      go_ret
      exact ⟨by rw [HE.out]; rfl, Ext.refl _⟩
end Go.Proofs.YtkockmpncocjhaaDoor
