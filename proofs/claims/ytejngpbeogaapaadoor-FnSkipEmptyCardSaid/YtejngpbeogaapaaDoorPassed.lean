/-
  spec.Passed: how many bytes are gone by.
-/
import Derived.Test.YtejngpbeogaapaaDoorSkipE
import Derived.Deep.CutBlock
import Derived.Deep.DeepCutAuto
namespace Go.Proofs.YtejngpbeogaapaaDoor
open Go.RowKit
set_option linter.unusedVariables false
set_option linter.unusedSimpArgs false

theorem extract_drop (s : ByteArray) (q : Nat) : (s.extract q s.size).data.toList = s.data.toList.drop q := by
  rw [ByteArray.data_extract, Array.toList_extract, List.extract]
  exact List.take_of_length_le (by rw [List.length_drop, size_data]; exact Nat.le_refl _)
theorem door0 (n : Nat) : ((n : Int) == 32) = doorF 0 n := by
  show _ = ((32 : UInt8).toNat == n || false)
  rw [Bool.or_false, Bool.eq_iff_iff]
  simp only [beq_iff_eq]
  have : (32 : UInt8).toNat = 32 := rfl
  omega
/-- One byte more of a beginning whose bytes meet P: by the text's own place. -/
theorem tl_next {s : ByteArray} {P : Nat → Bool} {q k : Nat} (hq : q ≤ k) (hk : k ≤ q + tl P (s.data.toList.drop q)) (hl : k < s.size) :
    (P s[k].toNat = true → k + 1 ≤ q + tl P (s.data.toList.drop q)) ∧ (P s[k].toNat = false → q + tl P (s.data.toList.drop q) = k) := by
  obtain ⟨j, rfl⟩ : ∃ j, k = q + j := ⟨k - q, by omega⟩
  have hl2 : q + j < s.data.toList.length := by rw [size_data]; exact hl
  have h := tw_next (l := s.data.toList.drop q) (P := fun c => P c.toNat) (j := j) (by unfold tl at hk; omega) (by rw [List.length_drop]; omega)
  rw [List.getElem_drop] at h
  refine ⟨fun hv => ?_, fun hv => ?_⟩
  · have := h.1 hv
    unfold tl
    omega
  · have := h.2 hv
    unfold tl
    omega
theorem tl_end {s : ByteArray} {P : Nat → Bool} {q : Nat} (hq : q ≤ s.size) : q + tl P (s.data.toList.drop q) ≤ s.size := by
  have := tl_le P (s.data.toList.drop q)
  rw [List.length_drop, size_data] at this
  omega

set_option maxRecDepth 100000 in
set_option maxHeartbeats 2000000 in
theorem passed_any (s : ByteArray) (w : World) (hs : s.size ≤ 1048576) :
    Calls Tryd.prog 9 #[.string s] w fun e w' => e = .returned (.int .i64 (fin s.data.toList : Nat)) ∧ w = w' := by
  generalize hN : fin s.data.toList = N
  have START : Hid (0 ≤ s.size ∧ 0 + fin (s.data.toList.drop 0) = N) := hide ⟨by omega, by simpa using hN⟩
  clear hN
  go_enter Tryd.func9, Tryd.ntmps9
  go_wp2
  go_loopg [3, 4, 5, 7] s.size (fun g s3 _ _ _ wr => ∃ q : Nat, g + q = s.size ∧ s3 = .int .i64 q ∧ Hid (q + fin (s.data.toList.drop q) = N) ∧ w = wr)
  case atStart => exact ⟨0, by omega, rfl, hide START.out.2, rfl⟩
  case round =>
    clear START
    obtain ⟨q, hg, rfl, HF, rfl⟩ := hrel
    have hq : q ≤ s.size := by omega
    have HT := hide (tl_end (P := doorF 0) hq)
    have HNX := hide (fun k => tl_next (s := s) (P := doorF 0) (q := q) (k := k))
    generalize hn : tl (doorF 0) (s.data.toList.drop q) = n at HT HNX
    have HN := hide hn
    clear hn
    generalize hm : q + n = m at HT HNX
    have HM := hide hm
    clear hm
    have hqm : q ≤ m := by have := HM.out; omega
    go_upto_block 2 with fail
    go_cut [3] (fun s3 wx => s3 = .int .i64 m ∧ w = wx)
    case first =>
      go_wp2_with fail
      go_loopw [3] (fun s3 wr => ∃ k : Nat, q ≤ k ∧ k ≤ m ∧ k ≤ s.size ∧ s3 = .int .i64 k ∧ w = wr) (fun s3 _ => s.size - (intOf s3).toNat)
      case atStart => exact ⟨q, by omega, by omega, by omega, rfl, rfl⟩
      case round =>
        obtain ⟨k, hk0, hk, hks, rfl, rfl⟩ := hrel
        by_cases hlt : k < s.size
        · have b32 : ((s[k].toNat : Int) == 32) = doorF 0 s[k].toNat := door0 s[k].toNat
          obtain ⟨n1, n2⟩ := HNX.out k hk0 hk hlt
          cases hV : doorF 0 s[k].toNat with
          | true =>
            have h1 := n1 hV
            rw [hV] at b32
            clear n1 n2 hV
            go_wp2
            go_roundw
            case rel => exact ⟨k + 1, by omega, h1, by omega, by go_num, by first | rfl | trivial⟩
            case measure => simp [intOf]; omega
          | false =>
            have h1 := hide (n2 hV)
            rw [hV] at b32
            clear n1 n2 hV
            go_wp2
            go_meet
            case rel => exact ⟨by rw [h1.out], rfl⟩
        · have h1 : Hid (m = k) := hide (by have := HT.out; omega)
          go_wp2
          go_meet
          case rel => exact ⟨by rw [h1.out], rfl⟩
    case rest =>
      obtain ⟨rfl, rfl⟩ := hcut
      have hms := HT.out
      have hlen : s.data.toList.length = s.size := size_data s
      have SN : Hid (∀ x, skipStep (s.data.toList.drop q) = x → (x.2.2 = true → q + x.1 ≤ s.size ∧ q + x.1 + fin (s.data.toList.drop (q + x.1)) = N ∧ 0 < x.1) ∧ (x.2.2 = false → q + x.1 = N)) := hide fun x hx => by
        obtain ⟨s1, s2, s3, s4⟩ := step_N s.data.toList q N (by omega) HF.out x hx
        rw [hlen] at s2
        exact ⟨fun h => ⟨s2, s3 h⟩, s4⟩
      have LE : Hid (∀ k, Calls Tryd.prog 22 #[.string (s.extract k s.size)] w fun e w' => e = .returned (.tuple #[.int .i64 ((eolAt (s.data.toList.drop k)).1 : Nat), .bool (eolAt (s.data.toList.drop k)).2.2]) ∧ w = w') := hide fun k => by
        have := lineEnd_any (s.extract k s.size) w (by rw [ByteArray.size_extract]; omega)
        rwa [extract_drop] at this
      by_cases hme : m = s.size
      · have R : Hid (m = N) := hide (by
          have := (SN.out (n, 0, false) (by
            have h := step_end (s.data.toList.drop q) (by rw [List.length_drop, hlen, HN.out]; have := HM.out; omega)
            rw [HN.out] at h
            exact h)).2 rfl
          have := HM.out
          omega)
        have e1 : ((m : Int) == (s.size : Int)) = true := by rw [hme]; simp
        clear hlen SN LE hme
        go_wp2
        go_ret
        exact ⟨by rw [← R.out]; rfl, rfl⟩
      · have hlt : m < s.size := by omega
        have e1 : ((m : Int) == (s.size : Int)) = false := by rw [beq_eq_false_iff_ne]; omega
        have hdr : s.data.toList.drop m = s[m] :: s.data.toList.drop (m + 1) := List.drop_eq_getElem_cons (by rw [hlen]; exact hlt)
        have STEP := hide (step_at (s.data.toList.drop q) s[m] (s.data.toList.drop (m + 1)) (by rw [HN.out, List.drop_drop, HM.out]; exact hdr))
        rw [HN.out] at STEP
        by_cases h35 : s[m] = 35
        · have b35 : ((s[m].toNat : Int) == 35) = true := (byte_is s[m] 35 (by omega)).trans (decide_eq_true h35)
          rw [if_pos h35, ← hdr] at STEP
          have HT2 := hide (tl_end (P := doorF 11) (Nat.le_of_lt hlt))
          have HNX2 := hide (fun k => tl_next (s := s) (P := doorF 11) (q := m) (k := k))
          rw [List.drop_drop] at STEP
          generalize ht : tl (doorF 11) (s.data.toList.drop m) = t at HT2 HNX2 STEP
          clear ht hdr h35 HNX HT
          generalize hm2 : m + t = m2 at HT2 HNX2 STEP
          have HM2 := hide hm2
          have hmm : m ≤ m2 := by omega
          clear hm2
          go_upto_block 4 with fail
          go_cut [3] (fun s3 wx => s3 = .int .i64 m2 ∧ w = wx)
          case first =>
            go_wp2_with fail
            go_loopw [3] (fun s3 wr => ∃ k : Nat, m ≤ k ∧ k ≤ m2 ∧ k ≤ s.size ∧ s3 = .int .i64 k ∧ w = wr) (fun s3 _ => s.size - (intOf s3).toNat)
            case atStart => exact ⟨m, by omega, by omega, by omega, rfl, rfl⟩
            case round =>
              obtain ⟨k, hk0, hk, hks, rfl, rfl⟩ := hrel
              by_cases hlt : k < s.size
              · have IN := hide (specIn_any 11 (by omega) s[k] w)
                obtain ⟨n1, n2⟩ := HNX2.out k hk0 hk hlt
                cases hV : doorF 11 s[k].toNat with
                | true =>
                  have h1 := n1 hV
                  rw [hV] at IN
                  clear n1 n2 hV
                  go_wp2_with fail
                  refine IN.out.mono ?_
                  rintro e w1 ⟨rfl, rfl⟩
                  go_wp2
                  go_roundw
                  case rel => exact ⟨k + 1, by omega, h1, by omega, by go_num, by first | rfl | trivial⟩
                  case measure => simp [intOf]; omega
                | false =>
                  have h1 := hide (n2 hV)
                  rw [hV] at IN
                  clear n1 n2 hV
                  go_wp2_with fail
                  refine IN.out.mono ?_
                  rintro e w1 ⟨rfl, rfl⟩
                  go_wp2
                  go_meet
                  case rel => exact ⟨by rw [h1.out], rfl⟩
              · have h1 : Hid (m2 = k) := hide (by have := HT2.out; omega)
                go_wp2
                go_meet
                case rel => exact ⟨by rw [h1.out], rfl⟩
          case rest =>
            obtain ⟨rfl, rfl⟩ := hcut
            have hms2 := HT2.out
            have LE2 := hide (LE.out m2)
            generalize eolAt (s.data.toList.drop m2) = x at LE2 STEP
            obtain ⟨x1, x2, x3⟩ := x
            clear LE HNX2 HT2 hlen
            cases x3 with
            | true =>
              obtain ⟨g1, g2, g3⟩ := (SN.out (n + t + x1, x2, true) (by rw [STEP.out]; rfl)).1 rfl
              have R : Hid (m2 + x1 + fin (s.data.toList.drop (m2 + x1)) = N) := hide (by
                have e : q + (n + t + x1) = m2 + x1 := by have := HM.out; have := HM2.out; omega
                have g2 : q + (n + t + x1) + fin (s.data.toList.drop (q + (n + t + x1))) = N := g2
                rwa [e] at g2)
              have hb : m2 + x1 ≤ s.size ∧ q < m2 + x1 := by
                have := HM.out
                have := HM2.out
                have g1 : q + (n + t + x1) ≤ s.size := g1
                have g3 : 0 < n + t + x1 := g3
                omega
              obtain ⟨hb1, hb2⟩ := hb
              clear g1 g2 g3 SN STEP
              go_wp2_with fail
              refine LE2.out.mono ?_
              rintro e w1 ⟨rfl, rfl⟩
              clear LE2
              go_wp2
              go_roundg (s.size - (m2 + x1))
              case measure => omega
              case rel => exact ⟨m2 + x1, by omega, by go_num, hide R.out, by first | rfl | trivial⟩
            | false =>
              have R : Hid (q = N) := hide ((SN.out (0, 0, false) (by rw [STEP.out]; rfl)).2 rfl)
              clear SN STEP
              go_wp2_with fail
              refine LE2.out.mono ?_
              rintro e w1 ⟨rfl, rfl⟩
              clear LE2
              go_wp2
              go_ret
              exact ⟨by rw [← R.out]; rfl, rfl⟩
        · have b35 : ((s[m].toNat : Int) == 35) = false := (byte_is s[m] 35 (by omega)).trans (decide_eq_false h35)
          rw [if_neg h35, ← hdr] at STEP
          have LE2 := hide (LE.out m)
          generalize eolAt (s.data.toList.drop m) = x at LE2 STEP
          obtain ⟨x1, x2, x3⟩ := x
          clear LE HNX HT hlen hdr h35
          cases x3 with
          | true =>
            obtain ⟨g1, g2, g3⟩ := (SN.out (n + x1, x2, true) (by rw [STEP.out]; rfl)).1 rfl
            have R : Hid (m + x1 + fin (s.data.toList.drop (m + x1)) = N) := hide (by
              have e : q + (n + x1) = m + x1 := by have := HM.out; omega
              have g2 : q + (n + x1) + fin (s.data.toList.drop (q + (n + x1))) = N := g2
              rwa [e] at g2)
            have hb : m + x1 ≤ s.size ∧ q < m + x1 := by
              have := HM.out
              have g1 : q + (n + x1) ≤ s.size := g1
              have g3 : 0 < n + x1 := g3
              omega
            obtain ⟨hb1, hb2⟩ := hb
            clear g1 g2 g3 SN STEP
            go_wp2_with fail
            refine LE2.out.mono ?_
            rintro e w1 ⟨rfl, rfl⟩
            clear LE2
            go_wp2
            go_roundg (s.size - (m + x1))
            case measure => omega
            case rel => exact ⟨m + x1, by omega, by go_num, hide R.out, by first | rfl | trivial⟩
          | false =>
            have R : Hid (m = N) := hide (by
              have := (SN.out (n, 0, false) (by rw [STEP.out]; rfl)).2 rfl
              have := HM.out
              omega)
            clear SN STEP
            go_wp2_with fail
            refine LE2.out.mono ?_
            rintro e w1 ⟨rfl, rfl⟩
            clear LE2
            go_wp2
            go_ret
            exact ⟨by rw [← R.out]; rfl, rfl⟩
end Go.Proofs.YtejngpbeogaapaaDoor
