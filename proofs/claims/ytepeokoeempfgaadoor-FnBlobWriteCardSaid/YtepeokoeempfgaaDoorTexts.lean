/-
  Lists of texts: the looks at them, whether two are the same.
-/
import Derived.Test.YtepeokoeempfgaaDoorUpper
namespace Go.Proofs.YtepeokoeempfgaaDoor
open Go.RowKit
set_option linter.unusedVariables false
set_option linter.unusedSimpArgs false

def fitsB (l : List ByteArray) : Bool := decide (l.length ≤ 2147483647) && l.all fun s => decide (s.size ≤ 2147483647)
theorem all_snoc_at {α : Type} (P : α → Bool) (l : List α) (k : Nat) (hk : k < l.length) (h : (l.take k).all P = true) : (P l[k] = true → (l.take (k + 1)).all P = true) ∧ (P l[k] = false → l.all P = false) := by
  constructor
  · intro h1
    rw [List.take_succ_eq_append_getElem hk, List.all_append, h]
    simp [h1]
  · intro h1
    rw [List.all_eq_false]
    exact ⟨l[k], List.getElem_mem hk, by simp [h1]⟩

set_option maxRecDepth 100000 in
theorem fits_any (A : Option Addr) (cap : Nat) (l : List ByteArray) (w : World) (hR : RS w A l) (hc : l.length ≤ cap) (hm : cap ≤ maxLen) (hs : ∀ s ∈ l, s.size ≤ maxLen) :
    Calls Tryd.prog 6 #[.slice A l.length cap] w fun e w' => e = .returned (.bool (fitsB l)) ∧ w = w' := by
  unfold maxLen at hm
  by_cases h1 : l.length ≤ 2147483647
  · generalize hV : fitsB l = V
    have HV : Hid (l.all (fun s => decide (s.size ≤ 2147483647)) = V) := hide (by rw [← hV]; unfold fitsB; rw [decide_eq_true h1]; rfl)
    have b1 : ¬ 2147483647 < (l.length : Int) := by omega
    have HS := hide hs
    have HR := hide hR
    clear hV hs hR
    go_enter Tryd.func6, Tryd.ntmps6
    go_wp2
    go_loop [4, 10] (fun s4 s10 => ∃ k : Nat, k ≤ l.length ∧ s10 = .int .i64 k ∧ Hid ((l.take k).all (fun s => decide (s.size ≤ 2147483647)) = true)) (fun _ s10 => l.length - (intOf s10).toNat)
    case atStart => exact ⟨0, by omega, rfl, hide rfl⟩
    case round =>
      obtain ⟨k, hk, rfl, HI⟩ := hrel
      by_cases hlt : k < l.length
      · obtain ⟨ad, rfl, -, hcell⟩ := HR.out.addr (by omega)
        have hc2 := hcell k hlt
        have HN := hide (all_snoc_at (fun s : ByteArray => decide (s.size ≤ 2147483647)) l k hlt HI.out)
        have hsz := HS.out _ (List.getElem_mem hlt)
        generalize l[k] = s at hc2 HN hsz
        unfold maxLen at hsz
        clear hcell
        by_cases hsb : s.size ≤ 2147483647
        · have b2 : ¬ 2147483647 < (s.size : Int) := by omega
          have R := hide (HN.out.1 (decide_eq_true hsb))
          clear HN HI
          go_wp2
          go_round
          case rel => exact ⟨k + 1, by omega, by go_num, R⟩
          case measure => simp [intOf]; omega
        · have b2 : 2147483647 < (s.size : Int) := by omega
          have R : Hid (V = false) := hide (HV.out.symm.trans (HN.out.2 (decide_eq_false hsb)))
          clear HN HI
          go_wp2
          go_ret
          exact ⟨by rw [R.out]; rfl, rfl⟩
      · have R : Hid (V = true) := hide (by
          have h := HI.out
          rw [List.take_of_length_le (by omega)] at h
          exact HV.out.symm.trans h)
        clear HI
        go_wp2
        go_ret
        exact ⟨by rw [R.out]; rfl, rfl⟩
  · have : fitsB l = false := by unfold fitsB; rw [decide_eq_false h1]; rfl
    rw [this]
    have b1 : 2147483647 < (l.length : Int) := by omega
    clear this hR hs h1
    go_enter Tryd.func6, Tryd.ntmps6
    go_wp2
    go_ret
    exact ⟨rfl, rfl⟩

def rightB (n : ByteArray) (l : List ByteArray) : Bool := decide (l.length ≤ 50) && l.all (fun s => decide (s.size ≤ 200)) && decide (n.size ≤ 200) && asciiB n.data.toList
set_option maxRecDepth 100000 in
theorem right_any (n : ByteArray) (A : Option Addr) (cap : Nat) (l : List ByteArray) (w : World) (hR : RS w A l) (hn : n.size ≤ 2147483647) (hl : l.length ≤ 2147483647) (hs : ∀ s ∈ l, s.size ≤ 2147483647) :
    Calls Tryd.prog 7 #[.string n, .slice A l.length cap] w fun e w' => e = .returned (.bool (rightB n l)) ∧ w = w' := by
  generalize hV : rightB n l = V
  have HV := hide hV
  have AS := hide (ascii_any n w hn)
  have HS := hide hs
  have HR := hide hR
  clear hV hs hR
  go_enter Tryd.func7, Tryd.ntmps7
  go_wp2
  go_loop [5, 6, 9] (fun s5 s6 s9 => ∃ k : Nat, k ≤ l.length ∧ k ≤ 50 ∧ s9 = .int .i64 k ∧ Hid ((l.take k).all (fun s => decide (s.size ≤ 200)) = true)) (fun _ _ s9 => l.length - (intOf s9).toNat)
  case atStart => exact ⟨0, by omega, by omega, rfl, hide rfl⟩
  case round =>
    obtain ⟨k, hk, hk50, rfl, HI⟩ := hrel
    by_cases hlt : k < l.length
    · obtain ⟨ad, rfl, -, hcell⟩ := HR.out.addr (by omega)
      have hc2 := hcell k hlt
      have HN := hide (all_snoc_at (fun s : ByteArray => decide (s.size ≤ 200)) l k hlt HI.out)
      have hsz := HS.out _ (List.getElem_mem hlt)
      generalize l[k] = s at hc2 HN hsz
      clear hcell
      by_cases h50 : k < 50
      · have b0 : decide (50 ≤ (k : Int)) = false := decide_eq_false (by omega)
        by_cases hsb : s.size ≤ 200
        · have b2 : ¬ 200 < (s.size : Int) := by omega
          have R := hide (HN.out.1 (decide_eq_true hsb))
          clear HN HI
          go_wp2
          go_round
          case rel => exact ⟨k + 1, by omega, by omega, by go_num, R⟩
          case measure => simp [intOf]; omega
        · have b2 : 200 < (s.size : Int) := by omega
          have R : Hid (V = false) := hide (by
            rw [← HV.out]
            unfold rightB
            rw [HN.out.2 (decide_eq_false hsb)]
            simp)
          clear HN HI
          go_wp2
          go_ret
          exact ⟨by rw [R.out]; rfl, rfl⟩
      · have b0 : decide (50 ≤ (k : Int)) = true := decide_eq_true (by omega)
        have R : Hid (V = false) := hide (by
          rw [← HV.out]
          unfold rightB
          rw [decide_eq_false (show ¬ l.length ≤ 50 by omega)]
          simp)
        clear HN HI
        go_wp2
        go_ret
        exact ⟨by rw [R.out]; rfl, rfl⟩
    · have HA : Hid (V = (decide (n.size ≤ 200) && asciiB n.data.toList)) := hide (by
        have h := HI.out
        rw [List.take_of_length_le (by omega)] at h
        rw [← HV.out]
        unfold rightB
        rw [decide_eq_true (show l.length ≤ 50 by omega), h]
        simp)
      generalize asciiB n.data.toList = U at AS HA
      clear HI
      by_cases hnb : n.size ≤ 200
      · have b3 : decide ((n.size : Int) ≤ 200) = true := decide_eq_true (by omega)
        have R : Hid (V = U) := hide (by rw [HA.out, decide_eq_true hnb]; rfl)
        clear HA
        go_wp2_with fail
        refine AS.out.mono ?_
        rintro e w1 ⟨rfl, rfl⟩
        go_wp2
        go_ret
        exact ⟨by rw [R.out]; rfl, rfl⟩
      · have b3 : decide ((n.size : Int) ≤ 200) = false := decide_eq_false (by omega)
        have R : Hid (V = false) := hide (by rw [HA.out, decide_eq_false hnb]; rfl)
        clear HA
        go_wp2
        go_ret
        exact ⟨by rw [R.out]; rfl, rfl⟩

set_option maxRecDepth 100000 in
theorem allASCII_any (A : Option Addr) (cap : Nat) (l : List ByteArray) (w : World) (hR : RS w A l) (hl : l.length ≤ 2147483647) (hs : ∀ s ∈ l, s.size ≤ 2147483647) :
    Calls Tryd.prog 8 #[.slice A l.length cap] w fun e w' => e = .returned (.bool (l.all fun s => asciiB s.data.toList)) ∧ w = w' := by
  generalize hV : (l.all fun s => asciiB s.data.toList) = V
  have HV := hide hV
  have HS := hide hs
  have HR := hide hR
  clear hV hs hR
  go_enter Tryd.func8, Tryd.ntmps8
  go_wp2
  go_loop [4, 7] (fun s4 s7 => ∃ k : Nat, k ≤ l.length ∧ s7 = .int .i64 k ∧ Hid ((l.take k).all (fun s => asciiB s.data.toList) = true)) (fun _ s7 => l.length - (intOf s7).toNat)
  case atStart => exact ⟨0, by omega, rfl, hide rfl⟩
  case round =>
    obtain ⟨k, hk, rfl, HI⟩ := hrel
    by_cases hlt : k < l.length
    · obtain ⟨ad, rfl, -, hcell⟩ := HR.out.addr (by omega)
      have hc2 := hcell k hlt
      have HN := hide (all_snoc_at (fun s : ByteArray => asciiB s.data.toList) l k hlt HI.out)
      have AS := hide (ascii_any l[k] w (HS.out _ (List.getElem_mem hlt)))
      generalize l[k] = s at hc2 HN AS
      clear hcell
      cases hU : asciiB s.data.toList with
      | true =>
        rw [hU] at AS
        have R := hide (HN.out.1 hU)
        clear HN HI hU
        go_wp2_with fail
        refine AS.out.mono ?_
        rintro e w1 ⟨rfl, rfl⟩
        go_wp2
        go_round
        case rel => exact ⟨k + 1, by omega, by go_num, R⟩
        case measure => simp [intOf]; omega
      | false =>
        rw [hU] at AS
        have R : Hid (V = false) := hide (HV.out.symm.trans (HN.out.2 hU))
        clear HN HI hU
        go_wp2_with fail
        refine AS.out.mono ?_
        rintro e w1 ⟨rfl, rfl⟩
        go_wp2
        go_ret
        exact ⟨by rw [R.out]; rfl, rfl⟩
    · have R : Hid (V = true) := hide (by
        have h := HI.out
        rw [List.take_of_length_le (by omega)] at h
        exact HV.out.symm.trans h)
      clear HI
      go_wp2
      go_ret
      exact ⟨by rw [R.out]; rfl, rfl⟩

set_option maxRecDepth 100000 in
theorem same_any (A A2 : Option Addr) (n cap cap2 : Nat) (l : List ByteArray) (w : World) (hR : RS w A l) (hR2 : RS w A2 l) (hn : l.length = n) (hl : n ≤ 2147483647) :
    Calls Tryd.prog 11 #[.slice A n cap, .slice A2 n cap2] w fun e w' => e = .returned (.bool true) ∧ w = w' := by
  have HR := hide hR
  have HR2 := hide hR2
  have HN := hide hn
  clear hR hR2 hn
  go_enter Tryd.func11, Tryd.ntmps11
  go_wp2
  go_loop [5, 6, 14] (fun s5 s6 s14 => ∃ k : Nat, k ≤ n ∧ s14 = .int .i64 k) (fun _ _ s14 => n - (intOf s14).toNat)
  case atStart => exact ⟨0, by omega, rfl⟩
  case round =>
    obtain ⟨k, hk, rfl⟩ := hrel
    by_cases hlt : k < n
    · have hk2 : k < l.length := by rw [HN.out]; exact hlt
      obtain ⟨ad, rfl, -, hcell⟩ := HR.out.addr (by omega)
      obtain ⟨ad2, rfl, -, hcell2⟩ := HR2.out.addr (by omega)
      have hc := hcell k hk2
      have hc2 := hcell2 k hk2
      generalize l[k] = s at hc hc2
      clear hcell hcell2 hk2
      go_wp2
      go_round
      case rel => exact ⟨k + 1, by omega, by go_num⟩
      case measure => simp [intOf]; omega
    · go_wp2
      go_ret
      exact ⟨rfl, rfl⟩
end Go.Proofs.YtepeokoeempfgaaDoor
