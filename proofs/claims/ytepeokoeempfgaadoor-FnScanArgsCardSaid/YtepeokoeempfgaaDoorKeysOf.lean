/-
  The keys of a command: spec.Keys.
-/
import Derived.Test.YtepeokoeempfgaaDoorPairs3
import Derived.Test.YtepeokoeempfgaaDoorKeysW
namespace Go.Proofs.YtepeokoeempfgaaDoor
open Go.RowKit
set_option linter.unusedVariables false
set_option linter.unusedSimpArgs false

def isUsage (s : ByteArray) : Bool := (upT s).toList == [85, 83, 65, 71, 69]
def kindOf (u : List UInt8) : Nat := if u = [66, 73, 84, 79, 80] then 1 else if u = [77, 69, 77, 79, 82, 89] then 2 else if u = [77, 83, 69, 84] then 3 else if u = [88, 73, 78, 70, 79] then 4 else if u = [88, 71, 82, 79, 85, 80] then 5 else if u = [88, 82, 69, 65, 68] then 6 else if u = [88, 82, 69, 65, 68, 71, 82, 79, 85, 80] then 7 else 0
/-- The keys of a command, its name in capitals. -/
def keysOf (u : List UInt8) (bare : Bool) (l : List ByteArray) : List ByteArray :=
  if l.length = 0 then [] else if bare then [] else
  match kindOf u with
  | 1 => if 1 < l.length then l.drop 1 else l.take 1
  | 2 => if 1 < l.length then (if isUsage (l.getD 0 ⟨#[]⟩) then (l.drop 1).take 1 else l.take 1) else l.take 1
  | 3 => pairsOf l
  | 4 => (l.drop 1).take 1
  | 5 => if 1 < l.length then (l.drop 1).take 1 else l.take 1
  | 6 => streamsOf l
  | 7 => streamsOf l
  | _ => l.take 1
theorem keys_nil {u : List UInt8} {b : Bool} {l : List ByteArray} (h : l.length = 0) : keysOf u b l = [] := by unfold keysOf; rw [if_pos h]
theorem keys_bare {u : List UInt8} {l : List ByteArray} : keysOf u true l = [] := by
  unfold keysOf
  split <;> rfl
theorem keys_kind {u : List UInt8} {l : List ByteArray} (h : ¬ l.length = 0) : keysOf u false l = (match kindOf u with
  | 1 => if 1 < l.length then l.drop 1 else l.take 1
  | 2 => if 1 < l.length then (if isUsage (l.getD 0 ⟨#[]⟩) then (l.drop 1).take 1 else l.take 1) else l.take 1
  | 3 => pairsOf l
  | 4 => (l.drop 1).take 1
  | 5 => if 1 < l.length then (l.drop 1).take 1 else l.take 1
  | 6 => streamsOf l
  | 7 => streamsOf l
  | _ => l.take 1) := by
  unfold keysOf
  rw [if_neg h]
  rfl
theorem kind_cases (u : List UInt8) : (u = [66, 73, 84, 79, 80] ∧ kindOf u = 1) ∨ (u = [77, 69, 77, 79, 82, 89] ∧ kindOf u = 2) ∨ (u = [77, 83, 69, 84] ∧ kindOf u = 3) ∨ (u = [88, 73, 78, 70, 79] ∧ kindOf u = 4) ∨ (u = [88, 71, 82, 79, 85, 80] ∧ kindOf u = 5) ∨ (u = [88, 82, 69, 65, 68] ∧ kindOf u = 6) ∨ (u = [88, 82, 69, 65, 68, 71, 82, 79, 85, 80] ∧ kindOf u = 7) ∨ (¬ u = [66, 73, 84, 79, 80] ∧ ¬ u = [77, 69, 77, 79, 82, 89] ∧ ¬ u = [77, 83, 69, 84] ∧ ¬ u = [88, 73, 78, 70, 79] ∧ ¬ u = [88, 71, 82, 79, 85, 80] ∧ ¬ u = [88, 82, 69, 65, 68] ∧ ¬ u = [88, 82, 69, 65, 68, 71, 82, 79, 85, 80] ∧ kindOf u = 0) := by
  by_cases h0 : u = [66, 73, 84, 79, 80]
  · exact .inl ⟨h0, by subst h0; rfl⟩
  by_cases h1 : u = [77, 69, 77, 79, 82, 89]
  · exact .inr (.inl ⟨h1, by subst h1; rfl⟩)
  by_cases h2 : u = [77, 83, 69, 84]
  · exact .inr (.inr (.inl ⟨h2, by subst h2; rfl⟩))
  by_cases h3 : u = [88, 73, 78, 70, 79]
  · exact .inr (.inr (.inr (.inl ⟨h3, by subst h3; rfl⟩)))
  by_cases h4 : u = [88, 71, 82, 79, 85, 80]
  · exact .inr (.inr (.inr (.inr (.inl ⟨h4, by subst h4; rfl⟩))))
  by_cases h5 : u = [88, 82, 69, 65, 68]
  · exact .inr (.inr (.inr (.inr (.inr (.inl ⟨h5, by subst h5; rfl⟩)))))
  by_cases h6 : u = [88, 82, 69, 65, 68, 71, 82, 79, 85, 80]
  · exact .inr (.inr (.inr (.inr (.inr (.inr (.inl ⟨h6, by subst h6; rfl⟩))))))
  exact .inr (.inr (.inr (.inr (.inr (.inr (.inr (⟨h0, h1, h2, h3, h4, h5, h6, by unfold kindOf; rw [if_neg h0, if_neg h1, if_neg h2, if_neg h3, if_neg h4, if_neg h5, if_neg h6]⟩)))))))

section
variable {w w1 : World} {ad : Addr} {l : List ByteArray} {n cap : Nat} {B : Nat → Prop}
theorem RetS.before {K : List ByteArray} {e : Ending} {w2 : World} (h : RetS w1 B K e w2) (hx : Ext w w1) : RetS w B K e w2 := by
  obtain ⟨A', c, h1, h2, h3, h4⟩ := h
  exact ⟨A', c, h1, h2, hx.trans h3, h4⟩
theorem ret_nil (hx : Ext w w1) : RetS w B [] (.returned (.slice none 0 0)) w1 := ⟨none, 0, rfl, RS.nil _ _, hx, Nat.le_refl _, Nat.zero_le _, by simp⟩
theorem ret_take (hR : RS w (some ad) l) (hn : l.length = n) (h1 : 1 ≤ n) (hc : n ≤ cap) (hm : cap ≤ maxLen) (hx : Ext w w1) (hB : B ad.block) : RetS w B (l.take 1) (.returned (.slice (some ad) 1 cap)) w1 := by
  have e : (l.take 1).length = 1 := by rw [List.length_take]; omega
  exact ⟨some ad, cap, by rw [e], (hR.take 1).ext hx, hx, by rw [e]; omega, hm, fun ad2 h => by injection h with h; rw [← h]; exact hB⟩
theorem ret_rest (hR : RS w (some ad) l) (hn : l.length = n) (h1 : 2 ≤ n) (hc : n ≤ cap) (hm : cap ≤ maxLen) (hx : Ext w w1) (hB : B ad.block) : RetS w B (l.drop 1) (.returned (.slice (some ⟨ad.block, ad.off + 1, none⟩) (n - 1) (cap - 1))) w1 := by
  have e : (l.drop 1).length = n - 1 := by rw [List.length_drop]; omega
  have h := hR.cut (k := 1) (cap := cap) (by omega) (by omega)
  rw [if_neg (by omega)] at h
  exact ⟨some (ad.add 1), cap - 1, by rw [e]; simp [Addr.add], h.ext hx, hx, by rw [e]; omega, by omega, fun ad2 h => by injection h with h; rw [← h, block_of_add]; exact hB⟩
theorem ret_mid (hR : RS w (some ad) l) (hn : l.length = n) (h1 : 2 ≤ n) (hc : n ≤ cap) (hm : cap ≤ maxLen) (hx : Ext w w1) (hB : B ad.block) : RetS w B ((l.drop 1).take 1) (.returned (.slice (some ⟨ad.block, ad.off + 1, none⟩) 1 (cap - 1))) w1 := by
  have e : ((l.drop 1).take 1).length = 1 := by rw [List.length_take, List.length_drop]; omega
  have h := (hR.cut (k := 1) (cap := cap) (by omega) (by omega)).take 1
  rw [if_neg (by omega)] at h
  exact ⟨some (ad.add 1), cap - 1, by rw [e]; simp [Addr.add], h.ext hx, hx, by rw [e]; omega, by omega, fun ad2 h => by injection h with h; rw [← h, block_of_add]; exact hB⟩
end

set_option maxRecDepth 100000 in
set_option maxHeartbeats 2000000 in
theorem specKeys_any (s : ByteArray) (A : Option Addr) (cap : Nat) (B : Nat → Prop) (n : Nat) (l : List ByteArray) (w : World) (hn : l.length = n) (hs1 : s.size ≤ 1000000) (hR : RS w A l) (hl : n ≤ 1000) (hc : n ≤ cap) (hm : cap ≤ maxLen) (hs : ∀ s ∈ l, s.size ≤ 1000000) (hB : ∀ ad, A = some ad → B ad.block) (hBw : ∀ i, w.heap.size ≤ i → B i) :
    Calls Tryd.prog 22 #[.string s, .slice A n cap] w (RetS w B (keysOf (upT s).toList (bareK.contains (upT s).data.toList) l)) := by
  have UP := hide (upper_any s w hs1)
  have hus : (upT s).size ≤ 1000000 := by rw [upT_size]; exact hs1
  generalize upT s = U at UP hus ⊢
  have WD : Hid (∀ w, Calls Tryd.prog 20 #[.string U, .string bareT] w fun e w' => e = .returned (.bool (bareK.contains U.data.toList)) ∧ w = w') := hide fun w =>
    word_any U bareT bareK w hus rfl (by decide) (by decide)
  generalize bareK.contains U.data.toList = V at WD ⊢
  have HM := hide hm
  unfold maxLen at hm
  have HR := hide hR
  have HS := hide hs
  have HBB := hide hB
  have HN := hide hn
  have HBW := hide hBw
  by_cases h0 : n = 0
  · rw [keys_nil (by rw [hn]; exact h0)]
    subst h0
    clear hR hs hB hn WD hBw
    go_enter Tryd.func22, Tryd.ntmps22
    go_wp2_with fail
    refine UP.out.mono ?_
    rintro e w1 ⟨rfl, hx⟩
    have HX := hide hx
    clear hx UP
    go_wp2
    go_ret
    exact ret_nil HX.out
  have hne : ((n : Int) == 0) = false := by rw [beq_eq_false_iff_ne]; omega
  have hn1 : 1 ≤ n := by omega
  obtain ⟨ad, rfl, hab, hcell⟩ := hR.addr (by rw [hn]; omega)
  have HAB := hide hab
  have HC0 : Hid (w.cell? ad = some (.string (l.getD 0 ⟨#[]⟩)) ∧ (l.getD 0 ⟨#[]⟩).size ≤ 1000000) := hide (by
    have h := hcell 0 (by omega)
    have e : l.getD 0 ⟨#[]⟩ = l[0]'(by omega) := by rw [List.getD_eq_getElem?_getD, List.getElem?_eq_getElem (by omega)]; rfl
    have e2 : ad.add 0 = ad := by unfold Addr.add; simp
    rw [e2] at h
    rw [e]
    exact ⟨h, hs _ (List.getElem_mem _)⟩)
  have HB := hide (hB ad rfl)
  clear hcell hab
  cases V with
  | true =>
    rw [keys_bare]
    clear hR hs hB hn h0 hBw
    go_enter Tryd.func22, Tryd.ntmps22
    go_wp2_with fail
    refine UP.out.mono ?_
    rintro e w1 ⟨rfl, hx⟩
    have HX := hide hx
    clear hx UP
    go_wp2_with fail
    refine (WD.out _).mono ?_
    rintro e w2 ⟨rfl, rfl⟩
    go_wp2
    go_ret
    exact ret_nil HX.out
  | false =>
    rw [keys_kind (by rw [hn]; exact h0), hn]
    clear hR hs hB hn h0 hBw
    generalize hu : U.toList = u
    rcases kind_cases u with ⟨hU, hk⟩ | ⟨hU, hk⟩ | ⟨hU, hk⟩ | ⟨hU, hk⟩ | ⟨hU, hk⟩ | ⟨hU, hk⟩ | ⟨hU, hk⟩ | ⟨n0, n1, n2, n3, n4, n5, n6, hk⟩
    · rw [hk]
      clear hk
      subst hU
      by_cases h1 : 1 < n
      · rw [show (if 1 < n then l.drop 1 else l.take 1) = l.drop 1 from if_pos h1]
        have b1 : decide (1 < (n : Int)) = true := decide_eq_true (by omega)
        go_enter Tryd.func22, Tryd.ntmps22
        go_wp2_with fail
        refine UP.out.mono ?_
        rintro e w1 ⟨rfl, hx⟩
        have HX := hide hx
        clear hx UP
        go_wp2_with fail
        refine (WD.out _).mono ?_
        rintro e w2 ⟨rfl, rfl⟩
        go_wp2
        go_ret
        exact ret_rest HR.out HN.out (by omega) hc HM.out HX.out HB.out
      · rw [show (if 1 < n then l.drop 1 else l.take 1) = l.take 1 from if_neg h1]
        have b1 : decide (1 < (n : Int)) = false := decide_eq_false (by omega)
        go_enter Tryd.func22, Tryd.ntmps22
        go_wp2_with fail
        refine UP.out.mono ?_
        rintro e w1 ⟨rfl, hx⟩
        have HX := hide hx
        clear hx UP
        go_wp2_with fail
        refine (WD.out _).mono ?_
        rintro e w2 ⟨rfl, rfl⟩
        go_wp2
        go_ret
        exact ret_take HR.out HN.out hn1 hc HM.out HX.out HB.out
    · rw [hk]
      clear hk
      subst hU
      generalize hl0 : l.getD 0 ⟨#[]⟩ = a at HC0
      have US : Hid (∀ w, Calls Tryd.prog 21 #[.string a] w fun e w' => e = .returned (.string (upT a)) ∧ Ext w w') := hide fun w => upper_any a w HC0.out.2
      have hbu : ((upT a).toList == [85, 83, 65, 71, 69]) = isUsage a := rfl
      clear hl0
      by_cases h1 : 1 < n
      · have b1 : decide (1 < (n : Int)) = true := decide_eq_true (by omega)
        cases hV : isUsage a with
        | true =>
          rw [hV] at hbu
          rw [show (if 1 < n then (if true = true then (l.drop 1).take 1 else l.take 1) else l.take 1) = (l.drop 1).take 1 from by rw [if_pos h1]; rfl]
          clear hV
          go_enter Tryd.func22, Tryd.ntmps22
          go_wp2_with fail
          refine UP.out.mono ?_
          rintro e w1 ⟨rfl, hx⟩
          have HX := hide hx
          clear hx UP
          go_wp2_with fail
          refine (WD.out _).mono ?_
          rintro e w2 ⟨rfl, rfl⟩
          have hc0 : w1.cell? ad = some (.string a) := by rw [HX.out.cell HAB.out]; exact HC0.out.1
          go_wp2_with fail
          refine (US.out _).mono ?_
          rintro e w3 ⟨rfl, hx3⟩
          have HX := hide (HX.out.trans hx3)
          clear hx3 hc0
          go_wp2
          go_ret
          exact ret_mid HR.out HN.out (by omega) hc HM.out HX.out HB.out
        | false =>
          rw [hV] at hbu
          rw [show (if 1 < n then (if false = true then (l.drop 1).take 1 else l.take 1) else l.take 1) = l.take 1 from by rw [if_pos h1]; rfl]
          clear hV
          go_enter Tryd.func22, Tryd.ntmps22
          go_wp2_with fail
          refine UP.out.mono ?_
          rintro e w1 ⟨rfl, hx⟩
          have HX := hide hx
          clear hx UP
          go_wp2_with fail
          refine (WD.out _).mono ?_
          rintro e w2 ⟨rfl, rfl⟩
          have hc0 : w1.cell? ad = some (.string a) := by rw [HX.out.cell HAB.out]; exact HC0.out.1
          go_wp2_with fail
          refine (US.out _).mono ?_
          rintro e w3 ⟨rfl, hx3⟩
          have HX := hide (HX.out.trans hx3)
          clear hx3 hc0
          go_wp2
          go_ret
          exact ret_take HR.out HN.out hn1 hc HM.out HX.out HB.out
      · rw [show (if 1 < n then (if isUsage a = true then (l.drop 1).take 1 else l.take 1) else l.take 1) = l.take 1 from if_neg h1]
        have b1 : decide (1 < (n : Int)) = false := decide_eq_false (by omega)
        go_enter Tryd.func22, Tryd.ntmps22
        go_wp2_with fail
        refine UP.out.mono ?_
        rintro e w1 ⟨rfl, hx⟩
        have HX := hide hx
        clear hx UP
        go_wp2_with fail
        refine (WD.out _).mono ?_
        rintro e w2 ⟨rfl, rfl⟩
        go_wp2
        go_ret
        exact ret_take HR.out HN.out hn1 hc HM.out HX.out HB.out
    · rw [hk]
      clear hk
      subst hU
      show Calls _ _ _ _ (RetS w B (pairsOf l))
      go_enter Tryd.func22, Tryd.ntmps22
      go_wp2_with fail
      refine UP.out.mono ?_
      rintro e w1 ⟨rfl, hx⟩
      have HX := hide hx
      clear hx UP
      go_wp2_with fail
      refine (WD.out _).mono ?_
      rintro e w2 ⟨rfl, rfl⟩
      have PK : Hid (Calls Tryd.prog 35 #[.slice (some ad) n cap] w1 (RetS w B (pairsOf l))) := hide (by
        have h := specPairs_any (some ad) cap l w1 (HR.out.ext HX.out) (by rw [HN.out]; exact hl)
        rw [HN.out] at h
        refine h.mono ?_
        rintro e w4 ⟨A', c, h1, h2, h3, h4, h5, h6⟩
        exact ⟨A', c, h1, h2, HX.out.trans h3, h4, h5, fun ad2 had => HBW.out _ (Nat.le_trans HX.out.sizes (h6 ad2 had))⟩)
      go_wp2_with fail
      refine PK.out.mono ?_
      rintro e w4 ⟨A', c, rfl, hr⟩
      have HF := hide hr
      clear hr PK
      go_wp2
      go_ret
      exact ⟨A', c, rfl, HF.out⟩
    · rw [hk]
      clear hk
      subst hU
      show Calls _ _ _ _ (RetS w B ((l.drop 1).take 1))
      by_cases h1 : n = 1
      · have hK : (l.drop 1).take 1 = [] := by rw [List.drop_eq_nil_of_le (by rw [HN.out]; omega)]; rfl
        rw [hK]
        have b1 : ((n : Int) == 1) = true := by rw [h1]; rfl
        clear hK h1
        go_enter Tryd.func22, Tryd.ntmps22
        go_wp2_with fail
        refine UP.out.mono ?_
        rintro e w1 ⟨rfl, hx⟩
        have HX := hide hx
        clear hx UP
        go_wp2_with fail
        refine (WD.out _).mono ?_
        rintro e w2 ⟨rfl, rfl⟩
        go_wp2
        go_ret
        exact ret_nil HX.out
      · have b1 : ((n : Int) == 1) = false := by rw [beq_eq_false_iff_ne]; omega
        have h2 : 2 ≤ n := by omega
        go_enter Tryd.func22, Tryd.ntmps22
        go_wp2_with fail
        refine UP.out.mono ?_
        rintro e w1 ⟨rfl, hx⟩
        have HX := hide hx
        clear hx UP
        go_wp2_with fail
        refine (WD.out _).mono ?_
        rintro e w2 ⟨rfl, rfl⟩
        go_wp2
        go_ret
        exact ret_mid HR.out HN.out (by omega) hc HM.out HX.out HB.out
    · rw [hk]
      clear hk
      subst hU
      by_cases h1 : 1 < n
      · rw [show (if 1 < n then (l.drop 1).take 1 else l.take 1) = (l.drop 1).take 1 from if_pos h1]
        have b1 : decide (1 < (n : Int)) = true := decide_eq_true (by omega)
        go_enter Tryd.func22, Tryd.ntmps22
        go_wp2_with fail
        refine UP.out.mono ?_
        rintro e w1 ⟨rfl, hx⟩
        have HX := hide hx
        clear hx UP
        go_wp2_with fail
        refine (WD.out _).mono ?_
        rintro e w2 ⟨rfl, rfl⟩
        go_wp2
        go_ret
        exact ret_mid HR.out HN.out (by omega) hc HM.out HX.out HB.out
      · rw [show (if 1 < n then (l.drop 1).take 1 else l.take 1) = l.take 1 from if_neg h1]
        have b1 : decide (1 < (n : Int)) = false := decide_eq_false (by omega)
        go_enter Tryd.func22, Tryd.ntmps22
        go_wp2_with fail
        refine UP.out.mono ?_
        rintro e w1 ⟨rfl, hx⟩
        have HX := hide hx
        clear hx UP
        go_wp2_with fail
        refine (WD.out _).mono ?_
        rintro e w2 ⟨rfl, rfl⟩
        go_wp2
        go_ret
        exact ret_take HR.out HN.out hn1 hc HM.out HX.out HB.out
    · rw [hk]
      clear hk
      subst hU
      show Calls _ _ _ _ (RetS w B (streamsOf l))
      go_enter Tryd.func22, Tryd.ntmps22
      go_wp2_with fail
      refine UP.out.mono ?_
      rintro e w1 ⟨rfl, hx⟩
      have HX := hide hx
      clear hx UP
      go_wp2_with fail
      refine (WD.out _).mono ?_
      rintro e w2 ⟨rfl, rfl⟩
      have PK : Hid (Calls Tryd.prog 36 #[.slice (some ad) n cap] w1 (RetS w B (streamsOf l))) := hide (by
        refine (specStreams_any (some ad) cap B n l w1 HN.out (HR.out.ext HX.out) hl hc HM.out HS.out HBB.out).mono ?_
        exact fun e w4 h => h.before HX.out)
      go_wp2_with fail
      refine PK.out.mono ?_
      rintro e w4 ⟨A', c, rfl, hr⟩
      have HF := hide hr
      clear hr PK
      go_wp2
      go_ret
      exact ⟨A', c, rfl, HF.out⟩
    · rw [hk]
      clear hk
      subst hU
      show Calls _ _ _ _ (RetS w B (streamsOf l))
      go_enter Tryd.func22, Tryd.ntmps22
      go_wp2_with fail
      refine UP.out.mono ?_
      rintro e w1 ⟨rfl, hx⟩
      have HX := hide hx
      clear hx UP
      go_wp2_with fail
      refine (WD.out _).mono ?_
      rintro e w2 ⟨rfl, rfl⟩
      have PK : Hid (Calls Tryd.prog 36 #[.slice (some ad) n cap] w1 (RetS w B (streamsOf l))) := hide (by
        refine (specStreams_any (some ad) cap B n l w1 HN.out (HR.out.ext HX.out) hl hc HM.out HS.out HBB.out).mono ?_
        exact fun e w4 h => h.before HX.out)
      go_wp2_with fail
      refine PK.out.mono ?_
      rintro e w4 ⟨A', c, rfl, hr⟩
      have HF := hide hr
      clear hr PK
      go_wp2
      go_ret
      exact ⟨A', c, rfl, HF.out⟩
    · rw [hk]
      clear hk
      show Calls _ _ _ _ (RetS w B (l.take 1))
      rw [← hu] at n0 n1 n2 n3 n4 n5 n6
      clear hu
      have e0 : (U.toList == [66, 73, 84, 79, 80]) = false := by rw [beq_eq_false_iff_ne]; exact n0
      have e1 : (U.toList == [77, 69, 77, 79, 82, 89]) = false := by rw [beq_eq_false_iff_ne]; exact n1
      have e2 : (U.toList == [77, 83, 69, 84]) = false := by rw [beq_eq_false_iff_ne]; exact n2
      have e3 : (U.toList == [88, 73, 78, 70, 79]) = false := by rw [beq_eq_false_iff_ne]; exact n3
      have e4 : (U.toList == [88, 71, 82, 79, 85, 80]) = false := by rw [beq_eq_false_iff_ne]; exact n4
      have e5 : (U.toList == [88, 82, 69, 65, 68]) = false := by rw [beq_eq_false_iff_ne]; exact n5
      have e6 : (U.toList == [88, 82, 69, 65, 68, 71, 82, 79, 85, 80]) = false := by rw [beq_eq_false_iff_ne]; exact n6
      go_enter Tryd.func22, Tryd.ntmps22
      go_wp2_with fail
      refine UP.out.mono ?_
      rintro e w1 ⟨rfl, hx⟩
      have HX := hide hx
      clear hx UP
      go_wp2_with fail
      refine (WD.out _).mono ?_
      rintro e w2 ⟨rfl, rfl⟩
      go_wp2
      go_ret
      exact ret_take HR.out HN.out hn1 hc HM.out HX.out HB.out
end Go.Proofs.YtepeokoeempfgaaDoor
