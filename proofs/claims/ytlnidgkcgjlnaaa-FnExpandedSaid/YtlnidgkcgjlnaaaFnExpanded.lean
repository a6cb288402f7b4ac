/-
  The walk of laws.FnExpanded.
-/
import Derived.Test.YtlnidgkcgjlnaaaExpanded
namespace Go.Proofs.Ytlnidgkcgjlnaaa
open Go.RowKit
set_option linter.unusedVariables false
set_option linter.unusedSimpArgs false

theorem expandTo_get (l : List UInt8) (c n i : Nat) (hl : l.length ≤ c) (hi : i < n) (h : i < (expandTo (inRoom l c) n).length) :
    (expandTo (inRoom l c) n)[i] = if h2 : n ≤ c ∧ i < l.length then l[i]'h2.2 else 0 := by
  have hlen := inRoom_length l c hl
  by_cases hn : n ≤ c
  · have e : expandTo (inRoom l c) n = (inRoom l c).take n := by rw [expandTo, if_pos (by omega)]
    have e2 : (expandTo (inRoom l c) n)[i]? = (if h2 : n ≤ c ∧ i < l.length then some (l[i]'h2.2) else some 0) := by
      rw [e, List.getElem?_take, if_pos hi, inRoom, List.getElem?_append]
      by_cases h3 : i < l.length
      · rw [if_pos h3, dif_pos ⟨hn, h3⟩, List.getElem?_eq_getElem h3]
      · rw [if_neg h3, dif_neg (by omega), List.getElem?_replicate, if_pos (by omega)]
    rw [List.getElem?_eq_getElem h] at e2
    split at e2
    · rename_i h2
      rw [dif_pos h2]; simpa using e2
    · rename_i h2
      rw [dif_neg h2]; simpa using e2
  · rw [dif_neg (by omega)]
    have e : expandTo (inRoom l c) n = List.replicate n 0 := by rw [expandTo, if_neg (by omega)]
    have e2 : (expandTo (inRoom l c) n)[i]? = some 0 := by rw [e, List.getElem?_replicate, if_pos hi]
    rw [List.getElem?_eq_getElem h] at e2
    simpa using e2

theorem size_mk (l : List UInt8) : (⟨l.toArray⟩ : ByteArray).size = l.length := by simp [ByteArray.size]

theorem ab_one : (⟨(expandTo (inRoom (⟨#[97, 98]⟩ : ByteArray).data.toList 2) 1).toArray⟩ : ByteArray) = ⟨#[97]⟩ := by decide +kernel

set_option maxRecDepth 100000 in
set_option maxHeartbeats 1000000 in
theorem fnExpanded_core (s r : ByteArray) (room : Int) (n c : Nat) (w : World) (hs : s.size ≤ 500) (hr0 : 0 ≤ room) (hr : room ≤ 5000) (hn : n ≤ 5000)
    (hm : (room < s.size ∧ s.size = c) ∨ (¬ room < s.size ∧ room = (c : Int))) (hsz : r.size = n)
    (HG : Hid (∀ i, i < n → ∃ h : i < r.size, r[i] = if h2 : n ≤ c ∧ i < s.size then s[i]'h2.2 else 0))
    (H1 : Hid (∀ w, Calls Try.prog 9 #[.string s, .int .i64 room, .int .i64 n] w fun e w' => e = .returned (.tuple #[.string r, .bool true]) ∧ Ext w w'))
    (H2 : Hid (∀ w, Calls Try.prog 9 #[.string ⟨#[97, 98]⟩, .int .i64 2, .int .i64 1] w fun e w' => e = .returned (.tuple #[.string ⟨#[97]⟩, .bool true]) ∧ Ext w w')) :
    Calls Try.prog 3 #[.string s, .int .i64 room, .int .i64 n] w fun e w' => e = .returned (.bool true) ∧ Below w.heap.size w w' := by
  by_cases hk : n ≤ c
  all_goals
    rcases hm with ⟨hlt, he⟩ | ⟨hlt, he⟩
    all_goals
      first | (obtain rfl := he) | (subst he)
      go_enter Try.func3, Try.ntmps3
      go_wp2_with fail
      refine (H1.out _).mono ?_; rintro e w1 ⟨rfl, hx1⟩
      go_wp2_with fail
      refine (H2.out _).mono ?_; rintro e w2 ⟨rfl, hx2⟩
      have HX := hide (hx1.trans hx2)
      clear hx1 hx2
      go_wp2
      go_loop [12] (fun i => ∃ k : Nat, k ≤ n ∧ i = .int .i64 k) (fun i => n - (intOf i).toNat)
      case atStart => exact ⟨0, by omega, rfl⟩
      case round =>
        obtain ⟨k, hkn, rfl⟩ := hrel
        by_cases hlt2 : k < n
        · obtain ⟨hrk, hg⟩ := HG.out k hlt2
          by_cases hi : k < s.size
          · split at hg
            · rename_i h2
              first
              | omega
              | have hb : ((r[k].toNat : Int) != (s[k].toNat : Int)) = false := by rw [hg]; simp
                clear hg h2
                go_wp2
                go_round
                case rel => exact ⟨k + 1, by omega, by go_num⟩
                case measure => simp [intOf]; omega
            · rename_i h2
              first
              | omega
              | have hb : ((r[k].toNat : Int) != 0) = false := by rw [hg]; rfl
                clear hg h2
                go_wp2
                go_round
                case rel => exact ⟨k + 1, by omega, by go_num⟩
                case measure => simp [intOf]; omega
          · rw [dif_neg (by omega)] at hg
            have hb : ((r[k].toNat : Int) != 0) = false := by rw [hg]; rfl
            clear hg
            go_wp2
            go_round
            case rel => exact ⟨k + 1, by omega, by go_num⟩
            case measure => simp [intOf]; omega
        · go_wp2
          go_ret
          exact ⟨rfl, HX.out⟩

set_option maxRecDepth 100000 in
set_option maxHeartbeats 1000000 in
theorem fnExpanded_walk (s : ByteArray) (room n : Int) (hs : s.size ≤ maxLen) (w1 : (Lit.int .i64 room).wf = true) (w2 : (Lit.int .i64 n).wf = true) (w : World) :
    Calls Try.prog 3 #[.string s, .int .i64 room, .int .i64 n] w fun e w' => e = .returned (.bool true) ∧ Below w.heap.size w w' := by
  clear w1 w2
  unfold maxLen at hs
  by_cases h0 : 2147483647 < s.size
  · go_enter Try.func3, Try.ntmps3
    go_wp2
    go_ret
    exact ⟨rfl, Below.refl _ _⟩
  · by_cases hok : s.size ≤ 500 ∧ 0 ≤ room ∧ room ≤ 5000 ∧ 0 ≤ n ∧ n ≤ 5000
    · obtain ⟨h1, h2, h3, h4, h5⟩ := hok
      obtain ⟨m, rfl⟩ := Int.eq_ofNat_of_zero_le h4
      have hab := fun w => implExpanded_core ⟨#[97, 98]⟩ 2 1 2 w (by decide) (by decide) (by decide) (by decide) (by decide) (by decide) (.inr ⟨by decide, rfl⟩)
      rw [ab_one] at hab
      by_cases hlt : room < s.size
      · have h := fun w => implExpanded_core s room m s.size w h1 h2 h3 (by omega) (Nat.le_refl _) (by omega) (.inl ⟨hlt, rfl⟩)
        refine fnExpanded_core s _ room m s.size w h1 h2 h3 (by omega) (.inl ⟨hlt, rfl⟩) ?_ (hide ?_) (hide h) (hide hab)
        · rw [size_mk, expandTo_length]
        · intro i hi
          have hz : i < (expandTo (inRoom s.data.toList s.size) m).length := by rw [expandTo_length]; exact hi
          have hg := expandTo_get s.data.toList s.size m i (by rw [size_data]; omega) hi hz
          refine ⟨(size_mk _).symm ▸ hz, ?_⟩
          simp only [size_data] at hg
          exact hg
      · obtain ⟨c, rfl⟩ := Int.eq_ofNat_of_zero_le h2
        have h := fun w => implExpanded_core s c m c w h1 h2 h3 (by omega) (by omega) (by omega) (.inr ⟨hlt, rfl⟩)
        refine fnExpanded_core s _ c m c w h1 h2 h3 (by omega) (.inr ⟨hlt, rfl⟩) ?_ (hide ?_) (hide h) (hide hab)
        · rw [size_mk, expandTo_length]
        · intro i hi
          have hz : i < (expandTo (inRoom s.data.toList c) m).length := by rw [expandTo_length]; exact hi
          have hg := expandTo_get s.data.toList c m i (by rw [size_data]; omega) hi hz
          refine ⟨(size_mk _).symm ▸ hz, ?_⟩
          simp only [size_data] at hg
          exact hg
    · rcases (by omega : 500 < s.size ∨ (s.size ≤ 500 ∧ room < 0) ∨ (s.size ≤ 500 ∧ 0 ≤ room ∧ 5000 < room) ∨ (s.size ≤ 500 ∧ 0 ≤ room ∧ room ≤ 5000 ∧ n < 0) ∨ (s.size ≤ 500 ∧ 0 ≤ room ∧ room ≤ 5000 ∧ 0 ≤ n ∧ 5000 < n)) with h | ⟨h, h1⟩ | ⟨h, h1, h2⟩ | ⟨h, h1, h2, h3⟩ | ⟨h, h1, h2, h3, h4⟩
      all_goals
        clear hok
        go_enter Try.func3, Try.ntmps3
        go_wp2
        go_ret
        exact ⟨rfl, Below.refl _ _⟩

end Go.Proofs.Ytlnidgkcgjlnaaa
