/-
  spec.LineEnd, spec.Breaks, spec.Passed: what they compute.
-/
import Derived.Test.YtejngpbeogaapaaDoorFin
import Derived.Test.YtejngpbeogaapaaDoorSpecIn
namespace Go.Proofs.YtejngpbeogaapaaDoor
open Go.RowKit
set_option linter.unusedVariables false
set_option linter.unusedSimpArgs false

theorem data_cons (s : ByteArray) (h : 0 < s.size) : s.data.toList = s[0] :: s.data.toList.drop 1 := by
  have h2 : 0 < s.data.toList.length := by rw [size_data]; exact h
  have := List.drop_eq_getElem_cons h2
  rw [List.drop_zero] at this
  exact this
theorem not_empty (s : ByteArray) (h : 0 < s.size) : s.toList.isEmpty = false := by
  rw [ByteArray.toList_eq]
  cases hq : s.data.toList with
  | nil => have := size_data s; rw [hq] at this; simp at this; omega
  | cons _ _ => rfl
theorem byte_is (c : UInt8) (n : Nat) (hn : n < 256) : ((c.toNat : Int) == (n : Int)) = decide (c = UInt8.ofNat n) := by
  rw [Bool.eq_iff_iff]
  simp only [beq_iff_eq, decide_eq_true_eq]
  constructor
  · intro h
    apply UInt8.toNat_inj.1
    simp
    omega
  · intro h
    subst h
    simp
    omega
theorem byte_isnt (c : UInt8) (n : Nat) (hn : n < 256) : ((c.toNat : Int) != (n : Int)) = !decide (c = UInt8.ofNat n) := by
  show (!((c.toNat : Int) == (n : Int))) = _
  rw [byte_is c n hn]

set_option maxRecDepth 100000 in
theorem lineEnd_any (s : ByteArray) (w : World) (hs : s.size ≤ 2147483647) :
    Calls Tryd.prog 22 #[.string s] w fun e w' => e = .returned (.tuple #[.int .i64 ((eolAt s.data.toList).1 : Nat), .bool (eolAt s.data.toList).2.2]) ∧ w = w' := by
  generalize hx : eolAt s.data.toList = x
  by_cases h0 : s.size = 0
  · have he : s = ByteArray.empty := ByteArray.ext (Array.eq_empty_of_size_eq_zero h0)
    subst he
    have : x = (0, 0, true) := by rw [← hx]; rfl
    subst this
    clear hx h0 hs
    go_enter Tryd.func22, Tryd.ntmps22
    go_wp2
    go_ret2
    exact ⟨rfl, rfl⟩
  · have h1 : 0 < s.size := by omega
    have hd := data_cons s h1
    have he := not_empty s h1
    have b1 : ((s[0].toNat : Int) == 10) = decide (s[0] = 10) := byte_is _ 10 (by omega)
    have b2 : ((s[0].toNat : Int) != 13) = !decide (s[0] = 13) := byte_isnt _ 13 (by omega)
    by_cases c10 : s[0] = 10
    · have : x = (1, 1, true) := by rw [← hx, hd]; simp [eolAt, c10]
      subst this
      rw [decide_eq_true c10] at b1
      clear hx hd h0 b2 c10
      go_enter Tryd.func22, Tryd.ntmps22
      go_wp2
      go_ret2
      exact ⟨rfl, rfl⟩
    · rw [decide_eq_false c10] at b1
      by_cases c13 : s[0] = 13
      · rw [decide_eq_true c13] at b2
        by_cases hn1 : s.size = 1
        · have : x = (1, 0, true) := by
            rw [← hx, hd, List.drop_eq_nil_of_le (by rw [size_data]; omega)]
            simp [eolAt, c10, c13]
          subst this
          have e1 : ((s.size : Int) == 1) = true := by rw [hn1]; rfl
          clear hx hd h0 c10 c13 hn1
          go_enter Tryd.func22, Tryd.ntmps22
          go_wp2
          go_ret2
          exact ⟨rfl, rfl⟩
        · have h2 : 1 < s.size := by omega
          have e1 : ((s.size : Int) == 1) = false := by rw [beq_eq_false_iff_ne]; omega
          have hd2 : s.data.toList.drop 1 = s[1] :: s.data.toList.drop 2 := by
            have h2 : 1 < s.data.toList.length := by rw [size_data]; exact h2
            exact List.drop_eq_getElem_cons h2
          have b3 : ((s[1].toNat : Int) == 10) = decide (s[1] = 10) := byte_is _ 10 (by omega)
          by_cases d10 : s[1] = 10
          · have : x = (2, 1, true) := by
              rw [← hx, hd, hd2]
              simp [eolAt, c10, c13, d10]
            subst this
            rw [decide_eq_true d10] at b3
            clear hx hd hd2 h0 c10 c13 d10 hn1
            go_enter Tryd.func22, Tryd.ntmps22
            go_wp2
            go_ret2
            exact ⟨rfl, rfl⟩
          · have : x = (0, 0, false) := by
              rw [← hx, hd, hd2]
              simp [eolAt, c10, c13, d10]
            subst this
            rw [decide_eq_false d10] at b3
            clear hx hd hd2 h0 c10 c13 d10 hn1
            go_enter Tryd.func22, Tryd.ntmps22
            go_wp2
            go_ret2
            exact ⟨rfl, rfl⟩
      · have : x = (0, 0, false) := by rw [← hx, hd]; simp [eolAt, c10, c13]
        subst this
        rw [decide_eq_false c13] at b2
        clear hx hd h0 c10 c13
        go_enter Tryd.func22, Tryd.ntmps22
        go_wp2
        go_ret2
        exact ⟨rfl, rfl⟩

theorem lfs_snoc (l : List UInt8) (c : UInt8) : lfs (l ++ [c]) = lfs l + if c = 10 then 1 else 0 := by
  rw [lfs_append]
  by_cases h : c = 10 <;> simp [lfs, h]
set_option maxRecDepth 100000 in
theorem breaks_any (s : ByteArray) (w : World) (hs : s.size ≤ 2147483647) :
    Calls Tryd.prog 11 #[.string s] w fun e w' => e = .returned (.int .i64 (lfs s.data.toList : Nat)) ∧ w = w' := by
  go_enter Tryd.func11, Tryd.ntmps11
  go_wp2
  go_loop [3, 4] (fun s3 s4 => ∃ k : Nat, k ≤ s.size ∧ s4 = .int .i64 k ∧ s3 = .int .i64 (lfs (s.data.toList.take k) : Nat)) (fun _ s4 => s.size - (intOf s4).toNat)
  case atStart => exact ⟨0, by omega, rfl, rfl⟩
  case round =>
    obtain ⟨k, hk, rfl, rfl⟩ := hrel
    have hl := lfs_le (s.data.toList.take k)
    rw [List.length_take] at hl
    by_cases hlt : k < s.size
    · have hn := lfs_snoc (s.data.toList.take k) s[k]
      rw [← take_snoc_s s k hlt] at hn
      have HN := hide hn
      have b1 : ((s[k].toNat : Int) == 10) = decide (s[k] = 10) := byte_is _ 10 (by omega)
      have hl2 : ((lfs (s.data.toList.take k) : Nat) : Int) ≤ 2147483647 := by omega
      generalize lfs (s.data.toList.take k) = q at HN hl2
      clear hn hl
      by_cases c10 : s[k] = 10
      · rw [decide_eq_true c10] at b1
        have HN2 : Hid (lfs (s.data.toList.take (k + 1)) = q + 1) := hide (by rw [HN.out, if_pos c10])
        clear HN c10
        go_wp2
        go_round
        case rel => exact ⟨k + 1, by omega, by go_num, by rw [HN2.out]; go_num⟩
        case measure => simp [intOf]; omega
      · rw [decide_eq_false c10] at b1
        have HN2 : Hid (lfs (s.data.toList.take (k + 1)) = q) := hide (by rw [HN.out, if_neg c10, Nat.add_zero])
        clear HN c10
        go_wp2
        go_round
        case rel => exact ⟨k + 1, by omega, by go_num, by rw [HN2.out]⟩
        case measure => simp [intOf]; omega
    · have HE : Hid (lfs (s.data.toList.take k) = lfs s.data.toList) := hide (by rw [List.take_of_length_le (by rw [size_data]; omega)])
      clear hl
      go_wp2
      go_ret
      exact ⟨by rw [HE.out]; rfl, rfl⟩
end Go.Proofs.YtejngpbeogaapaaDoor
