/-
  The walk of laws.FnTake: a decoder takes the bytes of a set.
-/
import Derived.Test.YtejngpbeogaapaaDoorSpecIn
import Derived.Lib.Strings
namespace Go.Proofs.YtejngpbeogaapaaDoor
open Go.RowKit
set_option linter.unusedVariables false
set_option linter.unusedSimpArgs false

theorem take_extract0 (s : ByteArray) (n : Nat) : (s.extract 0 n).data.toList = s.data.toList.take n := by
  simp [ByteArray.data_extract, Array.toList_extract, List.extract]
theorem bytes_eq {a b : ByteArray} (h : a.data.toList = b.data.toList) : a = b := by
  cases a; cases b
  congr 1
  exact Array.toList_inj.1 h
theorem takeWhile_text (s : ByteArray) (P : UInt8 → Bool) : (⟨(s.data.toList.takeWhile P).toArray⟩ : ByteArray) = s.extract 0 (s.data.toList.takeWhile P).length := by
  apply bytes_eq
  rw [take_extract0]
  exact List.prefix_iff_eq_take.1 (List.takeWhile_prefix P)

set_option maxRecDepth 100000 in
set_option maxHeartbeats 2000000 in
theorem fnTake_walk0 (s : Int) (text : ByteArray) (A : Option Addr) (cap : Nat) (l : List Int) (w : World) (B : Nat) (ad : Addr) (hE : EofAt w B ad) (hR : Reads w B 1 A l.length (is_ l)) (hv : ∀ x ∈ l, -9223372036854775808 ≤ x ∧ x ≤ 9223372036854775807) :
    Calls Tryd.prog 3 #[.int .i64 s, .string text, .slice A l.length cap] w fun e w' => e = .returned (.bool true) ∧ Below w.heap.size w w' := by
  by_cases h1 : 2147483647 < (text.size : Int)
  · clear hE hR hv
    go_enter Tryd.func3, Tryd.ntmps3
    go_wp2
    go_ret
    exact ⟨rfl, Below.refl _ _⟩
  by_cases h2 : 2147483647 < (l.length : Int)
  · clear hE hR hv
    go_enter Tryd.func3, Tryd.ntmps3
    go_wp2
    go_ret
    exact ⟨rfl, Below.refl _ _⟩
  have d1 := decide_eq_false h1
  have d2 := decide_eq_false h2
  by_cases h3 : s < 0
  · clear hE hR hv
    go_enter Tryd.func3, Tryd.ntmps3
    go_wp2
    go_ret
    exact ⟨rfl, Below.refl _ _⟩
  by_cases h4 : 13 < s
  · clear hE hR hv
    go_enter Tryd.func3, Tryd.ntmps3
    go_wp2
    go_ret
    exact ⟨rfl, Below.refl _ _⟩
  by_cases h5 : 2000 < (text.size : Int)
  · clear hE hR hv
    go_enter Tryd.func3, Tryd.ntmps3
    go_wp2
    go_ret
    exact ⟨rfl, Below.refl _ _⟩
  by_cases h6 : 100 < (l.length : Int)
  · clear hE hR hv
    go_enter Tryd.func3, Tryd.ntmps3
    go_wp2
    go_ret
    exact ⟨rfl, Below.refl _ _⟩
  obtain ⟨k, rfl⟩ : ∃ k : Nat, s = k := ⟨s.toNat, by omega⟩
  have TAKE := hide (implTake_any k (by omega) text A cap l w B ad (by omega) hE hR (by omega) hv)
  have hk13 : k ≤ 13 := by omega
  have h2000 : text.size ≤ 2000 := by omega
  have IN := hide (specIn_any k hk13)
  rw [takeWhile_text] at TAKE
  generalize hP : (fun c : UInt8 => doorF k c.toNat) = P at TAKE
  have HP := hide hP
  have HT := hide (tw_le text.data.toList P)
  clear hE hR hv hP
  go_enter Tryd.func3, Tryd.ntmps3
  go_wp2
  go_loopw [7] (fun s7 wr => ∃ n : Nat, n ≤ (text.data.toList.takeWhile P).length ∧ s7 = .int .i64 n ∧ w = wr) (fun s7 _ => text.size - (intOf s7).toNat)
  case atStart => exact ⟨0, by omega, rfl, rfl⟩
  case round =>
    obtain ⟨n, hn, rfl, rfl⟩ := hrel
    have hns : n ≤ text.size := by have := HT.out; rw [size_data] at this; omega
    by_cases hlt : n < text.size
    · have TW := hide (tw_next hn (by rw [size_data]; exact hlt))
      have hnn : (n : Int) < (text.size : Int) := by omega
      cases hV : doorF k (text[n]).toNat with
      | true =>
        have hV2 : P (text.data.toList[n]'(by rw [size_data]; exact hlt)) = true := by rw [← HP.out]; exact hV
        have TW2 := hide (TW.out.1 hV2)
        have INN := hide (IN.out text[n])
        rw [hV] at INN
        clear TW hV hV2
        go_wp2_with fail
        refine (INN.out _).mono ?_
        rintro e w1 ⟨rfl, rfl⟩
        go_wp2
        go_roundw
        case rel => exact ⟨n + 1, TW2.out, by go_num, by simp⟩
        case measure => simp [intOf]; omega
      | false =>
        have hV2 : P (text.data.toList[n]'(by rw [size_data]; exact hlt)) = false := by rw [← HP.out]; exact hV
        have TW2 := TW.out.2 hV2
        rw [TW2] at TAKE
        have INN := hide (IN.out text[n])
        rw [hV] at INN
        clear TW hV hV2 TW2 hn
        go_wp2_with fail
        refine (INN.out _).mono ?_
        rintro e w1 ⟨rfl, rfl⟩
        go_wp2_with fail
        refine TAKE.out.mono ?_
        rintro e w1 ⟨rfl, hx⟩
        have HX := hide hx
        clear hx
        go_wp2
        go_ret
        exact ⟨rfl, HX.out⟩
    · obtain rfl : n = text.size := by omega
      have TW2 : (text.data.toList.takeWhile P).length = text.size := by have := HT.out; rw [size_data] at this; omega
      rw [TW2] at TAKE
      clear TW2 hn
      go_wp2_with fail
      refine TAKE.out.mono ?_
      rintro e w1 ⟨rfl, hx⟩
      have HX := hide hx
      clear hx
      go_wp2
      go_ret
      exact ⟨rfl, HX.out⟩

theorem fnTake_walk (s : Int) (text : ByteArray) (A : Option Addr) (cap : Nat) (l : List Int) (_h0 : (Lit.int .i64 s).wf = true) (_h1 : text.size ≤ maxLen) (ad : Addr) (B : Nat) (w : World) (hE : EofAt w B ad) (hR : Reads w B 1 A l.length (is_ l)) (hv : ∀ x ∈ l, -9223372036854775808 ≤ x ∧ x ≤ 9223372036854775807) :
    Calls Tryd.prog 3 #[.int .i64 s, .string text, .slice A l.length cap] w fun e w' => e = .returned (.bool true) ∧ Below w.heap.size w w' :=
  fnTake_walk0 s text A cap l w B ad hE hR hv
end Go.Proofs.YtejngpbeogaapaaDoor
