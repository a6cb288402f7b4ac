/-
  The walk of laws.FnReadMore: so many more bytes of a reader.
-/
import Derived.Test.YtnenjkngimfdgaaDoorReadMore
import Derived.Lib.Strings
namespace Go.Proofs.YtnenjkngimfdgaaDoor
open Go.RowKit
set_option linter.unusedVariables false
set_option linter.unusedSimpArgs false

theorem mAsked_yes (s : ByteArray) (A : Option Addr) (len cap : Nat) (w : World) (h1 : (s.size : Int) ≤ 2000) (h2 : (len : Int) ≤ 50) : Calls Tryd.prog 7 #[.string s, .slice A len cap] w fun e w' => e = .returned (.bool true) ∧ w = w' := by
  go_enter Tryd.func7, Tryd.ntmps7
  go_wp2
  go_ret
  exact ⟨by first | rfl | simp [h2], rfl⟩
theorem mAsked_no (s : ByteArray) (A : Option Addr) (len cap : Nat) (w : World) (h : ¬ ((s.size : Int) ≤ 2000 ∧ (len : Int) ≤ 50)) : Calls Tryd.prog 7 #[.string s, .slice A len cap] w fun e w' => e = .returned (.bool false) ∧ w = w' := by
  by_cases h1 : (s.size : Int) ≤ 2000
  · have h2 : ¬ (len : Int) ≤ 50 := fun h2 => h ⟨h1, h2⟩
    have d1 := decide_eq_true h1
    have d2 := decide_eq_false h2
    clear h
    go_enter Tryd.func7, Tryd.ntmps7
    go_wp2
    go_ret
    exact ⟨by first | rfl | simp [h2], rfl⟩
  · have d1 := decide_eq_false h1
    clear h
    go_enter Tryd.func7, Tryd.ntmps7
    go_wp2
    go_ret
    exact ⟨by first | rfl | simp [h1], rfl⟩

theorem take_extract0 (s : ByteArray) (n : Nat) : (s.extract 0 n).data.toList = s.data.toList.take n := by
  simp [ByteArray.data_extract, Array.toList_extract, List.extract]
theorem bytes_eq {a b : ByteArray} (h : a.data.toList = b.data.toList) : a = b := by
  cases a; cases b
  congr 1
  exact Array.toList_inj.1 h

/-- What is asked of a call of ReadMore. -/
def MoreWell (s had : ByteArray) (n : Nat) (w : World) (e : Ending) (w' : World) : Prop := e = .returned (.tuple #[.string (had ++ s.extract 0 n), .int .i64 ((s.size : Int) - (n : Int)), .int .i64 0]) ∧ Ext w w'
theorem moreWell {s had : ByteArray} {n : Nat} {w w' : World} {e : Ending} (h : MoreOut s.data.toList had.data.toList n w e w') (hn : n ≤ s.size) : MoreWell s had n w e w' := by
  obtain ⟨S, L, St, rfl, hx, h1, h2⟩ := h
  obtain ⟨h3, rfl, rfl⟩ := h1 (by rw [size_data]; exact hn)
  refine ⟨?_, hx⟩
  have : S = had ++ s.extract 0 n := bytes_eq (by rw [h3, ByteArray.data_append, Array.toList_append, take_extract0])
  have hl : ((s.data.toList.length - n : Nat) : Int) = (s.size : Int) - (n : Int) := by rw [size_data]; omega
  rw [this, hl]
def MoreBad (w : World) (e : Ending) (w' : World) : Prop := ∃ (S : ByteArray) (L : Int), e = .returned (.tuple #[.string S, .int .i64 L, .int .i64 2]) ∧ Ext w w'
theorem moreBad {s had : ByteArray} {n : Nat} {w w' : World} {e : Ending} (h : MoreOut s.data.toList had.data.toList n w e w') (hn : s.size < n) : MoreBad w e w' := by
  obtain ⟨S, L, St, rfl, hx, h1, h2⟩ := h
  obtain rfl := h2 (by rw [size_data]; exact hn)
  exact ⟨S, L, rfl, hx⟩

set_option maxRecDepth 100000 in
set_option maxHeartbeats 2000000 in
theorem fnReadMore_walk0 (s had : ByteArray) (n : Int) (A : Option Addr) (cap : Nat) (l : List Int) (w : World) (B : Nat) (ad ad2 : Addr) (hEU : EofAt w B ad ∧ UeofAt w B ad2) (hR : Reads w B 1 A l.length (is_ l)) (hv : ∀ x ∈ l, -9223372036854775808 ≤ x ∧ x ≤ 9223372036854775807) :
    Calls Tryd.prog 4 #[.string s, .string had, .int .i64 n, .slice A l.length cap] w fun e w' => e = .returned (.bool true) ∧ Below w.heap.size w w' := by
  obtain ⟨hE, hU⟩ := hEU
  by_cases hg : 2147483647 < (s.size : Int) ∨ 2147483647 < (had.size : Int) ∨ 2147483647 < (l.length : Int)
  · clear hE hU hR hv
    by_cases h1 : 2147483647 < (s.size : Int)
    · clear hg
      go_enter Tryd.func4, Tryd.ntmps4
      go_wp2
      go_ret
      exact ⟨rfl, Below.refl _ _⟩
    · by_cases h2 : 2147483647 < (had.size : Int)
      · clear hg
        go_enter Tryd.func4, Tryd.ntmps4
        go_wp2
        go_ret
        exact ⟨rfl, Below.refl _ _⟩
      · have h3 : 2147483647 < (l.length : Int) := by omega
        clear hg
        go_enter Tryd.func4, Tryd.ntmps4
        go_wp2
        go_ret
        exact ⟨rfl, Below.refl _ _⟩
  obtain ⟨g1, g2, g3⟩ : ¬ 2147483647 < (s.size : Int) ∧ ¬ 2147483647 < (had.size : Int) ∧ ¬ 2147483647 < (l.length : Int) := ⟨fun h => hg (.inl h), fun h => hg (.inr (.inl h)), fun h => hg (.inr (.inr h))⟩
  have g2d := decide_eq_false g2
  have g3d := decide_eq_false g3
  clear hg
  rcases Classical.em (¬ ((s.size : Int) ≤ 2000 ∧ (l.length : Int) ≤ 50)) with hm | hm
  · have H := hide (mAsked_no s A l.length cap w hm)
    clear hE hU hR hv hm
    go_enter Tryd.func4, Tryd.ntmps4
    go_wp2_with fail
    refine H.out.mono ?_
    rintro e w1 ⟨rfl, rfl⟩
    go_wp2
    go_ret
    exact ⟨rfl, Below.refl _ _⟩
  obtain ⟨hm1, hm2⟩ := Classical.not_not.1 hm
  clear hm
  have H := hide (mAsked_yes s A l.length cap w hm1 hm2)
  by_cases h4 : 500 < (had.size : Int)
  · clear hE hU hR hv
    have d4 := decide_eq_true h4
    go_enter Tryd.func4, Tryd.ntmps4
    go_wp2_with fail
    refine H.out.mono ?_
    rintro e w1 ⟨rfl, rfl⟩
    go_wp2
    go_ret
    exact ⟨rfl, Below.refl _ _⟩
  have d4 := decide_eq_false h4
  by_cases h5 : n < 0
  · clear hE hU hR hv
    have d5 := decide_eq_true h5
    go_enter Tryd.func4, Tryd.ntmps4
    go_wp2_with fail
    refine H.out.mono ?_
    rintro e w1 ⟨rfl, rfl⟩
    go_wp2
    go_ret
    exact ⟨rfl, Below.refl _ _⟩
  have d5 := decide_eq_false h5
  by_cases h6 : 5000 < n
  · clear hE hU hR hv
    have d6 := decide_eq_true h6
    go_enter Tryd.func4, Tryd.ntmps4
    go_wp2_with fail
    refine H.out.mono ?_
    rintro e w1 ⟨rfl, rfl⟩
    go_wp2
    go_ret
    exact ⟨rfl, Below.refl _ _⟩
  have d6 := decide_eq_false h6
  obtain ⟨k, rfl⟩ : ∃ k : Nat, n = k := ⟨n.toNat, by omega⟩
  have R1 : Hid (Calls Tryd.prog 13 #[.string s, .string had, .int .i64 k, .slice A l.length cap] w (MoreOut s.data.toList had.data.toList k w)) := hide
    (implReadMore_any s had k A cap l w B ad ad2 (by omega) (by omega) (by omega) hE hU hR (by omega) hv)
  have R2 : Hid (∀ w1, Ext w w1 → Calls Tryd.prog 13 #[.string ⟨#[97, 98]⟩, .string ⟨#[99]⟩, .int .i64 1, .slice A l.length cap] w1 fun e w' => e = .returned (.tuple #[.string ⟨#[99, 97]⟩, .int .i64 1, .int .i64 0]) ∧ Ext w1 w') := hide fun w1 hx => by
    have hc := Chg.of_ext hx []
    refine (implReadMore_any ⟨#[97, 98]⟩ ⟨#[99]⟩ 1 A cap l w1 B ad ad2 (by omega) (by decide) (by decide) (hE.chg hc (by simp)) (hU.chg hc (by simp)) (hR.chg hc (by simp) hE.2.1) (by omega) hv).mono ?_
    rintro e w' h
    obtain ⟨rfl, hx2⟩ := moreWell (s := ⟨#[97, 98]⟩) (had := ⟨#[99]⟩) h (by decide)
    have e1 : (⟨#[99]⟩ : ByteArray) ++ (⟨#[97, 98]⟩ : ByteArray).extract 0 1 = ⟨#[99, 97]⟩ := by decide +kernel
    rw [e1]
    exact ⟨rfl, hx2⟩
  clear hE hU hR hv
  by_cases h7 : s.size < k
  · have h8 : (s.size : Int) < (k : Int) := by omega
    go_enter Tryd.func4, Tryd.ntmps4
    go_wp2_with fail
    refine H.out.mono ?_
    rintro e w1 ⟨rfl, rfl⟩
    go_wp2_with fail
    refine R1.out.mono ?_
    rintro e w1 h
    obtain ⟨S, L, rfl, hx⟩ := moreBad h h7
    have X := hide hx
    clear h hx
    go_wp2_with fail
    refine (R2.out _ X.out).mono ?_
    rintro e w2 ⟨rfl, hx⟩
    have X2 := hide (X.out.trans hx)
    clear hx X
    go_wp2
    go_ret
    exact ⟨rfl, X2.out⟩
  · have h8 : ¬ (s.size : Int) < (k : Int) := by omega
    have h9 : (k : Int) ≤ (s.size : Int) := by omega
    have h10 : k ≤ s.size := by omega
    go_enter Tryd.func4, Tryd.ntmps4
    go_wp2_with fail
    refine H.out.mono ?_
    rintro e w1 ⟨rfl, rfl⟩
    go_wp2_with fail
    refine R1.out.mono ?_
    rintro e w1 h
    obtain ⟨rfl, hx⟩ := moreWell h h10
    have X := hide hx
    clear h hx
    go_wp2_with fail
    refine (R2.out _ X.out).mono ?_
    rintro e w2 ⟨rfl, hx⟩
    have X2 := hide (X.out.trans hx)
    clear hx X
    go_wp2
    go_ret
    exact ⟨rfl, X2.out⟩

theorem fnReadMore_walk (s had : ByteArray) (n : Int) (A : Option Addr) (cap : Nat) (l : List Int) (_h1 : s.size ≤ maxLen) (_h2 : had.size ≤ maxLen) (_h3 : (Lit.int .i64 n).wf = true) (ad ad2 : Addr) (B : Nat) (w : World) (hEU : EofAt w B ad ∧ UeofAt w B ad2) (hR : Reads w B 1 A l.length (is_ l)) (hv : ∀ x ∈ l, -9223372036854775808 ≤ x ∧ x ≤ 9223372036854775807) :
    Calls Tryd.prog 4 #[.string s, .string had, .int .i64 n, .slice A l.length cap] w fun e w' => e = .returned (.bool true) ∧ Below w.heap.size w w' :=
  fnReadMore_walk0 s had n A cap l w B ad ad2 hEU hR hv
end Go.Proofs.YtnenjkngimfdgaaDoor
