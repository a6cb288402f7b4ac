/-
  laws.FnValueOf returns true, at every input.
-/
import Derived.Test.YtkockmpncocjhaaDoorFnV
namespace Go.Proofs.YtkockmpncocjhaaDoor
open Go.RowKit Go.Lib Go.Shelf
set_option linter.unusedVariables false
set_option linter.unusedSimpArgs false

theorem canB_other {k : Int} (s : ByteArray) (F : Nat) (h1 : k ≠ 1) (h2 : k ≠ 2) (h3 : k ≠ 3) (h4 : k ≠ 4) (h5 : k ≠ 5) : canB k s F = false := by unfold canB; rw [if_neg h1, if_neg h4]; simp [h2, h3, h5]
theorem value_any (k : Int) (s : ByteArray) (N U : Int) (F : Nat) (b : Bool) (w : World) (hs : s.size ≤ 1000000) (hU0 : 0 ≤ U) (hU1 : U < 18446744073709551616) (hF : F < 18446744073709551616) (hT : TabsV w) (ok : Bool) (hok : ok = canB k s F) :
    Calls Tryd.prog 12 #[ivV k s N U F b] w fun e w' => (∃ x, e = .returned (.tuple #[x, .bool ok]) ∧ Made w.heap.size k s N U F b ok w' x) ∧ Ext w w' := by
  by_cases h1 : k = 1
  · subst h1; exact value1 s N U F b w hs hU0 hU1 hF hT ok hok
  · by_cases h2 : k = 2
    · subst h2; exact value2 s N U F b w hs hU0 hU1 hF hT ok hok
    · by_cases h3 : k = 3
      · subst h3; exact value3 s N U F b w hs hU0 hU1 hF hT ok hok
      · by_cases h4 : k = 4
        · subst h4; exact value4 s N U F b w hs hU0 hU1 hF hT ok hok
        · by_cases h5 : k = 5
          · subst h5; exact value5 s N U F b w hs hU0 hU1 hF hT ok hok
          · rw [canB_other s F h1 h2 h3 h4 h5] at hok
            subst hok
            exact value0 k s N U F b w hs hU0 hU1 hF hT h1 h2 h3 h4 h5
theorem vn_any (k : Int) (s : ByteArray) (N U : Int) (F : Nat) (b raw : Bool) (w : World) (hs : s.size ≤ 1000000) (hU0 : 0 ≤ U) (hU1 : U < 18446744073709551616) (hF : F < 18446744073709551616) (hT : TabsV w) (ok : Bool) (hok : ok = canB k s F) :
    ∃ Q : World → Value → Prop, (∀ W, Ext w W → Calls Tryd.prog 16 #[ivV k s N U F b, .bool raw] W fun e w' => (∃ v, e = .returned v ∧ Q w' v) ∧ Ext W w') ∧
      (∀ W v, Ext w W → Q W v → Calls Tryd.prog 15 #[v] W fun e w' => (∃ x, e = .returned (.tuple #[x, .bool ok]) ∧ Made W.heap.size k s N U F b ok w' x) ∧ Ext W w') := by
  have one : ∀ (v0 : Value), (∀ W, Ext w W → Calls Tryd.prog 16 #[ivV k s N U F b, .bool raw] W fun e w' => e = .returned v0 ∧ Ext W w') → (∀ W, Ext w W → Calls Tryd.prog 15 #[v0] W fun e w' => (∃ x, e = .returned (.tuple #[x, .bool ok]) ∧ Made W.heap.size k s N U F b ok w' x) ∧ Ext W w') →
      ∃ Q : World → Value → Prop, (∀ W, Ext w W → Calls Tryd.prog 16 #[ivV k s N U F b, .bool raw] W fun e w' => (∃ v, e = .returned v ∧ Q w' v) ∧ Ext W w') ∧ (∀ W v, Ext w W → Q W v → Calls Tryd.prog 15 #[v] W fun e w' => (∃ x, e = .returned (.tuple #[x, .bool ok]) ∧ Made W.heap.size k s N U F b ok w' x) ∧ Ext W w') :=
    fun v0 hA hN => ⟨fun _ v => v = v0, fun W hx => (hA W hx).mono fun e w' ⟨h, hx2⟩ => ⟨⟨v0, h, rfl⟩, hx2⟩, fun W v hx hq => by subst hq; exact hN W hx⟩
  by_cases h1 : k = 1
  · subst h1
    cases raw
    · exact one _ (fun W hx => anyOf1 s N U F b W) (fun W hx => newV1 s N U F b W hs hU0 hU1 hF (hT.ext hx) ok hok)
    · refine ⟨fun W v => ∃ v', v = .iface 35 v' ∧ RawAny s W v', fun W hx => (anyOfB s N U F b W).mono fun e w' ⟨⟨v, h, hq⟩, hx2⟩ => ⟨⟨_, h, v, rfl, hq⟩, hx2⟩, fun W v hx hq => ?_⟩
      obtain ⟨v', rfl, hq⟩ := hq
      exact newVB s N U F b W hs hU0 hU1 hF (hT.ext hx) ok hok v' hq
  · by_cases h2 : k = 2
    · subst h2; exact one _ (fun W hx => anyOf2 s N U F b raw W) (fun W hx => newV2 s N U F b W hs hU0 hU1 hF (hT.ext hx) ok hok)
    · by_cases h3 : k = 3
      · subst h3; exact one _ (fun W hx => anyOf3 s N U F b raw W) (fun W hx => newV3 s N U F b W hs hU0 hU1 hF (hT.ext hx) ok hok)
      · by_cases h4 : k = 4
        · subst h4; exact one _ (fun W hx => anyOf4 s N U F b raw W) (fun W hx => newV4 s N U F b W hs hU0 hU1 hF (hT.ext hx) ok hok)
        · by_cases h5 : k = 5
          · subst h5; exact one _ (fun W hx => anyOf5 s N U F b raw W) (fun W hx => newV5 s N U F b W hs hU0 hU1 hF (hT.ext hx) ok hok)
          · rw [canB_other s F h1 h2 h3 h4 h5] at hok
            subst hok
            exact one _ (fun W hx => anyOf0 k s N U F b raw W h1 h2 h3 h4 h5) (fun W hx => (newV0 W).mono fun e w' ⟨h, hx2⟩ => ⟨⟨_, h, ⟨⟨_, _, _, _, _, rfl⟩, fun e => by cases e⟩⟩, hx2⟩)
theorem lPlain_any (k : Int) (s : ByteArray) (N U : Int) (F : Nat) (b : Bool) (w : World) :
    Calls Tryd.prog 10 #[ivV k s N U F b] w fun e w' => e = .returned (plainV k s N U F b) ∧ Ext w w' := by
  by_cases h1 : k = 1
  · subst h1; exact lPlain1 s N U F b w
  · by_cases h2 : k = 2
    · subst h2; exact lPlain2 s N U F b w
    · by_cases h3 : k = 3
      · subst h3; exact lPlain3 s N U F b w
      · by_cases h4 : k = 4
        · subst h4; exact lPlain4 s N U F b w
        · by_cases h5 : k = 5
          · subst h5; exact lPlain5 s N U F b w
          · exact lPlain0 k s N U F b w h1 h2 h3 h4 h5
theorem fnValueOf_walk (k : Int) (s : ByteArray) (N U : Int) (F : Nat) (b raw : Bool) (hN0 : -9223372036854775808 ≤ N) (hN1 : N ≤ 9223372036854775807) (hU0 : 0 ≤ U) (hU1 : U < 18446744073709551616) (hF : F < 18446744073709551616) (w : World) (hT : TabsV w) :
    Calls Tryd.prog 3 #[.agg #[.int .i64 k, .string s, .int .i64 N, .int .u64 U, .float .f64 F, .bool b], .bool raw] w fun e w' => e = .returned (.bool true) ∧ Below w.heap.size w w' := by
  suffices h : Calls Tryd.prog 3 #[ivV k s N U F b, .bool raw] w fun e w' => e = .returned (.bool true) ∧ Ext w w' from h.mono fun e w' ⟨h1, h2⟩ => ⟨h1, h2.below⟩
  by_cases hbig : s.size ≤ 2147483647
  · by_cases hk : kindsB k s = true
    · have hk' := hk
      simp only [kindsB, decide_eq_true_eq] at hk'
      have hs : s.size ≤ 1000000 := by omega
      have KI : ∀ W g, Blk W g 25 #[.int .i64 k, .string s, .int .i64 N, .int .u64 U, .float .f64 F, .bool b] → Calls Tryd.prog 5 #[.slice (some ⟨g, 0, none⟩) 1 1] W fun e w' => e = .returned (.bool true) ∧ Ext W w' := fun W g hb => by
        have h := kinds_any g k s N U F b W hb
        rw [hk] at h
        exact h
      by_cases hc : canB k s F = true
      · have hF1 : finB (if k = 4 then F else 0) = true := by
          by_cases h4 : k = 4
          · rw [if_pos h4]; subst h4; exact hc
          · rw [if_neg h4]; decide
        have VO := fun (W : World) (hx : Ext w W) => implVO_yes k s N U F b k (if k = 1 then s else ⟨#[]⟩) (if k = 2 then N else 0) (if k = 3 then U else 0) (if k = 4 then F else 0) (if k = 5 then b else false) W (hide fun W2 hx2 => value_any k s N U F b W2 hs hU0 hU1 hF (hT.ext (hx.trans hx2)) true hc.symm) (hide fun W2 x hx2 hl => plain_any k s N U F b W2 0 x hs hN0 hN1 hU0 hU1 hF hl)
        have VN := fun (W : World) (hx : Ext w W) => (show Calls Tryd.prog 7 #[ivV k s N U F b, .bool raw] W fun e w' => e = .returned (.tuple #[ivV k (if k = 1 then s else ⟨#[]⟩) (if k = 2 then N else 0) (if k = 3 then U else 0) (if k = 4 then F else 0) (if k = 5 then b else false), .bool true]) ∧ Ext W w' by
          obtain ⟨Q, hA, hQ⟩ := vn_any k s N U F b raw W hs hU0 hU1 hF (hT.ext hx) true hc.symm
          exact implVN_yes k s N U F b raw k _ _ _ _ _ W Q (hide hA) (hide hQ) (hide fun W2 x hx2 hl => plain_any k s N U F b W2 0 x hs hN0 hN1 hU0 hU1 hF hl))
        have CB := fun (W : World) => (show Calls Tryd.prog 8 #[ivV k s N U F b] W fun e w' => e = .returned (.bool true) ∧ Ext W w' by
          have h := canBe_any k s N U F b W (by omega)
          rw [hc] at h
          exact h)
        exact fv_yes k s N U F b raw k _ _ _ _ _ w (hide fun W => fits3_any k s N U F b W hbig) (hide KI) (hide VO) (hide VN) (hide CB) (hide fun W => lPlain_any k s N U F b W) (hide fun W => same_any k _ _ _ _ _ W hF1)
      · have hc : canB k s F = false := by simpa using hc
        have VO := fun (W : World) (hx : Ext w W) => implVO_no k s N U F b W (hide fun W2 hx2 => value_any k s N U F b W2 hs hU0 hU1 hF (hT.ext (hx.trans hx2)) false hc.symm)
        have VN := fun (W : World) (hx : Ext w W) => (show Calls Tryd.prog 7 #[ivV k s N U F b, .bool raw] W fun e w' => e = .returned (.tuple #[zeroV, .bool false]) ∧ Ext W w' by
          obtain ⟨Q, hA, hQ⟩ := vn_any k s N U F b raw W hs hU0 hU1 hF (hT.ext hx) false hc.symm
          exact implVN_no k s N U F b raw W Q (hide hA) (hide hQ))
        have CB := fun (W : World) => (show Calls Tryd.prog 8 #[ivV k s N U F b] W fun e w' => e = .returned (.bool false) ∧ Ext W w' by
          have h := canBe_any k s N U F b W (by omega)
          rw [hc] at h
          exact h)
        exact fv_no k s N U F b raw 0 _ 0 0 0 false w (hide fun W => fits3_any k s N U F b W hbig) (hide KI) (hide VO) (hide VN) (hide CB)
    · have hk : kindsB k s = false := by simpa using hk
      exact fv_kind k s N U F b raw w (hide fun W => fits3_any k s N U F b W hbig) (hide fun W g hb => by
        have h := kinds_any g k s N U F b W hb
        rw [hk] at h
        exact h)
  · exact fv_big k s N U F b raw w (hide fun W => fits3_no k s N U F b W hbig)
end Go.Proofs.YtkockmpncocjhaaDoor
