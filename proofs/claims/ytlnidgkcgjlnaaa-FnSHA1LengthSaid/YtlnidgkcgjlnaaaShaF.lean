/-
  Words turned to the left, two ways; the function and the constant of a round; a word into four bytes.
-/
import Derived.Test.YtlnidgkcgjlnaaaShaW
import Derived.Test.YtlnidgkcgjlnaaaTailC
import Derived.Test.YtlnidgkcgjlnaaaStrs
import Derived.Test.YtlnidgkcgjlnaaaKArr
namespace Go.Proofs.Ytlnidgkcgjlnaaa
open Go.RowKit
set_option linter.unusedVariables false
set_option linter.unusedSimpArgs false

theorem and31_5 : bits .and .u64 5 31 = 5 := by decide
theorem and31_30 : bits .and .u64 30 31 = 30 := by decide
theorem and31_1 : bits .and .u64 1 31 = 1 := by decide
set_option maxRecDepth 100000 in
theorem rotate5_any (x : Int) (w : World) (h : W32 x) : Calls Try.prog 58 #[.int .u32 x, .int .i64 5] w fun e w' => e = .returned (.int .u32 (rot5 x)) ∧ w' = w := by
  obtain ⟨h0, h1⟩ := h
  have h5 := and31_5
  go_enter Try.func58, Try.ntmps58
  go_wp2
  go_ret
  exact ⟨rfl, rfl⟩
set_option maxRecDepth 100000 in
theorem rotate30_any (x : Int) (w : World) (h : W32 x) : Calls Try.prog 58 #[.int .u32 x, .int .i64 30] w fun e w' => e = .returned (.int .u32 (rot30 x)) ∧ w' = w := by
  obtain ⟨h0, h1⟩ := h
  have h5 := and31_30
  go_enter Try.func58, Try.ntmps58
  go_wp2
  go_ret
  exact ⟨rfl, rfl⟩
set_option maxRecDepth 100000 in
theorem rotate1_any (x : Int) (w : World) (h : W32 x) : Calls Try.prog 58 #[.int .u32 x, .int .i64 1] w fun e w' => e = .returned (.int .u32 (rot1 x)) ∧ w' = w := by
  obtain ⟨h0, h1⟩ := h
  have h5 := and31_1
  go_enter Try.func58, Try.ntmps58
  go_wp2
  go_ret
  exact ⟨rfl, rfl⟩
set_option maxRecDepth 100000 in
theorem turned5_any (x : Int) (w : World) (h : W32 x) : Calls Try.prog 48 #[.int .u32 x, .int .i64 5] w fun e w' => e = .returned (.int .u32 (rot5 x)) ∧ ∃ m, w' = w.drewN m := by
  obtain ⟨h0, h1⟩ := h
  go_enter Try.func48, Try.ntmps48
  go_wp2
  go_quiet (fail)
  go_wp2
  go_ret
  exact ⟨rfl, _, rfl⟩
set_option maxRecDepth 100000 in
theorem turned30_any (x : Int) (w : World) (h : W32 x) : Calls Try.prog 48 #[.int .u32 x, .int .i64 30] w fun e w' => e = .returned (.int .u32 (rot30 x)) ∧ ∃ m, w' = w.drewN m := by
  obtain ⟨h0, h1⟩ := h
  go_enter Try.func48, Try.ntmps48
  go_wp2
  go_quiet (fail)
  go_wp2
  go_ret
  exact ⟨rfl, _, rfl⟩
set_option maxRecDepth 100000 in
theorem turned1_any (x : Int) (w : World) (h : W32 x) : Calls Try.prog 48 #[.int .u32 x, .int .i64 1] w fun e w' => e = .returned (.int .u32 (rot1 x)) ∧ ∃ m, w' = w.drewN m := by
  obtain ⟨h0, h1⟩ := h
  go_enter Try.func48, Try.ntmps48
  go_wp2
  go_quiet (fail)
  go_wp2
  go_ret
  exact ⟨rfl, _, rfl⟩
set_option maxRecDepth 100000 in
theorem mixed_any (t : Nat) (b c d : Int) (w : World) (ht : t < 80) : Calls Try.prog 49 #[.int .i64 t, .int .u32 b, .int .u32 c, .int .u32 d] w fun e w' => e = .returned (.tuple #[.int .u32 (shaF t b c d), .int .u32 (shaK t)]) ∧ w' = w := by
  rcases (by omega : t < 20 ∨ (20 ≤ t ∧ t < 40) ∨ (40 ≤ t ∧ t < 60) ∨ 60 ≤ t) with h | ⟨h, h2⟩ | ⟨h, h2⟩ | h
  · have e : shaF t b c d = bits .xor .u32 (bits .and .u32 b c) (bits .and .u32 (bits .xor .u32 4294967295 b) d) := by unfold shaF; rw [if_pos h]
    have e2 : shaK t = 1518500249 := by unfold shaK; rw [if_pos h]
    have hq : (t : Int) / 20 = 0 := by omega
    rw [e, e2]
    clear e e2
    go_enter Try.func49, Try.ntmps49
    go_wp2
    refine bodyPost_ret (results_tmp2 rfl _ _ _) rfl ?_
    exact ⟨rfl, rfl⟩
  · have e : shaF t b c d = bits .xor .u32 (bits .xor .u32 b c) d := by unfold shaF; rw [if_neg (by omega), if_pos (by omega)]
    have e2 : shaK t = 1859775393 := by unfold shaK; rw [if_neg (by omega), if_pos (by omega)]
    have hq : (t : Int) / 20 = 1 := by omega
    rw [e, e2]
    clear e e2
    go_enter Try.func49, Try.ntmps49
    go_wp2
    refine bodyPost_ret (results_tmp2 rfl _ _ _) rfl ?_
    exact ⟨rfl, rfl⟩
  · have e : shaF t b c d = bits .xor .u32 (bits .xor .u32 (bits .and .u32 b c) (bits .and .u32 b d)) (bits .and .u32 c d) := by unfold shaF; rw [if_neg (by omega), if_neg (by omega), if_pos (by omega)]
    have e2 : shaK t = 2400959708 := by unfold shaK; rw [if_neg (by omega), if_neg (by omega), if_pos (by omega)]
    have hq : (t : Int) / 20 = 2 := by omega
    rw [e, e2]
    clear e e2
    go_enter Try.func49, Try.ntmps49
    go_wp2
    refine bodyPost_ret (results_tmp2 rfl _ _ _) rfl ?_
    exact ⟨rfl, rfl⟩
  · have e : shaF t b c d = bits .xor .u32 (bits .xor .u32 b c) d := by unfold shaF; rw [if_neg (by omega), if_neg (by omega), if_neg (by omega)]
    have e2 : shaK t = 3395469782 := by unfold shaK; rw [if_neg (by omega), if_neg (by omega), if_neg (by omega)]
    have hq : (t : Int) / 20 = 3 := by omega
    rw [e, e2]
    clear e e2
    go_enter Try.func49, Try.ntmps49
    go_wp2
    refine bodyPost_ret (results_tmp2 rfl _ _ _) rfl ?_
    exact ⟨rfl, rfl⟩
/-- A word's bytes, put into a row from place o on. -/
def put4 (f : Nat → Int) (o : Nat) (x : Int) : Nat → Int := updI (updI (updI (updI f o (x / 16777216)) (o + 1) (x / 65536 % 256)) (o + 2) (x / 256 % 256)) (o + 3) (x % 256)
set_option maxRecDepth 100000 in
theorem put32_any (w : World) (g : Nat) (T : TypeId) (n o len cap : Nat) (f : Nat → Int) (x : Int) (hx : W32 x) (h : KAt w g T .u8 n f) (hl : 4 ≤ len) (ho : o + len ≤ n) :
    Calls Try.prog 57 #[.slice (some ⟨g, o, none⟩) len cap, .int .u32 x] w fun e w' => e = .returned (.tuple #[]) ∧ KAt w' g T .u8 n (put4 f o x) ∧ Chg [g] w w' := by
  obtain ⟨x0, x1⟩ := hx
  have c0 := h.cell (i := o) (by omega)
  have c1 := h.cell (i := o + 1) (by omega)
  have c2 := h.cell (i := o + 2) (by omega)
  have c3 := h.cell (i := o + 3) (by omega)
  have f0 := h.frozen o
  have f1 := h.frozen (o + 1)
  have f2 := h.frozen (o + 2)
  have f3 := h.frozen (o + 3)
  have H := hide h
  clear h
  go_enter Try.func57, Try.ntmps57
  go_wp2
  refine bodyPost_end (results_none rfl _ _ _) rfl ?_
  refine ⟨rfl, (((H.out.put o _).put (o + 1) _).put (o + 2) _).put (o + 3) _, ?_⟩
  exact ((((Chg.refl [g] w).setCell (by simp) _).setCell (by simp) _).setCell (by simp) _).setCell (by simp) _
/-- Eight bytes of a number, the greatest first, put into a row from place o on. -/
def put8 (f : Nat → Int) (o k : Nat) (x : Int) : Nat → Int := fun i => if o ≤ i ∧ i < o + k then x / 2 ^ (56 - 8 * (i - o)) % 256 else f i
set_option maxRecDepth 100000 in
theorem put64_any (w : World) (g : Nat) (T : TypeId) (n o cap : Nat) (f : Nat → Int) (x : Int) (hx : 0 ≤ x) (hx2 : x ≤ 1000000) (h : KAt w g T .u8 n f) (ho : o + 8 ≤ n) (hn : n ≤ 1000) :
    Calls Try.prog 56 #[.slice (some ⟨g, o, none⟩) 8 cap, .int .u64 x] w fun e w' => e = .returned (.tuple #[]) ∧ KAt w' g T .u8 n (put8 f o 8 x) ∧ Chg [g] w w' := by
  have c7 := h.cell (i := o + 7) (by omega)
  have H := hide h
  clear h
  go_enter Try.func56, Try.ntmps56
  go_wp2
  clear c7
  go_loopw [4] (fun s4 wr => ∃ k : Nat, k ≤ 8 ∧ s4 = .int .i64 k ∧ Hid (KAt wr g T .u8 n (put8 f o k x) ∧ Chg [g] w wr)) (fun s4 _ => 8 - (intOf s4).toNat)
  case atStart => exact ⟨0, by omega, rfl, hide ⟨H.out.congr fun i _ => by unfold put8; rw [if_neg (by omega)], Chg.refl _ _⟩⟩
  case round =>
    obtain ⟨k, hk, rfl, HI⟩ := hrel
    by_cases hlt : k < 8
    · have ck := HI.out.1.cell (i := o + k) (by omega)
      have fk := HI.out.1.frozen (o + k)
      go_wp2
      go_roundw
      case rel =>
        refine ⟨k + 1, by omega, by go_num, hide ⟨?_, (HI.out.2.setCell (by simp) _)⟩⟩
        refine (HI.out.1.put (o + k) _).congr fun i _ => ?_
        unfold put8
        by_cases e : i = o + k
        · subst e
          rw [updI_at, if_pos (by omega), Nat.add_sub_cancel_left]
        · rw [updI_ne _ _ e]
          by_cases e2 : o ≤ i ∧ i < o + k
          · rw [if_pos e2, if_pos (by omega)]
          · rw [if_neg e2, if_neg (by omega)]
      case measure => simp [intOf]; omega
    · have R := hide HI.out
      clear HI
      obtain rfl : k = 8 := by omega
      go_wp2
      exact bodyPost_end (results_none rfl _ _ _) rfl ⟨rfl, R.out⟩
end Go.Proofs.Ytlnidgkcgjlnaaa
