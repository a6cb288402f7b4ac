/-
  impl.ValueFromBytes, at texts that are whole numbers.
-/
import Derived.Test.YtkockmpncocjhaaGreatDoorVfb3
import Derived.Test.YtkockmpncocjhaaGreatDoorDigP
namespace Go.Proofs.YtkockmpncocjhaaGreatDoor
open Go.RowKit Go.Lib
set_option linter.unusedVariables false
set_option linter.unusedSimpArgs false

theorem plain2_any (v : Int) (h0 : -9223372036854775808 ≤ v) (h1 : v ≤ 9223372036854775807) (w : World) : Calls Tryz.prog 11 #[lpV (v % 18446744073709551616) none 0 0 2] w fun e w' => e = .returned (ivV 2 ⟨#[]⟩ v 0 0 false) ∧ Ext w w' := by
  have e := wrap_back v h0 h1
  refine plainR_any (v % 18446744073709551616) none 0 0 2 2 ⟨#[]⟩ v 0 0 false w (hide fun W => kind_any _ none 0 0 2 W (by decide) (by decide)) (hide fun W hx => ?_) (by decide) (by decide)
  have h := acc2_any (v % 18446744073709551616) W (by omega) (by omega)
  rw [e] at h
  exact h
theorem plain3_any (u : Nat) (h1 : u < 18446744073709551616) (w : World) : Calls Tryz.prog 11 #[lpV (u : Nat) none 0 0 3] w fun e w' => e = .returned (ivV 3 ⟨#[]⟩ 0 (u : Nat) 0 false) ∧ Ext w w' :=
  plainR_any (u : Nat) none 0 0 3 3 ⟨#[]⟩ 0 (u : Nat) 0 false w (hide fun W => kind_any _ none 0 0 3 W (by decide) (by decide)) (hide fun W hx => acc3_any (u : Nat) W (by omega) (by omega)) (by decide) (by decide)
theorem vi_ok (s : ByteArray) (v : Int) (w : World) (hs : s.size ≤ 1000000) (h : parseIntB 64 s.data.toList = .ok v) (h0 : -9223372036854775808 ≤ v) (h1 : v ≤ 9223372036854775807) :
    Calls Tryz.prog 6 #[.int .i64 2, .string s] w fun e w' => e = .returned (.tuple #[ivV 2 ⟨#[]⟩ v 0 0 false, .bool true, .bool false]) ∧ Ext w w' :=
  vfb_ok 2 s (v % 18446744073709551616) 2 2 ⟨#[]⟩ v 0 0 false w (by decide) hs (hide fun W A n c hx hB => nvw_ok 2 A n c _ 2 W (hide fun W2 hx2 => nv2_ok A n c s W2 (hB.ext hx2) v h)) (hide fun W => plain2_any v h0 h1 W)
theorem vu_ok (s : ByteArray) (u : Nat) (w : World) (hs : s.size ≤ 1000000) (h : parseUintB 64 s.data.toList = .ok u) (h1 : u < 18446744073709551616) :
    Calls Tryz.prog 6 #[.int .i64 3, .string s] w fun e w' => e = .returned (.tuple #[ivV 3 ⟨#[]⟩ 0 (u : Nat) 0 false, .bool true, .bool false]) ∧ Ext w w' :=
  vfb_ok 3 s (u : Nat) 3 3 ⟨#[]⟩ 0 (u : Nat) 0 false w (by decide) hs (hide fun W A n c hx hB => nvw_ok 3 A n c _ 3 W (hide fun W2 hx2 => nv3_ok A n c s W2 (hB.ext hx2) u h h1)) (hide fun W => plain3_any u h1 W)
theorem vi_range (s : ByteArray) (a1 a2 a3 : Addr) (w : World) (hE : ErrsW w a1 a2 a3) (hs : s.size ≤ 1000000) (h : parseIntB 64 s.data.toList = .range) :
    Calls Tryz.prog 6 #[.int .i64 2, .string s] w fun e w' => e = .returned (.tuple #[ivV 0 ⟨#[]⟩ 0 0 0 false, .bool false, .bool true]) ∧ Ext w w' :=
  vfb_err 2 s (fun p => p = a3) true w (by decide) hs (hide fun W A n c hx hB => nvw_err 2 A n c _ W (hide fun W2 hx2 => nv2_err A n c s W2 (hB.ext hx2) a1 a2 a3 (hE.ext (hx.trans hx2)) h)) (hide fun W p hx hO hp => by subst hp; exact out_yes a1 a2 p W (hE.ext hx))
theorem vu_syntax (s : ByteArray) (a1 a2 a3 : Addr) (w : World) (hE : ErrsW w a1 a2 a3) (hs : s.size ≤ 1000000) (h : parseUintB 64 s.data.toList = .«syntax») :
    Calls Tryz.prog 6 #[.int .i64 3, .string s] w fun e w' => e = .returned (.tuple #[ivV 0 ⟨#[]⟩ 0 0 0 false, .bool false, .bool false]) ∧ Ext w w' :=
  vfb_err 3 s (fun p => p ≠ a3) false w (by decide) hs (hide fun W A n c hx hB => nvw_err 3 A n c _ W (hide fun W2 hx2 => nv3_err A n c s W2 (hB.ext hx2) a1 a2 a3 (hE.ext (hx.trans hx2)) h)) (hide fun W p hx hO hp => out_no a1 a2 a3 p W (hE.ext hx) hO hp)
end Go.Proofs.YtkockmpncocjhaaGreatDoor
