/-
  laws.lMany at "0".
-/
import Derived.Test.YtkockmpncocjhaaGreatDoorGrow
import Derived.Deep.DeepCutAuto
import Derived.Deep.CutBlock
namespace Go.Proofs.YtkockmpncocjhaaGreatDoor
open Go.RowKit
set_option linter.unusedVariables false
set_option linter.unusedSimpArgs false

theorem rb_of_own {w : World} {v : Value} {l : List UInt8} (h : OwnB w v l) : ∃ A c, v = .slice A l.length c ∧ RBytes w A l ∧ ∀ ad, A = some ad → v.ownBlock = some ad.block := by
  rcases h.2 with ⟨e, h0⟩ | ⟨g, cap, cur, e, hrest⟩
  · have hl : l = [] := List.length_eq_zero_iff.1 h0
    subst hl
    exact ⟨none, 0, e, RBytes.empty _ _, fun ad e2 => by cases e2⟩
  · subst e
    refine ⟨some ⟨g, 0, none⟩, cap, rfl, ⟨by simp [bs], fun _ => ⟨_, rfl, ?_, fun j u hu => World.ownsRow.cells h (g := g) rfl j u hu⟩⟩, fun ad e2 => by injection e2 with e2; subst e2; rfl⟩
    exact Blk.lt (t := 5) hrest.2.1
/-- What the loop keeps. -/
def ManyI (w wx : World) (v : Value) (i : Nat) : Prop := OwnB wx v (List.replicate i 48) ∧ (∀ k, v.ownBlock = some k → w.heap.size ≤ k) ∧ Ext w wx
theorem many_step {w wx : World} {v : Value} {i : Nat} (h : ManyI w wx v i) (hi : i ≤ 1000000) : ∃ v' w', (Builtin.append_ #[31, 9] 31 #[v, .string ⟨#[48]⟩]).run Tryz.prog wx = .ok v' w' ∧ ManyI w w' v' (i + 1) := by
  obtain ⟨h1, h2, h3⟩ := h
  obtain ⟨v', w', a, b, c, d⟩ := append_str wx v _ ⟨#[48]⟩ h1 (by rw [List.length_replicate]; show i + 1 ≤ 100000000; omega)
  refine ⟨v', w', a, ?_, ?_, ?_⟩
  · have e : List.replicate (i + 1) (48 : UInt8) = List.replicate i 48 ++ [48] := by rw [List.replicate_succ']
    rw [e]; exact b
  · intro k hk
    rcases d with d | ⟨j, d, hj⟩
    · exact h2 k (by rw [← d]; exact hk)
    · rw [d] at hk; injection hk with hk; exact Nat.le_trans h3.sizes (by omega)
  · exact ⟨c.os.trans h3.os, c.tape.trans h3.tape, c.output.trans h3.output, Nat.le_trans h3.sizes c.size, fun k hk => (c.block k (Nat.lt_of_lt_of_le hk h3.sizes) (fun e => by have := h2 k e.symm; omega)).trans (h3.block k hk)⟩
theorem many_form {w wx : World} {v : Value} {i : Nat} (h : ManyI w wx v i) : ∃ A c, v = .slice A i c := by
  obtain ⟨A, c, h1, _⟩ := own_form h.1
  rw [List.length_replicate] at h1
  exact ⟨A, c, h1⟩
theorem many_str {w wx : World} {A : Option Addr} {i c : Nat} (h : ManyI w wx (.slice A i c) i) : (convert 31 9 (.slice A i c)).run Tryz.prog wx = .ok (.string ⟨(List.replicate i 48).toArray⟩) wx := by
  obtain ⟨A2, c2, e, hR, _⟩ := rb_of_own h.1
  obtain rfl := (Value.slice.inj e).1
  have h2 := run_string_n (P := Tryz.prog) wx _ _ _ Tryz.underlying31 Tryz.underlying5 Tryz.underlying9 (A := A) (l := List.replicate i 48) i c (by simp) hR
  rw [h2]
set_option maxRecDepth 100000 in
theorem run_make_z (c : Nat) (hc : c ≤ 10000000) (w : World) :
    (Instr.makeSlice 31 (.int .i64 0) (.int .i64 c)).run Tryz.prog w = .ok (.slice (some ⟨w.heap.size, 0, none⟩) 0 c) (w.alloc (.cells (bs (List.replicate c 0)).toArray 5)) := by
  obtain ⟨i0, hi, hz0, hz1, hz2⟩ := info_parts info_u8g
  have h := run_make_rowN (P := Tryz.prog) 31 5 i0 (.int .u8 0) Tryz.underlying31 hi hz0 .i64 .i64 0 c (Nat.zero_le _) (by rw [hz2]; omega) (by omega) w
  have h' : (Instr.makeSlice 31 (.int .i64 0) (.int .i64 c)).run Tryz.prog w = _ := h
  rw [h']
  congr 2
  congr 1
  apply Array.ext'
  rw [hz1, Nat.mul_one]
  have : (Value.int .u8 0).cells = #[.int .u8 0] := rfl
  rw [this, toList_madeCells_one]
  simp [bs]
theorem many_start (z : Nat) (hz : z ≤ 500) (w : World) : ManyI w (w.alloc (.cells (bs (List.replicate z 0)).toArray 5)) (.slice (some ⟨w.heap.size, 0, none⟩) 0 z) 0 := by
  refine ⟨⟨by simp [bs], .inr ⟨w.heap.size, z, _, rfl, Nat.zero_le _, Blk.new _ _ _, Nat.zero_le _, by unfold maxLen; omega, ?_, ?_⟩⟩, fun k hk => ?_, (Ext.refl w).alloc _⟩
  · simp [bs]
  · simp [bs]
  · simp [Value.ownBlock] at hk; omega
set_option maxRecDepth 100000 in
theorem many_any (z : Nat) (w : World) (hz : z ≤ 500) :
    Calls Tryz.prog 5 #[.string ⟨#[48]⟩, .int .i64 z] w fun e w' => e = .returned (.tuple #[.string ⟨(List.replicate z 48).toArray⟩, .bool true]) ∧ Ext w w' := by
  have h0 : ¬ (z : Int) < 0 := by omega
  have h1 : ¬ (40000 : Int) < (z : Int) := by omega
  have h0b : decide ((z : Int) < 0) = false := decide_eq_false h0
  have h1b : decide ((40000 : Int) < (z : Int)) = false := decide_eq_false h1
  have hz5 : (z : Int) ≤ 500 := by omega
  have MK := run_make_z z (by omega) w
  have HS := hide (many_start z hz w)
  generalize w.alloc (.cells (bs (List.replicate z 0)).toArray 5) = W1 at MK HS
  generalize hres : Ending.returned (.tuple #[.string ⟨(List.replicate z 48).toArray⟩, .bool true]) = R
  have HR := hide hres
  clear hres
  go_enter Tryz.func5, Tryz.ntmps5
  go_wp2
  go_loopg [6, 26] (z + 1) (fun gk s6 s26 wx => ∃ (i : Nat) (A : Option Addr) (c : Nat), s26 = .int .i64 i ∧ s6 = .slice A i c ∧ i + gk = z + 1 ∧ i ≤ z ∧ Hid (ManyI w wx (.slice A i c) i))
  case atStart => exact ⟨0, _, _, rfl, rfl, by omega, Nat.zero_le _, HS⟩
  case round =>
    obtain ⟨i, A, c, rfl, rfl, hg, hi, HI⟩ := hrel
    clear HS MK
    by_cases hlt : i < z
    · have hltz : (i : Int) < (z : Int) := by omega
      obtain ⟨gp, rfl⟩ : ∃ gp, gk = gp + 1 := ⟨gk - 1, by omega⟩
      obtain ⟨v', w2, hrun, hM⟩ := many_step HI.out (by omega)
      obtain ⟨A2, c2, rfl⟩ := many_form hM
      have HM := hide hM
      clear hM HI
      go_wp2_with (at_builtin; refine wpList_append_run rfl _ _ _ _ rfl _ _ _ rfl rfl hrun ?_)
      go_roundg gp
      case measure => omega
      case rel => exact ⟨i + 1, A2, c2, by simp, rfl, by omega, by omega, HM⟩
    · have hltz : ¬ (i : Int) < (z : Int) := by omega
      obtain rfl : i = z := by omega
      have cv := many_str HI.out
      have HX := hide HI.out.2.2
      clear HI
      go_wp2
      refine bodyPost_ret (v := .tuple #[.string ⟨(List.replicate i 48).toArray⟩, .bool true]) (by simp [results, Tryz.results5, go_sem]) rfl ⟨HR.out, HX.out⟩
end Go.Proofs.YtkockmpncocjhaaGreatDoor
