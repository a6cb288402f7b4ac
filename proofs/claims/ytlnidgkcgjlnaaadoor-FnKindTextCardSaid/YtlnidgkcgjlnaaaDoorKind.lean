/-
  The kinds' names: contracts of String, MarshalText, UnmarshalText and of impl's calls of them.
-/
import Derived.Test.YtlnidgkcgjlnaaaDoorOps
import Derived.Recover
import Derived.Laws.Panics
import Derived.Laws.Pointers
namespace Go.Proofs.YtlnidgkcgjlnaaaDoor
open Go.RowKit
set_option linter.unusedVariables false
set_option linter.unusedSimpArgs false

def nm : Nat → ByteArray
  | 0 => ⟨#[117, 110, 107, 110, 111, 119, 110]⟩
  | 1 => ⟨#[115, 116, 114, 105, 110, 103]⟩
  | 2 => ⟨#[105, 110, 116]⟩
  | 3 => ⟨#[117, 105, 110, 116]⟩
  | 4 => ⟨#[102, 108, 111, 97, 116]⟩
  | _ => ⟨#[98, 111, 111, 108]⟩

theorem nm_ne {i k : Nat} (hi : i < 6) (hk : k < 6) (hne : i ≠ k) : ((nm i).toList == (nm k).toList) = false := by
  have h : ((List.range 6).all fun i => (List.range 6).all fun k => decide (i = k) || !((nm i).toList == (nm k).toList)) = true := by decide +kernel
  have h1 := List.all_eq_true.1 h i (List.mem_range.2 hi)
  have h2 := List.all_eq_true.1 h1 k (List.mem_range.2 hk)
  simpa [hne] using h2
theorem nm_size (k : Nat) : (nm k).size ≤ 7 := by
  unfold nm; split <;> decide

/-- The table of the kinds' names. -/
structure Kinds (w : World) (kp : Addr) (cap : Nat) : Prop where
  head : w.cell? ⟨0, 0, none⟩ = some (.slice (some kp) 6 cap)
  cells : ∀ i, i < 6 → w.cell? (kp.add i) = some (.string (nm i))
theorem Kinds.ext {w w' : World} {kp : Addr} {cap : Nat} (h : Kinds w kp cap) (hx : Ext w w') : Kinds w' kp cap :=
  ⟨hx.cellOf h.head, fun i hi => hx.cellOf (h.cells i hi)⟩

theorem string_any (k : Nat) (hk : k < 6) (kp : Addr) (cap : Nat) (w : World) (hK : Kinds w kp cap) :
    Calls Tryd.prog 12 #[.int .u8 k] w fun e w' => e = .returned (.string (nm k)) ∧ Ext w w' := by
  have h1 := hK.head
  have h2 := hK.cells k hk
  clear hK
  generalize nm k = s at h2
  go_enter Tryd.func12, Tryd.ntmps12
  go_wp2
  go_ret
  exact ⟨rfl, Ext.refl _⟩

/-- A panic of the run time's own. -/
def Died (e : Ending) : Prop := ∃ u pv, e = .panicked [{ v := .iface u pv, recovered := false }]

theorem run_bounds {P : Program} {α : Type} (w : World) (k : IntKind) (x y : Int) (code : BoundsCode) : ∃ u pv w', (boundsPanic k x y code : Sem α).run P w = .halt (.panic (.iface u pv)) w' ∧ Ext w w' := by
  unfold boundsPanic
  split
  · refine ⟨P.rt.boundsError, _, w.drew, by simp [runtimePanic, goPanic, go_sem]; rfl, (Ext.refl w).drew⟩
  · refine ⟨P.rt.boundsError, _, w, by simp [runtimePanic, goPanic, go_sem]; rfl, Ext.refl w⟩

theorem string_out (k : Nat) (hk : 6 ≤ k) (hk2 : k < 256) (kp : Addr) (cap : Nat) (w : World) (hK : Kinds w kp cap) :
    Calls Tryd.prog 12 #[.int .u8 k] w fun e w' => Died e ∧ Ext w w' := by
  have h1 := hK.head
  clear hK
  obtain ⟨u, pv, w1, hr, hx⟩ := run_bounds (P := Tryd.prog) (α := Value) w .u8 k 6 .index
  have HX := hide hx
  clear hx
  go_enter Tryd.func12, Tryd.ntmps12
  go_wp2
  exact ⟨rfl, ⟨u, pv, rfl⟩, HX.out⟩

theorem kindText1_idle (args : Array Value) (w : World) : CallsD Tryd.prog 11 args .returning w fun e u' w' => e = .returned (.tuple #[]) ∧ u' = .returning ∧ w' = w :=
  idle_of w nilTest_any Tryd.func11 rfl rfl (by decide) (by decide)
theorem kindMarshal1_idle (args : Array Value) (w : World) : CallsD Tryd.prog 13 args .returning w fun e u' w' => e = .returned (.tuple #[]) ∧ u' = .returning ∧ w' = w :=
  idle_of w nilTest_any Tryd.func13 rfl rfl (by decide) (by decide)
theorem kindUnmarshal1_idle (args : Array Value) (w : World) : CallsD Tryd.prog 15 args .returning w fun e u' w' => e = .returned (.tuple #[]) ∧ u' = .returning ∧ w' = w :=
  idle_of w nilTest_any Tryd.func15 rfl rfl (by decide) (by decide)

theorem kindText1_caught (p q : Nat) (x y : Value) (u : TypeId) (pv : Value) (older : List PanicEntry) (w : World) (hp : Var w p x) (hq : Var w q y) (hne : p ≠ q) :
    CallsD Tryd.prog 11 #[.pointer (some ⟨p, 0, none⟩), .pointer (some ⟨q, 0, none⟩)] (.panicking ({ v := .iface u pv, recovered := false } :: older)) w fun e u' w' =>
      e = .returned (.tuple #[]) ∧ u' = .panicking ({ v := .iface u pv, recovered := true } :: older) ∧ w' = (w.setCell ⟨p, 0, none⟩ (.string .empty)).setCell ⟨q, 0, none⟩ (.bool false) := by
  obtain ⟨_, c1, f1⟩ := hp
  obtain ⟨_, c2, f2⟩ := hq
  refine callsD_of_wpS Tryd.func11 rfl fun c₀ cs hu => ?_
  apply wpS_seq
  apply wpS_region
  simp [wpOpsS, go_sem, recoverD, hu, Tryd.ntmps11, Exit.thenS]
  refine wpS_cond (t := true) (by simp [Act.eval, Array.replicate]) ?_
  simp only [if_true]
  apply wpS_region
  simp [wpOpsS, go_sem, c1, c2, f1, f2, bodyPostS, results, Tryd.results11, hne]
  rfl
theorem kindMarshal1_caught (p q : Nat) (x y : Value) (u : TypeId) (pv : Value) (older : List PanicEntry) (w : World) (hp : Var w p x) (hq : Var w q y) (hne : p ≠ q) :
    CallsD Tryd.prog 13 #[.pointer (some ⟨p, 0, none⟩), .pointer (some ⟨q, 0, none⟩)] (.panicking ({ v := .iface u pv, recovered := false } :: older)) w fun e u' w' =>
      e = .returned (.tuple #[]) ∧ u' = .panicking ({ v := .iface u pv, recovered := true } :: older) ∧ w' = (w.setCell ⟨p, 0, none⟩ (.string .empty)).setCell ⟨q, 0, none⟩ (.bool false) := by
  obtain ⟨_, c1, f1⟩ := hp
  obtain ⟨_, c2, f2⟩ := hq
  refine callsD_of_wpS Tryd.func13 rfl fun c₀ cs hu => ?_
  apply wpS_seq
  apply wpS_region
  simp [wpOpsS, go_sem, recoverD, hu, Tryd.ntmps13, Exit.thenS]
  refine wpS_cond (t := true) (by simp [Act.eval, Array.replicate]) ?_
  simp only [if_true]
  apply wpS_region
  simp [wpOpsS, go_sem, c1, c2, f1, f2, bodyPostS, results, Tryd.results13, hne]
  rfl

set_option maxRecDepth 100000 in
theorem implKindText_any (k : Nat) (hk : k < 6) (kp : Addr) (cap : Nat) (w : World) (hK : Kinds w kp cap) :
    Calls Tryd.prog 5 #[.int .i64 k] w fun e w' => e = .returned (.tuple #[.string (nm k), .bool true]) ∧ Ext w w' := by
  have hmf : ∀ (fn : Fn) (first cap : Array Value) (w : World), (Instr.makeFunc fn first cap).run Tryd.prog w = .ok (.func fn first cap) w := fun _ _ _ _ => rfl
  have HKK := hide hK
  have HS := hide (fun w' hx => string_any k hk kp cap w' (HKK.out.ext hx))
  clear hK
  generalize nm k = s at HS
  have hd := decide_eq_true (show (k : Int) ≤ 255 by omega)
  go_enter_defers Tryd.func5, Tryd.ntmps5
  go_wp2_with fail
  refine (HS.out _ (by repeat (first | exact Ext.refl _ | assumption | refine Ext.drew ?_ | refine Ext.drewN ?_ _ | refine Ext.alloc ?_ _ | refine ext_bytesWorld ?_ _ _ | refine Ext.setCell ?_ (by first | (simp; done) | (simp; omega)) _))).mono ?_
  rintro e w1 ⟨rfl, hx⟩
  have v2 : Var w1 w.heap.size (.string ⟨#[]⟩) := ((Var.new w (.string ⟨#[]⟩) _).ext (Ext.alloc (Ext.refl _) _)).ext hx
  have v3 : Var w1 (w.heap.size + 1) (.bool false) := (Var.new_at _ (.bool false) _ _ (by simp)).ext hx
  obtain ⟨s2, c2, f2⟩ := v2
  obtain ⟨s3, c3, f3⟩ := v3
  have HX : Hid (Ext w w1) := hide (((Ext.refl w).alloc _ |>.alloc _).trans hx)
  clear hx
  go_wp2
  refine door_idle (kindText1_idle _ _) (by simp [go_sem]) ?_
  have HXo := HX.out
  simp [results, Tryd.results5, go_sem, c2, c3, f2, f3]
  repeat (first | exact Ext.refl _ | assumption | refine Ext.drew ?_ | refine Ext.drewN ?_ _ | refine Ext.alloc ?_ _ | refine ext_bytesWorld ?_ _ _ | refine Ext.setCell ?_ (by first | (simp; done) | (simp; omega)) _)

set_option maxRecDepth 100000 in
theorem implKindText_out (k : Nat) (hk : 6 ≤ k) (hk2 : k < 256) (kp : Addr) (cap : Nat) (w : World) (hK : Kinds w kp cap) :
    Calls Tryd.prog 5 #[.int .i64 k] w fun e w' => e = .returned (.tuple #[.string .empty, .bool false]) ∧ Ext w w' := by
  have hmf : ∀ (fn : Fn) (first cap : Array Value) (w : World), (Instr.makeFunc fn first cap).run Tryd.prog w = .ok (.func fn first cap) w := fun _ _ _ _ => rfl
  have HKK := hide hK
  have HS := hide (fun w' hx => string_out k hk hk2 kp cap w' (HKK.out.ext hx))
  clear hK
  go_enter_defers Tryd.func5, Tryd.ntmps5
  go_wp2_with fail
  refine (HS.out _ (by repeat (first | exact Ext.refl _ | assumption | refine Ext.drew ?_ | refine Ext.drewN ?_ _ | refine Ext.alloc ?_ _ | refine ext_bytesWorld ?_ _ _ | refine Ext.setCell ?_ (by first | (simp; done) | (simp; omega)) _))).mono ?_
  rintro e w1 ⟨⟨u, pv, rfl⟩, hx⟩
  have v2 : Var w1 w.heap.size (.string ⟨#[]⟩) := ((Var.new w (.string ⟨#[]⟩) _).ext (Ext.alloc (Ext.refl _) _)).ext hx
  have v3 : Var w1 (w.heap.size + 1) (.bool false) := (Var.new_at _ (.bool false) _ _ (by simp)).ext hx
  have HV2 := hide v2
  have HV3 := hide v3
  obtain ⟨s2, c2, f2⟩ := v2
  obtain ⟨s3, c3, f3⟩ := v3
  have HX : Hid (Ext w w1) := hide (((Ext.refl w).alloc _ |>.alloc _).trans hx)
  clear hx
  go_wp2
  refine leaves_cons (f := 11) (args := #[.pointer (some ⟨w.heap.size, 0, none⟩), .pointer (some ⟨w.heap.size + 1, 0, none⟩)]) (by simp) (by simp [go_sem]) ?_
  refine (kindText1_caught _ _ _ _ _ _ _ _ HV2.out HV3.out (by omega)).mono ?_
  rintro e u' w'' ⟨rfl, rfl, rfl⟩
  have HXo := HX.out
  simp [Leaves, settle, results, Tryd.results5, go_sem, c2, c3, f2, f3]
  repeat (first | exact Ext.refl _ | assumption | refine Ext.drew ?_ | refine Ext.drewN ?_ _ | refine Ext.alloc ?_ _ | refine ext_bytesWorld ?_ _ _ | refine Ext.setCell ?_ (by first | (simp; done) | (simp; omega)) _)
end Go.Proofs.YtlnidgkcgjlnaaaDoor
