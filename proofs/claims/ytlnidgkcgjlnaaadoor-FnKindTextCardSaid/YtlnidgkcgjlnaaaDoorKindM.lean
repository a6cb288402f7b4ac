/-
  MarshalText and UnmarshalText of a kind, and impl's calls of them.
-/
import Derived.Test.YtlnidgkcgjlnaaaDoorKind
namespace Go.Proofs.YtlnidgkcgjlnaaaDoor
open Go.RowKit
set_option linter.unusedVariables false
set_option linter.unusedSimpArgs false

theorem errNew_any (s : ByteArray) (w : World) : Calls Tryd.prog 20 #[.string s] w fun e w' => (∃ t x, e = .returned (.iface t x)) ∧ Ext w w' := by
  go_enter Tryd.func20, Tryd.ntmps20
  go_wp2
  go_ret
  refine ⟨⟨_, _, rfl⟩, ?_⟩
  repeat (first | exact Ext.refl _ | assumption | refine Ext.drew ?_ | refine Ext.drewN ?_ _ | refine Ext.alloc ?_ _ | refine ext_bytesWorld ?_ _ _ | refine Ext.setCell ?_ (by first | (simp; done) | (simp; omega)) _)

theorem marshal_zero (w : World) : Calls Tryd.prog 14 #[.int .u8 0] w fun e w' => (∃ t x, e = .returned (.tuple #[.slice none 0 0, .iface t x])) ∧ Ext w w' := by
  go_enter Tryd.func14, Tryd.ntmps14
  go_wp2_with fail
  refine (errNew_any _ _).mono ?_
  rintro e w1 ⟨⟨t, x, rfl⟩, hx⟩
  have HX := hide hx
  clear hx
  go_wp2
  go_ret2
  exact ⟨⟨t, x, rfl⟩, HX.out⟩

theorem marshal_any (k : Nat) (hk0 : 0 < k) (hk : k < 6) (kp : Addr) (cap : Nat) (w : World) (hK : Kinds w kp cap) :
    Calls Tryd.prog 14 #[.int .u8 k] w fun e w' => ∃ A n c, e = .returned (.tuple #[.slice A n c, .nilIface]) ∧ Ext w w' ∧ RBytes w' A (nm k).data.toList ∧ (nm k).data.toList.length = n := by
  have hcv := fun (w : World) (s : ByteArray) => Lib.run_convert_string_bytes (P := Tryd.prog) w 9 31 5 s Tryd.underlying9 Tryd.underlying31 Tryd.underlying5
  have HC := hide hcv
  clear hcv
  have HS := hide (string_any k hk kp cap w hK)
  have HK := hide hK
  clear hK
  have hb : ((k : Int) == 0) = false := by simp; omega
  generalize nm k = s at *
  go_enter Tryd.func14, Tryd.ntmps14
  go_wp2_with fail
  refine HS.out.mono ?_
  rintro e w1 ⟨rfl, hx⟩
  have HX := hide hx
  clear hx
  have hcv := HC.out
  go_wp2
  go_ret2
  exact ⟨_, _, _, rfl, ext_bytesWorld HX.out _ _, rbytes_bytesWorld _ _ _, size_data _⟩

theorem marshal_out (k : Nat) (hk : 6 ≤ k) (hk2 : k < 256) (kp : Addr) (cap : Nat) (w : World) (hK : Kinds w kp cap) :
    Calls Tryd.prog 14 #[.int .u8 k] w fun e w' => Died e ∧ Ext w w' := by
  have HS := hide (string_out k hk hk2 kp cap w hK)
  clear hK
  have hb : ((k : Int) == 0) = false := by simp; omega
  go_enter Tryd.func14, Tryd.ntmps14
  go_wp2_with fail
  refine HS.out.mono ?_
  rintro e w1 ⟨⟨u, pv, rfl⟩, hx⟩
  have HX := hide hx
  clear hx
  go_wp2
  exact ⟨rfl, ⟨u, pv, rfl⟩, HX.out⟩

set_option maxRecDepth 100000 in
theorem implKindMarshal_zero (w : World) :
    Calls Tryd.prog 6 #[.int .i64 0] w fun e w' => (∃ s, e = .returned (.tuple #[.string s, .bool false])) ∧ Ext w w' := by
  have hmf : ∀ (fn : Fn) (first cap : Array Value) (w : World), (Instr.makeFunc fn first cap).run Tryd.prog w = .ok (.func fn first cap) w := fun _ _ _ _ => rfl
  have HN : Hid (∀ w, (convert 31 9 (.slice none 0 0)).run Tryd.prog w = .ok (.string ⟨#[]⟩) w) := hide fun w => run_string_n w _ _ _ Tryd.underlying31 Tryd.underlying5 Tryd.underlying9 0 0 rfl (RBytes.nil w)
  have HS := hide marshal_zero
  go_enter_defers Tryd.func6, Tryd.ntmps6
  go_wp2_with fail
  refine (HS.out _).mono ?_
  rintro e w1 ⟨⟨t, x, rfl⟩, hx⟩
  have v2 : Var w1 w.heap.size (.string ⟨#[]⟩) := ((Var.new w (.string ⟨#[]⟩) _).ext (Ext.alloc (Ext.refl _) _)).ext hx
  have v3 : Var w1 (w.heap.size + 1) (.bool false) := (Var.new_at _ (.bool false) _ _ (by simp)).ext hx
  obtain ⟨s2, c2, f2⟩ := v2
  obtain ⟨s3, c3, f3⟩ := v3
  have HX : Hid (Ext w w1) := hide (((Ext.refl w).alloc _ |>.alloc _).trans hx)
  clear hx
  have hn := HN.out
  go_wp2
  go_region
  go_wp2
  refine door_idle (kindMarshal1_idle _ _) (by simp [go_sem]) ?_
  have HXo := HX.out
  simp [results, Tryd.results6, go_sem, c2, c3, f2, f3]
  repeat (first | exact Ext.refl _ | assumption | refine Ext.drew ?_ | refine Ext.drewN ?_ _ | refine Ext.alloc ?_ _ | refine ext_bytesWorld ?_ _ _ | refine Ext.setCell ?_ (by first | (simp; done) | (simp; omega)) _)

set_option maxRecDepth 100000 in
theorem implKindMarshal_any (k : Nat) (hk0 : 0 < k) (hk : k < 6) (kp : Addr) (cap : Nat) (w : World) (hK : Kinds w kp cap) :
    Calls Tryd.prog 6 #[.int .i64 k] w fun e w' => e = .returned (.tuple #[.string (nm k), .bool true]) ∧ Ext w w' := by
  have hmf : ∀ (fn : Fn) (first cap : Array Value) (w : World), (Instr.makeFunc fn first cap).run Tryd.prog w = .ok (.func fn first cap) w := fun _ _ _ _ => rfl
  have HKK := hide hK
  have HS := hide (fun w' hx => marshal_any k hk0 hk kp cap w' (HKK.out.ext hx))
  clear hK
  generalize nm k = s at HS
  have hd := decide_eq_true (show (k : Int) ≤ 255 by omega)
  have hd0 := decide_eq_true (show 0 ≤ (k : Int) by omega)
  go_enter_defers Tryd.func6, Tryd.ntmps6
  go_wp2_with fail
  refine (HS.out _ (by repeat (first | exact Ext.refl _ | assumption | refine Ext.drew ?_ | refine Ext.drewN ?_ _ | refine Ext.alloc ?_ _ | refine ext_bytesWorld ?_ _ _ | refine Ext.setCell ?_ (by first | (simp; done) | (simp; omega)) _))).mono ?_
  rintro e w1 ⟨A, n, c, rfl, hx, hr, hn⟩
  have hst : ∀ j, (convert 31 9 (.slice A n c)).run Tryd.prog (w1.drewN j) = .ok (.string s) (w1.drewN j) := fun j => run_string_n (w1.drewN j) _ _ _ Tryd.underlying31 Tryd.underlying5 Tryd.underlying9 n c hn (hr.ext (Ext.drewN (Ext.refl _) _))
  have hs1 : (convert 31 9 (.slice A n c)).run Tryd.prog w1.drew = .ok (.string s) w1.drew := hst 1
  have hs0 : (convert 31 9 (.slice A n c)).run Tryd.prog w1 = .ok (.string s) w1 := hst 0
  have v2 : Var w1 w.heap.size (.string ⟨#[]⟩) := ((Var.new w (.string ⟨#[]⟩) _).ext (Ext.alloc (Ext.refl _) _)).ext hx
  have v3 : Var w1 (w.heap.size + 1) (.bool false) := (Var.new_at _ (.bool false) _ _ (by simp)).ext hx
  obtain ⟨s2, c2, f2⟩ := v2
  obtain ⟨s3, c3, f3⟩ := v3
  have HX : Hid (Ext w w1) := hide (((Ext.refl w).alloc _ |>.alloc _).trans hx)
  clear hx hr hn hst
  go_wp2
  go_region
  go_wp2
  refine door_idle (kindMarshal1_idle _ _) (by simp [go_sem]) ?_
  have HXo := HX.out
  simp [results, Tryd.results6, go_sem, c2, c3, f2, f3]
  repeat (first | exact Ext.refl _ | assumption | refine Ext.drew ?_ | refine Ext.drewN ?_ _ | refine Ext.alloc ?_ _ | refine ext_bytesWorld ?_ _ _ | refine Ext.setCell ?_ (by first | (simp; done) | (simp; omega)) _)

set_option maxRecDepth 100000 in
theorem implKindMarshal_out (k : Nat) (hk : 6 ≤ k) (hk2 : k < 256) (kp : Addr) (cap : Nat) (w : World) (hK : Kinds w kp cap) :
    Calls Tryd.prog 6 #[.int .i64 k] w fun e w' => e = .returned (.tuple #[.string .empty, .bool false]) ∧ Ext w w' := by
  have hmf : ∀ (fn : Fn) (first cap : Array Value) (w : World), (Instr.makeFunc fn first cap).run Tryd.prog w = .ok (.func fn first cap) w := fun _ _ _ _ => rfl
  have HKK := hide hK
  have HS := hide (fun w' hx => marshal_out k hk hk2 kp cap w' (HKK.out.ext hx))
  clear hK
  go_enter_defers Tryd.func6, Tryd.ntmps6
  go_wp2_with fail
  refine (HS.out _ (by repeat (first | exact Ext.refl _ | assumption | refine Ext.drew ?_ | refine Ext.drewN ?_ _ | refine Ext.alloc ?_ _ | refine ext_bytesWorld ?_ _ _ | refine Ext.setCell ?_ (by first | (simp; done) | (simp; omega)) _))).mono ?_
  rintro e w1 ⟨⟨u, pv, rfl⟩, hx⟩
  have v2 : Var w1 w.heap.size (.string ⟨#[]⟩) := ((Var.new w (.string ⟨#[]⟩) _).ext (Ext.alloc (Ext.refl _) _)).ext hx
  have v3 : Var w1 (w.heap.size + 1) (.bool false) := (Var.new_at _ (.bool false) _ _ (by simp)).ext hx
  have HV2 := hide v2
  have HV3 := hide v3
  obtain ⟨s2, c2, f2⟩ := v2
  obtain ⟨s3, c3, f3⟩ := v3
  have HX : Hid (Ext w w1) := hide (((Ext.refl w).alloc _ |>.alloc _).trans hx)
  clear hx
  go_wp2
  refine leaves_cons (f := 13) (args := #[.pointer (some ⟨w.heap.size, 0, none⟩), .pointer (some ⟨w.heap.size + 1, 0, none⟩)]) (by simp) (by simp [go_sem]) ?_
  refine (kindMarshal1_caught _ _ _ _ _ _ _ _ HV2.out HV3.out (by omega)).mono ?_
  rintro e u' w'' ⟨rfl, rfl, rfl⟩
  have HXo := HX.out
  simp [Leaves, settle, results, Tryd.results6, go_sem, c2, c3, f2, f3]
  repeat (first | exact Ext.refl _ | assumption | refine Ext.drew ?_ | refine Ext.drewN ?_ _ | refine Ext.alloc ?_ _ | refine ext_bytesWorld ?_ _ _ | refine Ext.setCell ?_ (by first | (simp; done) | (simp; omega)) _)

theorem Var.set_ {w : World} {b : Nat} {v : Value} (h : Var w b v) (u : Value) : Var (w.setCell ⟨b, 0, none⟩ u) b u :=
  ⟨by simpa using h.1, World.cell?_setCell_same _ _ _ h.2.1, by simp [World.frozen?_setCell, h.2.2]⟩
theorem Var.put {w : World} {b q : Nat} {v : Value} (h : Var w b v) (_ : q < w.heap.size) (hne : q ≠ b) (u : Value) : Var (w.setCell ⟨q, 0, none⟩ u) b v :=
  ⟨by simpa using h.1, (World.cell?_setCell_other _ _ _ _ (by simp [hne])).trans h.2.1, by simp [World.frozen?_setCell, h.2.2]⟩

/-! ### UnmarshalText -/
set_option maxRecDepth 100000 in
theorem unmarshal_any (k : Nat) (hk0 : 0 < k) (hk : k < 6) (p : Nat) (A : Option Addr) (n c : Nat) (kp : Addr) (cap : Nat) (w : World) (hK : Kinds w kp cap) (hp : Var w p (.int .u8 0))
    (hr : RBytes w A (nm k).data.toList) (hn : (nm k).data.toList.length = n) :
    Calls Tryd.prog 16 #[.pointer (some ⟨p, 0, none⟩), .slice A n c] w fun e w' => e = .returned .nilIface ∧ w' = w.setCell ⟨p, 0, none⟩ (.int .u8 k) := by
  have hst := run_string_n (P := Tryd.prog) w 31 9 5 Tryd.underlying31 Tryd.underlying5 Tryd.underlying9 n c hn hr
  have HKK := hide hK
  have h1 := hK.head
  have HN := hide (fun i (hi : i < 6) (hne : i ≠ k) => nm_ne hi hk hne)
  have HC := hide (hK.cells k hk)
  have hs : (⟨(nm k).data.toList.toArray⟩ : ByteArray) = nm k := by simp
  rw [hs] at hst
  obtain ⟨p0, p1, p2⟩ := hp
  generalize nm k = s at hst HN HC
  clear hr hn hK hs
  go_enter Tryd.func16, Tryd.ntmps16
  go_wp2_with fail
  go_loop [12] (fun s12 => ∃ i : Nat, i ≤ k ∧ s12 = .int .i64 i) (fun s12 => 6 - (intOf s12).toNat)
  case atStart => exact ⟨0, by omega, rfl⟩
  case round =>
    obtain ⟨i, hi, rfl⟩ := hrel
    by_cases he : i = k
    · subst he
      have c1 := HC.out
      have g0 : decide (0 < (i : Int)) = true := decide_eq_true (by omega)
      go_wp2
      go_ret
      exact ⟨rfl, rfl⟩
    · have c1 := HKK.out.cells i (by omega)
      have hb := HN.out i (by omega) he
      generalize nm i = t at c1 hb
      go_wp2
      all_goals
        go_round
        case rel => exact ⟨i + 1, by omega, by go_num⟩
        case measure => simp [intOf]; omega

set_option maxRecDepth 100000 in
theorem unmarshal_zero (p : Nat) (A : Option Addr) (n c : Nat) (kp : Addr) (cap : Nat) (w : World) (hK : Kinds w kp cap)
    (hr : RBytes w A (nm 0).data.toList) (hn : (nm 0).data.toList.length = n) :
    Calls Tryd.prog 16 #[.pointer (some ⟨p, 0, none⟩), .slice A n c] w fun e w' => (∃ t x, e = .returned (.iface t x)) ∧ Ext w w' := by
  have hst := run_string_n (P := Tryd.prog) w 31 9 5 Tryd.underlying31 Tryd.underlying5 Tryd.underlying9 n c hn hr
  have HKK := hide hK
  have h1 := hK.head
  have HN := hide (fun i (hi : i < 6) (hne : i ≠ 0) => nm_ne hi (k := 0) (by decide) hne)
  have hs : (⟨(nm 0).data.toList.toArray⟩ : ByteArray) = nm 0 := by simp
  rw [hs] at hst
  generalize nm 0 = s at hst HN
  clear hr hn hK hs
  go_enter Tryd.func16, Tryd.ntmps16
  go_wp2_with fail
  go_loop [12] (fun s12 => ∃ i : Nat, i ≤ 6 ∧ s12 = .int .i64 i) (fun s12 => 6 - (intOf s12).toNat)
  case atStart => exact ⟨0, by omega, rfl⟩
  case round =>
    obtain ⟨i, hi, rfl⟩ := hrel
    by_cases hlt : i < 6
    · have c1 := HKK.out.cells i hlt
      by_cases h0 : i = 0
      · have g0 : decide (0 < (i : Int)) = false := decide_eq_false (by omega)
        subst h0
        have c2 : w.cell? kp = some (.string (nm 0)) := by simpa [Addr.add] using c1
        generalize nm 0 = t at c1 c2
        clear g0 c1
        go_wp2
        go_round
        case rel => exact ⟨1, by omega, by go_num⟩
        case measure => simp [intOf]
      · have hb := HN.out i hlt h0
        generalize nm i = t at c1 hb
        go_wp2
        all_goals
          go_round
          case rel => exact ⟨i + 1, by omega, by go_num⟩
          case measure => simp [intOf]; omega
    · have he : i = 6 := by omega
      subst he
      go_wp2_with fail
      refine (errNew_any _ _).mono ?_
      rintro e w1 ⟨⟨t, x, rfl⟩, hx⟩
      have HX := hide hx
      clear hx
      go_wp2
      go_ret
      exact ⟨⟨t, x, rfl⟩, HX.out⟩

set_option maxRecDepth 100000 in
theorem implKindUnmarshal_zero (kp : Addr) (cap : Nat) (w : World) (hK : Kinds w kp cap) :
    Calls Tryd.prog 7 #[.string (nm 0)] w fun e w' => (∃ k, e = .returned (.tuple #[.int .i64 k, .bool false])) ∧ Ext w w' := by
  have hmf : ∀ (fn : Fn) (first cap : Array Value) (w : World), (Instr.makeFunc fn first cap).run Tryd.prog w = .ok (.func fn first cap) w := fun _ _ _ _ => rfl
  have hcv := fun (w : World) (s : ByteArray) => Lib.run_convert_string_bytes (P := Tryd.prog) w 9 31 5 s Tryd.underlying9 Tryd.underlying31 Tryd.underlying5
  have HKK := hide hK
  clear hK
  have HS := hide (fun (p : Nat) (A : Option Addr) (n c : Nat) (w : World) => unmarshal_zero p A n c kp cap w)
  generalize nm 0 = s at HS
  go_enter_defers Tryd.func7, Tryd.ntmps7
  go_wp2_with fail
  refine (HS.out _ _ _ _ _ (HKK.out.ext (by repeat (first | exact Ext.refl _ | assumption | refine Ext.drew ?_ | refine Ext.drewN ?_ _ | refine Ext.alloc ?_ _ | refine ext_bytesWorld ?_ _ _ | refine Ext.setCell ?_ (by first | (simp; done) | (simp; omega)) _))) (rbytes_bytesWorld_at _ _ _ _ (by simp)) (size_data _)).mono ?_
  rintro e w1 ⟨⟨t, x, rfl⟩, hx⟩
  have v2 : Var w1 w.heap.size (.int .i64 0) := (((Var.new w (.int .i64 0) _).ext ((Ext.alloc (Ext.refl _) _).alloc _)).ext (ext_bytesWorld (Ext.refl _) _ _)).ext hx
  have v3 : Var w1 (w.heap.size + 1) (.bool false) := (((Var.new_at _ (.bool false) _ _ (by simp)).ext (Ext.alloc (Ext.refl _) _)).ext (ext_bytesWorld (Ext.refl _) _ _)).ext hx
  have v4 : Var w1 (w.heap.size + 1 + 1) (.int .u8 0) := ((Var.new_at _ (.int .u8 0) _ _ (by simp)).ext (ext_bytesWorld (Ext.refl _) _ _)).ext hx
  obtain ⟨s2, c2, f2⟩ := v2
  obtain ⟨s3, c3, f3⟩ := v3
  obtain ⟨s4, c4, f4⟩ := v4
  have HX : Hid (Ext w w1) := hide ((ext_bytesWorld (((Ext.refl w).alloc _ |>.alloc _).alloc _) _ _).trans hx)
  clear hx hcv
  go_wp2
  go_region
  go_wp2
  refine door_idle (kindUnmarshal1_idle _ _) (by simp [go_sem]) ?_
  have HXo := HX.out
  simp [results, Tryd.results7, go_sem, c2, c3, f2, f3]
  repeat (first | exact Ext.refl _ | assumption | refine Ext.drew ?_ | refine Ext.drewN ?_ _ | refine Ext.alloc ?_ _ | refine ext_bytesWorld ?_ _ _ | refine Ext.setCell ?_ (by first | (simp; done) | (simp; omega)) _)

set_option maxRecDepth 100000 in
theorem implKindUnmarshal_any (k : Nat) (hk0 : 0 < k) (hk : k < 6) (kp : Addr) (cap : Nat) (w : World) (hK : Kinds w kp cap) :
    Calls Tryd.prog 7 #[.string (nm k)] w fun e w' => e = .returned (.tuple #[.int .i64 k, .bool true]) ∧ Ext w w' := by
  have hmf : ∀ (fn : Fn) (first cap : Array Value) (w : World), (Instr.makeFunc fn first cap).run Tryd.prog w = .ok (.func fn first cap) w := fun _ _ _ _ => rfl
  have hcv := fun (w : World) (s : ByteArray) => Lib.run_convert_string_bytes (P := Tryd.prog) w 9 31 5 s Tryd.underlying9 Tryd.underlying31 Tryd.underlying5
  have HKK := hide hK
  clear hK
  have HS := hide (fun (p : Nat) (A : Option Addr) (n c : Nat) (w : World) => unmarshal_any k hk0 hk p A n c kp cap w)
  generalize nm k = s at HS
  go_enter_defers Tryd.func7, Tryd.ntmps7
  go_wp2_with fail
  refine (HS.out _ _ _ _ _ (HKK.out.ext (by repeat (first | exact Ext.refl _ | assumption | refine Ext.drew ?_ | refine Ext.drewN ?_ _ | refine Ext.alloc ?_ _ | refine ext_bytesWorld ?_ _ _ | refine Ext.setCell ?_ (by first | (simp; done) | (simp; omega)) _))) ((Var.new_at _ (.int .u8 0) _ _ (by simp)).ext (ext_bytesWorld (Ext.refl _) _ _)) (rbytes_bytesWorld_at _ _ _ _ (by simp)) (size_data _)).mono ?_
  rintro e w1 ⟨rfl, hw1⟩
  have hx0 : Ext w (Lib.bytesWorld (((w.alloc (.cells #[.int .i64 0] 3)).alloc (.cells #[.bool false] 4)).alloc (.cells #[.int .u8 0] 29)) 5 s) := ext_bytesWorld (((Ext.refl w).alloc _ |>.alloc _).alloc _) _ _
  have v2 : Var (Lib.bytesWorld (((w.alloc (.cells #[.int .i64 0] 3)).alloc (.cells #[.bool false] 4)).alloc (.cells #[.int .u8 0] 29)) 5 s) w.heap.size (.int .i64 0) := (((Var.new w (.int .i64 0) _).ext ((Ext.alloc (Ext.refl _) _).alloc _)).ext (ext_bytesWorld (Ext.refl _) _ _))
  have v3 : Var (Lib.bytesWorld (((w.alloc (.cells #[.int .i64 0] 3)).alloc (.cells #[.bool false] 4)).alloc (.cells #[.int .u8 0] 29)) 5 s) (w.heap.size + 1) (.bool false) := (((Var.new_at _ (.bool false) _ _ (by simp)).ext (Ext.alloc (Ext.refl _) _)).ext (ext_bytesWorld (Ext.refl _) _ _))
  have v4 : Var (Lib.bytesWorld (((w.alloc (.cells #[.int .i64 0] 3)).alloc (.cells #[.bool false] 4)).alloc (.cells #[.int .u8 0] 29)) 5 s) (w.heap.size + 1 + 1) (.int .u8 0) := ((Var.new_at _ (.int .u8 0) _ _ (by simp)).ext (ext_bytesWorld (Ext.refl _) _ _))
  generalize Lib.bytesWorld (((w.alloc (.cells #[.int .i64 0] 3)).alloc (.cells #[.bool false] 4)).alloc (.cells #[.int .u8 0] 29)) 5 s = W at hx0 v2 v3 v4 hw1
  have u2 := v2.put v4.1 (by omega) (.int .u8 k)
  have u3 := v3.put v4.1 (by omega) (.int .u8 k)
  have u4 := v4.set_ (.int .u8 k)
  have hx1 : Ext w (W.setCell ⟨w.heap.size + 1 + 1, 0, none⟩ (.int .u8 k)) := Ext.setCell hx0 (by simp; omega) _
  rw [← hw1] at u2 u3 u4 hx1
  obtain ⟨s2, c2, f2⟩ := u2
  obtain ⟨s3, c3, f3⟩ := u3
  obtain ⟨s4, c4, f4⟩ := u4
  have HX : Hid (Ext w w1) := hide hx1
  clear hx1 hx0 hcv v2 v3 v4 hw1
  go_wp2
  go_region
  go_wp2
  refine door_idle (kindUnmarshal1_idle _ _) (by simp [go_sem]) ?_
  have HXo := HX.out
  simp [results, Tryd.results7, go_sem, c2, c3, f2, f3]
  repeat (first | exact Ext.refl _ | assumption | refine Ext.drew ?_ | refine Ext.drewN ?_ _ | refine Ext.alloc ?_ _ | refine ext_bytesWorld ?_ _ _ | refine Ext.setCell ?_ (by first | (simp; done) | (simp; omega)) _)
end Go.Proofs.YtlnidgkcgjlnaaaDoor
