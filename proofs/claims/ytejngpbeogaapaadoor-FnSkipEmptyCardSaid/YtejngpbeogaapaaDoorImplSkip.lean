/-
  DoorSkip, DoorPlace, impl.SkipEmpty.
-/
import Derived.Test.YtejngpbeogaapaaDoorPassed
namespace Go.Proofs.YtejngpbeogaapaaDoor
open Go.RowKit
set_option linter.unusedVariables false
set_option linter.unusedSimpArgs false

section
variable {w w1 : World} {B d : Nat} {S : List Nat} {all : List UInt8} {p lo : Nat} {sec : Int} {sk : Bool} {esc : Value} {line : Int} {er : Value} {ad : Addr}
set_option maxRecDepth 100000 in
theorem doorPlace_in (h : DecIn w B d S all p lo sec sk esc line er w1) (hl0 : 0 ≤ line) (hl1 : line ≤ 100000000) :
    Calls Tryd.prog 25 #[.pointer (some ⟨d, 0, none⟩)] w1 fun e w' => e = .returned (.tuple #[.int .i64 (p : Nat), .int .i64 line]) ∧ DecIn w B d S all p lo sec sk esc line er w' := by
  obtain ⟨r0, c2, c3, -, hr, -⟩ := h.seek
  obtain ⟨c8, -, -⟩ := h.lineAt
  have hle := h.le
  obtain ⟨r1, hr1⟩ : ∃ r1, r1 = r0 + p := ⟨_, rfl⟩
  rw [← hr1] at c3
  have i1 : (r1 : Int) - (r0 : Int) = (p : Int) := by omega
  have i2 : p ≤ 4194304 := by omega
  have H : Hid (∀ n, DecIn w B d S all p lo sec sk esc line er (w1.drewN n)) := hide fun n => h.ext ((Ext.refl w1).drewN n)
  clear h hr hr1 hle
  go_enter Tryd.func25, Tryd.ntmps25
  go_wp2
  go_quiet (fail)
  go_wp2
  go_ret2
  exact ⟨rfl, H.out _⟩
set_option maxRecDepth 100000 in
theorem doorSkip_in {L0 : Int} (h : DecIn w B d S all p p sec sk esc (L0 + (lfs (all.take p) : Nat)) er w1) (hB : DecB w B S ad) (hl0 : 0 ≤ L0) (hl1 : L0 ≤ 10000000) :
    Calls Tryd.prog 24 #[.pointer (some ⟨d, 0, none⟩)] w1 fun e w' => e = .returned (.tuple #[]) ∧
      DecIn w B d S all (p + fin (all.drop p)) (p + fin (all.drop p)) sec sk esc (L0 + (lfs (all.take (p + fin (all.drop p))) : Nat)) er w' := by
  have SK := hide (skip_in h hB hl0 hl1)
  generalize p + fin (all.drop p) = N at SK ⊢
  clear h hB
  go_enter Tryd.func24, Tryd.ntmps24
  go_wp2_with fail
  refine SK.out.mono ?_
  rintro e w2 ⟨rfl, h2⟩
  have H2 := hide h2
  clear h2 SK
  go_wp2
  exact bodyPost_end (results_none rfl _ _ _) rfl ⟨rfl, H2.out⟩
end

theorem skip1_idle (args : Array Value) (w : World) : CallsD Tryd.prog 23 args .returning w fun e u' w' => e = .returned (.tuple #[]) ∧ u' = .returning ∧ w' = w :=
  idle_of w nilTest_any Tryd.func23 rfl rfl (by decide) (by decide)

set_option maxRecDepth 100000 in
set_option maxHeartbeats 1000000 in
theorem implSkip_any (text : ByteArray) (A : Option Addr) (cap : Nat) (l : List Int) (w : World) (B : Nat) (ad : Addr) (ht : text.size ≤ 1048576) (hE : EofAt w B ad)
    (hR : Reads w B 1 A l.length (is_ l)) (hll : l.length ≤ 1000) (hv : ∀ x ∈ l, -9223372036854775808 ≤ x ∧ x ≤ 9223372036854775807) :
    Calls Tryd.prog 10 #[.string text, .slice A l.length cap] w fun e w' => e = .returned (.tuple #[.int .i64 (fin text.data.toList : Nat), .int .i64 (lfs (text.data.toList.take (fin text.data.toList)) : Nat), .bool true]) ∧ Ext w w' := by
  have hmf : ∀ (fn : Fn) (first cap : Array Value) (w : World), (Instr.makeFunc fn first cap).run Tryd.prog w = .ok (.func fn first cap) w := fun _ _ _ _ => rfl
  have DEC : Hid (∀ w1, Ext w w1 → Calls Tryd.prog 21 #[.string text, .slice A l.length cap, .bool false] w1 (DecNew w1 B text.data.toList)) := hide fun w1 hx =>
    decoder_any B text A cap l w1 (hR.chg (Chg.of_ext hx []) (by simp) hE.2.1) (Nat.le_trans hE.2.1 hx.sizes) hll ht hv
  have HE := hide hE
  have hf1 := fin_le text.data.toList
  have hf2 := lfs_le (text.data.toList.take (fin text.data.toList))
  rw [List.length_take] at hf2
  rw [size_data] at hf1 hf2
  have hb1 : fin text.data.toList ≤ 1048576 := by omega
  have hb2 : lfs (text.data.toList.take (fin text.data.toList)) ≤ 1048576 := by omega
  have V : Hid (Var (((w.alloc (.cells #[.int .i64 0] 3)).alloc (.cells #[.int .i64 0] 3)).alloc (.cells #[.bool false] 4)) w.heap.size (.int .i64 0) ∧
      Var (((w.alloc (.cells #[.int .i64 0] 3)).alloc (.cells #[.int .i64 0] 3)).alloc (.cells #[.bool false] 4)) (w.heap.size + 1) (.int .i64 0) ∧
      Var (((w.alloc (.cells #[.int .i64 0] 3)).alloc (.cells #[.int .i64 0] 3)).alloc (.cells #[.bool false] 4)) (w.heap.size + 1 + 1) (.bool false)) := hide
    ⟨((Var.new w (.int .i64 0) _).ext ((Ext.refl _).alloc _)).ext ((Ext.refl _).alloc _), (Var.new_at _ (.int .i64 0) _ _ (by simp)).ext ((Ext.refl _).alloc _), Var.new_at _ (.bool false) _ _ (by simp)⟩
  clear hE hR hll hv hf1 hf2
  generalize hM : lfs (text.data.toList.take (fin text.data.toList)) = M at hb2 ⊢
  have HM := hide hM
  generalize hN : fin text.data.toList = N at hb1 HM ⊢
  have HN := hide hN
  clear hM hN
  go_enter_defers Tryd.func10, Tryd.ntmps10
  go_wp2_with fail
  refine (DEC.out _ ((((Ext.refl w).alloc _).alloc _).alloc _)).mono ?_
  rintro e w1 ⟨d, S, av, cp, esc, f, rfl, hD, hx, hge, hns⟩
  have hx1 : Ext w w1 := ((((Ext.refl w).alloc _).alloc _).alloc _).trans hx
  have hD0 : DecIn w1 B d S text.data.toList 0 0 5 false esc (1 + (lfs (text.data.toList.take 0) : Nat)) .nilIface w1 := ((DecIn.start hD).weak (Nat.zero_le _)).line_eq (by simp [lfs])
  have hB : DecB w1 B S ad := ⟨HE.out.chg (Chg.of_ext hx1 []) (by simp), hD.bS⟩
  have CALL := hide (doorSkip_in hD0 hB (by omega) (by omega))
  rw [List.drop_zero, Nat.zero_add, HN.out, HM.out] at CALL
  have V2 := hide (And.intro (V.out.1.ext hx) (And.intro (V.out.2.1.ext hx) (And.intro (V.out.2.2.ext hx) (And.intro hx1 hge))))
  clear hD hx hge hns hx1 V DEC HE hD0 hB
  go_wp2_with fail
  refine CALL.out.mono ?_
  rintro e w2 ⟨rfl, hD2⟩
  have CALL2 := hide (doorPlace_in hD2 (by omega) (by omega))
  clear hD2 CALL
  go_wp2_with fail
  refine CALL2.out.mono ?_
  rintro e w3 ⟨rfl, hD3⟩
  have hC := hD3.chg
  obtain ⟨v1, v2, v3, v4, v5⟩ := V2.out
  simp at v5
  have hn : ∀ j, j < 3 → w.heap.size + j ∉ S := fun j hj hm => by have := v5 _ hm; omega
  obtain ⟨s1, c1, f1⟩ := var_chg v1 hC (hn 0 (by omega))
  obtain ⟨s2, c2, f2⟩ := var_chg v2 hC (hn 1 (by omega))
  obtain ⟨s3, c3, f3⟩ := var_chg v3 hC (hn 2 (by omega))
  have hx2 : Ext w w3 := ((Chg.of_ext v4 []).then hC (fun i hi => .inr (by have := v5 i hi; omega))).ext (by simp)
  have HX := hide hx2
  have hsum : (1 : Int) + (M : Int) - 1 = (M : Int) := by omega
  clear hx2 hC v1 v2 v3 v4 v5 V2 CALL2 hn hD3
  go_wp2
  refine door_idle (skip1_idle _ _) (by simp [go_sem]) ?_
  have HXo := HX.out
  simp [results, Tryd.results10, go_sem, c1, c2, c3, f1, f2, f3]
  repeat (first | exact Ext.refl _ | assumption | refine Ext.drew ?_ | refine Ext.drewN ?_ _ | refine Ext.alloc ?_ _ | refine ext_bytesWorld ?_ _ _ | refine Ext.setCell ?_ (by first | (simp; done) | (simp; omega)) _)
end Go.Proofs.YtejngpbeogaapaaDoor
