/-
  impl.RawTells of a streamed header.
-/
import Derived.Test.YtnenjkngimfdgaaDoorTells
namespace Go.Proofs.YtnenjkngimfdgaaDoor
open Go.RowKit
set_option linter.unusedVariables false
set_option linter.unusedSimpArgs false

theorem rawTells_idle (args : Array Value) (w : World) : CallsD Tryd.prog 33 args .returning w fun e u' w' => e = .returned (.tuple #[]) ∧ u' = .returning ∧ w' = w :=
  idle_of w nilTest_any Tryd.func33 rfl rfl (by decide) (by decide)
theorem inB_world (w : World) (s : ByteArray) (c : UInt8) (hs : s.data.toList = hdr c) : InB (Lib.bytesWorld w 5 s) (some ⟨w.heap.size, 0, none⟩) 4 (hdr c) := by
  refine ⟨fun _ => ⟨w.heap.size, 0, rfl, fun i hi => ?_⟩, rfl⟩
  have hz : s.size = 4 := by rw [← size_data, hs]; rfl
  rw [Nat.zero_add, Lib.bytesWorld_cell w _ s i (by omega), hs]
  have : i = 0 ∨ i = 1 ∨ i = 2 ∨ i = 3 := by omega
  rcases this with rfl | rfl | rfl | rfl <;> rfl
set_option maxRecDepth 100000 in
set_option maxHeartbeats 1000000 in
theorem rawTells_any (c : UInt8) (s : ByteArray) (w : World) (hp : Pfx c) (hs : s.data.toList = hdr c) :
    Calls Tryd.prog 15 #[.string s] w fun e w' => e = .returned (.tuple #[.bool false, .bool false, .bool true, .bool true]) ∧ Ext w w' := by
  have hmf : ∀ (fn : Fn) (first cap : Array Value) (w : World), (Instr.makeFunc fn first cap).run Tryd.prog w = .ok (.func fn first cap) w := fun _ _ _ _ => rfl
  obtain ⟨W0, hW0⟩ : ∃ W0, W0 = ((((w.alloc (.cells #[.bool false] 4)).alloc (.cells #[.bool false] 4)).alloc (.cells #[.bool false] 4)).alloc (.cells #[.bool false] 4)) := ⟨_, rfl⟩
  have hx0 : Ext w W0 := by rw [hW0]; exact ((((Ext.refl w).alloc _).alloc _).alloc _).alloc _
  have hsz : W0.heap.size = w.heap.size + 1 + 1 + 1 + 1 := by rw [hW0]; simp
  have b1 : Blk W0 w.heap.size 4 #[.bool false] := by rw [hW0]; exact (((Blk.new w _ _).alloc _).alloc _).alloc _
  have b2 : Blk W0 (w.heap.size + 1) 4 #[.bool false] := by rw [hW0]; exact ((Blk.new_at _ _ _ (by simp)).alloc _).alloc _
  have b3 : Blk W0 (w.heap.size + 1 + 1) 4 #[.bool false] := by rw [hW0]; exact (Blk.new_at _ _ _ (by simp)).alloc _
  have b4 : Blk W0 (w.heap.size + 1 + 1 + 1) 4 #[.bool false] := by rw [hW0]; exact Blk.new_at _ _ _ (by simp)
  have cv := Lib.run_convert_string_bytes (P := Tryd.prog) W0 9 71 5 s Tryd.underlying9 Tryd.underlying71 Tryd.underlying5
  have hI := inB_world W0 s c hs
  have hx1 := ext_bytesWorld (Ext.refl W0) 5 s
  have hz : s.size = 4 := by rw [← size_data, hs]; rfl
  have hcap := grownCap_ge W0 s.size 0 5
  rw [hz] at hcap cv
  generalize grownCap W0 4 0 5 = cap at cv hcap
  generalize Lib.bytesWorld W0 5 s = W1 at cv hI hx1
  rw [hsz] at cv hI
  have HB : Hid (∀ W, Ext W1 W → Blk W w.heap.size 4 #[.bool false] ∧ Blk W (w.heap.size + 1) 4 #[.bool false] ∧ Blk W (w.heap.size + 1 + 1) 4 #[.bool false] ∧ Blk W (w.heap.size + 1 + 1 + 1) 4 #[.bool false]) := hide fun W hx =>
    ⟨b1.chg (Chg.of_ext (hx1.trans hx) []) (by simp), b2.chg (Chg.of_ext (hx1.trans hx) []) (by simp), b3.chg (Chg.of_ext (hx1.trans hx) []) (by simp), b4.chg (Chg.of_ext (hx1.trans hx) []) (by simp)⟩
  have HW := hide (hx0.trans hx1)
  have Q1 : Hid (∀ W, Ext W1 W → Calls Tryd.prog 34 #[.slice (some ⟨w.heap.size + 1 + 1 + 1 + 1, 0, none⟩) 4 cap] W fun e w' => e = .returned (.bool false) ∧ Ext W w') := hide fun W hx => isNull_any _ cap c W hcap (hI.ext hx)
  have Q2 : Hid (∀ W, Ext W1 W → Calls Tryd.prog 35 #[.slice (some ⟨w.heap.size + 1 + 1 + 1 + 1, 0, none⟩) 4 cap] W fun e w' => e = .returned (.bool false) ∧ Ext W w') := hide fun W hx => isEmpty_any _ cap c W hp hcap (hI.ext hx)
  have Q3 : Hid (∀ W, Ext W1 W → Calls Tryd.prog 36 #[.slice (some ⟨w.heap.size + 1 + 1 + 1 + 1, 0, none⟩) 4 cap] W fun e w' => e = .returned (.bool true) ∧ Ext W w') := hide fun W hx => isStream_any _ cap c W hp hcap (hI.ext hx)
  rw [hW0] at cv
  clear hx0 hsz b1 b2 b3 b4 hI hx1 hz hcap hW0 hs hp
  go_enter_defers Tryd.func15, Tryd.ntmps15
  go_wp2_with fail
  refine (Q1.out _ (Ext.refl _)).mono ?_
  rintro e w2 ⟨rfl, hx2⟩
  go_wp2_with fail
  refine (Q2.out _ hx2).mono ?_
  rintro e w3 ⟨rfl, hx3⟩
  have hx3 := hx2.trans hx3
  go_wp2_with fail
  refine (Q3.out _ hx3).mono ?_
  rintro e w4 ⟨rfl, hx4⟩
  have hx4 := hx3.trans hx4
  obtain ⟨b1, b2, b3, b4⟩ := HB.out w4 hx4
  have HX := hide (HW.out.trans hx4)
  have c1 := b1.cell 0
  have c2 := b2.cell 0
  have c3 := b3.cell 0
  have c4 := b4.cell 0
  have f1 := b1.frozen 0
  have f2 := b2.frozen 0
  have f3 := b3.frozen 0
  have f4 := b4.frozen 0
  simp at c1 c2 c3 c4
  clear b1 b2 b3 b4 HB HW Q1 Q2 Q3 hx2 hx3 hx4
  go_wp2
  refine door_idle (rawTells_idle _ _) (by simp [go_sem]) ?_
  refine ⟨.tuple #[.bool false, .bool false, .bool true, .bool true], ?_, rfl, ?_⟩
  · simp [results, Tryd.results15, go_sem, c1, c2, c3, c4, f1, f2, f3, f4]
  · exact (((HX.out.setCell (by simp) _).setCell (by simp) _).setCell (by simp; omega) _).setCell (by simp; omega) _
end Go.Proofs.YtnenjkngimfdgaaDoor
