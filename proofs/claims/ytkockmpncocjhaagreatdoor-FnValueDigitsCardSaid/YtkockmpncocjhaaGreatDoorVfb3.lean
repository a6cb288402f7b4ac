/-
  lineprotocol.NewValueFromBytes, impl.ValueFromBytes.
-/
import Derived.Test.YtkockmpncocjhaaGreatDoorVfb2
namespace Go.Proofs.YtkockmpncocjhaaGreatDoor
open Go.RowKit Go.Lib
set_option linter.unusedVariables false
set_option linter.unusedSimpArgs false

set_option maxRecDepth 100000 in
theorem nvw_ok (k : Int) (A : Option Addr) (n c : Nat) (num j : Int) (w : World) (NV : Hid (∀ W, Ext w W → Calls Tryz.prog 16 #[.int .u8 k, .slice A n c, .bool true] W fun e w' => e = .returned (.tuple #[lpV num none 0 0 j, .nilIface]) ∧ Ext W w')) :
    Calls Tryz.prog 9 #[.int .u8 k, .slice A n c] w fun e w' => e = .returned (.tuple #[lpV num none 0 0 j, .nilIface]) ∧ Ext w w' := by
  unfold lpV at NV ⊢
  go_enter Tryz.func9, Tryz.ntmps9
  go_wp2_with fail
  refine (NV.out _ ((Ext.refl w).alloc _)).mono ?_
  rintro e w1 ⟨rfl, hx⟩
  have hb := (Blk.new w 35 #[.int .u64 0, .slice none 0 0, .int .u8 0]).chg (Chg.of_ext hx []) (by simp)
  have c0 := hb.cell 0
  have cf0 := hb.frozen 0
  have c1 := hb.cell 1
  have cf1 := hb.frozen 1
  have c2 := hb.cell 2
  have cf2 := hb.frozen 2
  simp at c0 c1 c2
  have HX := hide (((Ext.refl w).alloc (.cells #[.int .u64 0, .slice none 0 0, .int .u8 0] 35)).trans hx)
  clear hx hb NV
  go_wp2
  refine bodyPost_ret (v := .tuple #[.agg #[.int .u64 num, .slice none 0 0, .int .u8 j], .nilIface]) (by simp [results, Tryz.results9, go_sem, c0, c1, c2, cf0, cf1, cf2]) rfl ⟨rfl, ?_⟩
  exact ((HX.out.setCell (by simp) _).setCell (by simp) _).setCell (by simp) _
set_option maxRecDepth 100000 in
theorem nvw_err (k : Int) (A : Option Addr) (n c : Nat) (Q : Addr → Prop) (w : World) (NV : Hid (∀ W, Ext w W → Calls Tryz.prog 16 #[.int .u8 k, .slice A n c, .bool true] W fun e w' => (∃ p, e = .returned (.tuple #[lpV 0 none 0 0 0, erV p]) ∧ Open w' p.block ∧ Q p) ∧ Ext W w')) :
    Calls Tryz.prog 9 #[.int .u8 k, .slice A n c] w fun e w' => (∃ p, e = .returned (.tuple #[lpV 0 none 0 0 0, erV p]) ∧ Open w' p.block ∧ Q p) ∧ Ext w w' := by
  unfold lpV at NV ⊢
  go_enter Tryz.func9, Tryz.ntmps9
  go_wp2_with fail
  refine (NV.out _ ((Ext.refl w).alloc _)).mono ?_
  rintro e w1 ⟨⟨p, rfl, hO, hq⟩, hx⟩
  have hb := (Blk.new w 35 #[.int .u64 0, .slice none 0 0, .int .u8 0]).chg (Chg.of_ext hx []) (by simp)
  have c0 := hb.cell 0
  have cf0 := hb.frozen 0
  have c1 := hb.cell 1
  have cf1 := hb.frozen 1
  have c2 := hb.cell 2
  have cf2 := hb.frozen 2
  simp at c0 c1 c2
  have HX := hide (((Ext.refl w).alloc (.cells #[.int .u64 0, .slice none 0 0, .int .u8 0] 35)).trans hx)
  have HO := hide (And.intro hO hq)
  clear hx hb NV hO hq
  unfold erV
  go_wp2
  refine bodyPost_ret (v := .tuple #[.agg #[.int .u64 0, .slice none 0 0, .int .u8 0], .iface 87 (.pointer (some p))]) (by simp [results, Tryz.results9, go_sem, c0, c1, c2, cf0, cf1, cf2]) rfl ⟨⟨p, rfl, ((HO.out.1.set _ _).set _ _).set _ _, HO.out.2⟩, ?_⟩
  exact ((HX.out.setCell (by simp) _).setCell (by simp) _).setCell (by simp) _
set_option maxRecDepth 100000 in
theorem out_yes (a1 a2 a3 : Addr) (w : World) (hE : ErrsW w a1 a2 a3) :
    Calls Tryz.prog 10 #[erV a3] w fun e w' => e = .returned (.bool true) ∧ Ext w w' := by
  have e3 := hE.2.2.1
  have q0 := run_neq_nil
  have q1 := run_eql_same a3
  unfold erV at *
  clear hE
  go_enter Tryz.func10, Tryz.ntmps10
  go_wp2
  go_ret
  exact ⟨rfl, Ext.refl w⟩
set_option maxRecDepth 100000 in
theorem out_no (a1 a2 a3 p : Addr) (w : World) (hE : ErrsW w a1 a2 a3) (hO : Open w p.block) (hp : p ≠ a3) :
    Calls Tryz.prog 10 #[erV p] w fun e w' => e = .returned (.bool false) ∧ Ext w w' := by
  have e3 := hE.2.2.1
  have q0 := run_neq_nil
  have q1 := run_eql_other hp hO hE.2.2.2.2.2.2
  unfold erV at *
  clear hE hO hp
  go_enter Tryz.func10, Tryz.ntmps10
  go_wp2
  go_ret
  exact ⟨rfl, Ext.refl w⟩
theorem vfb_idle (args : Array Value) (w : World) : CallsD Tryz.prog 8 args .returning w fun e u' w' => e = .returned (.tuple #[]) ∧ u' = .returning ∧ w' = w :=
  idle_of w nilTest_any Tryz.func8 rfl rfl (by decide) (by decide)
theorem bytesAt_new (w : World) (s : ByteArray) (hs : s.size ≤ 1000000) : BytesAt (Lib.bytesWorld w 5 s) (some ⟨w.heap.size, 0, none⟩) s.size s := ⟨rfl, rbytes_bytesWorld _ _ _, hs⟩
set_option maxRecDepth 100000 in
set_option maxHeartbeats 1000000 in
theorem vfb_ok (kind : Nat) (s : ByteArray) (num j : Int) (k1 : Int) (r : ByteArray) (N1 U1 : Int) (F1 : Nat) (b1 : Bool) (w : World) (hk : kind ≤ 255) (hs : s.size ≤ 1000000) (NV : Hid (∀ W A n c, Ext w W → BytesAt W A n s → Calls Tryz.prog 9 #[.int .u8 (kind : Nat), .slice A n c] W fun e w' => e = .returned (.tuple #[lpV num none 0 0 j, .nilIface]) ∧ Ext W w')) (PL : Hid (∀ W, Calls Tryz.prog 11 #[lpV num none 0 0 j] W fun e w' => e = .returned (ivV k1 r N1 U1 F1 b1) ∧ Ext W w')) :
    Calls Tryz.prog 6 #[.int .i64 kind, .string s] w fun e w' => e = .returned (.tuple #[ivV k1 r N1 U1 F1 b1, .bool true, .bool false]) ∧ Ext w w' := by
  have hmf : ∀ (fn : Fn) (first cap : Array Value) (w : World), (Instr.makeFunc fn first cap).run Tryz.prog w = .ok (.func fn first cap) w := fun _ _ _ _ => rfl
  have CV : Hid (∀ wx, (convert 9 31 (.string s)).run Tryz.prog wx = .ok (.slice (some ⟨wx.heap.size, 0, none⟩) s.size (grownCap wx s.size 0 5)) (Lib.bytesWorld wx 5 s)) := hide fun wx => Lib.run_convert_string_bytes wx _ _ _ s Tryz.underlying9 Tryz.underlying31 Tryz.underlying5
  have hx0 : Ext w (((w.alloc (.cells #[.int .i64 0, .string ⟨#[]⟩, .int .i64 0, .int .u64 0, .float .f64 0, .bool false] 28)).alloc (.cells #[.bool false] 4)).alloc (.cells #[.bool false] 4)) := (((Ext.refl w).alloc _).alloc _).alloc _
  have hb1 : Blk (((w.alloc (.cells #[.int .i64 0, .string ⟨#[]⟩, .int .i64 0, .int .u64 0, .float .f64 0, .bool false] 28)).alloc (.cells #[.bool false] 4)).alloc (.cells #[.bool false] 4)) w.heap.size 28 #[.int .i64 0, .string ⟨#[]⟩, .int .i64 0, .int .u64 0, .float .f64 0, .bool false] := ((Blk.new w _ _).alloc _).alloc _
  have hb2 : Blk (((w.alloc (.cells #[.int .i64 0, .string ⟨#[]⟩, .int .i64 0, .int .u64 0, .float .f64 0, .bool false] 28)).alloc (.cells #[.bool false] 4)).alloc (.cells #[.bool false] 4)) (w.heap.size + 1) 4 #[.bool false] := (Blk.new_at _ _ _ (by simp)).alloc _
  have hb3 : Blk (((w.alloc (.cells #[.int .i64 0, .string ⟨#[]⟩, .int .i64 0, .int .u64 0, .float .f64 0, .bool false] 28)).alloc (.cells #[.bool false] 4)).alloc (.cells #[.bool false] 4)) (w.heap.size + 1 + 1) 4 #[.bool false] := Blk.new_at _ _ _ (by simp)
  have cv := CV.out (((w.alloc (.cells #[.int .i64 0, .string ⟨#[]⟩, .int .i64 0, .int .u64 0, .float .f64 0, .bool false] 28)).alloc (.cells #[.bool false] 4)).alloc (.cells #[.bool false] 4))
  have hBA := bytesAt_new (((w.alloc (.cells #[.int .i64 0, .string ⟨#[]⟩, .int .i64 0, .int .u64 0, .float .f64 0, .bool false] 28)).alloc (.cells #[.bool false] 4)).alloc (.cells #[.bool false] 4)) s hs
  have hx00 := ext_bytesWorld (Ext.refl (((w.alloc (.cells #[.int .i64 0, .string ⟨#[]⟩, .int .i64 0, .int .u64 0, .float .f64 0, .bool false] 28)).alloc (.cells #[.bool false] 4)).alloc (.cells #[.bool false] 4))) 5 s
  have hsz : (((w.alloc (.cells #[.int .i64 0, .string ⟨#[]⟩, .int .i64 0, .int .u64 0, .float .f64 0, .bool false] 28)).alloc (.cells #[.bool false] 4)).alloc (.cells #[.bool false] 4)).heap.size = w.heap.size + 1 + 1 + 1 := by simp
  rw [hsz] at cv hBA
  generalize grownCap (((w.alloc (.cells #[.int .i64 0, .string ⟨#[]⟩, .int .i64 0, .int .u64 0, .float .f64 0, .bool false] 28)).alloc (.cells #[.bool false] 4)).alloc (.cells #[.bool false] 4)) s.size 0 5 = cap at cv
  generalize Lib.bytesWorld (((w.alloc (.cells #[.int .i64 0, .string ⟨#[]⟩, .int .i64 0, .int .u64 0, .float .f64 0, .bool false] 28)).alloc (.cells #[.bool false] 4)).alloc (.cells #[.bool false] 4)) 5 s = W1 at cv hBA hx00
  replace hb1 := hb1.chg (Chg.of_ext hx00 []) (by simp)
  replace hb2 := hb2.chg (Chg.of_ext hx00 []) (by simp)
  replace hb3 := hb3.chg (Chg.of_ext hx00 []) (by simp)
  have HX := hide (hx0.trans hx00)
  have HB := hide (And.intro hb1 (And.intro hb2 hb3))
  have NV1 := hide (NV.out W1 _ _ cap HX.out hBA)
  have hlt := hide (show w.heap.size + 1 + 1 < W1.heap.size from hb3.lt)
  clear hb1 hb2 hb3 hx0 hx00 hsz hBA CV NV hs
  unfold lpV at NV1 PL
  unfold ivV at PL ⊢
  have wk : IntKind.u8.wrap (kind : Int) = kind := by simp [IntKind.wrap, IntKind.signed, IntKind.bits]; omega
  go_enter_defers Tryz.func6, Tryz.ntmps6
  go_wp2_with fail
  refine NV1.out.mono ?_
  rintro e w1 ⟨rfl, hx⟩
  obtain ⟨hb1, hb2, hb3⟩ := HB.out
  replace hb1 := hb1.chg (Chg.of_ext hx []) (by simp)
  replace hb2 := hb2.chg (Chg.of_ext hx []) (by simp)
  replace hb3 := hb3.chg (Chg.of_ext hx []) (by simp)
  replace HX := hide (HX.out.trans hx)
  have hlt1 := hide (Nat.lt_of_lt_of_le hlt.out hx.sizes)
  clear hx HB hlt NV1 cv
  go_wp2_with fail
  refine (PL.out _).mono ?_
  rintro e w2 ⟨rfl, hx2⟩
  replace hb1 := (hb1.alloc (.cells #[.int .u64 num, .slice none 0 0, .int .u8 j] 35)).chg (Chg.of_ext hx2 []) (by simp)
  replace hb2 := (hb2.alloc (.cells #[.int .u64 num, .slice none 0 0, .int .u8 j] 35)).chg (Chg.of_ext hx2 []) (by simp)
  replace hb3 := (hb3.alloc (.cells #[.int .u64 num, .slice none 0 0, .int .u8 j] 35)).chg (Chg.of_ext hx2 []) (by simp)
  replace HX : Hid (Ext w w2) := hide ((HX.out.alloc _).trans hx2)
  clear hx2 PL hlt1
  have d0 := hb1.cell 0
  have df0 := hb1.frozen 0
  have d1 := hb1.cell 1
  have df1 := hb1.frozen 1
  have d2 := hb1.cell 2
  have df2 := hb1.frozen 2
  have d3 := hb1.cell 3
  have df3 := hb1.frozen 3
  have d4 := hb1.cell 4
  have df4 := hb1.frozen 4
  have d5 := hb1.cell 5
  have df5 := hb1.frozen 5
  simp at d0 d1 d2 d3 d4 d5
  have g0 := hb2.cell 0
  have gf0 := hb2.frozen 0
  simp at g0
  have h0 := hb3.cell 0
  have hf0 := hb3.frozen 0
  simp at h0
  have SF := store_floatS (P := Tryz.prog) ⟨w.heap.size, 4, none⟩ F1
  clear hb1 hb2 hb3
  go_wp2
  refine door_idle (vfb_idle _ _) (by simp [go_sem]) ?_
  refine ⟨.tuple #[.agg #[.int .i64 k1, .string r, .int .i64 N1, .int .u64 U1, .float .f64 F1, .bool b1], .bool true, .bool false], ?_, rfl, ?_⟩
  · simp [results, Tryz.results6, go_sem, d0, df0, d1, df1, d2, df2, d3, df3, d4, df4, d5, df5, g0, gf0, h0, hf0]
  · exact (((((((HX.out.setCell (by simp) _).setCell (by simp) _).setCell (by simp) _).setCell (by simp) _).setCell (by simp) _).setCell (by simp) _).setCell (by simp) _).setCell (by simp; omega) _
set_option maxRecDepth 100000 in
set_option maxHeartbeats 1000000 in
theorem vfb_err (kind : Nat) (s : ByteArray) (Q : Addr → Prop) (out : Bool) (w : World) (hk : kind ≤ 255) (hs : s.size ≤ 1000000) (NV : Hid (∀ W A n c, Ext w W → BytesAt W A n s → Calls Tryz.prog 9 #[.int .u8 (kind : Nat), .slice A n c] W fun e w' => (∃ p, e = .returned (.tuple #[lpV 0 none 0 0 0, erV p]) ∧ Open w' p.block ∧ Q p) ∧ Ext W w')) (LO : Hid (∀ W p, Ext w W → Open W p.block → Q p → Calls Tryz.prog 10 #[erV p] W fun e w' => e = .returned (.bool out) ∧ Ext W w')) :
    Calls Tryz.prog 6 #[.int .i64 kind, .string s] w fun e w' => e = .returned (.tuple #[ivV 0 ⟨#[]⟩ 0 0 0 false, .bool false, .bool out]) ∧ Ext w w' := by
  have hmf : ∀ (fn : Fn) (first cap : Array Value) (w : World), (Instr.makeFunc fn first cap).run Tryz.prog w = .ok (.func fn first cap) w := fun _ _ _ _ => rfl
  have CV : Hid (∀ wx, (convert 9 31 (.string s)).run Tryz.prog wx = .ok (.slice (some ⟨wx.heap.size, 0, none⟩) s.size (grownCap wx s.size 0 5)) (Lib.bytesWorld wx 5 s)) := hide fun wx => Lib.run_convert_string_bytes wx _ _ _ s Tryz.underlying9 Tryz.underlying31 Tryz.underlying5
  have hx0 : Ext w (((w.alloc (.cells #[.int .i64 0, .string ⟨#[]⟩, .int .i64 0, .int .u64 0, .float .f64 0, .bool false] 28)).alloc (.cells #[.bool false] 4)).alloc (.cells #[.bool false] 4)) := (((Ext.refl w).alloc _).alloc _).alloc _
  have hb1 : Blk (((w.alloc (.cells #[.int .i64 0, .string ⟨#[]⟩, .int .i64 0, .int .u64 0, .float .f64 0, .bool false] 28)).alloc (.cells #[.bool false] 4)).alloc (.cells #[.bool false] 4)) w.heap.size 28 #[.int .i64 0, .string ⟨#[]⟩, .int .i64 0, .int .u64 0, .float .f64 0, .bool false] := ((Blk.new w _ _).alloc _).alloc _
  have hb2 : Blk (((w.alloc (.cells #[.int .i64 0, .string ⟨#[]⟩, .int .i64 0, .int .u64 0, .float .f64 0, .bool false] 28)).alloc (.cells #[.bool false] 4)).alloc (.cells #[.bool false] 4)) (w.heap.size + 1) 4 #[.bool false] := (Blk.new_at _ _ _ (by simp)).alloc _
  have hb3 : Blk (((w.alloc (.cells #[.int .i64 0, .string ⟨#[]⟩, .int .i64 0, .int .u64 0, .float .f64 0, .bool false] 28)).alloc (.cells #[.bool false] 4)).alloc (.cells #[.bool false] 4)) (w.heap.size + 1 + 1) 4 #[.bool false] := Blk.new_at _ _ _ (by simp)
  have cv := CV.out (((w.alloc (.cells #[.int .i64 0, .string ⟨#[]⟩, .int .i64 0, .int .u64 0, .float .f64 0, .bool false] 28)).alloc (.cells #[.bool false] 4)).alloc (.cells #[.bool false] 4))
  have hBA := bytesAt_new (((w.alloc (.cells #[.int .i64 0, .string ⟨#[]⟩, .int .i64 0, .int .u64 0, .float .f64 0, .bool false] 28)).alloc (.cells #[.bool false] 4)).alloc (.cells #[.bool false] 4)) s hs
  have hx00 := ext_bytesWorld (Ext.refl (((w.alloc (.cells #[.int .i64 0, .string ⟨#[]⟩, .int .i64 0, .int .u64 0, .float .f64 0, .bool false] 28)).alloc (.cells #[.bool false] 4)).alloc (.cells #[.bool false] 4))) 5 s
  have hsz : (((w.alloc (.cells #[.int .i64 0, .string ⟨#[]⟩, .int .i64 0, .int .u64 0, .float .f64 0, .bool false] 28)).alloc (.cells #[.bool false] 4)).alloc (.cells #[.bool false] 4)).heap.size = w.heap.size + 1 + 1 + 1 := by simp
  rw [hsz] at cv hBA
  generalize grownCap (((w.alloc (.cells #[.int .i64 0, .string ⟨#[]⟩, .int .i64 0, .int .u64 0, .float .f64 0, .bool false] 28)).alloc (.cells #[.bool false] 4)).alloc (.cells #[.bool false] 4)) s.size 0 5 = cap at cv
  generalize Lib.bytesWorld (((w.alloc (.cells #[.int .i64 0, .string ⟨#[]⟩, .int .i64 0, .int .u64 0, .float .f64 0, .bool false] 28)).alloc (.cells #[.bool false] 4)).alloc (.cells #[.bool false] 4)) 5 s = W1 at cv hBA hx00
  replace hb1 := hb1.chg (Chg.of_ext hx00 []) (by simp)
  replace hb2 := hb2.chg (Chg.of_ext hx00 []) (by simp)
  replace hb3 := hb3.chg (Chg.of_ext hx00 []) (by simp)
  have HX := hide (hx0.trans hx00)
  have HB := hide (And.intro hb1 (And.intro hb2 hb3))
  have NV1 := hide (NV.out W1 _ _ cap HX.out hBA)
  have hlt := hide (show w.heap.size + 1 + 1 < W1.heap.size from hb3.lt)
  clear hb1 hb2 hb3 hx0 hx00 hsz hBA CV NV hs
  unfold lpV at NV1
  unfold ivV
  have wk : IntKind.u8.wrap (kind : Int) = kind := by simp [IntKind.wrap, IntKind.signed, IntKind.bits]; omega
  go_enter_defers Tryz.func6, Tryz.ntmps6
  go_wp2_with fail
  refine NV1.out.mono ?_
  rintro e w1 ⟨⟨p, rfl, hO, hq⟩, hx⟩
  obtain ⟨hb1, hb2, hb3⟩ := HB.out
  replace hb1 := hb1.chg (Chg.of_ext hx []) (by simp)
  replace hb2 := hb2.chg (Chg.of_ext hx []) (by simp)
  replace hb3 := hb3.chg (Chg.of_ext hx []) (by simp)
  replace HX := hide (HX.out.trans hx)
  have hlt1 := hide (Nat.lt_of_lt_of_le hlt.out hx.sizes)
  clear hx HB hlt NV1 cv
  have q0 := run_neq_nil
  unfold erV at LO ⊢
  go_wp2_with fail
  refine (LO.out _ p (HX.out.alloc _) (hO.ext ((Ext.refl w1).alloc _)) hq).mono ?_
  rintro e w2 ⟨rfl, hx2⟩
  replace hb1 := (hb1.alloc (.cells #[.int .u64 0, .slice none 0 0, .int .u8 0] 35)).chg (Chg.of_ext hx2 []) (by simp)
  replace hb2 := (hb2.alloc (.cells #[.int .u64 0, .slice none 0 0, .int .u8 0] 35)).chg (Chg.of_ext hx2 []) (by simp)
  replace hb3 := (hb3.alloc (.cells #[.int .u64 0, .slice none 0 0, .int .u8 0] 35)).chg (Chg.of_ext hx2 []) (by simp)
  replace HX : Hid (Ext w w2) := hide ((HX.out.alloc _).trans hx2)
  clear hx2 LO hlt1 hO hq
  have d0 := hb1.cell 0
  have df0 := hb1.frozen 0
  have d1 := hb1.cell 1
  have df1 := hb1.frozen 1
  have d2 := hb1.cell 2
  have df2 := hb1.frozen 2
  have d3 := hb1.cell 3
  have df3 := hb1.frozen 3
  have d4 := hb1.cell 4
  have df4 := hb1.frozen 4
  have d5 := hb1.cell 5
  have df5 := hb1.frozen 5
  simp at d0 d1 d2 d3 d4 d5
  have g0 := hb2.cell 0
  have gf0 := hb2.frozen 0
  simp at g0
  have h0 := hb3.cell 0
  have hf0 := hb3.frozen 0
  simp at h0
  have SF := store_floatS (P := Tryz.prog) ⟨w.heap.size, 4, none⟩ 0
  clear hb1 hb2 hb3
  go_wp2
  refine door_idle (vfb_idle _ _) (by simp [go_sem]) ?_
  refine ⟨.tuple #[.agg #[.int .i64 0, .string ⟨#[]⟩, .int .i64 0, .int .u64 0, .float .f64 0, .bool false], .bool false, .bool out], ?_, rfl, ?_⟩
  · simp [results, Tryz.results6, go_sem, d0, df0, d1, df1, d2, df2, d3, df3, d4, df4, d5, df5, g0, gf0, h0, hf0]
  · exact (((((((HX.out.setCell (by simp) _).setCell (by simp) _).setCell (by simp) _).setCell (by simp) _).setCell (by simp) _).setCell (by simp) _).setCell (by simp) _).setCell (by simp; omega) _
end Go.Proofs.YtkockmpncocjhaaGreatDoor
