/-
  impl.anyOf, lineprotocol.NewValue.
-/
import Derived.Test.YtkockmpncocjhaaDoorValue
namespace Go.Proofs.YtkockmpncocjhaaDoor
open Go.RowKit Go.Lib Go.Shelf
set_option linter.unusedVariables false
set_option linter.unusedSimpArgs false

/-- What NewValue is handed where the value is a text's bytes. -/
def RawAny (s : ByteArray) (w : World) (v : Value) : Prop := ∃ a c, v = .slice (some a) s.size c ∧ s.size ≤ c ∧ RBytes w (some a) s.data.toList ∧ ∀ W, Ext w W → ∀ j (hj : j < s.data.toList.length), W.cell? (a.add j) = some (.int .u8 (s.data.toList[j].toNat))
theorem as_0_0 (x : Value) (w : World) : (Instr.typeAssert (.iface 2 x) 20 2 true).run Tryd.prog w = .ok (.tuple #[x, .bool true]) w := by kernel_rfl
theorem as_1_0 (x : Value) (w : World) : (Instr.typeAssert (.iface 22 x) 20 2 true).run Tryd.prog w = .ok (.tuple #[.int .i64 0, .bool false]) w := by kernel_rfl
theorem as_1_1 (x : Value) (w : World) : (Instr.typeAssert (.iface 22 x) 20 22 true).run Tryd.prog w = .ok (.tuple #[x, .bool true]) w := by kernel_rfl
theorem as_2_0 (x : Value) (w : World) : (Instr.typeAssert (.iface 23 x) 20 2 true).run Tryd.prog w = .ok (.tuple #[.int .i64 0, .bool false]) w := by kernel_rfl
theorem as_2_1 (x : Value) (w : World) : (Instr.typeAssert (.iface 23 x) 20 22 true).run Tryd.prog w = .ok (.tuple #[.int .u64 0, .bool false]) w := by kernel_rfl
theorem as_2_2 (x : Value) (w : World) : (Instr.typeAssert (.iface 23 x) 20 23 true).run Tryd.prog w = .ok (.tuple #[x, .bool true]) w := by kernel_rfl
theorem as_3_0 (x : Value) (w : World) : (Instr.typeAssert (.iface 4 x) 20 2 true).run Tryd.prog w = .ok (.tuple #[.int .i64 0, .bool false]) w := by kernel_rfl
theorem as_3_1 (x : Value) (w : World) : (Instr.typeAssert (.iface 4 x) 20 22 true).run Tryd.prog w = .ok (.tuple #[.int .u64 0, .bool false]) w := by kernel_rfl
theorem as_3_2 (x : Value) (w : World) : (Instr.typeAssert (.iface 4 x) 20 23 true).run Tryd.prog w = .ok (.tuple #[.float .f64 0, .bool false]) w := by kernel_rfl
theorem as_3_3 (x : Value) (w : World) : (Instr.typeAssert (.iface 4 x) 20 4 true).run Tryd.prog w = .ok (.tuple #[x, .bool true]) w := by kernel_rfl
theorem as_4_0 (x : Value) (w : World) : (Instr.typeAssert (.iface 9 x) 20 2 true).run Tryd.prog w = .ok (.tuple #[.int .i64 0, .bool false]) w := by kernel_rfl
theorem as_4_1 (x : Value) (w : World) : (Instr.typeAssert (.iface 9 x) 20 22 true).run Tryd.prog w = .ok (.tuple #[.int .u64 0, .bool false]) w := by kernel_rfl
theorem as_4_2 (x : Value) (w : World) : (Instr.typeAssert (.iface 9 x) 20 23 true).run Tryd.prog w = .ok (.tuple #[.float .f64 0, .bool false]) w := by kernel_rfl
theorem as_4_3 (x : Value) (w : World) : (Instr.typeAssert (.iface 9 x) 20 4 true).run Tryd.prog w = .ok (.tuple #[.bool false, .bool false]) w := by kernel_rfl
theorem as_4_4 (x : Value) (w : World) : (Instr.typeAssert (.iface 9 x) 20 9 true).run Tryd.prog w = .ok (.tuple #[x, .bool true]) w := by kernel_rfl
theorem as_5_0 (x : Value) (w : World) : (Instr.typeAssert (.iface 35 x) 20 2 true).run Tryd.prog w = .ok (.tuple #[.int .i64 0, .bool false]) w := by kernel_rfl
theorem as_5_1 (x : Value) (w : World) : (Instr.typeAssert (.iface 35 x) 20 22 true).run Tryd.prog w = .ok (.tuple #[.int .u64 0, .bool false]) w := by kernel_rfl
theorem as_5_2 (x : Value) (w : World) : (Instr.typeAssert (.iface 35 x) 20 23 true).run Tryd.prog w = .ok (.tuple #[.float .f64 0, .bool false]) w := by kernel_rfl
theorem as_5_3 (x : Value) (w : World) : (Instr.typeAssert (.iface 35 x) 20 4 true).run Tryd.prog w = .ok (.tuple #[.bool false, .bool false]) w := by kernel_rfl
theorem as_5_4 (x : Value) (w : World) : (Instr.typeAssert (.iface 35 x) 20 9 true).run Tryd.prog w = .ok (.tuple #[.string ⟨#[]⟩, .bool false]) w := by kernel_rfl
theorem as_5_5 (x : Value) (w : World) : (Instr.typeAssert (.iface 35 x) 20 35 true).run Tryd.prog w = .ok (.tuple #[x, .bool true]) w := by kernel_rfl
theorem as_n_0 (w : World) : (Instr.typeAssert .nilIface 20 2 true).run Tryd.prog w = .ok (.tuple #[.int .i64 0, .bool false]) w := by kernel_rfl
theorem as_n_1 (w : World) : (Instr.typeAssert .nilIface 20 22 true).run Tryd.prog w = .ok (.tuple #[.int .u64 0, .bool false]) w := by kernel_rfl
theorem as_n_2 (w : World) : (Instr.typeAssert .nilIface 20 23 true).run Tryd.prog w = .ok (.tuple #[.float .f64 0, .bool false]) w := by kernel_rfl
theorem as_n_3 (w : World) : (Instr.typeAssert .nilIface 20 4 true).run Tryd.prog w = .ok (.tuple #[.bool false, .bool false]) w := by kernel_rfl
theorem as_n_4 (w : World) : (Instr.typeAssert .nilIface 20 9 true).run Tryd.prog w = .ok (.tuple #[.string ⟨#[]⟩, .bool false]) w := by kernel_rfl
theorem as_n_5 (w : World) : (Instr.typeAssert .nilIface 20 35 true).run Tryd.prog w = .ok (.tuple #[.slice none 0 0, .bool false]) w := by kernel_rfl
set_option maxRecDepth 100000 in
theorem anyOf1 (s : ByteArray) (N U : Int) (F : Nat) (b : Bool) (w : World) :
    Calls Tryd.prog 16 #[ivV 1 s N U F b, .bool false] w fun e w' => e = .returned (.iface 9 (.string s)) ∧ Ext w w' := by
  unfold ivV
  go_enter Tryd.func16, Tryd.ntmps16
  go_wp2
  go_ret
  exact ⟨rfl, (Ext.refl w).alloc _⟩
set_option maxRecDepth 100000 in
theorem anyOf2 (s : ByteArray) (N U : Int) (F : Nat) (b : Bool) (raw : Bool) (w : World) :
    Calls Tryd.prog 16 #[ivV 2 s N U F b, .bool raw] w fun e w' => e = .returned (.iface 2 (.int .i64 N)) ∧ Ext w w' := by
  unfold ivV
  go_enter Tryd.func16, Tryd.ntmps16
  go_wp2
  go_ret
  exact ⟨rfl, (Ext.refl w).alloc _⟩
set_option maxRecDepth 100000 in
theorem anyOf3 (s : ByteArray) (N U : Int) (F : Nat) (b : Bool) (raw : Bool) (w : World) :
    Calls Tryd.prog 16 #[ivV 3 s N U F b, .bool raw] w fun e w' => e = .returned (.iface 22 (.int .u64 U)) ∧ Ext w w' := by
  unfold ivV
  go_enter Tryd.func16, Tryd.ntmps16
  go_wp2
  go_ret
  exact ⟨rfl, (Ext.refl w).alloc _⟩
set_option maxRecDepth 100000 in
theorem anyOf4 (s : ByteArray) (N U : Int) (F : Nat) (b : Bool) (raw : Bool) (w : World) :
    Calls Tryd.prog 16 #[ivV 4 s N U F b, .bool raw] w fun e w' => e = .returned (.iface 23 (.float .f64 F)) ∧ Ext w w' := by
  unfold ivV
  go_enter Tryd.func16, Tryd.ntmps16
  go_wp2
  go_ret
  exact ⟨rfl, (Ext.refl w).alloc _⟩
set_option maxRecDepth 100000 in
theorem anyOf5 (s : ByteArray) (N U : Int) (F : Nat) (b : Bool) (raw : Bool) (w : World) :
    Calls Tryd.prog 16 #[ivV 5 s N U F b, .bool raw] w fun e w' => e = .returned (.iface 4 (.bool b)) ∧ Ext w w' := by
  unfold ivV
  go_enter Tryd.func16, Tryd.ntmps16
  go_wp2
  go_ret
  exact ⟨rfl, (Ext.refl w).alloc _⟩
set_option maxRecDepth 100000 in
theorem anyOf0 (k : Int) (s : ByteArray) (N U : Int) (F : Nat) (b raw : Bool) (w : World) (h1 : k ≠ 1) (h2 : k ≠ 2) (h3 : k ≠ 3) (h4 : k ≠ 4) (h5 : k ≠ 5) :
    Calls Tryd.prog 16 #[ivV k s N U F b, .bool raw] w fun e w' => e = .returned .nilIface ∧ Ext w w' := by
  have g1 : (k == 1) = false := by simp [h1]
  have g2 : (k == 2) = false := by simp [h2]
  have g3 : (k == 3) = false := by simp [h3]
  have g4 : (k == 4) = false := by simp [h4]
  have g5 : (k == 5) = false := by simp [h5]
  unfold ivV
  go_enter Tryd.func16, Tryd.ntmps16
  go_wp2
  go_ret
  exact ⟨rfl, (Ext.refl w).alloc _⟩
set_option maxRecDepth 100000 in
theorem anyOfB (s : ByteArray) (N U : Int) (F : Nat) (b : Bool) (w : World) :
    Calls Tryd.prog 16 #[ivV 1 s N U F b, .bool true] w fun e w' => (∃ v, e = .returned (.iface 35 v) ∧ RawAny s w' v) ∧ Ext w w' := by
  have CV : Hid (∀ wx, (convert 9 35 (.string s)).run Tryd.prog wx = .ok (.slice (some ⟨wx.heap.size, 0, none⟩) s.size (grownCap wx s.size 0 5)) (Lib.bytesWorld wx 5 s)) := hide fun wx => Lib.run_convert_string_bytes wx _ _ _ s Tryd.underlying9 Tryd.underlying35 Tryd.underlying5
  obtain ⟨W0, hW0⟩ : ∃ W0, w.alloc (.cells #[.int .i64 1, .string s, .int .i64 N, .int .u64 U, .float .f64 F, .bool b] 25) = W0 := ⟨_, rfl⟩
  have cv := CV.out W0
  have HX : Hid (Ext w (Lib.bytesWorld W0 5 s)) := hide (by rw [← hW0]; exact ext_bytesWorld ((Ext.refl w).alloc _) _ _)
  have HR : Hid (RawAny s (Lib.bytesWorld W0 5 s) (.slice (some ⟨W0.heap.size, 0, none⟩) s.size (grownCap W0 s.size 0 5))) := hide ⟨_, _, rfl, grownCap_ge _ _ _ _, rbytes_bytesWorld _ _ _, fun W hx j hj => by
    obtain ⟨ad, e, _, hc⟩ := RBytes.at_ (rbytes_bytesWorld W0 5 s) hj
    injection e with e
    subst e
    exact hx.cellOf hc⟩
  rw [← hW0] at cv HX HR
  clear hW0 CV
  have hsz : (w.alloc (.cells #[.int .i64 1, .string s, .int .i64 N, .int .u64 U, .float .f64 F, .bool b] 25)).heap.size = w.heap.size + 1 := by simp
  rw [hsz] at cv HR
  clear hsz
  generalize grownCap (w.alloc (.cells #[.int .i64 1, .string s, .int .i64 N, .int .u64 U, .float .f64 F, .bool b] 25)) s.size 0 5 = cap at cv HR
  generalize Lib.bytesWorld (w.alloc (.cells #[.int .i64 1, .string s, .int .i64 N, .int .u64 U, .float .f64 F, .bool b] 25)) 5 s = W1 at cv HX HR
  unfold ivV
  go_enter Tryd.func16, Tryd.ntmps16
  go_wp2
  go_ret
  exact ⟨⟨_, rfl, HR.out⟩, HX.out⟩
set_option maxRecDepth 100000 in
set_option maxHeartbeats 1000000 in
theorem newV1 (s : ByteArray) (N U : Int) (F : Nat) (b : Bool) (w : World) (hs : s.size ≤ 1000000) (hU0 : 0 ≤ U) (hU1 : U < 18446744073709551616) (hF : F < 18446744073709551616) (hT : TabsV w) (ok : Bool) (hok : ok = canB 1 s F) :
    Calls Tryd.prog 15 #[.iface 9 (.string s)] w fun e w' => (∃ x, e = .returned (.tuple #[x, .bool ok]) ∧ Made w.heap.size 1 s N U F b ok w' x) ∧ Ext w w' := by
  have VC : Hid (∀ W, Ext w W → Calls Tryd.prog 18 #[.string s] W fun e w' => (∃ x, e = .returned (.tuple #[x, .bool ok]) ∧ Made W.heap.size 1 s N U F b ok w' x) ∧ Ext W w') := hide fun W hx => ctor1 s N U F b W hs hU0 hU1 hF (hT.ext hx) ok hok
  clear hok hT hs hF hU0 hU1
  have a0 := as_4_0
  have a1 := as_4_1
  have a2 := as_4_2
  have a3 := as_4_3
  have a4 := as_4_4
  go_enter Tryd.func15, Tryd.ntmps15
  go_wp2_with fail
  refine (VC.out _ ((Ext.refl w).alloc _)).mono ?_
  rintro e w1 ⟨⟨x, rfl, hM⟩, hx⟩
  obtain ⟨num, A, n, c, j, rfl⟩ := hM.1
  have hb := (Blk.new w 38 #[.int .u64 0, .slice none 0 0, .int .u8 0]).chg (Chg.of_ext hx []) (by simp)
  have c0 := hb.cell 0
  have f0 := hb.frozen 0
  have c1 := hb.cell 1
  have f1 := hb.frozen 1
  have c2 := hb.cell 2
  have f2 := hb.frozen 2
  simp at c0 c1 c2
  have HX : Hid (Ext w w1) := hide (((Ext.refl w).alloc _).trans hx)
  have HM := hide hM
  clear hx hb VC hM
  unfold lpV
  go_wp2
  refine bodyPost_ret (v := .tuple #[lpV num A n c j, .bool ok]) (by simp [results, Tryd.results15, go_sem, lpV, c0, c1, c2, f0, f1, f2]) rfl ⟨⟨_, rfl, (((HM.out.store (by simp) _).store (by simp) _).store (by simp) _).less (by simp)⟩, ?_⟩
  exact ((HX.out.setCell (by simp) _).setCell (by simp) _).setCell (by simp) _
set_option maxRecDepth 100000 in
set_option maxHeartbeats 1000000 in
theorem newV2 (s : ByteArray) (N U : Int) (F : Nat) (b : Bool) (w : World) (hs : s.size ≤ 1000000) (hU0 : 0 ≤ U) (hU1 : U < 18446744073709551616) (hF : F < 18446744073709551616) (hT : TabsV w) (ok : Bool) (hok : ok = canB 2 s F) :
    Calls Tryd.prog 15 #[.iface 2 (.int .i64 N)] w fun e w' => (∃ x, e = .returned (.tuple #[x, .bool ok]) ∧ Made w.heap.size 2 s N U F b ok w' x) ∧ Ext w w' := by
  have VC : Hid (∀ W, Ext w W → Calls Tryd.prog 19 #[.int .i64 N] W fun e w' => (∃ x, e = .returned (x) ∧ Made W.heap.size 2 s N U F b ok w' x) ∧ Ext W w') := hide fun W hx => ctor2 s N U F b W hs hU0 hU1 hF (hT.ext hx) ok hok
  replace hok : ok = true := hok
  subst hok
  clear hT hs hF hU0 hU1
  have a0 := as_0_0
  go_enter Tryd.func15, Tryd.ntmps15
  go_wp2_with fail
  refine (VC.out _ ((Ext.refl w).alloc _)).mono ?_
  rintro e w1 ⟨⟨x, rfl, hM⟩, hx⟩
  obtain ⟨num, A, n, c, j, rfl⟩ := hM.1
  have hb := (Blk.new w 38 #[.int .u64 0, .slice none 0 0, .int .u8 0]).chg (Chg.of_ext hx []) (by simp)
  have c0 := hb.cell 0
  have f0 := hb.frozen 0
  have c1 := hb.cell 1
  have f1 := hb.frozen 1
  have c2 := hb.cell 2
  have f2 := hb.frozen 2
  simp at c0 c1 c2
  have HX : Hid (Ext w w1) := hide (((Ext.refl w).alloc _).trans hx)
  have HM := hide hM
  clear hx hb VC hM
  unfold lpV
  go_wp2
  refine bodyPost_ret (v := .tuple #[lpV num A n c j, .bool true]) (by simp [results, Tryd.results15, go_sem, lpV, c0, c1, c2, f0, f1, f2]) rfl ⟨⟨_, rfl, (((HM.out.store (by simp) _).store (by simp) _).store (by simp) _).less (by simp)⟩, ?_⟩
  exact ((HX.out.setCell (by simp) _).setCell (by simp) _).setCell (by simp) _
set_option maxRecDepth 100000 in
set_option maxHeartbeats 1000000 in
theorem newV3 (s : ByteArray) (N U : Int) (F : Nat) (b : Bool) (w : World) (hs : s.size ≤ 1000000) (hU0 : 0 ≤ U) (hU1 : U < 18446744073709551616) (hF : F < 18446744073709551616) (hT : TabsV w) (ok : Bool) (hok : ok = canB 3 s F) :
    Calls Tryd.prog 15 #[.iface 22 (.int .u64 U)] w fun e w' => (∃ x, e = .returned (.tuple #[x, .bool ok]) ∧ Made w.heap.size 3 s N U F b ok w' x) ∧ Ext w w' := by
  have VC : Hid (∀ W, Ext w W → Calls Tryd.prog 20 #[.int .u64 U] W fun e w' => (∃ x, e = .returned (x) ∧ Made W.heap.size 3 s N U F b ok w' x) ∧ Ext W w') := hide fun W hx => ctor3 s N U F b W hs hU0 hU1 hF (hT.ext hx) ok hok
  replace hok : ok = true := hok
  subst hok
  clear hT hs hF hU0 hU1
  have a0 := as_1_0
  have a1 := as_1_1
  go_enter Tryd.func15, Tryd.ntmps15
  go_wp2_with fail
  refine (VC.out _ ((Ext.refl w).alloc _)).mono ?_
  rintro e w1 ⟨⟨x, rfl, hM⟩, hx⟩
  obtain ⟨num, A, n, c, j, rfl⟩ := hM.1
  have hb := (Blk.new w 38 #[.int .u64 0, .slice none 0 0, .int .u8 0]).chg (Chg.of_ext hx []) (by simp)
  have c0 := hb.cell 0
  have f0 := hb.frozen 0
  have c1 := hb.cell 1
  have f1 := hb.frozen 1
  have c2 := hb.cell 2
  have f2 := hb.frozen 2
  simp at c0 c1 c2
  have HX : Hid (Ext w w1) := hide (((Ext.refl w).alloc _).trans hx)
  have HM := hide hM
  clear hx hb VC hM
  unfold lpV
  go_wp2
  refine bodyPost_ret (v := .tuple #[lpV num A n c j, .bool true]) (by simp [results, Tryd.results15, go_sem, lpV, c0, c1, c2, f0, f1, f2]) rfl ⟨⟨_, rfl, (((HM.out.store (by simp) _).store (by simp) _).store (by simp) _).less (by simp)⟩, ?_⟩
  exact ((HX.out.setCell (by simp) _).setCell (by simp) _).setCell (by simp) _
set_option maxRecDepth 100000 in
set_option maxHeartbeats 1000000 in
theorem newV4 (s : ByteArray) (N U : Int) (F : Nat) (b : Bool) (w : World) (hs : s.size ≤ 1000000) (hU0 : 0 ≤ U) (hU1 : U < 18446744073709551616) (hF : F < 18446744073709551616) (hT : TabsV w) (ok : Bool) (hok : ok = canB 4 s F) :
    Calls Tryd.prog 15 #[.iface 23 (.float .f64 F)] w fun e w' => (∃ x, e = .returned (.tuple #[x, .bool ok]) ∧ Made w.heap.size 4 s N U F b ok w' x) ∧ Ext w w' := by
  have VC : Hid (∀ W, Ext w W → Calls Tryd.prog 21 #[.float .f64 F] W fun e w' => (∃ x, e = .returned (.tuple #[x, .bool ok]) ∧ Made W.heap.size 4 s N U F b ok w' x) ∧ Ext W w') := hide fun W hx => ctor4 s N U F b W hs hU0 hU1 hF (hT.ext hx) ok hok
  clear hok hT hs hF hU0 hU1
  have a0 := as_2_0
  have a1 := as_2_1
  have a2 := as_2_2
  go_enter Tryd.func15, Tryd.ntmps15
  go_wp2_with fail
  refine (VC.out _ ((Ext.refl w).alloc _)).mono ?_
  rintro e w1 ⟨⟨x, rfl, hM⟩, hx⟩
  obtain ⟨num, A, n, c, j, rfl⟩ := hM.1
  have hb := (Blk.new w 38 #[.int .u64 0, .slice none 0 0, .int .u8 0]).chg (Chg.of_ext hx []) (by simp)
  have c0 := hb.cell 0
  have f0 := hb.frozen 0
  have c1 := hb.cell 1
  have f1 := hb.frozen 1
  have c2 := hb.cell 2
  have f2 := hb.frozen 2
  simp at c0 c1 c2
  have HX : Hid (Ext w w1) := hide (((Ext.refl w).alloc _).trans hx)
  have HM := hide hM
  clear hx hb VC hM
  unfold lpV
  go_wp2
  refine bodyPost_ret (v := .tuple #[lpV num A n c j, .bool ok]) (by simp [results, Tryd.results15, go_sem, lpV, c0, c1, c2, f0, f1, f2]) rfl ⟨⟨_, rfl, (((HM.out.store (by simp) _).store (by simp) _).store (by simp) _).less (by simp)⟩, ?_⟩
  exact ((HX.out.setCell (by simp) _).setCell (by simp) _).setCell (by simp) _
set_option maxRecDepth 100000 in
set_option maxHeartbeats 1000000 in
theorem newV5 (s : ByteArray) (N U : Int) (F : Nat) (b : Bool) (w : World) (hs : s.size ≤ 1000000) (hU0 : 0 ≤ U) (hU1 : U < 18446744073709551616) (hF : F < 18446744073709551616) (hT : TabsV w) (ok : Bool) (hok : ok = canB 5 s F) :
    Calls Tryd.prog 15 #[.iface 4 (.bool b)] w fun e w' => (∃ x, e = .returned (.tuple #[x, .bool ok]) ∧ Made w.heap.size 5 s N U F b ok w' x) ∧ Ext w w' := by
  have VC : Hid (∀ W, Ext w W → Calls Tryd.prog 22 #[.bool b] W fun e w' => (∃ x, e = .returned (x) ∧ Made W.heap.size 5 s N U F b ok w' x) ∧ Ext W w') := hide fun W hx => ctor5 s N U F b W hs hU0 hU1 hF (hT.ext hx) ok hok
  replace hok : ok = true := hok
  subst hok
  clear hT hs hF hU0 hU1
  have a0 := as_3_0
  have a1 := as_3_1
  have a2 := as_3_2
  have a3 := as_3_3
  go_enter Tryd.func15, Tryd.ntmps15
  go_wp2_with fail
  refine (VC.out _ ((Ext.refl w).alloc _)).mono ?_
  rintro e w1 ⟨⟨x, rfl, hM⟩, hx⟩
  obtain ⟨num, A, n, c, j, rfl⟩ := hM.1
  have hb := (Blk.new w 38 #[.int .u64 0, .slice none 0 0, .int .u8 0]).chg (Chg.of_ext hx []) (by simp)
  have c0 := hb.cell 0
  have f0 := hb.frozen 0
  have c1 := hb.cell 1
  have f1 := hb.frozen 1
  have c2 := hb.cell 2
  have f2 := hb.frozen 2
  simp at c0 c1 c2
  have HX : Hid (Ext w w1) := hide (((Ext.refl w).alloc _).trans hx)
  have HM := hide hM
  clear hx hb VC hM
  unfold lpV
  go_wp2
  refine bodyPost_ret (v := .tuple #[lpV num A n c j, .bool true]) (by simp [results, Tryd.results15, go_sem, lpV, c0, c1, c2, f0, f1, f2]) rfl ⟨⟨_, rfl, (((HM.out.store (by simp) _).store (by simp) _).store (by simp) _).less (by simp)⟩, ?_⟩
  exact ((HX.out.setCell (by simp) _).setCell (by simp) _).setCell (by simp) _
set_option maxRecDepth 100000 in
set_option maxHeartbeats 1000000 in
theorem newVB (s : ByteArray) (N U : Int) (F : Nat) (b : Bool) (w : World) (hs : s.size ≤ 1000000) (hU0 : 0 ≤ U) (hU1 : U < 18446744073709551616) (hF : F < 18446744073709551616) (hT : TabsV w) (ok : Bool) (hok : ok = canB 1 s F) (v : Value) (hV : RawAny s w v) :
    Calls Tryd.prog 15 #[.iface 35 (v)] w fun e w' => (∃ x, e = .returned (.tuple #[x, .bool ok]) ∧ Made w.heap.size 1 s N U F b ok w' x) ∧ Ext w w' := by
  have VC : Hid (∀ W, Ext w W → Calls Tryd.prog 25 #[v] W fun e w' => (∃ x, e = .returned (.tuple #[x, .bool ok]) ∧ Made W.heap.size 1 s N U F b ok w' x) ∧ Ext W w') := hide fun W hx => by obtain ⟨a, c, rfl, hc, hR, hA⟩ := hV; exact ctorB a c s N U F b W hs hU0 hU1 hF (hT.ext hx) ok hok hc (RBytes.chg hR (Chg.of_ext hx []) (by simp)) (fun W2 hx2 => hA W2 (hx.trans hx2))
  obtain ⟨A0, n0, c0, rfl⟩ : ∃ A0 n0 c0, v = .slice A0 n0 c0 := by obtain ⟨a, c, rfl, _⟩ := hV; exact ⟨_, _, _, rfl⟩
  clear hV
  clear hok hT hs hF hU0 hU1
  have a0 := as_5_0
  have a1 := as_5_1
  have a2 := as_5_2
  have a3 := as_5_3
  have a4 := as_5_4
  have a5 := as_5_5
  go_enter Tryd.func15, Tryd.ntmps15
  go_wp2_with fail
  refine (VC.out _ ((Ext.refl w).alloc _)).mono ?_
  rintro e w1 ⟨⟨x, rfl, hM⟩, hx⟩
  obtain ⟨num, A, n, c, j, rfl⟩ := hM.1
  have hb := (Blk.new w 38 #[.int .u64 0, .slice none 0 0, .int .u8 0]).chg (Chg.of_ext hx []) (by simp)
  have c0 := hb.cell 0
  have f0 := hb.frozen 0
  have c1 := hb.cell 1
  have f1 := hb.frozen 1
  have c2 := hb.cell 2
  have f2 := hb.frozen 2
  simp at c0 c1 c2
  have HX : Hid (Ext w w1) := hide (((Ext.refl w).alloc _).trans hx)
  have HM := hide hM
  clear hx hb VC hM
  unfold lpV
  go_wp2
  refine bodyPost_ret (v := .tuple #[lpV num A n c j, .bool ok]) (by simp [results, Tryd.results15, go_sem, lpV, c0, c1, c2, f0, f1, f2]) rfl ⟨⟨_, rfl, (((HM.out.store (by simp) _).store (by simp) _).store (by simp) _).less (by simp)⟩, ?_⟩
  exact ((HX.out.setCell (by simp) _).setCell (by simp) _).setCell (by simp) _
set_option maxRecDepth 100000 in
set_option maxHeartbeats 1000000 in
theorem newV0 (w : World) :
    Calls Tryd.prog 15 #[.nilIface] w fun e w' => e = .returned (.tuple #[lpV 0 none 0 0 0, .bool false]) ∧ Ext w w' := by
  have a0 := as_n_0
  have a1 := as_n_1
  have a2 := as_n_2
  have a3 := as_n_3
  have a4 := as_n_4
  have a5 := as_n_5
  go_enter Tryd.func15, Tryd.ntmps15
  go_wp2
  refine bodyPost_ret (v := .tuple #[lpV 0 none 0 0 0, .bool false]) (by simp [results, Tryd.results15, go_sem, lpV]) rfl ⟨rfl, ?_⟩
  repeat (first | exact Ext.refl _ | refine Ext.alloc ?_ _ | refine Ext.setCell ?_ (by first | (simp; done) | (simp; omega)) _)
end Go.Proofs.YtkockmpncocjhaaDoor
