/-
  bytesutil.ReadInt, ReadUint, impl.stateOf, impl.IntOf, impl.UintOf.
-/
import Derived.Test.YtnenjkngimfdgaaDoorIntOf
import Derived.Test.YtnenjkngimfdgaaDoorSpecP
import Derived.Deep.RegionHeld3
namespace Go.Proofs.YtnenjkngimfdgaaDoor
open Go.RowKit
set_option linter.unusedVariables false
set_option linter.unusedSimpArgs false

/-- What a number of the first n bytes is told as. -/
def RdNum (S : List Nat) (w : World) (n : Nat) (left : List UInt8) (good : List UInt8 → Bool) (k : IntKind) (val : List UInt8 → Int) (e : Ending) (w' : World) : Prop :=
  Chg S w w' ∧ ((n ≤ left.length ∧ good (left.take n) = true ∧ e = .returned (.tuple #[.int k (val (left.take n)), .nilIface])) ∨
    (n ≤ left.length ∧ ¬ good (left.take n) = true ∧ ∃ x, e = .returned (.tuple #[.int k 0, .iface 94 (.agg #[.iface 146 x])])) ∨
    (left.length < n ∧ ∃ a, e = .returned (.tuple #[.int k 0, .iface 146 (.pointer (some a))])))

theorem isInt_iff (l : List UInt8) : isInt l = true ↔ (unsign l ≠ [] ∧ digs (unsign l) = true) := by simp [isInt]
theorem isNat_iff (l : List UInt8) : isNat l = true ↔ (l ≠ [] ∧ digs l = true) := by simp [isNat]

set_option maxRecDepth 100000 in
set_option maxHeartbeats 1000000 in
theorem readInt_any {RT : TypeId} {rd : Value} {B : Nat} {ad ad2 : Addr} {S : List Nat} {R : World → List UInt8 → Nat → Prop} {K : FuncId} (hS : Src RT rd B ad S R K) (n : Nat) (left : List UInt8) (f : Nat) (w : World) (sc : Nat) (T : TypeId)
    (hR : R w left f) (hn : n ≤ 5000) (hE : EofAt w B ad) (hU : UeofAt w B ad2) (hsc : Blk w sc T #[.slice none 0 0]) (hscS : sc ∉ S) :
    Calls Tryd.prog 21 #[.iface RT rd, .int .i64 n, .pointer (some ⟨sc, 0, none⟩)] w (RdNum (sc :: S) w n left isInt .i64 ival) := by
  have HX := hide (readNAppend_new hS n left f w hR hn hE hU)
  have c0 := hsc.cell 0
  simp at c0
  have HB := hide hsc
  have HBL := hsc.lt
  clear hS hR hE hU hsc
  go_enter Tryd.func21, Tryd.ntmps21
  go_wp2_with fail
  refine HX.out.mono ?_
  rintro e w1 ⟨f', A, cap, hR1, hC1, hnc, hcm, hA, hres⟩
  have HB1 := hide (HB.out.chg hC1 hscS)
  have fr := HB1.out.frozen 0
  have c1 := HB1.out.cell 0
  simp only [List.getElem?_toArray, List.getElem?_cons_zero] at c1
  have HC1 := hide hC1
  clear HX hR1 hC1 HB
  rcases hres with ⟨hle, hrb, rfl⟩ | ⟨hlt, a, rfl⟩
  · have HP : Hid (Calls Tryd.prog 47 #[.slice A n cap] (w1.setCell ⟨sc, 0, none⟩ (.slice A n cap)) fun e w' => ∃ v, e = .returned v ∧ PI (left.take n) v ∧ Ext (w1.setCell ⟨sc, 0, none⟩ (.slice A n cap)) w') := hide (by
      have hl : (left.take n).length = n := by rw [List.length_take]; omega
      have hrb2 : RBytes (w1.setCell ⟨sc, 0, none⟩ (.slice A n cap)) A (left.take n) := hrb.chg ((Chg.refl [sc] _).setCell (.inl (by simp)) _) (fun ad e hm => by have h1 := hA ad e; have h2 := HBL; simp at hm; omega)
      exact parseInt_n A n cap (left.take n) _ hl hrb2 (by omega) hnc (by unfold maxLen; omega))
    clear hrb
    go_wp2_with fail
    refine HP.out.mono ?_
    rintro e w2 ⟨v, rfl, hv, hx⟩
    have HC2 : Hid (Chg (sc :: S) w w2) := hide ((((HC1.out.more (fun i hi => .inl (List.mem_cons_of_mem _ hi))).setCell (.inl (by simp)) _)).trans (Chg.of_ext hx _))
    clear hx HP HC1 hA
    rcases hv with ⟨h1, h2, rfl⟩ | ⟨h1, x, rfl⟩
    all_goals
      go_wp2
      go_ret2
    · exact ⟨HC2.out, .inl ⟨hle, (isInt_iff _).2 ⟨h1, h2⟩, rfl⟩⟩
    · exact ⟨HC2.out, .inr (.inl ⟨hle, fun h => h1 ((isInt_iff _).1 h), x, rfl⟩)⟩
  · go_wp2
    go_ret2
    refine ⟨(HC1.out.more (fun i hi => .inl (List.mem_cons_of_mem _ hi))).setCell (.inl (by simp)) _, .inr (.inr ⟨hlt, a, rfl⟩)⟩
set_option maxRecDepth 100000 in
set_option maxHeartbeats 1000000 in
theorem readUint_any {RT : TypeId} {rd : Value} {B : Nat} {ad ad2 : Addr} {S : List Nat} {R : World → List UInt8 → Nat → Prop} {K : FuncId} (hS : Src RT rd B ad S R K) (n : Nat) (left : List UInt8) (f : Nat) (w : World) (sc : Nat) (T : TypeId)
    (hR : R w left f) (hn : n ≤ 5000) (hE : EofAt w B ad) (hU : UeofAt w B ad2) (hsc : Blk w sc T #[.slice none 0 0]) (hscS : sc ∉ S) :
    Calls Tryd.prog 25 #[.iface RT rd, .int .i64 n, .pointer (some ⟨sc, 0, none⟩)] w (RdNum (sc :: S) w n left isNat .u64 dval) := by
  have HX := hide (readNAppend_new hS n left f w hR hn hE hU)
  have c0 := hsc.cell 0
  simp at c0
  have HB := hide hsc
  have HBL := hsc.lt
  clear hS hR hE hU hsc
  go_enter Tryd.func25, Tryd.ntmps25
  go_wp2_with fail
  refine HX.out.mono ?_
  rintro e w1 ⟨f', A, cap, hR1, hC1, hnc, hcm, hA, hres⟩
  have HB1 := hide (HB.out.chg hC1 hscS)
  have fr := HB1.out.frozen 0
  have c1 := HB1.out.cell 0
  simp only [List.getElem?_toArray, List.getElem?_cons_zero] at c1
  have HC1 := hide hC1
  clear HX hR1 hC1 HB
  rcases hres with ⟨hle, hrb, rfl⟩ | ⟨hlt, a, rfl⟩
  · have HP : Hid (Calls Tryd.prog 48 #[.slice A n cap] (w1.setCell ⟨sc, 0, none⟩ (.slice A n cap)) fun e w' => ∃ v, e = .returned v ∧ PU (left.take n) v ∧ Ext (w1.setCell ⟨sc, 0, none⟩ (.slice A n cap)) w') := hide (by
      have hl : (left.take n).length = n := by rw [List.length_take]; omega
      have hrb2 : RBytes (w1.setCell ⟨sc, 0, none⟩ (.slice A n cap)) A (left.take n) := hrb.chg ((Chg.refl [sc] _).setCell (.inl (by simp)) _) (fun ad e hm => by have h1 := hA ad e; have h2 := HBL; simp at hm; omega)
      exact parseUint_n A n cap (left.take n) _ hl hrb2 (by omega))
    clear hrb
    go_wp2_with fail
    refine HP.out.mono ?_
    rintro e w2 ⟨v, rfl, hv, hx⟩
    have HC2 : Hid (Chg (sc :: S) w w2) := hide ((((HC1.out.more (fun i hi => .inl (List.mem_cons_of_mem _ hi))).setCell (.inl (by simp)) _)).trans (Chg.of_ext hx _))
    clear hx HP HC1 hA
    rcases hv with ⟨h1, h2, rfl⟩ | ⟨h1, x, rfl⟩
    all_goals
      go_wp2
      go_ret2
    · exact ⟨HC2.out, .inl ⟨hle, (isNat_iff _).2 ⟨h1, h2⟩, rfl⟩⟩
    · exact ⟨HC2.out, .inr (.inl ⟨hle, fun h => h1 ((isNat_iff _).1 h), x, rfl⟩)⟩
  · go_wp2
    go_ret2
    refine ⟨(HC1.out.more (fun i hi => .inl (List.mem_cons_of_mem _ hi))).setCell (.inl (by simp)) _, .inr (.inr ⟨hlt, a, rfl⟩)⟩

/-- How an error is told. -/
def stOf : Value → Int
  | .nilIface => 0
  | .iface T _ => if T = 94 then 1 else 2
  | _ => 0
theorem as_err_no (x : Value) (w : World) : (Instr.typeAssert (.iface 146 x) 54 94 true).run Tryd.prog w = .ok (.tuple #[.agg #[.nilIface], .bool false]) w := by kernel_rfl
theorem as_use_yes (v : Value) (w : World) : (Instr.typeAssert (.iface 94 v) 54 94 true).run Tryd.prog w = .ok (.tuple #[v, .bool true]) w := by kernel_rfl
theorem as_simple_no (x : Value) (w : World) : (Instr.typeAssert (.iface 146 x) 54 99 true).run Tryd.prog w = .ok (.tuple #[.agg #[.string .empty], .bool false]) w := by kernel_rfl
theorem as_blob_no (x : Value) (w : World) : (Instr.typeAssert (.iface 146 x) 54 101 true).run Tryd.prog w = .ok (.tuple #[.agg #[.slice none 0 0], .bool false]) w := by kernel_rfl
set_option maxRecDepth 100000 in
theorem stateOf_nil (w : World) : Calls Tryd.prog 23 #[.nilIface] w fun e w' => e = .returned (.int .i64 0) ∧ Chg [] w w' := by
  go_enter Tryd.func23, Tryd.ntmps23
  go_wp2
  go_ret
  exact ⟨rfl, Chg.refl _ _⟩
set_option maxRecDepth 100000 in
theorem stateOf_err (x : Value) (w : World) : Calls Tryd.prog 23 #[.iface 146 x] w fun e w' => e = .returned (.int .i64 2) ∧ Chg [] w w' := by
  have h1 := as_err_no
  go_enter Tryd.func23, Tryd.ntmps23
  go_wp2
  go_ret
  exact ⟨rfl, (Chg.refl _ _).alloc _⟩
set_option maxRecDepth 100000 in
theorem stateOf_usable (x : Value) (w : World) : Calls Tryd.prog 23 #[.iface 94 (.agg #[.iface 146 x])] w fun e w' => e = .returned (.int .i64 1) ∧ Chg [] w w' := by
  have h1 := as_use_yes
  have h2 := as_simple_no
  have h3 := as_blob_no
  go_enter Tryd.func23, Tryd.ntmps23
  go_wp2
  go_ret
  exact ⟨rfl, (Chg.refl _ _).alloc _⟩

theorem intOf1_idle (args : Array Value) (w : World) : CallsD Tryd.prog 20 args .returning w fun e u' w' => e = .returned (.tuple #[]) ∧ u' = .returning ∧ w' = w :=
  idle_of w nilTest_any Tryd.func20 rfl rfl (by decide) (by decide)
theorem uintOf1_idle (args : Array Value) (w : World) : CallsD Tryd.prog 24 args .returning w fun e u' w' => e = .returned (.tuple #[]) ∧ u' = .returning ∧ w' = w :=
  idle_of w nilTest_any Tryd.func24 rfl rfl (by decide) (by decide)

/-- What stands behind stateOf: the two results' variables, the old memory. -/
def KeepV (w : World) (V : Value) (k : Int) (e : Ending) (w' : World) : Prop := e = .returned (.int .i64 k) ∧ w'.cell? ⟨w.heap.size, 0, none⟩ = some V ∧ w'.frozen? ⟨w.heap.size, 0, none⟩ = false ∧
  w'.cell? ⟨w.heap.size + 1, 0, none⟩ = some (.int .i64 0) ∧ w'.frozen? ⟨w.heap.size + 1, 0, none⟩ = false ∧ Ext w w'
theorem stateOf_keep (er : Value) (k : Int) {w : World} (w2 : World) (V : Value) (h : ∀ W, Calls Tryd.prog 23 #[er] W fun e w' => e = .returned (.int .i64 k) ∧ Chg [] W w')
    (s4 : w.heap.size < w2.heap.size) (c4 : ∃ u, w2.cell? ⟨w.heap.size, 0, none⟩ = some u) (f4 : w2.frozen? ⟨w.heap.size, 0, none⟩ = false) (s5 : w.heap.size + 1 < w2.heap.size) (c5 : w2.cell? ⟨w.heap.size + 1, 0, none⟩ = some (.int .i64 0)) (f5 : w2.frozen? ⟨w.heap.size + 1, 0, none⟩ = false) (hX : Ext w w2) :
    Calls Tryd.prog 23 #[er] (w2.setCell ⟨w.heap.size, 0, none⟩ V).drew (KeepV w V k) := by
  refine (h _).mono ?_
  rintro e w' ⟨rfl, hc⟩
  obtain ⟨u, c4⟩ := c4
  have hx := hc.ext (by simp)
  have hs : (w2.setCell ⟨w.heap.size, 0, none⟩ V).drew.heap.size = w2.heap.size := by simp [World.setCell]
  refine ⟨rfl, hx.cellOf ?_, ?_, hx.cellOf ?_, ?_, ?_⟩
  · simp [go_sem, c4]
  · rw [hx.frozen (by rw [hs]; exact s4)]; simp [go_sem, f4]
  · simp [go_sem, c5]
  · rw [hx.frozen (by rw [hs]; exact s5)]; simp [go_sem, f5]
  · exact ((hX.setCell (Nat.le_refl _) _).drew).trans hx

/-- What impl.IntOf tells. -/
def iVal (n : Nat) (left : List UInt8) : Int := if n ≤ left.length ∧ isInt (left.take n) = true then ival (left.take n) else 0
def iSt (n : Nat) (left : List UInt8) : Int := if n ≤ left.length then (if isInt (left.take n) = true then 0 else 1) else 2

set_option maxRecDepth 100000 in
set_option maxHeartbeats 1000000 in
theorem implIntOf_any (s : ByteArray) (n : Nat) (w : World) (B : Nat) (ad ad2 : Addr) (hn : n ≤ 5000) (hs : s.size ≤ 1048576) (hE : EofAt w B ad) (hU : UeofAt w B ad2) :
    Calls Tryd.prog 8 #[.string s, .int .i64 n] w fun e w' => e = .returned (.tuple #[.int .i64 (iVal n s.data.toList), .int .i64 (iSt n s.data.toList)]) ∧ Ext w w' := by
  have hmf : ∀ (fn : Fn) (first cap : Array Value) (w : World), (Instr.makeFunc fn first cap).run Tryd.prog w = .ok (.func fn first cap) w := fun _ _ _ _ => rfl
  have NR : Hid (∀ w1, Chg [] w w1 → Calls Tryd.prog 22 #[.string s, .slice none 0 0, .bool false] w1 (NewRdr w1 B s.data.toList)) := hide fun w1 hc =>
    newReader_any B s none 0 [] w1 ⟨by simp [is_], fun h => absurd h (by simp)⟩ (Nat.le_trans hE.2.1 hc.size) (by simp) hs (by simp)
  have HE := hide hE
  have HU := hide hU
  clear hE hU
  go_enter_defers Tryd.func8, Tryd.ntmps8
  go_wp2_with fail
  refine (NR.out _ (((Chg.refl _ _).alloc _).alloc _)).mono ?_
  rintro e w1 ⟨g, f, hg, rfl, hR, hC⟩
  have hC0 : Chg [] w w1 := (((Chg.refl [] w).alloc _).alloc _).trans hC
  simp at hg
  have RI : Hid (Calls Tryd.prog 21 #[.iface 57 (.pointer (some ⟨g, 0, none⟩)), .int .i64 n, .pointer (some ⟨w1.heap.size, 0, none⟩)] (w1.alloc (.cells #[.slice none 0 0] 38)) (RdNum [w1.heap.size, g] (w1.alloc (.cells #[.slice none 0 0] 38)) n s.data.toList isInt .i64 ival)) := hide (by
    have hC1 : Chg [] w (w1.alloc (.cells #[.slice none 0 0] 38)) := hC0.alloc _
    exact readInt_any (src_reader B g ad hR.le) n s.data.toList f _ w1.heap.size _ (hR.chg ((Chg.refl [] _).alloc _) (by simp) (by simp)) hn (HE.out.chg hC1 (by simp)) (HU.out.chg hC1 (by simp)) (Blk.new _ _ _) (by have := hR.lt; simp; omega))
  have V4 : Hid (Var w1 w.heap.size (.int .i64 0) ∧ Var w1 (w.heap.size + 1) (.int .i64 0)) := hide
    ⟨((Var.new w (.int .i64 0) _).ext ((Ext.refl _).alloc _)).ext (hC.ext (by simp)), (Var.new_at _ (.int .i64 0) _ _ (by simp)).ext (hC.ext (by simp))⟩
  have HC0 := hide hC0
  clear hR hC hC0 NR HE HU
  go_wp2_with fail
  refine RI.out.mono ?_
  rintro e w2 ⟨hC2, hres⟩
  have hE2 : Chg [w1.heap.size, g] w1 w2 := (((Chg.refl _ w1).alloc _).trans hC2)
  have hsz1 := (V4.out.2).1
  obtain ⟨s4, c4, f4⟩ : Var w2 w.heap.size (.int .i64 0) := ⟨Nat.lt_of_lt_of_le V4.out.1.1 hE2.size, cell_chg V4.out.1.2.1 hE2 (by simp; omega), by rw [World.frozen?_of_block (hE2.block _ V4.out.1.1 (by simp; omega))]; exact V4.out.1.2.2⟩
  obtain ⟨s5, c5, f5⟩ : Var w2 (w.heap.size + 1) (.int .i64 0) := ⟨Nat.lt_of_lt_of_le V4.out.2.1 hE2.size, cell_chg V4.out.2.2.1 hE2 (by simp; omega), by rw [World.frozen?_of_block (hE2.block _ V4.out.2.1 (by simp; omega))]; exact V4.out.2.2.2⟩
  have HX : Hid (Ext w w2) := hide ((HC0.out.then hE2 (by simp; omega)).ext (by simp))
  clear hE2 hC2 V4 HC0 RI
  rcases hres with ⟨hle, hgd, rfl⟩ | ⟨hle, hgd, x, rfl⟩ | ⟨hlt, a, rfl⟩
  · have HV : Hid (iVal n s.data.toList = ival (s.data.toList.take n) ∧ iSt n s.data.toList = 0) := hide ⟨if_pos ⟨hle, hgd⟩, by rw [iSt, if_pos hle]; exact if_pos hgd⟩
    generalize ival (s.data.toList.take n) = V at HV ⊢
    clear hgd hle
    have ST : Hid (∀ W, W = (w2.setCell ⟨w.heap.size, 0, none⟩ (.int .i64 V)).drew → Calls Tryd.prog 23 #[.nilIface] W (KeepV w (.int .i64 V) 0)) := hide fun W hW => by
      subst hW
      exact stateOf_keep (.nilIface) 0 w2 (.int .i64 V) stateOf_nil s4 ⟨_, c4⟩ f4 s5 c5 f5 HX.out
    go_wp2
    refine wp_region_noPanic ?_
    go_region_with (first | (go_at_call 23; refine (ST.out _ rfl).mono ?_; rintro e w3 ⟨rfl, c4, k4, c5, k5, hX⟩; have XX := hide hX; clear hX))
    all_goals
      refine NoPanic.normal ?_
      clear ST HX
      go_wp2
      refine door_idle (intOf1_idle _ _) (by simp [go_sem]) ?_
      have HXo := XX.out
      simp [results, Tryd.results8, go_sem, c4, c5, k4, k5, HV.out.1, HV.out.2]
      repeat (first | exact Ext.refl _ | assumption | refine Ext.drew ?_ | refine Ext.drewN ?_ _ | refine Ext.alloc ?_ _ | refine ext_bytesWorld ?_ _ _ | refine Ext.setCell ?_ (by first | (simp; done) | (simp; omega)) _)
  · have HV : Hid (iVal n s.data.toList = 0 ∧ iSt n s.data.toList = 1) := hide ⟨if_neg (fun h => hgd h.2), by rw [iSt, if_pos hle]; exact if_neg hgd⟩
    have ST : Hid (∀ W, W = (w2.setCell ⟨w.heap.size, 0, none⟩ (.int .i64 0)).drew → Calls Tryd.prog 23 #[.iface 94 (.agg #[.iface 146 x])] W (KeepV w (.int .i64 0) 1)) := hide fun W hW => by
      subst hW
      exact stateOf_keep (.iface 94 (.agg #[.iface 146 x])) 1 w2 (.int .i64 0) (stateOf_usable x) s4 ⟨_, c4⟩ f4 s5 c5 f5 HX.out
    go_wp2
    refine wp_region_noPanic ?_
    go_region_with (first | (go_at_call 23; refine (ST.out _ rfl).mono ?_; rintro e w3 ⟨rfl, c4, k4, c5, k5, hX⟩; have XX := hide hX; clear hX))
    all_goals
      refine NoPanic.normal ?_
      clear ST HX
      go_wp2
      refine door_idle (intOf1_idle _ _) (by simp [go_sem]) ?_
      have HXo := XX.out
      simp [results, Tryd.results8, go_sem, c4, c5, k4, k5, HV.out.1, HV.out.2]
      repeat (first | exact Ext.refl _ | assumption | refine Ext.drew ?_ | refine Ext.drewN ?_ _ | refine Ext.alloc ?_ _ | refine ext_bytesWorld ?_ _ _ | refine Ext.setCell ?_ (by first | (simp; done) | (simp; omega)) _)
  · have HV : Hid (iVal n s.data.toList = 0 ∧ iSt n s.data.toList = 2) := hide ⟨if_neg (fun h => by omega), by rw [iSt, if_neg (by omega)]⟩
    have ST : Hid (∀ W, W = (w2.setCell ⟨w.heap.size, 0, none⟩ (.int .i64 0)).drew → Calls Tryd.prog 23 #[.iface 146 (.pointer (some a))] W (KeepV w (.int .i64 0) 2)) := hide fun W hW => by
      subst hW
      exact stateOf_keep (.iface 146 (.pointer (some a))) 2 w2 (.int .i64 0) (stateOf_err _) s4 ⟨_, c4⟩ f4 s5 c5 f5 HX.out
    go_wp2
    refine wp_region_noPanic ?_
    go_region_with (first | (go_at_call 23; refine (ST.out _ rfl).mono ?_; rintro e w3 ⟨rfl, c4, k4, c5, k5, hX⟩; have XX := hide hX; clear hX))
    all_goals
      refine NoPanic.normal ?_
      clear ST HX
      go_wp2
      refine door_idle (intOf1_idle _ _) (by simp [go_sem]) ?_
      have HXo := XX.out
      simp [results, Tryd.results8, go_sem, c4, c5, k4, k5, HV.out.1, HV.out.2]
      repeat (first | exact Ext.refl _ | assumption | refine Ext.drew ?_ | refine Ext.drewN ?_ _ | refine Ext.alloc ?_ _ | refine ext_bytesWorld ?_ _ _ | refine Ext.setCell ?_ (by first | (simp; done) | (simp; omega)) _)
/-- What impl.UintOf tells. -/
def uVal (n : Nat) (left : List UInt8) : Int := if n ≤ left.length ∧ isNat (left.take n) = true then dval (left.take n) else 0
def uSt (n : Nat) (left : List UInt8) : Int := if n ≤ left.length then (if isNat (left.take n) = true then 0 else 1) else 2

set_option maxRecDepth 100000 in
set_option maxHeartbeats 1000000 in
theorem implUintOf_any (s : ByteArray) (n : Nat) (w : World) (B : Nat) (ad ad2 : Addr) (hn : n ≤ 5000) (hs : s.size ≤ 1048576) (hE : EofAt w B ad) (hU : UeofAt w B ad2) :
    Calls Tryd.prog 9 #[.string s, .int .i64 n] w fun e w' => e = .returned (.tuple #[.int .u64 (uVal n s.data.toList), .int .i64 (uSt n s.data.toList)]) ∧ Ext w w' := by
  have hmf : ∀ (fn : Fn) (first cap : Array Value) (w : World), (Instr.makeFunc fn first cap).run Tryd.prog w = .ok (.func fn first cap) w := fun _ _ _ _ => rfl
  have NR : Hid (∀ w1, Chg [] w w1 → Calls Tryd.prog 22 #[.string s, .slice none 0 0, .bool false] w1 (NewRdr w1 B s.data.toList)) := hide fun w1 hc =>
    newReader_any B s none 0 [] w1 ⟨by simp [is_], fun h => absurd h (by simp)⟩ (Nat.le_trans hE.2.1 hc.size) (by simp) hs (by simp)
  have HE := hide hE
  have HU := hide hU
  clear hE hU
  go_enter_defers Tryd.func9, Tryd.ntmps9
  go_wp2_with fail
  refine (NR.out _ (((Chg.refl _ _).alloc _).alloc _)).mono ?_
  rintro e w1 ⟨g, f, hg, rfl, hR, hC⟩
  have hC0 : Chg [] w w1 := (((Chg.refl [] w).alloc _).alloc _).trans hC
  simp at hg
  have RI : Hid (Calls Tryd.prog 25 #[.iface 57 (.pointer (some ⟨g, 0, none⟩)), .int .i64 n, .pointer (some ⟨w1.heap.size, 0, none⟩)] (w1.alloc (.cells #[.slice none 0 0] 38)) (RdNum [w1.heap.size, g] (w1.alloc (.cells #[.slice none 0 0] 38)) n s.data.toList isNat .u64 dval)) := hide (by
    have hC1 : Chg [] w (w1.alloc (.cells #[.slice none 0 0] 38)) := hC0.alloc _
    exact readUint_any (src_reader B g ad hR.le) n s.data.toList f _ w1.heap.size _ (hR.chg ((Chg.refl [] _).alloc _) (by simp) (by simp)) hn (HE.out.chg hC1 (by simp)) (HU.out.chg hC1 (by simp)) (Blk.new _ _ _) (by have := hR.lt; simp; omega))
  have V4 : Hid (Var w1 w.heap.size (.int .u64 0) ∧ Var w1 (w.heap.size + 1) (.int .i64 0)) := hide
    ⟨((Var.new w (.int .u64 0) _).ext ((Ext.refl _).alloc _)).ext (hC.ext (by simp)), (Var.new_at _ (.int .i64 0) _ _ (by simp)).ext (hC.ext (by simp))⟩
  have HC0 := hide hC0
  clear hR hC hC0 NR HE HU
  go_wp2_with fail
  refine RI.out.mono ?_
  rintro e w2 ⟨hC2, hres⟩
  have hE2 : Chg [w1.heap.size, g] w1 w2 := (((Chg.refl _ w1).alloc _).trans hC2)
  have hsz1 := (V4.out.2).1
  obtain ⟨s4, c4, f4⟩ : Var w2 w.heap.size (.int .u64 0) := ⟨Nat.lt_of_lt_of_le V4.out.1.1 hE2.size, cell_chg V4.out.1.2.1 hE2 (by simp; omega), by rw [World.frozen?_of_block (hE2.block _ V4.out.1.1 (by simp; omega))]; exact V4.out.1.2.2⟩
  obtain ⟨s5, c5, f5⟩ : Var w2 (w.heap.size + 1) (.int .i64 0) := ⟨Nat.lt_of_lt_of_le V4.out.2.1 hE2.size, cell_chg V4.out.2.2.1 hE2 (by simp; omega), by rw [World.frozen?_of_block (hE2.block _ V4.out.2.1 (by simp; omega))]; exact V4.out.2.2.2⟩
  have HX : Hid (Ext w w2) := hide ((HC0.out.then hE2 (by simp; omega)).ext (by simp))
  clear hE2 hC2 V4 HC0 RI
  rcases hres with ⟨hle, hgd, rfl⟩ | ⟨hle, hgd, x, rfl⟩ | ⟨hlt, a, rfl⟩
  · have HV : Hid (uVal n s.data.toList = dval (s.data.toList.take n) ∧ uSt n s.data.toList = 0) := hide ⟨if_pos ⟨hle, hgd⟩, by rw [uSt, if_pos hle]; exact if_pos hgd⟩
    generalize dval (s.data.toList.take n) = V at HV ⊢
    clear hgd hle
    have ST : Hid (∀ W, W = (w2.setCell ⟨w.heap.size, 0, none⟩ (.int .u64 V)).drew → Calls Tryd.prog 23 #[.nilIface] W (KeepV w (.int .u64 V) 0)) := hide fun W hW => by
      subst hW
      exact stateOf_keep (.nilIface) 0 w2 (.int .u64 V) stateOf_nil s4 ⟨_, c4⟩ f4 s5 c5 f5 HX.out
    go_wp2
    refine wp_region_noPanic ?_
    go_region_with (first | (go_at_call 23; refine (ST.out _ rfl).mono ?_; rintro e w3 ⟨rfl, c4, k4, c5, k5, hX⟩; have XX := hide hX; clear hX))
    all_goals
      refine NoPanic.normal ?_
      clear ST HX
      go_wp2
      refine door_idle (uintOf1_idle _ _) (by simp [go_sem]) ?_
      have HXo := XX.out
      simp [results, Tryd.results9, go_sem, c4, c5, k4, k5, HV.out.1, HV.out.2]
      repeat (first | exact Ext.refl _ | assumption | refine Ext.drew ?_ | refine Ext.drewN ?_ _ | refine Ext.alloc ?_ _ | refine ext_bytesWorld ?_ _ _ | refine Ext.setCell ?_ (by first | (simp; done) | (simp; omega)) _)
  · have HV : Hid (uVal n s.data.toList = 0 ∧ uSt n s.data.toList = 1) := hide ⟨if_neg (fun h => hgd h.2), by rw [uSt, if_pos hle]; exact if_neg hgd⟩
    have ST : Hid (∀ W, W = (w2.setCell ⟨w.heap.size, 0, none⟩ (.int .u64 0)).drew → Calls Tryd.prog 23 #[.iface 94 (.agg #[.iface 146 x])] W (KeepV w (.int .u64 0) 1)) := hide fun W hW => by
      subst hW
      exact stateOf_keep (.iface 94 (.agg #[.iface 146 x])) 1 w2 (.int .u64 0) (stateOf_usable x) s4 ⟨_, c4⟩ f4 s5 c5 f5 HX.out
    go_wp2
    refine wp_region_noPanic ?_
    go_region_with (first | (go_at_call 23; refine (ST.out _ rfl).mono ?_; rintro e w3 ⟨rfl, c4, k4, c5, k5, hX⟩; have XX := hide hX; clear hX))
    all_goals
      refine NoPanic.normal ?_
      clear ST HX
      go_wp2
      refine door_idle (uintOf1_idle _ _) (by simp [go_sem]) ?_
      have HXo := XX.out
      simp [results, Tryd.results9, go_sem, c4, c5, k4, k5, HV.out.1, HV.out.2]
      repeat (first | exact Ext.refl _ | assumption | refine Ext.drew ?_ | refine Ext.drewN ?_ _ | refine Ext.alloc ?_ _ | refine ext_bytesWorld ?_ _ _ | refine Ext.setCell ?_ (by first | (simp; done) | (simp; omega)) _)
  · have HV : Hid (uVal n s.data.toList = 0 ∧ uSt n s.data.toList = 2) := hide ⟨if_neg (fun h => by omega), by rw [uSt, if_neg (by omega)]⟩
    have ST : Hid (∀ W, W = (w2.setCell ⟨w.heap.size, 0, none⟩ (.int .u64 0)).drew → Calls Tryd.prog 23 #[.iface 146 (.pointer (some a))] W (KeepV w (.int .u64 0) 2)) := hide fun W hW => by
      subst hW
      exact stateOf_keep (.iface 146 (.pointer (some a))) 2 w2 (.int .u64 0) (stateOf_err _) s4 ⟨_, c4⟩ f4 s5 c5 f5 HX.out
    go_wp2
    refine wp_region_noPanic ?_
    go_region_with (first | (go_at_call 23; refine (ST.out _ rfl).mono ?_; rintro e w3 ⟨rfl, c4, k4, c5, k5, hX⟩; have XX := hide hX; clear hX))
    all_goals
      refine NoPanic.normal ?_
      clear ST HX
      go_wp2
      refine door_idle (uintOf1_idle _ _) (by simp [go_sem]) ?_
      have HXo := XX.out
      simp [results, Tryd.results9, go_sem, c4, c5, k4, k5, HV.out.1, HV.out.2]
      repeat (first | exact Ext.refl _ | assumption | refine Ext.drew ?_ | refine Ext.drewN ?_ _ | refine Ext.alloc ?_ _ | refine ext_bytesWorld ?_ _ _ | refine Ext.setCell ?_ (by first | (simp; done) | (simp; omega)) _)
end Go.Proofs.YtnenjkngimfdgaaDoor
