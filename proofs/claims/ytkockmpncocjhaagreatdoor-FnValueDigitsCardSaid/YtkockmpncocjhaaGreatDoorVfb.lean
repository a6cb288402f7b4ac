/-
  lineprotocol.newValueFromBytes for whole numbers, and the errors it may end with.
-/
import Derived.Test.YtkockmpncocjhaaGreatDoorPlain
import Derived.Test.YtkockmpncocjhaaGreatDoorShelf
import Derived.LaidEql
import Derived.BigQuiet
import Derived.Deep.RegionWith
namespace Go.Proofs.YtkockmpncocjhaaGreatDoor
open Go.RowKit Go.Lib
set_option linter.unusedVariables false
set_option linter.unusedSimpArgs false

theorem store_floatS {P : Program} (a : Addr) (F : Nat) (W : World) (hc : (W.cell? a).isSome = true) (hf : W.frozen? a = false) : (store a (.float .f64 F)).run P W = .ok () (W.setCell a (.float .f64 F)) := by
  obtain ⟨v, hv⟩ := Option.isSome_iff_exists.1 hc
  exact store_float a F W v hv hf
theorem wrapU (N : Int) : IntKind.u64.wrap N = N % 18446744073709551616 := by simp [IntKind.wrap, IntKind.signed, IntKind.bits]
theorem wrap_back (N : Int) (h0 : -9223372036854775808 ≤ N) (h1 : N ≤ 9223372036854775807) : wrap64 (N % 18446744073709551616) = N := by unfold wrap64; omega
/-- An error of errors.New, as a value. -/
def erV (a : Addr) : Value := .iface 87 (.pointer (some a))
/-- A block of cells, none of them frozen. -/
def Open (w : World) (b : Nat) : Prop := ∃ c t, w.heap[b]? = some (.cells c t (0, 0))
theorem Open.ext {w w' : World} {b : Nat} (h : Open w b) (hx : Ext w w') : Open w' b := by
  obtain ⟨c, t, h⟩ := h
  exact ⟨c, t, (hx.block b (Array.getElem?_eq_some_iff.1 h).1).trans h⟩
theorem Open.lt {w : World} {b : Nat} (h : Open w b) : b < w.heap.size := by
  obtain ⟨c, t, h⟩ := h
  exact (Array.getElem?_eq_some_iff.1 h).1
/-- The three errors as a world has them: out of range, syntax, the package's own. -/
def ErrsW (w : World) (a1 a2 a3 : Addr) : Prop :=
  w.cell? ⟨2, 0, none⟩ = some (erV a1) ∧ w.cell? ⟨9, 0, none⟩ = some (erV a2) ∧ w.cell? ⟨0, 0, none⟩ = some (erV a3) ∧ a1 ≠ a2 ∧ Open w a1.block ∧ Open w a2.block ∧ Open w a3.block
theorem ErrsW.ext {w w' : World} {a1 a2 a3 : Addr} (h : ErrsW w a1 a2 a3) (hx : Ext w w') : ErrsW w' a1 a2 a3 :=
  ⟨hx.cellOf h.1, hx.cellOf h.2.1, hx.cellOf h.2.2.1, h.2.2.2.1, h.2.2.2.2.1.ext hx, h.2.2.2.2.2.1.ext hx, h.2.2.2.2.2.2.ext hx⟩
theorem run_eql_same (a : Addr) (w : World) : (binOp .eql 37 (.iface 87 (.pointer (some a))) (.iface 87 (.pointer (some a)))).run Tryz.prog w = .ok (.bool true) w :=
  have h1 : (Tryz.prog.info? 87).isSome = true := by kernel_rfl
  have h2 : (Tryz.prog.info? 89).isSome = true := by kernel_rfl
  run_eql_iface_ptr_same (i := (Tryz.prog.info? 87).get h1) (j := (Tryz.prog.info? 89).get h2) w a Tryz.underlying37 Tryz.underlying87 (Option.some_get h1).symm (by kernel_rfl) (Option.some_get h2).symm
theorem run_eql_other {a b : Addr} {w : World} (hne : a ≠ b) (ha : Open w a.block) (hb : Open w b.block) : (binOp .eql 37 (.iface 87 (.pointer (some a))) (.iface 87 (.pointer (some b)))).run Tryz.prog w = .ok (.bool false) w := by
  obtain ⟨ca, ta, ha⟩ := ha
  obtain ⟨cb, tb, hb⟩ := hb
  have h1 : (Tryz.prog.info? 87).isSome = true := by kernel_rfl
  have h3 : (Tryz.prog.info? 89).map (fun i => decide (i.size ≠ 0)) = some true := by kernel_rfl
  obtain ⟨j, hj, hs⟩ := Option.map_eq_some_iff.1 h3
  exact run_eql_iface_ptr_other (i := (Tryz.prog.info? 87).get h1) (j := j) w Tryz.underlying37 Tryz.underlying87 (Option.some_get h1).symm (by kernel_rfl) hj (by simpa using hs) hne ha hb
theorem run_neq_nil (t : TypeId) (v : Value) (w : World) : (binOp .neq 37 (.iface t v) .nilIface).run Tryz.prog w = .ok (.bool true) w := by kernel_rfl
theorem as_num (x : Value) (w : World) : (Instr.typeAssert (.iface 80 x) 37 80 true).run Tryz.prog w = .ok (.tuple #[x, .bool true]) w := by kernel_rfl
set_option maxRecDepth 100000 in
theorem errNew_any (s : ByteArray) (w : World) :
    Calls Tryz.prog 30 #[.string s] w fun e w' => e = .returned (erV ⟨w.heap.size, 0, none⟩) ∧ w' = w.alloc (.cells #[.string s] 89) := by
  unfold erV
  go_enter Tryz.func30, Tryz.ntmps30
  go_wp2
  go_ret
  exact ⟨rfl, rfl⟩
/-- strconv's own error, as a block. -/
def NumAt (w : World) (N : Nat) (f s : ByteArray) (a : Addr) : Prop := w.heap[N]? = some (.cells #[.string f, .string s, erV a] 83 (0, 0))
set_option maxRecDepth 100000 in
theorem mor_range (N : Nat) (f s x : ByteArray) (a1 a2 a3 : Addr) (w : World) (H : ErrsW w a1 a2 a3) (hb : NumAt w N f s a1) :
    Calls Tryz.prog 25 #[.iface 80 (.pointer (some ⟨N, 0, none⟩)), .string x] w fun e w' => e = .returned (erV a3) ∧ Ext w w' := by
  have hb2 : Blk w N 83 #[.string f, .string s, erV a1] := hb
  obtain ⟨e1, e2, e3, hne, -⟩ := H
  have b2 := hb2.cell 2
  simp at b2
  have q1 := as_num
  have q2 := run_eql_same a1
  unfold erV at e1 e2 e3 b2 ⊢
  clear hb hb2 e2 hne
  go_enter Tryz.func25, Tryz.ntmps25
  go_wp2_with fail
  go_big_quiet (fail)
  go_wp2
  go_ret
  exact ⟨rfl, (Ext.refl w).drewN _⟩
set_option maxRecDepth 100000 in
theorem mor_syntax (N : Nat) (f s x : ByteArray) (a1 a2 a3 : Addr) (w : World) (H : ErrsW w a1 a2 a3) (hb : NumAt w N f s a2) :
    Calls Tryz.prog 25 #[.iface 80 (.pointer (some ⟨N, 0, none⟩)), .string x] w fun e w' => (∃ p, e = .returned (erV p) ∧ w.heap.size ≤ p.block ∧ Open w' p.block) ∧ Ext w w' := by
  have hb2 : Blk w N 83 #[.string f, .string s, erV a2] := hb
  have HO : Hid (∀ k, Open (w.drewN k) a2.block ∧ Open (w.drewN k) a1.block) := hide fun k => ⟨H.2.2.2.2.2.1.ext ((Ext.refl w).drewN k), H.2.2.2.2.1.ext ((Ext.refl w).drewN k)⟩
  obtain ⟨e1, e2, e3, hne, -⟩ := H
  have b2 := hb2.cell 2
  simp at b2
  have q1 := as_num
  have q2 : ∀ k, (binOp .eql 37 (.iface 87 (.pointer (some a2))) (.iface 87 (.pointer (some a1)))).run Tryz.prog (w.drewN k) = .ok (.bool false) (w.drewN k) := fun k => run_eql_other hne.symm (HO.out k).1 (HO.out k).2
  have EN := hide (errNew_any x)
  unfold erV at e1 e2 e3 b2 EN ⊢
  clear hb hb2 e2 e3 hne HO
  go_enter Tryz.func25, Tryz.ntmps25
  go_wp2_with fail
  go_big_quiet (fail)
  go_wp2_with fail
  refine (EN.out _).mono ?_
  rintro e w1 ⟨rfl, rfl⟩
  go_wp2
  go_ret
  exact ⟨⟨⟨w.heap.size, 0, none⟩, rfl, Nat.le_refl _, ⟨_, _, Blk.new (w.drewN _) _ _⟩⟩, ((Ext.refl w).drewN _).alloc _⟩
end Go.Proofs.YtkockmpncocjhaaGreatDoor
