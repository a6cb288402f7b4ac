/-
  resp's pool of bytes; the end of a line.
-/
import Derived.Test.YtepeokoeempfgaaDoorGrow
namespace Go.Proofs.YtepeokoeempfgaaDoor
open Go.RowKit
set_option linter.unusedVariables false
set_option linter.unusedSimpArgs false

set_option maxRecDepth 100000 in
theorem delim_any (w : World) : Calls Tryd.prog 38 #[] w fun e w' => ∃ g c, e = .returned (.slice (some ⟨g, 0, none⟩) 2 c) ∧ RBytes w' (some ⟨g, 0, none⟩) [13, 10] ∧ Ext w w' ∧ w.heap.size ≤ g := by
  go_enter Tryd.func38, Tryd.ntmps38
  go_wp2
  go_ret
  refine ⟨w.heap.size, 2, rfl, ?_, (Ext.refl w).alloc _, Nat.le_refl _⟩
  refine rbytes_blk (o := 0) (Blk.new w 5 #[.int .u8 13, .int .u8 10]) ?_
  intro j hj
  have : j = 0 ∨ j = 1 := by simp at hj; omega
  rcases this with rfl | rfl <;> rfl

/-- The pool of bytes: so much is used; nothing in it, or one that waits (its row written, of length 0). -/
def PoolB (w : World) (p : Nat) (used : Int) (ps : Value) : Prop := Blk w p 133 #[.int .i64 used, .int .i64 10000000, ps]
set_option maxRecDepth 100000 in
theorem newPool_any (w : World) : Calls Tryd.prog 40 #[.int .i64 10000000] w fun e w' => e = .returned (.pointer (some ⟨w.heap.size, 0, none⟩)) ∧ PoolB w' w.heap.size 0 (.slice none 0 0) ∧ Ext w w' := by
  go_enter Tryd.func40, Tryd.ntmps40
  go_wp2
  go_ret
  exact ⟨rfl, Blk.new w _ _, (Ext.refl w).alloc _⟩

set_option maxRecDepth 100000 in
theorem newReaders_any (w : World) : Calls Tryd.prog 41 #[] w fun e w' => e = .returned (.pointer (some ⟨w.heap.size, 0, none⟩)) ∧ w'.heap.size = w.heap.size + 1 ∧ Ext w w' := by
  go_enter Tryd.func41, Tryd.ntmps41
  go_wp2
  go_ret
  exact ⟨rfl, by simp, (Ext.refl w).alloc _⟩
/-- The options: how bytes are got and put back. -/
def OptsB (w : World) (o p r : Nat) : Prop := Blk w o 98 #[.func (.func 42) #[.pointer (some ⟨p, 0, none⟩)] #[], .func (.func 43) #[.pointer (some ⟨p, 0, none⟩)] #[], .func (.func 44) #[.pointer (some ⟨r, 0, none⟩)] #[], .func (.func 45) #[] #[], .func (.func 47) #[] #[], .bool false, .bool false]
set_option maxRecDepth 100000 in
theorem newOpts_any (w : World) : Calls Tryd.prog 27 #[] w fun e w' => ∃ o p r, e = .returned (.pointer (some ⟨o, 0, none⟩)) ∧ OptsB w' o p r ∧ PoolB w' p 0 (.slice none 0 0) ∧ w.heap.size ≤ p ∧ p < o ∧ Ext w w' := by
  have hmf : ∀ (fn : Fn) (first cap : Array Value) (w : World), (Instr.makeFunc fn first cap).run Tryd.prog w = .ok (.func fn first cap) w := fun _ _ _ _ => rfl
  have NP := hide newPool_any
  have NR := hide newReaders_any
  go_enter Tryd.func27, Tryd.ntmps27
  go_wp2_with fail
  refine (NP.out _).mono ?_
  rintro e w1 ⟨rfl, hp, hx1⟩
  go_wp2_with fail
  refine (NR.out _).mono ?_
  rintro e w2 ⟨rfl, hs2, hx2⟩
  have hlt := Blk.lt hp
  go_wp2
  go_ret
  exact ⟨w1.heap.size + 1, w.heap.size, w1.heap.size, rfl, Blk.new_at _ _ _ hs2, (hp.chg (Chg.of_ext hx2 []) (by simp)).alloc _, Nat.le_refl _, by omega, (hx1.trans hx2).alloc _⟩

set_option maxRecDepth 100000 in
theorem run_make32 (w : World) :
    (Instr.makeSlice 50 (.int .i64 0) (.int .i64 32)).run Tryd.prog w = .ok (.slice (some ⟨w.heap.size, 0, none⟩) 0 32) (w.alloc (.cells (bs (List.replicate 32 0)).toArray 5)) := by
  obtain ⟨i0, hi, hz0, hz1, hz2⟩ := info_parts info_u8g
  have h := run_make_rowN (P := Tryd.prog) 50 5 i0 (.int .u8 0) Tryd.underlying50 hi hz0 .i64 .i64 0 32 (by omega) (by rw [hz2]; omega) (by omega) w
  have h' : (Instr.makeSlice 50 (.int .i64 0) (.int .i64 32)).run Tryd.prog w = _ := h
  rw [h']
  congr 2
  congr 1
  apply Array.ext'
  rw [hz1, Nat.mul_one]
  have : (Value.int .u8 0).cells = #[.int .u8 0] := rfl
  rw [this, toList_madeCells_one]
  simp [bs]
set_option maxRecDepth 100000 in
theorem getFresh_any (p : Nat) (used : Int) (w : World) (A : Option Addr) (c : Nat) (hp : PoolB w p used (.slice A 0 c)) : Calls Tryd.prog 42 #[.pointer (some ⟨p, 0, none⟩)] w fun e w' => ∃ b, e = .returned (.pointer (some ⟨b + 1, 0, none⟩)) ∧ b = w.heap.size ∧ Blk w' (b + 1) 50 #[.slice (some ⟨b, 0, none⟩) 0 32] ∧ w'.ownsRow b 5 1 (.slice (some ⟨b, 0, none⟩) 0 32) 0 [] ∧ Ext w w' := by
  have q2 := hp.cell 2
  simp at q2
  have hmk := run_make32 w
  have HO : Hid ((w.alloc (.cells (bs (List.replicate 32 0)).toArray 5)).ownsRow w.heap.size 5 1 (.slice (some ⟨w.heap.size, 0, none⟩) 0 32) 0 []) := hide
    ⟨rfl, .inr ⟨_, _, _, rfl, Nat.le_refl _, heap_alloc_new w _, by simp, by unfold maxLen; omega, by simp [bs], rfl⟩⟩
  have HX : Hid (Ext w (w.alloc (.cells (bs (List.replicate 32 0)).toArray 5))) := hide ((Ext.refl w).alloc _)
  have hsz : (w.alloc (.cells (bs (List.replicate 32 0)).toArray 5)).heap.size = w.heap.size + 1 := by simp
  generalize w.alloc (.cells (bs (List.replicate 32 0)).toArray 5) = W at hmk HO HX hsz
  have HSZ := hide hsz
  clear hp hsz
  go_enter Tryd.func42, Tryd.ntmps42
  go_wp2
  go_ret
  exact ⟨w.heap.size, by rw [← HSZ.out]; rfl, rfl, Blk.new_at _ _ _ HSZ.out, own_ext HO.out ((Below.refl _ _).alloc (Nat.le_refl _) _), HX.out.alloc _⟩
end Go.Proofs.YtepeokoeempfgaaDoor
