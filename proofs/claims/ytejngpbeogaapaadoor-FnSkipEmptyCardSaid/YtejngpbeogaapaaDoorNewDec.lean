/-
  A new decoder.
-/
import Derived.Test.YtejngpbeogaapaaDoorTakeA
namespace Go.Proofs.YtejngpbeogaapaaDoor
open Go.RowKit
set_option linter.unusedVariables false
set_option linter.unusedSimpArgs false

def NewD (w : World) (rd A : Value) (cp : Bool) (e : Ending) (w' : World) : Prop :=
  ∃ Z, w' = (w.alloc (.cells Z 5)).alloc (.cells #[rd, A, .int .i64 0, .int .i64 0, .bool cp, .int .u8 5, .bool false, .slice (some ⟨w.heap.size, 0, none⟩) 0 512, .int .i64 1, .nilIface] 77) ∧ e = .returned (.pointer (some ⟨w.heap.size + 1, 0, none⟩))
set_option maxRecDepth 100000 in
theorem newDecB_any (A : Option Addr) (n cap : Nat) (w : World) : Calls Tryd.prog 36 #[.slice A n cap] w (NewD w .nilIface (.slice A n cap) true) := by
  obtain ⟨Z, hmk⟩ : ∃ Z, ∀ w : World, (Instr.makeSlice 43 (.int .i64 0) (.int .i64 512)).run Tryd.prog w = .ok (.slice (some ⟨w.heap.size, 0, none⟩) 0 512) (w.alloc (.cells Z 5)) := ⟨_, run_make_bytes 0 512 (by omega) (by omega)⟩
  go_enter Tryd.func36, Tryd.ntmps36
  go_wp2
  go_ret
  exact ⟨Z, rfl, rfl⟩
set_option maxRecDepth 100000 in
theorem newDecR_any (t : TypeId) (p : Value) (w : World) : Calls Tryd.prog 37 #[.iface t p] w (NewD w (.iface t p) (.slice none 0 0) false) := by
  obtain ⟨Z, hmk⟩ : ∃ Z, ∀ w : World, (Instr.makeSlice 43 (.int .i64 0) (.int .i64 512)).run Tryd.prog w = .ok (.slice (some ⟨w.heap.size, 0, none⟩) 0 512) (w.alloc (.cells Z 5)) := ⟨_, run_make_bytes 0 512 (by omega) (by omega)⟩
  go_enter Tryd.func37, Tryd.ntmps37
  go_wp2
  go_ret
  exact ⟨Z, rfl, rfl⟩
end Go.Proofs.YtejngpbeogaapaaDoor
