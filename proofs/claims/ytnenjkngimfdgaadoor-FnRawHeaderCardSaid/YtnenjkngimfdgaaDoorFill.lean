/-
  bufio's fill over impl's reader that gives all at once, at an empty buffer.
-/
import Derived.Test.YtnenjkngimfdgaaDoorRdA
import Derived.Test.YtnenjkngimfdgaaDoorPieces
import Derived.Deep.RegionHeld3
import Derived.BigQuiet
namespace Go.Proofs.YtnenjkngimfdgaaDoor
open Go.RowKit
set_option linter.unusedVariables false
set_option linter.unusedSimpArgs false

/-- bufio's Reader over such a reader: r and w, what lies in the buffer, what is left below. -/
structure BufE (w : World) (q g k : Nat) (r n : Nat) (er lb ls : Value) (cur : Array Value) (left : List UInt8) : Prop where
  q_ : Blk w q 151 #[.slice (some ⟨k, 0, none⟩) 4096 4096, .iface 57 (.pointer (some ⟨g, 0, none⟩)), .int .i64 (r : Nat), .int .i64 (n : Nat), er, lb, ls]
  k_ : Blk w k 5 cur
  size : cur.size = 4096
  g_ : RdA w g left
  qk : q ≠ k
  qg : q ≠ g
  gk : g ≠ k
theorem BufE.chg {w w' : World} {q g k r n : Nat} {er lb ls : Value} {cur : Array Value} {left : List UInt8} {S : List Nat} (h : BufE w q g k r n er lb ls cur left) (hc : Chg S w w') (hS : ∀ i ∈ S, i ∉ [q, k, g]) : BufE w' q g k r n er lb ls cur left :=
  ⟨h.q_.chg hc (fun hi => hS _ hi (by simp)), h.k_.chg hc (fun hi => hS _ hi (by simp)), h.size, h.g_.chg hc (fun hi => hS _ hi (by simp)), h.qk, h.qg, h.gk⟩
/-- What a fill leaves. -/
def FillP (w : World) (q g k : Nat) (lb ls : Value) (cur : Array Value) (text : List UInt8) (e : Ending) (w' : World) : Prop := e = .returned (.tuple #[]) ∧ BufE w' q g k 0 text.length .nilIface lb ls (ovr cur 0 (bs text)) [] ∧ Chg [q, k, g] w w'
theorem meth_rdRead (k : Nat) (w : World) : (method 286 57 (.pointer (some ⟨k, 0, none⟩)) "Read").run Tryd.prog w = .ok (88, .pointer (some ⟨k, 0, none⟩)) w := by kernel_rfl
set_option maxRecDepth 100000 in
set_option maxHeartbeats 1000000 in
theorem fill_any (q g k : Nat) (lb ls : Value) (cur : Array Value) (c : UInt8) (text : List UInt8) (w : World) (h : BufE w q g k 0 0 .nilIface lb ls cur (c :: text)) (hl : (c :: text).length ≤ 4096) :
    Calls Tryd.prog 108 #[.pointer (some ⟨q, 0, none⟩)] w (FillP w q g k lb ls cur (c :: text)) := by
  have hnil := (src_reader 0 g ⟨0, 0, none⟩ (Nat.zero_le _)).nil
  have hmeth := meth_rdRead g
  have HF := hide (fun nq => h.chg (Chg.of_ext ((Ext.refl w).drewN nq) []) (by simp))
  have c0 := h.q_.cell 0
  have c2 := h.q_.cell 2
  have c3 := h.q_.cell 3
  simp at c0 c2 c3
  clear h
  go_enter Tryd.func108, Tryd.ntmps108
  go_wp2_with fail
  go_big_quiet (fail)
  have HF2 := hide (HF.out nq)
  have HC : Hid (Chg [q, k, g] w (w.drewN nq)) := hide ((Chg.refl _ w).drewN nq)
  clear HF c0 c2 c3
  generalize w.drewN nq = W0 at HF2 HC ⊢
  have hlen : ((c :: text).length : Int) ≤ 4096 := by omega
  have hpos : (0 : Int) < ((c :: text).length : Int) := by simp
  generalize hL : (c :: text).length = L at *
  have RC : Hid (∀ W, W = W0.drew → Calls Tryd.prog 88 #[.pointer (some ⟨g, 0, none⟩), .slice (some ⟨k, 0, none⟩) 4096 4096] W fun e w' => e = .returned (.tuple #[.int .i64 (L : Nat), .nilIface]) ∧ w'.cell? ⟨q, 3, none⟩ = some (.int .i64 0) ∧ w'.frozen? ⟨q, 3, none⟩ = false ∧ w'.cell? ⟨q, 0, none⟩ = some (.slice (some ⟨k, 0, none⟩) 4096 4096) ∧ w'.cell? ⟨q, 1, none⟩ = some (.iface 57 (.pointer (some ⟨g, 0, none⟩))) ∧ Hid (BufE w' q g k 0 0 .nilIface lb ls (ovr cur 0 (bs (c :: text))) [] ∧ Chg [q, k, g] w w')) := hide fun W hW => by
    subst hW
    have h := HF2.out.chg (Chg.of_ext ((Ext.refl W0).drew) []) (by simp)
    refine (readA_all g k 0 4096 4096 5 cur c text W0.drew h.k_ h.g_ h.gk (by rw [h.size]; omega) (by omega) (Nat.le_refl _)).mono ?_
    rintro e w' ⟨m, hm, rfl, hR, hB, hCC⟩
    rw [hL] at hm
    have hmL : m = L := by rw [hm]; omega
    subst hmL
    rw [← hL, List.drop_length] at hR
    rw [← hL, List.take_length] at hB
    have hq := h.q_.chg hCC (by simp [h.qk, h.qg])
    have b0 := hq.cell 0
    have b1 := hq.cell 1
    have b3 := hq.cell 3
    simp at b0 b1 b3
    refine ⟨rfl, b3, hq.frozen 3, b0, b1, hide ⟨⟨hq, hB, ?_, hR, h.qk, h.qg, h.gk⟩, (HC.out.drew).trans (hCC.more (by simp))⟩⟩
    rw [ovr_size (by rw [bs_length, h.size]; omega)]; exact h.size
  have e0 := HF2.out.q_.cell 0
  have e1 := HF2.out.q_.cell 1
  have e3 := HF2.out.q_.cell 3
  simp at e0 e1 e3
  clear HC
  go_wp2_with fail
  go_loopg [2] 1 (fun gk s2 wx => s2 = .int .i64 100 ∧ wx = W0)
  case atStart => exact ⟨rfl, rfl⟩
  case round =>
    obtain ⟨rfl, rfl⟩ := hrel
    clear HF2
    go_wp2_with fail
    go_region_held3 (fun w' => w'.cell? ⟨q, 0, none⟩ = some (.slice (some ⟨k, 0, none⟩) 4096 4096) ∧ w'.cell? ⟨q, 1, none⟩ = some (.iface 57 (.pointer (some ⟨g, 0, none⟩))) ∧ w'.cell? ⟨q, 3, none⟩ = some (.int .i64 0)) (first | exact ⟨e0, e1, e3⟩ | exact ⟨b0, b1, b3⟩) (first | (go_at_call 88; refine (RC.out _ rfl).mono ?_; rintro e w1 ⟨rfl, b3, g3, b0, b1, hX⟩))
    clear RC e0 e1 e3
    have END : Hid (FillP w q g k lb ls cur (c :: text) (.returned (.tuple #[])) (w1.setCell ⟨q, 3, none⟩ (.int .i64 (L : Nat)))) := hide (by
      obtain ⟨hE, hC⟩ := hX.out
      have hcW : Chg [q] w1 (w1.setCell ⟨q, 3, none⟩ (.int .i64 (L : Nat))) := (Chg.refl [q] w1).setCell (.inl (by simp)) _
      refine ⟨rfl, ⟨?_, hE.k_.chg hcW (by simp [Ne.symm hE.qk]), hE.size, hE.g_.chg hcW (by simp [Ne.symm hE.qg]), hE.qk, hE.qg, hE.gk⟩, hC.trans (hcW.more (by simp))⟩
      have h := hE.q_.set_ 3 (.int .i64 (L : Nat))
      rw [hL]
      simpa using h)
    clear hX b0 b1
    have hLz : ¬ ((L : Int) < 0) := by omega
    go_wp2
    refine bodyPost_ret (v := .tuple #[]) (results_none rfl _ _ _) rfl END.out
end Go.Proofs.YtnenjkngimfdgaaDoor
