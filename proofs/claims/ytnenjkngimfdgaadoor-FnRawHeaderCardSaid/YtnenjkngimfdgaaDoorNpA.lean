/-
  impl.newPieces where everything comes at once; what is left of it.
-/
import Derived.Test.YtnenjkngimfdgaaDoorRdSl
namespace Go.Proofs.YtnenjkngimfdgaaDoor
open Go.RowKit
set_option linter.unusedVariables false
set_option linter.unusedSimpArgs false

def zeros : Array Value := (bs (List.replicate 4096 0)).toArray
/-- The pieces, as a value. -/
def pcV (g q : Nat) : Value := .agg #[.pointer (some ⟨g, 0, none⟩), .iface 119 (.pointer (some ⟨q, 0, none⟩))]
def NpA (w : World) (text : List UInt8) (e : Ending) (w' : World) : Prop := ∃ q g k, w.heap.size ≤ q ∧ w.heap.size ≤ g ∧ w.heap.size ≤ k ∧ e = .returned (pcV g q) ∧ BufE w' q g k 0 0 .nilIface (.int .i64 (-1)) (.int .i64 (-1)) zeros text ∧ Chg [] w w'
set_option maxRecDepth 100000 in
set_option maxHeartbeats 1000000 in
theorem newPiecesA_any (s : ByteArray) (w : World) (hs : s.size ≤ 1000000) :
    Calls Tryd.prog 27 #[.string s, .slice none 0 0] w (NpA w s.data.toList) := by
  have NR : Hid (∀ W, Calls Tryd.prog 22 #[.string s, .slice none 0 0, .bool false] W fun e w' => e = .returned (.pointer (some ⟨W.heap.size, 0, none⟩)) ∧ RdA w' W.heap.size s.data.toList ∧ Ext W w') := hide fun W => newReaderA_any s hs W
  have HV : Hid (∀ w1 v0 v1 T, Chg [] (w.alloc (.cells #[v0, v1] T)) w1 → Blk w1 w.heap.size T #[v0, v1]) := hide fun w1 v0 v1 T hc => (Blk.new w T #[v0, v1]).chg hc (by simp)
  go_enter Tryd.func27, Tryd.ntmps27
  go_wp2_with fail
  refine (NR.out _).mono ?_
  rintro e w1 ⟨rfl, hRd, hx⟩
  have hg : (w.alloc (.cells #[.pointer none, .nilIface] 66)).heap.size = w.heap.size + 1 := by simp
  rw [hg] at hRd ⊢
  have HRd := hide hRd
  have HC : Hid (Chg [] (w.alloc (.cells #[.pointer none, .nilIface] 66)) w1) := hide (Chg.of_ext hx [])
  clear NR hRd hx hg
  go_wp2_with fail
  refine (newOpts_any _).mono ?_
  rintro e w2 ⟨rfl, c3, hC2⟩
  have HC2 := hide hC2
  clear hC2
  go_wp2_with fail
  refine (newOpts1_any (w.heap.size + 1) w2).mono ?_
  rintro e w3 ⟨q, k, hq, hk, hqk, rfl, hBq, hBk, hC3⟩
  have hP : Blk w3 w.heap.size 66 #[.pointer none, .nilIface] := ((HV.out w1 _ _ _ HC.out).chg HC2.out (by simp)).chg hC3 (by simp)
  have a0 := hP.cell 0
  have a1 := hP.cell 1
  have g0 := hP.frozen 0
  have g1 := hP.frozen 1
  simp at a0 a1
  have hC1 : Chg [] w w3 := (((((Chg.refl [] w).alloc _).trans HC.out).trans HC2.out).trans hC3)
  have s1 := HC.out.size
  simp at s1
  have s2 := HC2.out.size
  obtain ⟨rc, hrc⟩ := HRd.out.blk
  have hlt := hrc.lt
  have X : Hid (BufE w3 q (w.heap.size + 1) k 0 0 .nilIface (.int .i64 (-1)) (.int .i64 (-1)) zeros s.data.toList ∧ Chg [] w w3 ∧ w.heap.size + 1 ≤ q ∧ w.heap.size + 1 ≤ k) := hide
    ⟨⟨hBq, hBk, bs_rep_size, (HRd.out.chg HC2.out (by simp)).chg hC3 (by simp), hqk, by omega, by omega⟩, hC1, by omega, by omega⟩
  clear hP HV HC HC2 hC3 hBq hBk HRd hC1 c3 hrc
  go_wp2
  refine bodyPost_ret (v := .agg #[.pointer (some ⟨w.heap.size + 1, 0, none⟩), .iface 119 (.pointer (some ⟨q, 0, none⟩))]) (by simp [results, Tryd.results27, go_sem, a0, a1, g0, g1]) rfl ?_
  obtain ⟨x1, x2, x3, x4⟩ := X.out
  have hcW : Chg [w.heap.size] w3 ((w3.setCell ⟨w.heap.size, 0, none⟩ (.pointer (some ⟨w.heap.size + 1, 0, none⟩))).setCell ⟨w.heap.size, 1, none⟩ (.iface 119 (.pointer (some ⟨q, 0, none⟩)))) := (((Chg.refl _ _).setCell (.inl (by simp)) _).setCell (.inl (by simp)) _)
  exact ⟨q, w.heap.size + 1, k, by omega, by omega, by omega, rfl, x1.chg hcW (by simp; omega), x2.then hcW (by simp)⟩
end Go.Proofs.YtnenjkngimfdgaaDoor
