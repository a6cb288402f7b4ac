/-
  impl.newPieces: bufio's Reader over impl's reader; what is left of it.
-/
import Derived.Test.YtnenjkngimfdgaaDoorBufio
namespace Go.Proofs.YtnenjkngimfdgaaDoor
open Go.RowKit
set_option linter.unusedVariables false
set_option linter.unusedSimpArgs false

set_option maxRecDepth 100000 in
theorem reset_any (q g k : Nat) (v0 v1 v2 v3 v4 v5 v6 : Value) (w : World) (h : Blk w q 151 #[v0, v1, v2, v3, v4, v5, v6]) :
    Calls Tryd.prog 72 #[.pointer (some ⟨q, 0, none⟩), .slice (some ⟨k, 0, none⟩) 4096 4096, .iface 57 (.pointer (some ⟨g, 0, none⟩))] w fun e w' => e = .returned (.tuple #[]) ∧
      Blk w' q 151 #[.slice (some ⟨k, 0, none⟩) 4096 4096, .iface 57 (.pointer (some ⟨g, 0, none⟩)), .int .i64 0, .int .i64 0, .nilIface, .int .i64 (-1), .int .i64 (-1)] ∧ Chg [q] w w' := by
  have c0 := h.cell 0
  have c1 := h.cell 1
  have c2 := h.cell 2
  have c3 := h.cell 3
  have c4 := h.cell 4
  have c5 := h.cell 5
  have c6 := h.cell 6
  simp at c0 c1 c2 c3 c4 c5 c6
  have f0 := h.frozen 0
  have f1 := h.frozen 1
  have f2 := h.frozen 2
  have f3 := h.frozen 3
  have f4 := h.frozen 4
  have f5 := h.frozen 5
  have f6 := h.frozen 6
  have HB := hide h
  clear h
  go_enter Tryd.func72, Tryd.ntmps72
  go_wp2
  go_end0
  refine ⟨rfl, ?_, ?_⟩
  · have := ((((((HB.out.set_ 0 (.slice (some ⟨k, 0, none⟩) 4096 4096)).set_ 1 (.iface 57 (.pointer (some ⟨g, 0, none⟩)))).set_ 2 (.int .i64 0)).set_ 3 (.int .i64 0)).set_ 4 .nilIface).set_ 5 (.int .i64 (-1))).set_ 6 (.int .i64 (-1))
    simpa using this
  · exact (((((((Chg.refl [q] w).setCell (.inl (by simp)) _).setCell (.inl (by simp)) _).setCell (.inl (by simp)) _).setCell (.inl (by simp)) _).setCell (.inl (by simp)) _).setCell (.inl (by simp)) _).setCell (.inl (by simp)) _

theorem as_buf_no (x : Value) (w : World) : (Instr.typeAssert (.iface 57 x) 91 119 true).run Tryd.prog w = .ok (.tuple #[.pointer none, .bool false]) w := by kernel_rfl

/-- A new bufio's Reader, over a reader that lies in g. -/
def NewBuf (w : World) (g : Nat) (e : Ending) (w' : World) : Prop := ∃ q k, w.heap.size ≤ q ∧ w.heap.size ≤ k ∧ q ≠ k ∧ e = .returned (.pointer (some ⟨q, 0, none⟩)) ∧
  Blk w' q 151 #[.slice (some ⟨k, 0, none⟩) 4096 4096, .iface 57 (.pointer (some ⟨g, 0, none⟩)), .int .i64 0, .int .i64 0, .nilIface, .int .i64 (-1), .int .i64 (-1)] ∧
  Blk w' k 5 (bs (List.replicate 4096 0)).toArray ∧ Chg [] w w'

set_option maxRecDepth 100000 in
theorem newReaderSize_any (g : Nat) (w : World) : Calls Tryd.prog 69 #[.iface 57 (.pointer (some ⟨g, 0, none⟩)), .int .i64 4096] w (NewBuf w g) := by
  have has := as_buf_no (.pointer (some ⟨g, 0, none⟩))
  have hmk : ∀ w, (Instr.makeSlice 38 (.int .i64 4096) (.int .i64 4096)).run Tryd.prog w = .ok (.slice (some ⟨w.heap.size, 0, none⟩) 4096 4096) (w.alloc (.cells (bs (List.replicate 4096 0)).toArray 5)) := run_make_bytes 4096 4096 (Nat.le_refl _) (by omega)
  generalize hL : (bs (List.replicate 4096 0)).toArray = L at hmk
  have HL := hide hL
  clear hL
  go_enter Tryd.func69, Tryd.ntmps69
  go_wp2_with fail
  refine (reset_any w.heap.size g (w.heap.size + 1) _ _ _ _ _ _ _ _ ((Blk.new w _ _).alloc _)).mono ?_
  rintro e w1 ⟨rfl, hB, hC⟩
  have HB := hide hB
  have HC := hide hC
  clear hB hC
  go_wp2
  go_ret
  have hC0 : Chg [] w w1 := (((Chg.refl [] w).alloc _).alloc _).then HC.out (by simp)
  refine ⟨w.heap.size, w.heap.size + 1, Nat.le_refl _, by omega, by omega, rfl, HB.out, ?_, hC0⟩
  rw [HL.out]
  exact (Blk.new_at _ _ _ (by simp)).chg HC.out (by simp)

set_option maxRecDepth 100000 in
theorem newReaderB_any (g : Nat) (w : World) : Calls Tryd.prog 58 #[.iface 57 (.pointer (some ⟨g, 0, none⟩))] w (NewBuf w g) := by
  have H := hide (newReaderSize_any g w)
  go_enter Tryd.func58, Tryd.ntmps58
  go_wp2_with fail
  refine H.out.mono ?_
  rintro e w1 ⟨q, k, h1, h2, h3, rfl, h5⟩
  have X := hide h5
  clear h5 H
  go_wp2
  go_ret
  exact ⟨q, k, h1, h2, h3, rfl, X.out⟩

/-- .. told as an interface value. -/
def NewBufI (w : World) (g : Nat) (e : Ending) (w' : World) : Prop := ∃ q k, w.heap.size ≤ q ∧ w.heap.size ≤ k ∧ q ≠ k ∧ e = .returned (.iface 119 (.pointer (some ⟨q, 0, none⟩))) ∧
  Blk w' q 151 #[.slice (some ⟨k, 0, none⟩) 4096 4096, .iface 57 (.pointer (some ⟨g, 0, none⟩)), .int .i64 0, .int .i64 0, .nilIface, .int .i64 (-1), .int .i64 (-1)] ∧
  Blk w' k 5 (bs (List.replicate 4096 0)).toArray ∧ Chg [] w w'
set_option maxRecDepth 100000 in
theorem newOpts1_any (g : Nat) (w : World) : Calls Tryd.prog 57 #[.iface 57 (.pointer (some ⟨g, 0, none⟩))] w (NewBufI w g) := by
  have H := hide (newReaderB_any g w)
  go_enter Tryd.func57, Tryd.ntmps57
  go_wp2_with fail
  refine H.out.mono ?_
  rintro e w1 ⟨q, k, h1, h2, h3, rfl, h5⟩
  have X := hide h5
  clear h5 H
  go_wp2
  go_ret
  exact ⟨q, k, h1, h2, h3, rfl, X.out⟩

set_option maxRecDepth 100000 in
theorem newBytePool_any (n : Int) (w : World) : Calls Tryd.prog 52 #[.int .i64 n] w fun e w' => e = .returned (.pointer (some ⟨w.heap.size, 0, none⟩)) ∧ w.alloc (.cells #[.int .i64 0, .int .i64 n, .slice none 0 0] 137) = w' := by
  go_enter Tryd.func52, Tryd.ntmps52
  go_wp2
  go_ret
  exact ⟨rfl, rfl⟩
set_option maxRecDepth 100000 in
theorem newByteReaderPool_any (w : World) : Calls Tryd.prog 53 #[] w fun e w' => e = .returned (.pointer (some ⟨w.heap.size, 0, none⟩)) ∧ w.alloc (.cells #[.slice none 0 0] 140) = w' := by
  go_enter Tryd.func53, Tryd.ntmps53
  go_wp2
  go_ret
  exact ⟨rfl, rfl⟩
set_option maxRecDepth 100000 in
theorem newOpts_any (w : World) : Calls Tryd.prog 32 #[] w fun e w' => e = .returned (.pointer (some ⟨w.heap.size + 2, 0, none⟩)) ∧ w'.cell? ⟨w.heap.size + 2, 3, none⟩ = some (.func (.func 57) #[] #[]) ∧ Chg [] w w' := by
  have hmf : ∀ (fn : Fn) (first cap : Array Value) (w : World), (Instr.makeFunc fn first cap).run Tryd.prog w = .ok (.func fn first cap) w := fun _ _ _ _ => rfl
  go_enter Tryd.func32, Tryd.ntmps32
  go_wp2_with fail
  refine (newBytePool_any _ _).mono ?_
  rintro e w1 ⟨rfl, rfl⟩
  go_wp2_with fail
  refine (newByteReaderPool_any _).mono ?_
  rintro e w1 ⟨rfl, rfl⟩
  go_wp2
  go_ret
  exact ⟨rfl, by simp [go_sem], (((Chg.refl _ _).alloc _).alloc _).alloc _⟩

/-- The pieces that newPieces makes. -/
def NewPcs (w : World) (B : Nat) (text : List UInt8) (e : Ending) (w' : World) : Prop := ∃ q g k f, w.heap.size ≤ q ∧ w.heap.size ≤ g ∧ w.heap.size ≤ k ∧
  e = .returned (.agg #[.pointer (some ⟨g, 0, none⟩), .iface 119 (.pointer (some ⟨q, 0, none⟩))]) ∧ Buf q g k B w' text f ∧ Chg [] w w'

theorem bs_rep_size : (bs (List.replicate 4096 0)).toArray.size = 4096 := by rw [List.size_toArray, bs_length, List.length_replicate]

set_option maxRecDepth 100000 in
set_option maxHeartbeats 1000000 in
theorem newPieces_any (B : Nat) (s : ByteArray) (A : Option Addr) (cap : Nat) (l : List Int) (w : World) (hR : Reads w B 1 A l.length (is_ l)) (hB : B ≤ w.heap.size) (hll : l.length ≤ 1000) (hs : s.size ≤ 1048576) (hv : ∀ x ∈ l, -9223372036854775808 ≤ x ∧ x ≤ 9223372036854775807) :
    Calls Tryd.prog 27 #[.string s, .slice A l.length cap] w (NewPcs w B s.data.toList) := by
  have NR : Hid (∀ T v, Calls Tryd.prog 22 #[.string s, .slice A l.length cap, .bool false] (w.alloc (.cells v T)) (NewRdr (w.alloc (.cells v T)) B s.data.toList)) := hide fun T v =>
    newReader_any B s A cap l _ (hR.alloc hB _) (by simp; omega) hll hs hv
  have HV : Hid (∀ w1 v0 v1 T, Chg [] (w.alloc (.cells #[v0, v1] T)) w1 → Blk w1 w.heap.size T #[v0, v1]) := hide fun w1 v0 v1 T hc => (Blk.new w T #[v0, v1]).chg hc (by simp)
  clear hR hv
  go_enter Tryd.func27, Tryd.ntmps27
  go_wp2_with fail
  refine (NR.out _ _).mono ?_
  rintro e w1 ⟨g, f, hg, rfl, hRd, hC⟩
  simp at hg
  have HRd := hide hRd
  have HC := hide hC
  clear NR hRd hC
  go_wp2_with fail
  refine (newOpts_any _).mono ?_
  rintro e w2 ⟨rfl, c3, hC2⟩
  have HC2 := hide hC2
  clear hC2
  go_wp2_with fail
  refine (newOpts1_any g w2).mono ?_
  rintro e w3 ⟨q, k, hq, hk, hqk, rfl, hBq, hBk, hC3⟩
  have hP : Blk w3 w.heap.size 66 #[.pointer none, .nilIface] := ((HV.out w1 _ _ _ HC.out).chg HC2.out (by simp)).chg hC3 (by simp)
  have a0 := hP.cell 0
  have a1 := hP.cell 1
  have g0 := hP.frozen 0
  have g1 := hP.frozen 1
  simp at a0 a1
  have hC1 : Chg [] w w3 := (((((Chg.refl [] w).alloc _).trans HC.out).trans HC2.out).trans hC3)
  have s1 := HC.out.size
  simp at s1
  have s2 := HC2.out.size
  have hlt := HRd.out.lt
  have X : Hid (Buf q g k B w3 s.data.toList (f * 5000) ∧ Chg [] w w3 ∧ w.heap.size ≤ q ∧ w.heap.size ≤ g ∧ w.heap.size ≤ k ∧ w.heap.size ≠ q ∧ w.heap.size ≠ g ∧ w.heap.size ≠ k) := hide
    ⟨⟨[], s.data.toList, f, 0, _, _, _, ⟨hBq, hBk.row, bs_rep_size, by simp, by simp, (HRd.out.chg HC2.out (by simp) (by simp)).chg hC3 (by simp) (by simp), by omega, hqk, by omega, by omega, by omega⟩, rfl, by simp⟩, hC1, by omega, by omega, by omega, by omega, by omega, by omega⟩
  clear hP HV HC HC2 hC3 hBq hBk HRd hC1 c3
  go_wp2
  refine bodyPost_ret (v := .agg #[.pointer (some ⟨g, 0, none⟩), .iface 119 (.pointer (some ⟨q, 0, none⟩))]) (by simp [results, Tryd.results27, go_sem, a0, a1, g0, g1]) rfl ?_
  obtain ⟨x1, x2, x3, x4, x5, x6, x7, x8⟩ := X.out
  obtain ⟨bl, rest, f', r, lb, ls, cb, h, hl, hf⟩ := x1
  have hcW : Chg [w.heap.size] w3 ((w3.setCell ⟨w.heap.size, 0, none⟩ (.pointer (some ⟨g, 0, none⟩))).setCell ⟨w.heap.size, 1, none⟩ (.iface 119 (.pointer (some ⟨q, 0, none⟩)))) := (((Chg.refl _ _).setCell (.inl (by simp)) _).setCell (.inl (by simp)) _)
  exact ⟨q, g, k, _, x3, x4, x5, rfl, ⟨bl, rest, f', r, lb, ls, cb, h.chg hcW (by simp; omega), hl, hf⟩, x2.then hcW (by simp)⟩

set_option maxRecDepth 100000 in
theorem buffered_any (q r n : Nat) (w : World) (h2 : w.cell? ⟨q, 2, none⟩ = some (.int .i64 (r : Nat))) (h3 : w.cell? ⟨q, 3, none⟩ = some (.int .i64 ((r + n : Nat)))) (hr : r + n ≤ 4096) :
    Calls Tryd.prog 103 #[.pointer (some ⟨q, 0, none⟩)] w fun e w' => e = .returned (.int .i64 (n : Nat)) ∧ ∃ m, w' = w.drewN m := by
  obtain ⟨wr, hwr⟩ : ∃ wr, wr = r + n := ⟨_, rfl⟩
  rw [← hwr] at h3
  have e1 : (wr : Int) - (r : Int) = (n : Int) := by omega
  have e2 : IntKind.i64.wrap (n : Int) = (n : Int) := IntWalk.i64_in _ (by omega)
  clear hwr
  go_enter Tryd.func103, Tryd.ntmps103
  go_wp2
  go_quiet (fail)
  go_wp2
  go_ret
  exact ⟨rfl, _, rfl⟩
theorem method_buffered (q : Nat) (w : World) : (method 286 119 (.pointer (some ⟨q, 0, none⟩)) "Buffered").run Tryd.prog w = .ok (103, .pointer (some ⟨q, 0, none⟩)) w := by kernel_rfl

set_option maxRecDepth 100000 in
set_option maxHeartbeats 1000000 in
theorem left_any (B q g k : Nat) (left : List UInt8) (f : Nat) (w : World) (hB : Buf q g k B w left f) (hl : left.length ≤ 1048576) :
    Calls Tryd.prog 29 #[.agg #[.pointer (some ⟨g, 0, none⟩), .iface 119 (.pointer (some ⟨q, 0, none⟩))]] w fun e w' => e = .returned (.int .i64 (left.length : Nat)) ∧ Chg [] w w' := by
  obtain ⟨bl, rest, f', r, lb, ls, cb, h, rfl, hf⟩ := hB
  obtain ⟨s, A, cap, at_, l, hg, hs, _⟩ := h.rdr.ex
  have c2 := h.blk.cell 2
  have c3 := h.blk.cell 3
  have g0 := hg.cell 0
  simp at c2 c3 g0
  have hlt := h.blk.lt
  have hlg := h.rdr.lt
  have hm := method_buffered q
  have hsl : s.size = rest.length := by rw [← hs, size_data]
  have hfit := h.fit
  obtain ⟨a, ha⟩ : ∃ a, a = bl.length := ⟨_, rfl⟩
  obtain ⟨tot, htot⟩ : ∃ tot, tot = (bl ++ rest).length := ⟨_, rfl⟩
  have htot2 : tot = a + s.size := by rw [htot, ha, hsl, List.length_append]
  rw [← htot]
  rw [← htot] at hl
  rw [← ha] at hfit c3
  have CALL : Hid (∀ (o : Obj) nq, Calls Tryd.prog 103 #[.pointer (some ⟨q, 0, none⟩)] ((w.alloc o).drewN nq) fun e w' => e = .returned (.int .i64 (a : Nat)) ∧ ∃ m, w' = ((w.alloc o).drewN nq).drewN m) := hide fun o nq =>
    buffered_any q r a _ (by rw [World.cell?_drewN, World.cell?_alloc_lt w o _ (by simpa using hlt)]; exact c2) (by rw [World.cell?_drewN, World.cell?_alloc_lt w o _ (by simpa using hlt)]; simpa using c3) hfit
  have e1 : (a : Int) + (s.size : Int) = (tot : Int) := by omega
  have e2 : IntKind.i64.wrap (tot : Int) = (tot : Int) := IntWalk.i64_in _ (by omega)
  clear h hg hs hf htot htot2 ha hsl c2 c3
  go_enter Tryd.func29, Tryd.ntmps29
  go_wp2
  go_quiet ((go_at_call 103; exact Calls.quiet_of (CALL.out _ _)))
  go_wp2
  go_ret
  exact ⟨rfl, ((Chg.refl _ _).alloc _).drewN _⟩
end Go.Proofs.YtnenjkngimfdgaaDoor
