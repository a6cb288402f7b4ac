/-
  bufio's ReadSlice, the first line: everything comes at once.
-/
import Derived.Test.YtnenjkngimfdgaaDoorFill
import Derived.Test.YtnenjkngimfdgaaDoorShelf
namespace Go.Proofs.YtnenjkngimfdgaaDoor
open Go.RowKit
set_option linter.unusedVariables false
set_option linter.unusedSimpArgs false

def nums (l : List UInt8) : List Int := l.map fun b => (b.toNat : Int)
theorem bytesOf_nums (l : List UInt8) : Lib.bytesOf (nums l) = l := by
  unfold nums Lib.bytesOf
  rw [List.map_map]
  conv => rhs; rw [← List.map_id l]
  apply List.map_congr_left
  intro b _
  simp
/-- bytes.IndexByte of '\n' over a row of bytes. -/
theorem index_any (k n c : Nat) (l : List UInt8) (W : World) (hl : l.length = n) (hc : ∀ i, (hi : i < n) → W.cell? ⟨k, i, none⟩ = some (.int .u8 ((l[i]'(by omega)).toNat))) :
    Calls Tryd.prog 110 #[.slice (some ⟨k, 0, none⟩) n c, .int .u8 10] W fun e w' => e = .returned (.int .i64 (Lib.indexByte l 10)) ∧ ∃ q, w' = W.drewN q := by
  have h := Tryd.bytes_IndexByte k 0 n c (nums l) 10 W (by simp [nums, hl]) (fun i hi => by
    rw [Nat.zero_add, hc i hi]
    have : i < l.length := by omega
    simp [nums, List.getD_eq_getElem?_getD, this])
  refine h.mono ?_
  rintro e w' ⟨rfl, rfl⟩
  refine ⟨?_, 0, rfl⟩
  rw [bytesOf_nums]
  rfl
/-- What ReadSlice leaves: the line, r behind it. -/
def SliceP (w : World) (q g k i L : Nat) (cur : Array Value) (e : Ending) (w' : World) : Prop := e = .returned (.tuple #[.slice (some ⟨k, 0, none⟩) (i + 1) 4096, .nilIface]) ∧ BufE w' q g k (i + 1) L .nilIface (.int .i64 10) (.int .i64 (-1)) cur [] ∧ Chg [q, k, g] w w'
set_option maxRecDepth 100000 in
theorem buffered0_any (q : Nat) (w : World) (h2 : w.cell? ⟨q, 2, none⟩ = some (.int .i64 0)) (h3 : w.cell? ⟨q, 3, none⟩ = some (.int .i64 0)) :
    Calls Tryd.prog 103 #[.pointer (some ⟨q, 0, none⟩)] w fun e w' => e = .returned (.int .i64 0) ∧ ∃ m, w' = w.drewN m := buffered_any q 0 0 w h2 h3 (by omega)
set_option maxRecDepth 100000 in
set_option maxHeartbeats 2000000 in
theorem readSlice_any (q g k i : Nat) (lb ls : Value) (cur : Array Value) (c : UInt8) (text : List UInt8) (w : World) (h : BufE w q g k 0 0 .nilIface lb ls cur (c :: text)) (hl : (c :: text).length ≤ 4096) (hi : Lib.indexByte (c :: text) 10 = (i : Int)) (hil : i < (c :: text).length) (h10 : (c :: text)[i] = 10) :
    Calls Tryd.prog 107 #[.pointer (some ⟨q, 0, none⟩), .int .u8 10] w (SliceP w q g k i (c :: text).length (ovr cur 0 (bs (c :: text)))) := by
  obtain ⟨L, hL⟩ : ∃ L, (c :: text).length = L := ⟨_, rfl⟩
  rw [hL]
  have hcell : ∀ j (hj : j < (c :: text).length), (ovr cur 0 (bs (c :: text)))[j]? = some (.int .u8 (((c :: text)[j]'hj).toNat)) := fun j hj => by
    have hh : (ovr cur 0 (bs (c :: text)))[0 + j]? = (bs (c :: text))[j]? := ovr_in (by rw [bs_length, h.size]; omega) (by rw [bs_length]; exact hj)
    rw [Nat.zero_add] at hh
    rw [hh, bs_getElem?, List.getElem?_eq_getElem hj]
    rfl
  have IB0 : Hid (∀ W, Calls Tryd.prog 110 #[.slice (some ⟨k, 0, none⟩) 0 4096, .int .u8 10] W fun e w' => e = .returned (.int .i64 (-1)) ∧ ∃ q, w' = W.drewN q) := hide fun W => index_any k 0 4096 [] W rfl (fun i hi => absurd hi (by omega))
  have HF := hide h
  have FL : Hid (∀ W, BufE W q g k 0 0 .nilIface lb ls cur (c :: text) → Calls Tryd.prog 108 #[.pointer (some ⟨q, 0, none⟩)] W (FillP W q g k lb ls cur (c :: text))) := hide fun W hW => fill_any q g k lb ls cur c text W hW hl
  have IB1 : Hid (∀ W, Blk W k 5 (ovr cur 0 (bs (c :: text))) → Calls Tryd.prog 110 #[.slice (some ⟨k, 0, none⟩) L 4096, .int .u8 10] W fun e w' => e = .returned (.int .i64 (i : Nat)) ∧ ∃ q, w' = W.drewN q) := hide fun W hW => by
    rw [← hL]
    have h := index_any k (c :: text).length 4096 (c :: text) W rfl (fun j hj => by rw [hW.cell j]; exact hcell j hj)
    rw [hi] at h
    exact h
  have K10 : Hid (∀ W, Blk W k 5 (ovr cur 0 (bs (c :: text))) → W.cell? ⟨k, i, none⟩ = some (.int .u8 10)) := hide fun W hW => by
    rw [hW.cell i, hcell i hil, h10]; rfl
  generalize hT : ovr cur 0 (bs (c :: text)) = cur2 at *
  have hil2 : i < L := by omega
  have HL := hide hL
  clear h hcell h10 hi hil
  rw [hL] at hl
  clear hL
  go_enter Tryd.func107, Tryd.ntmps107
  go_wp2_with fail
  go_loopg [4, 5, 6, 7] 2 (fun gk s4 s5 s6 s7 wx => s4 = .slice none 0 0 ∧ s5 = .nilIface ∧ s6 = .int .i64 0 ∧ (gk = 2 ∧ Hid (BufE wx q g k 0 0 .nilIface lb ls cur (c :: text) ∧ Chg [q, k, g] w wx) ∨ gk = 1 ∧ Hid (BufE wx q g k 0 L .nilIface lb ls cur2 [] ∧ Chg [q, k, g] w wx)))
  case atStart => exact ⟨rfl, rfl, rfl, .inl ⟨rfl, hide ⟨HF.out, Chg.refl _ _⟩⟩⟩
  case round =>
    obtain ⟨rfl, rfl, rfl, ⟨rfl, H⟩ | ⟨rfl, H⟩⟩ := hrel
    · clear HF IB1 K10
      have e0 := H.out.1.q_.cell 0
      have e2 := H.out.1.q_.cell 2
      have e3 := H.out.1.q_.cell 3
      have e4 := H.out.1.q_.cell 4
      simp at e0 e2 e3 e4
      go_wp2_with fail
      go_big_quiet (first | (go_at_call 110; exact Calls.quiet_of (IB0.out _)))
      have H2 := hide (And.intro (H.out.1.chg (Chg.of_ext ((Ext.refl wr).drewN nq) []) (by simp)) (H.out.2.drewN nq))
      clear H e0 e2 e3 e4 IB0
      generalize wr.drewN nq = W1 at H2 ⊢
      have e0 := H2.out.1.q_.cell 0
      have e2 := H2.out.1.q_.cell 2
      have e3 := H2.out.1.q_.cell 3
      have e4 := H2.out.1.q_.cell 4
      simp at e0 e2 e3 e4
      have BU : Hid (∀ n, Calls Tryd.prog 103 #[.pointer (some ⟨q, 0, none⟩)] (W1.drewN n) fun e w' => e = .returned (.int .i64 0) ∧ ∃ m, w' = (W1.drewN n).drewN m) := hide fun n => buffered0_any q _ (by simpa using e2) (by simpa using e3)
      go_wp2_with fail
      go_big_quiet (first | (go_at_call 103; exact Calls.quiet_of (BU.out _)))
      have H3 := hide (And.intro (H2.out.1.chg (Chg.of_ext ((Ext.refl W1).drewN nq) []) (by simp)) (H2.out.2.drewN nq))
      clear H2 e0 e2 e3 e4 BU
      generalize W1.drewN nq = W2 at H3 ⊢
      have e2 := H3.out.1.q_.cell 2
      have e3 := H3.out.1.q_.cell 3
      simp at e2 e3
      go_wp2_with fail
      go_big_quiet (fail)
      have H4 := hide (And.intro (H3.out.1.chg (Chg.of_ext ((Ext.refl W2).drewN nq) []) (by simp)) (H3.out.2.drewN nq))
      clear H3 e2 e3
      generalize W2.drewN nq = W3 at H4 ⊢
      go_wp2_with fail
      refine (FL.out _ H4.out.1).mono ?_
      rintro e w1 ⟨rfl, hE, hC⟩
      rw [HL.out] at hE
      have HN := hide (And.intro hE (H4.out.2.trans hC))
      clear FL H4 hE hC
      go_wp2
      go_roundg 1
      case measure => omega
      case rel => exact ⟨rfl, rfl, rfl, .inr ⟨rfl, by rw [← hT]; exact HN⟩⟩
    · clear HF FL IB0
      have e0 := H.out.1.q_.cell 0
      have e2 := H.out.1.q_.cell 2
      have e3 := H.out.1.q_.cell 3
      simp at e0 e2 e3
      have IB2 : Hid (∀ n, Calls Tryd.prog 110 #[.slice (some ⟨k, 0, none⟩) L 4096, .int .u8 10] (wr.drewN n) fun e w' => e = .returned (.int .i64 (i : Nat)) ∧ ∃ q, w' = (wr.drewN n).drewN q) := hide fun n => IB1.out _ (H.out.1.chg (Chg.of_ext ((Ext.refl wr).drewN n) []) (by simp)).k_
      have hLz : (L : Int) ≤ 4096 := by omega
      have hiz : (i : Int) < (L : Int) := by omega
      clear IB1
      go_wp2_with fail
      go_big_quiet (first | (go_at_call 110; exact Calls.quiet_of (IB2.out _)))
      have H2 := hide (And.intro (H.out.1.chg (Chg.of_ext ((Ext.refl wr).drewN nq) []) (by simp)) (H.out.2.drewN nq))
      clear H e0 e2 e3 IB2
      generalize wr.drewN nq = W1 at H2 ⊢
      have e0 := H2.out.1.q_.cell 0
      have e2 := H2.out.1.q_.cell 2
      simp at e0 e2
      go_wp2_with fail
      go_big_quiet (fail)
      have H3 := hide (And.intro (H2.out.1.chg (Chg.of_ext ((Ext.refl W1).drewN nq) []) (by simp)) (H2.out.2.drewN nq))
      clear H2 e0 e2
      generalize W1.drewN nq = W2 at H3 ⊢
      have e2 := H3.out.1.q_.cell 2
      have e5 := H3.out.1.q_.cell 5
      have e6 := H3.out.1.q_.cell 6
      have f2 := H3.out.1.q_.frozen 2
      have f5 := H3.out.1.q_.frozen 5
      have f6 := H3.out.1.q_.frozen 6
      simp at e2 e5 e6
      have ki := K10.out _ H3.out.1.k_
      have qk := H3.out.1.qk
      have kq := Ne.symm qk
      have END : Hid (SliceP w q g k i L cur2 (.returned (.tuple #[.slice (some ⟨k, 0, none⟩) (i + 1) 4096, .nilIface])) (((W2.setCell ⟨q, 2, none⟩ (.int .i64 ((i + 1 : Nat) : Int))).setCell ⟨q, 5, none⟩ (.int .i64 10)).setCell ⟨q, 6, none⟩ (.int .i64 (-1)))) := hide (by
        obtain ⟨hE, hC⟩ := H3.out
        have hcW : Chg [q] W2 (((W2.setCell ⟨q, 2, none⟩ (.int .i64 ((i + 1 : Nat) : Int))).setCell ⟨q, 5, none⟩ (.int .i64 10)).setCell ⟨q, 6, none⟩ (.int .i64 (-1))) := (((Chg.refl [q] W2).setCell (.inl (by simp)) _).setCell (.inl (by simp)) _).setCell (.inl (by simp)) _
        refine ⟨rfl, ⟨?_, hE.k_.chg hcW (by simp [Ne.symm hE.qk]), hE.size, hE.g_.chg hcW (by simp [Ne.symm hE.qg]), hE.qk, hE.qg, hE.gk⟩, hC.trans (hcW.more (by simp))⟩
        have h := ((hE.q_.set_ 2 (.int .i64 ((i + 1 : Nat) : Int))).set_ 5 (.int .i64 10)).set_ 6 (.int .i64 (-1))
        simpa using h)
      rw [Int.natCast_add, Int.natCast_one] at END
      have hi0 : (0 : Int) ≤ (i : Int) := by omega
      clear H3 K10
      go_wp2
      refine bodyPost_ret (v := .tuple #[.slice (some ⟨k, 0, none⟩) (i + 1) 4096, .nilIface]) (by simp [results, Tryd.results107, go_sem]) rfl ?_
      exact END.out
end Go.Proofs.YtnenjkngimfdgaaDoor
