/-
  resp3.RawMessage: unmarshal of a streamed header.
-/
import Derived.Test.YtnenjkngimfdgaaDoorNpA
import Derived.Test.YtnenjkngimfdgaaDoorGrow
namespace Go.Proofs.YtnenjkngimfdgaaDoor
open Go.RowKit
set_option linter.unusedVariables false
set_option linter.unusedSimpArgs false

theorem ext_grown {w w' : World} (h : w.grownBy w' none) : Ext w w' := ⟨h.os, h.tape, h.output, h.size, fun i hi => h.block i hi (by simp)⟩
theorem app_same (k : Nat) (w : World) : (Builtin.append_ #[71, 38] 71 #[.slice none 0 0, .slice (some ⟨k, 0, none⟩) 4 4096]).run Tryd.prog w = (Builtin.append_ #[38, 38] 38 #[.slice none 0 0, .slice (some ⟨k, 0, none⟩) 4 4096]).run Tryd.prog w := by kernel_rfl
theorem meth_rs (q : Nat) (w : World) : (method 286 119 (.pointer (some ⟨q, 0, none⟩)) "ReadSlice").run Tryd.prog w = .ok (107, .pointer (some ⟨q, 0, none⟩)) w := by kernel_rfl
/-- Whether a byte begins a streamed header. -/
def Pfx (c : UInt8) : Prop := c = 36 ∨ c = 42 ∨ c = 37 ∨ c = 126 ∨ c = 62
def hdr (c : UInt8) : List UInt8 := [c, 63, 13, 10]
theorem Pfx.idx {c : UInt8} (h : Pfx c) (tail : List UInt8) : Lib.indexByte (c :: 63 :: 13 :: 10 :: tail) 10 = 3 := by
  rcases h with rfl | rfl | rfl | rfl | rfl <;> simp [Lib.indexByte]
/-- What the header's reading leaves: the message in m. -/
def UnmP (w : World) (m q g k L : Nat) (c : UInt8) (e : Ending) (w' : World) : Prop := e = .returned .nilIface ∧ (∃ v, Blk w' m 71 #[v] ∧ OwnB w' v (hdr c) ∧ ∀ x, v.ownBlock = some x → w.heap.size ≤ x) ∧ (∃ cur, BufE w' q g k 4 L .nilIface (.int .i64 10) (.int .i64 (-1)) cur []) ∧ Chg [m, q, k, g] w w'
set_option maxRecDepth 100000 in
set_option maxHeartbeats 2000000 in
theorem unm_any (m q g k : Nat) (lb ls : Value) (cur : Array Value) (c : UInt8) (tail : List UInt8) (w : World) (hp : Pfx c) (hm : Blk w m 71 #[.slice none 0 0]) (h : BufE w q g k 0 0 .nilIface lb ls cur (c :: 63 :: 13 :: 10 :: tail)) (hl : tail.length ≤ 1000) (hmq : m ≠ q) (hmk : m ≠ k) (hmg : m ≠ g) :
    Calls Tryd.prog 51 #[.pointer (some ⟨m, 0, none⟩), .iface 119 (.pointer (some ⟨q, 0, none⟩))] w (UnmP w m q g k (tail.length + 4) c) := by
  have hnil := (src_buf 0 q g k ⟨0, 0, none⟩ (Nat.zero_le _) (Nat.zero_le _) (Nat.zero_le _)).nil
  have hmeth := meth_rs q
  have hlen : (c :: 63 :: 13 :: 10 :: tail).length = tail.length + 4 := by simp
  have RS := readSlice_any q g k 3 lb ls cur c (63 :: 13 :: 10 :: tail) w h (by rw [hlen]; omega) (hp.idx tail) (by rw [hlen]; omega) rfl
  rw [hlen] at RS
  have hcell : ∀ j (hj : j < 4), (ovr cur 0 (bs (c :: 63 :: 13 :: 10 :: tail)))[j]? = some (.int .u8 ((hdr c)[j]'hj).toNat) := fun j hj => by
    have hh : (ovr cur 0 (bs (c :: 63 :: 13 :: 10 :: tail)))[0 + j]? = (bs (c :: 63 :: 13 :: 10 :: tail))[j]? := ovr_in (by rw [bs_length, h.size, hlen]; omega) (by rw [bs_length, hlen]; omega)
    rw [Nat.zero_add] at hh
    rw [hh, bs_getElem?, List.getElem?_eq_getElem (by rw [hlen]; omega)]
    have : j = 0 ∨ j = 1 ∨ j = 2 ∨ j = 3 := by omega
    rcases this with rfl | rfl | rfl | rfl <;> rfl
  have HM := hide hm
  have RS := hide RS
  generalize ovr cur 0 (bs (c :: 63 :: 13 :: 10 :: tail)) = cur2 at RS hcell
  have HC := hide hcell
  clear hm h hcell hlen
  go_enter Tryd.func51, Tryd.ntmps51
  go_wp2_with fail
  refine RS.out.mono ?_
  rintro e w1 ⟨rfl, hE, hC⟩
  obtain ⟨v, w2, hrun, ho, hgr, hn⟩ := append_bytes w1 (.slice none 0 0) [] (hdr c) 4 ⟨k, 0, none⟩ 4096 ⟨by simp [bs], .inl ⟨rfl, rfl⟩⟩ (fun j hj => by
    rw [add0, hE.k_.cell j]; exact HC.out j hj) rfl (by simp)
  rw [← app_same] at hrun
  obtain ⟨A', c', rfl⟩ : ∃ A' c', v = .slice A' 4 c' := by
    obtain ⟨A', c', h, _⟩ := own_form ho
    exact ⟨A', c', h⟩
  have hgr : w1.grownBy w2 none := hgr
  have hx2 := ext_grown hgr
  have hbm := (HM.out.chg hC (by simp [hmq, hmk, hmg]))
  have m0 := hbm.cell 0
  have hbm2 := hbm.chg (Chg.of_ext hx2 []) (by simp)
  have m1 := hbm2.cell 0
  have fm := hbm2.frozen 0
  simp at m0 m1
  have hE2 := hE.chg (Chg.of_ext hx2 []) (by simp)
  have k0 : w2.cell? ⟨k, 0, none⟩ = some (.int .u8 c.toNat) := by rw [hE2.k_.cell 0]; exact HC.out 0 (by omega)
  have k1 : w2.cell? ⟨k, 1, none⟩ = some (.int .u8 63) := by rw [hE2.k_.cell 1]; exact HC.out 1 (by omega)
  have hlt : w.heap.size ≤ w1.heap.size := hC.size
  have END : Hid (UnmP w m q g k (tail.length + 4) c (.returned .nilIface) (w2.setCell ⟨m, 0, none⟩ (.slice A' 4 c'))) := hide (by
    have hcW : Chg [m] w2 (w2.setCell ⟨m, 0, none⟩ (.slice A' 4 c')) := (Chg.refl [m] w2).setCell (.inl (by simp)) _
    have hv : ∀ x, (Value.slice A' 4 c').ownBlock = some x → w1.heap.size ≤ x := fun x hx => by
      rcases hn with hh | ⟨y, hh, hy⟩
      · rw [hx] at hh; cases hh
      · rw [hx] at hh; injection hh with hh; omega
    refine ⟨rfl, ⟨_, ?_, ?_, fun x hx => Nat.le_trans hlt (hv x hx)⟩, ⟨cur2, hE2.chg hcW (by simp [hmq, hmk, hmg])⟩, (hC.more (by simp)).trans (((Chg.of_ext hx2 [m, q, k, g])).trans (hcW.more (by simp)))⟩
    · have h := hbm2.set_ 0 (.slice A' 4 c')
      simpa using h
    · refine OwnB.grown ho (r := some m) ⟨hcW.os, hcW.tape, hcW.output, hcW.size, fun i hi hne => hcW.block i hi (by simpa using fun e => hne (by rw [e]))⟩ (.inr fun e => ?_)
      have := hv m e
      have := hbm.lt
      omega)
  have hmk2 := hmk
  have hkm := Ne.symm hmk
  clear hE hE2 hC hx2 hbm hbm2 ho hgr hn HC RS HM hmq hmg hlt
  rcases hp with rfl | rfl | rfl | rfl | rfl
  all_goals
    go_wp2_with (at_builtin; refine wpList_append_run rfl _ _ _ _ rfl _ _ _ rfl rfl hrun ?_)
    go_ret
    exact END.out
end Go.Proofs.YtnenjkngimfdgaaDoor
