/-
  bytes.Buffer: grow and Write: the frame is the buffer, its row and new blocks.
-/
import Derived.Test.YtepeokoeempfgaaDoorShelf
import Derived.Test.YtepeokoeempfgaaDoorPoolP
import Derived.Lib.BufferWrite
import Derived.Lib.ByteType
import Derived.Deep.RegionWith
namespace Go.Proofs.YtepeokoeempfgaaDoor
open Go.RowKit
set_option linter.unusedVariables false
set_option linter.unusedSimpArgs false

/-- A buffer that has only been written: its slice, its last mark. -/
def BufB (w : World) (b : Nat) (bv : Value) (lr : Int) : Prop := Blk w b 54 #[bv, .int .i64 0, .int .i8 lr]
def GrowPost (w w' : World) (b : Nat) (n : Nat) (lr : Int) (pre : List Value) : Prop := ∃ k cap2 cells, w.heap.size ≤ k ∧ BufB w' b (.slice (some ⟨k, 0, none⟩) (pre.length + n) cap2) lr ∧ Blk w' k 5 cells ∧ cells.size = cap2 ∧ cells.toList.take pre.length = pre ∧ pre.length + n ≤ cap2 ∧ cap2 ≤ maxLen ∧ Chg [b] w w'

set_option maxRecDepth 100000 in
theorem run_make64 (n : Nat) (hn : n ≤ 64) (w : World) :
    (Instr.makeSlice 50 (.int .i64 n) (.int .i64 64)).run Tryd.prog w = .ok (.slice (some ⟨w.heap.size, 0, none⟩) n 64) (w.alloc (.cells (bs (List.replicate 64 0)).toArray 5)) := by
  obtain ⟨i0, hi, hz0, hz1, hz2⟩ := info_parts info_u8g
  have h := run_make_rowN (P := Tryd.prog) 50 5 i0 (.int .u8 0) Tryd.underlying50 hi hz0 .i64 .i64 n 64 (by omega) (by rw [hz2]; omega) (by omega) w
  have h' : (Instr.makeSlice 50 (.int .i64 n) (.int .i64 64)).run Tryd.prog w = _ := h
  rw [h']
  congr 2
  congr 1
  apply Array.ext'
  rw [hz1, Nat.mul_one]
  have : (Value.int .u8 0).cells = #[.int .u8 0] := rfl
  rw [this, toList_madeCells_one]
  simp [bs]

set_option maxRecDepth 100000 in
set_option maxHeartbeats 2000000 in
theorem grow_small (b n : Nat) (lr : Int) (w : World) (hb : BufB w b (.slice none 0 0) lr) (hn : 1 ≤ n) (h64 : n ≤ 64) :
    Calls Tryd.prog 125 #[.pointer (some ⟨b, 0, none⟩), .int .i64 n] w fun e w' => e = .returned (.int .i64 0) ∧ GrowPost w w' b n lr [] := by
  have hIs : Lib.IsBuffer 54 5 0 b [] w := ⟨Nat.zero_le _, _, _, hb, World.ownsRow_nil _ _ _ _, by simp [Value.ownBlock]⟩
  have hnil : ∀ W, (binOp .eql 50 (.slice none 0 0) (.slice none 0 0)).run Tryd.prog W = .ok (.bool true) W := fun W => Lib.run_eql_slice_nil_nil W _ _ Tryd.underlying50
  have hmk := run_make64 n h64
  have LN := hide (Tryd.Buffer_Len 0 b [] w hIs)
  clear hIs
  go_enter Tryd.func125, Tryd.ntmps125
  go_wp2_with fail
  refine LN.out.mono ?_
  rintro e W0 ⟨rfl, k, rfl⟩
  have hb0 : BufB (w.drewN k) b (.slice none 0 0) lr := Blk.drewN hb k
  have c0 := Blk.cell hb0 0
  have c1 := Blk.cell hb0 1
  have f0 := Blk.frozen hb0 0
  have f1 := Blk.frozen hb0 1
  simp at c0 c1
  have TG := hide (Tryd.Buffer_tryGrow_none b none 0 0 n (w.drewN k) (by simpa using c0) (Nat.le_refl _) (Nat.zero_le _) (by omega))
  go_wp2_with fail
  refine TG.out.mono ?_
  rintro e W1 ⟨rfl, rfl⟩
  have hlt := Blk.lt hb
  have nb : ¬ b = w.heap.size := by omega
  have c0a : ∀ o, ((w.drewN k).alloc o).cell? ⟨b, 0, none⟩ = some (.slice none 0 0) := fun o => by rw [(Blk.alloc hb0 o).cell]; rfl
  have f0a : ∀ o, ((w.drewN k).alloc o).frozen? ⟨b, 0, none⟩ = false := fun o => (Blk.alloc hb0 o).frozen 0
  go_wp2
  go_ret
  refine ⟨rfl, w.heap.size, 64, (bs (List.replicate 64 0)).toArray, Nat.le_refl _, ?_, ?_, by simp [bs], by simp, by simpa using h64, by unfold maxLen; omega, ?_⟩
  · unfold BufB
    simpa using (Blk.alloc hb0 (.cells (bs (List.replicate 64 0)).toArray 5)).set_ 0 (.slice (some ⟨w.heap.size, 0, none⟩) n 64)
  · exact (Blk.new_at _ _ _ rfl).far (by simpa using fun e => nb e.symm) _
  · exact (((Chg.refl _ _).drewN k).alloc _).setCell (.inl (by simp)) _

set_option maxRecDepth 100000 in
set_option maxHeartbeats 4000000 in
theorem grow_big (b n : Nat) (lr : Int) (w : World) (hb : BufB w b (.slice none 0 0) lr) (h64 : 64 < n) (hlim : n ≤ 100000000) :
    Calls Tryd.prog 125 #[.pointer (some ⟨b, 0, none⟩), .int .i64 n] w fun e w' => e = .returned (.int .i64 0) ∧ GrowPost w w' b n lr [] := by
  have hIs : Lib.IsBuffer 54 5 0 b [] w := ⟨Nat.zero_le _, _, _, hb, World.ownsRow_nil _ _ _ _, by simp [Value.ownBlock]⟩
  have hnil : ∀ W, (binOp .eql 50 (.slice none 0 0) (.slice none 0 0)).run Tryd.prog W = .ok (.bool true) W := fun W => Lib.run_eql_slice_nil_nil W _ _ Tryd.underlying50
  have LN := hide (Tryd.Buffer_Len 0 b [] w hIs)
  clear hIs
  go_enter Tryd.func125, Tryd.ntmps125
  go_wp2_with fail
  refine LN.out.mono ?_
  rintro e W0 ⟨rfl, k, rfl⟩
  have hb0 : BufB (w.drewN k) b (.slice none 0 0) lr := Blk.drewN hb k
  have HW0 : Hid (Ext w (w.drewN k)) := hide ((Ext.refl w).drewN k)
  generalize w.drewN k = W0 at hb0 HW0 ⊢
  clear hb LN
  have c0 := Blk.cell hb0 0
  have c1 := Blk.cell hb0 1
  have f0 := Blk.frozen hb0 0
  have f1 := Blk.frozen hb0 1
  simp at c0 c1
  have TG := hide (Tryd.Buffer_tryGrow_none b none 0 0 n W0 (by simpa using c0) (Nat.le_refl _) (Nat.zero_le _) (by omega))
  go_wp2_with (go_at_call 126; refine TG.out.mono ?_; rintro e W1 ⟨rfl, rfl⟩)
  have GS := hide fun w => Tryd.bytes_growSlice_nil n w (by omega) (by omega)
  have hwn : IntKind.i64.wrap (n : Int) = n := by rw [IntKind.wrap_i64]; omega
  have HB := hide hb0
  clear TG hb0
  go_region_with (
      go_at_call 127
      refine (GS.out _).mono ?_
      rintro e w2 ⟨cap2, cells, rfl, hN, hcsz, hcap2, hcm2, hbel⟩
      have hx : Ext _ w2 := hbel
      have hb2 := (HB.out.drew).below hx.below (Blk.lt HB.out)
      have d0 := Blk.cell hb2 0
      have d1 := Blk.cell hb2 1
      have e0 := Blk.frozen hb2 0
      have e1 := Blk.frozen hb2 1
      simp at d0 d1)
  all_goals
    go_wp2
    go_ret
    refine ⟨rfl, W1.heap.size, cap2, cells, HW0.out.sizes, ?_, ?_, hcsz, by simp, by simpa using hcap2, hcm2, ?_⟩
    · unfold BufB
      simpa using ((hb2.set_ 0 (.slice (some ⟨W1.heap.size, 0, none⟩) 0 cap2)).set_ 1 (.int .i64 0)).set_ 0 (.slice (some ⟨W1.heap.size, 0, none⟩) n cap2)
    · have hlt := Blk.lt HB.out
      have nb : ¬ W1.heap.size = b := by omega
      exact (((show Blk w2 W1.heap.size _ _ from hN).far (by simpa using nb) _).far (by simpa using nb) _).far (by simpa using nb) _
    · exact ((((Chg.of_ext (HW0.out.drew.trans hx) [b])).setCell (.inl (by simp)) _).setCell (.inl (by simp)) _).setCell (.inl (by simp)) _

set_option maxRecDepth 100000 in
set_option maxHeartbeats 4000000 in
theorem grow_row (b g l cap n : Nat) (lr : Int) (cur : Array Value) (w : World) (hb : BufB w b (.slice (some ⟨g, 0, none⟩) l cap) lr) (hg : Blk w g 5 cur) (hl : 1 ≤ l) (hlc : l ≤ cap) (hcs : cur.size = cap) (h1 : ∀ v ∈ cur.toList.take l, v.oneCell' = true)
    (hn : 1 ≤ n) (hroom : cap - l < n) (hlim : l + n ≤ 100000000) :
    Calls Tryd.prog 125 #[.pointer (some ⟨b, 0, none⟩), .int .i64 n] w fun e w' => e = .returned (.int .i64 l) ∧ GrowPost w w' b n lr (cur.toList.take l) := by
  have hlen : (cur.toList.take l).length = l := by simp; omega
  have hgb : g ≠ b := Blk.ne_ hg hb (by decide)
  have hIs : Lib.IsBuffer 54 5 0 b (cur.toList.take l) w := ⟨Nat.zero_le _, _, _, hb, ⟨by simp, .inr ⟨g, cap, cur, by rw [hlen], Nat.zero_le _, hg, by omega, by unfold maxLen; omega, by omega, by rw [hlen, Nat.mul_one]⟩⟩, by simp [Value.ownBlock]; exact hgb⟩
  have hnil : ∀ W, (binOp .eql 50 (.slice (some ⟨g, 0, none⟩) l cap) (.slice none 0 0)).run Tryd.prog W = .ok (.bool false) W := fun W => Lib.run_eql_slice_some_nil W _ _ _ Tryd.underlying50
  have LN := Tryd.Buffer_Len 0 b _ w hIs
  rw [hlen] at LN
  have LN := hide LN
  clear hIs
  go_enter Tryd.func125, Tryd.ntmps125
  go_wp2_with fail
  refine LN.out.mono ?_
  rintro e W0 ⟨rfl, k, rfl⟩
  have hb0 : BufB (w.drewN k) b (.slice (some ⟨g, 0, none⟩) l cap) lr := Blk.drewN hb k
  have hg0 : Blk (w.drewN k) g 5 cur := hg.drewN k
  have HW0 : Hid (Ext w (w.drewN k)) := hide ((Ext.refl w).drewN k)
  generalize w.drewN k = W0 at hb0 hg0 HW0 ⊢
  clear hb hg LN
  have c0 := Blk.cell hb0 0
  have c1 := Blk.cell hb0 1
  have f0 := Blk.frozen hb0 0
  have f1 := Blk.frozen hb0 1
  simp at c0 c1
  have TG := hide (Tryd.Buffer_tryGrow_none b (some ⟨g, 0, none⟩) l cap n W0 (by simpa using c0) hlc (by unfold maxLen; omega) hroom)
  have i1 : (1 : Int) ≤ l := by omega
  have i2 : (l : Int) ≤ cap := by omega
  have i3 : (cap : Int) ≤ 100000000 := by omega
  have i4 : (cap : Int) - l < n := by omega
  have i5 : (n : Int) ≤ 100000000 := by omega
  go_wp2_with (go_at_call 126; refine TG.out.mono ?_; rintro e W1 ⟨rfl, rfl⟩)
  have GS := hide fun w (hg : Blk w g 5 cur) => Tryd.bytes_growSlice_row g l cap n cur w hg hcs hlc hn (by omega) (by omega) h1
  have hwn : IntKind.i64.wrap (n : Int) = n := by rw [IntKind.wrap_i64]; omega
  have HB := hide hb0
  have HG := hide hg0
  clear TG hb0 hg0 h1
  go_region_with (
      go_at_call 127
      refine (GS.out _ ?_).mono ?_
      exact HG.out
      rintro e w2 ⟨cap2, cells, rfl, hN, hcsz, htk, hcap2, hcm2, hbel⟩
      have hx : Ext _ w2 := hbel
      have hb2 := (HB.out.drew).below hx.below (Blk.lt HB.out)
      have d0 := Blk.cell hb2 0
      have d1 := Blk.cell hb2 1
      have e0 := Blk.frozen hb2 0
      have e1 := Blk.frozen hb2 1
      simp at d0 d1)
  all_goals
    go_wp2
    go_ret
    refine ⟨rfl, W1.heap.size, cap2, cells, HW0.out.sizes, ?_, ?_, hcsz, by rw [hlen]; exact htk, by rw [hlen]; exact hcap2, hcm2, ?_⟩
    · rw [hlen]
      unfold BufB
      simpa using ((hb2.set_ 0 (.slice (some ⟨W1.heap.size, 0, none⟩) l cap2)).set_ 1 (.int .i64 0)).set_ 0 (.slice (some ⟨W1.heap.size, 0, none⟩) (l + n) cap2)
    · have hlt := Blk.lt HB.out
      have nb : ¬ W1.heap.size = b := by omega
      exact (((show Blk w2 W1.heap.size _ _ from hN).far (by simpa using nb) _).far (by simpa using nb) _).far (by simpa using nb) _
    · exact ((((Chg.of_ext (HW0.out.drew.trans hx) [b])).setCell (.inl (by simp)) _).setCell (.inl (by simp)) _).setCell (.inl (by simp)) _
end Go.Proofs.YtepeokoeempfgaaDoor
