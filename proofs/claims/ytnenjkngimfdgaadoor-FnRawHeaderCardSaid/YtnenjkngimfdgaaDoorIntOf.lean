/-
  bytesutil.ReadNAppend onto nothing, ReadInt, ReadUint, impl.stateOf, impl.IntOf, impl.UintOf: what they tell of the first n bytes of a text.
-/
import Derived.Test.YtnenjkngimfdgaaDoorFull
import Derived.Test.YtnenjkngimfdgaaDoorParse
import Derived.Lib.AppendStr
namespace Go.Proofs.YtnenjkngimfdgaaDoor
open Go.RowKit
set_option linter.unusedVariables false
set_option linter.unusedSimpArgs false

theorem info_u8 : (Tryd.prog.info? 5).map (fun i => (i.zero, i.size, i.bytes)) = some (some (.int .u8 0), 1, 1) := by kernel_rfl
set_option maxRecDepth 100000 in
/-- 'make([]byte, n, c)'. -/
theorem run_make_bytes (n c : Nat) (hnc : n ≤ c) (hc : c ≤ 100000) (w : World) :
    (Instr.makeSlice 38 (.int .i64 n) (.int .i64 c)).run Tryd.prog w = .ok (.slice (some ⟨w.heap.size, 0, none⟩) n c) (w.alloc (.cells (bs (List.replicate c 0)).toArray 5)) := by
  obtain ⟨i0, hi, hz0, hz1, hz2⟩ := info_parts info_u8
  have h := run_make_rowN (P := Tryd.prog) 38 5 i0 (.int .u8 0) Tryd.underlying38 hi hz0 .i64 .i64 n c hnc (by rw [hz2]; omega) (by omega) w
  rw [h]
  congr 2
  congr 1
  apply Array.ext'
  rw [hz1, Nat.mul_one]
  have : (Value.int .u8 0).cells = #[.int .u8 0] := rfl
  rw [this, toList_madeCells_one]
  simp [bs]

/-- impl's reader is such a reader. -/
theorem src_reader (B g : Nat) (ad : Addr) (hB : B ≤ g) : Src 57 (.pointer (some ⟨g, 0, none⟩)) B ad [g] (fun w l f => Rdr w B g l f) 88 where
  nil := fun w => by kernel_rfl
  meth := fun w => by kernel_rfl
  enter := fun args w => by simp [go_sem]
  step := fun w c left f b o n cap cur t hR hb hg hbB hfit hn hnc hcm => (read_more B g f b o n cap t cur c left w hR hb (by simpa using Ne.symm (by simpa using hg)) hbB hfit hn hnc).mono fun e w' h => by
    obtain ⟨m, f', h1, h2, h3, h4, h5, h6, h7⟩ := h
    exact ⟨m, f', h1, h2, h3, h4, h5, h6, h7.more (by simp)⟩
  stop := fun w f A n cap hR hE hn => (read_end .nilIface B g f ad w hR hE A n cap).mono fun e w' h =>
    ⟨f, h.1, hR.chg h.2 (by simp) (by simp), h.2.more (by simp)⟩
  frame := fun w w' l f S' hR hC hS => hR.chg hC (fun hm => by have := (hS _ hm).1; simp at this) (fun i hi => (hS i hi).2)
  base := by simpa using hB
  lt := fun w l f hR => by simpa using hR.lt

set_option maxRecDepth 100000 in
theorem readFull_any {RT : TypeId} {rd : Value} {B : Nat} {ad ad2 : Addr} {S : List Nat} {R : World → List UInt8 → Nat → Prop} {K : FuncId} (hS : Src RT rd B ad S R K) (b o n cap : Nat) (t : TypeId) (cur : Array Value) (left : List UInt8) (f : Nat) (w : World)
    (hR : R w left f) (hb : Row w b t cur) (hbS : b ∉ S) (hbB : B ≤ b) (hfit : o + n ≤ cur.size) (hn : n ≤ cap) (hcm : n ≤ 1099511627776) (hE : EofAt w B ad) (hU : UeofAt w B ad2) :
    Calls Tryd.prog 50 #[.iface RT rd, .slice (some ⟨b, o, none⟩) n cap] w (FullS R S w b o n t cur left) := by
  have H := hide (readAtLeast_any hS b o n cap t cur left f w hR hb hbS hbB hfit hn hcm hE hU)
  clear hS hR hb hE hU
  go_enter Tryd.func50, Tryd.ntmps50
  go_wp2_with fail
  refine H.out.mono ?_
  rintro e w1 ⟨f', h1, h2, h3, h4⟩
  have X := hide (And.intro h1 (And.intro h2 h3))
  clear h1 h2 h3 H
  rcases h4 with ⟨h4, rfl⟩ | ⟨h4, k, a, rfl⟩
  all_goals
    go_wp2
    go_ret2
  · exact ⟨f', X.out.1, X.out.2.1, X.out.2.2, .inl ⟨h4, rfl⟩⟩
  · exact ⟨f', X.out.1, X.out.2.1, X.out.2.2, .inr ⟨h4, k, a, rfl⟩⟩

/-- What bytes brought to a length out of nothing are. -/
def NewRow (w : World) (n : Nat) (e : Ending) (w' : World) : Prop := ∃ b, w.heap.size ≤ b ∧ e = .returned (.slice (some ⟨b, 0, none⟩) n n) ∧ Blk w' b 5 (bs (List.replicate n 0)).toArray ∧ Chg [] w w'
theorem run_copy_nil (A : Option Addr) (n cap : Nat) (w : World) : (Builtin.copy_ #[38, 38] 3 #[.slice A n cap, .slice none 0 0]).run Tryd.prog w = .ok (goInt 0) w := by
  obtain ⟨i0, hi, hz0, hz1, hz2⟩ := info_parts info_u8
  have hu := Tryd.underlying38
  simp [Builtin.copy_, run_underlying hu, Builtin.lenOf, Builtin.firstCells, sizeOf, typeInfo, hi, hz1]
  cases A <;> simp [storeCells]
set_option maxRecDepth 100000 in
theorem expand_new (n : Nat) (w : World) (hn : 0 < n) (hn2 : n ≤ 10000) : Calls Tryd.prog 49 #[.slice none 0 0, .int .i64 n, .bool true] w (NewRow w n) := by
  have hmk := run_make_bytes n n (Nat.le_refl _) (by omega)
  have hn0 : ((n : Int) == 0) = false := by rw [beq_eq_false_iff_ne]; omega
  have hnp : (0 : Int) < (n : Int) := by omega
  have hcp := run_copy_nil (some ⟨w.heap.size, 0, none⟩) n n
  go_enter Tryd.func49, Tryd.ntmps49
  go_wp2
  go_ret
  exact ⟨_, Nat.le_refl _, rfl, Blk.new _ _ _, (Chg.refl _ _).alloc _⟩

/-- What ReadNAppend onto nothing tells: 0 bytes. -/
def NApp (R : World → List UInt8 → Nat → Prop) (S : List Nat) (w : World) (n : Nat) (left : List UInt8) (e : Ending) (w' : World) : Prop :=
  ∃ f' A cap, R w' (left.drop n) f' ∧ Chg S w w' ∧ n ≤ cap ∧ cap ≤ 10000 ∧ (∀ ad, A = some ad → w.heap.size ≤ ad.block) ∧
    ((n ≤ left.length ∧ RBytes w' A (left.take n) ∧ e = .returned (.tuple #[.slice A n cap, .nilIface])) ∨ (left.length < n ∧ ∃ a, e = .returned (.tuple #[.slice A n cap, .iface 146 (.pointer (some a))])))

theorem ovr_all {n : Nat} {l : List UInt8} (h : n ≤ l.length) : ovr (bs (List.replicate n 0)).toArray 0 (bs (l.take n)) = (bs (l.take n)).toArray := by
  unfold ovr
  have h1 : (bs (l.take n)).length = n := by rw [bs_length, List.length_take]; omega
  simp only [List.take_zero, List.nil_append, Nat.zero_add, h1]
  rw [List.drop_eq_nil_of_le (by simp [bs]), List.append_nil]
theorem rbytes_row {w : World} {b : Nat} {t : TypeId} {l : List UInt8} (h : Row w b t (bs l).toArray) : RBytes w (some ⟨b, 0, none⟩) l :=
  rbytes_of_row h (fun j hj => by simp [bs, hj])

set_option maxRecDepth 100000 in
set_option maxHeartbeats 1000000 in
theorem readNAppend_new {RT : TypeId} {rd : Value} {B : Nat} {ad ad2 : Addr} {S : List Nat} {R : World → List UInt8 → Nat → Prop} {K : FuncId} (hS : Src RT rd B ad S R K) (n : Nat) (left : List UInt8) (f : Nat) (w : World)
    (hR : R w left f) (hn : n ≤ 5000) (hE : EofAt w B ad) (hU : UeofAt w B ad2) :
    Calls Tryd.prog 28 #[.iface RT rd, .slice none 0 0, .int .i64 n] w (NApp R S w n left) := by
  rcases Nat.eq_zero_or_pos n with h0 | h0
  · subst h0
    have HS := hide hS
    have HR := hide hR
    clear hS hR hE hU hn
    go_enter Tryd.func28, Tryd.ntmps28
    go_wp2
    go_ret2
    exact ⟨f, none, 0, HR.out, Chg.refl _ _, Nat.le_refl _, by omega, by simp, .inl ⟨by omega, RBytes.nil _, rfl⟩⟩
  · have hn0 : ((n : Int) == 0) = false := by rw [beq_eq_false_iff_ne]; omega
    have HX := hide (expand_new n w h0 (by omega))
    have CALL : Hid (∀ b w1, w.heap.size ≤ b → Blk w1 b 5 (bs (List.replicate n 0)).toArray → Chg [] w w1 → Calls Tryd.prog 50 #[.iface RT rd, .slice (some ⟨b, 0, none⟩) n n] w1 (FullS R S w1 b 0 n 5 (bs (List.replicate n 0)).toArray left)) := hide fun b w1 hb1 hB hC =>
      readFull_any hS b 0 n n _ _ left f w1 (hS.frame _ _ _ _ [] hR hC (by simp)) hB.row (fun hm => by have := hS.lt _ _ _ hR _ hm; omega) (by have := hE.2.1; omega) (by simp [bs]) (Nat.le_refl _) (by omega) (hE.chg hC (by simp)) (hU.chg hC (by simp))
    clear hS hR hE hU
    go_enter Tryd.func28, Tryd.ntmps28
    go_wp2_with fail
    refine HX.out.mono ?_
    rintro e w1 ⟨b, hb1, rfl, hB, hC⟩
    have CALL2 := hide (CALL.out b w1 hb1 hB hC)
    have HC := hide hC
    clear hB hC CALL HX
    go_wp2_with fail
    refine CALL2.out.mono ?_
    rintro e w2 ⟨f', hR2, hB2, hC2, hres⟩
    have X := hide (And.intro hR2 hB2)
    have HC2 : Hid (Chg S w w2) := hide ((HC.out.more (by simp)).then hC2 (by
      intro i hi
      rcases List.mem_cons.1 hi with rfl | hi
      · exact .inr hb1
      · exact .inl hi))
    clear hR2 hB2 hC2 CALL2 HC
    rcases hres with ⟨hle, rfl⟩ | ⟨hlt, k, a, rfl⟩
    · have HRB : Hid (RBytes w2 (some ⟨b, 0, none⟩) (left.take n)) := hide (by
        have := X.out.2
        rw [ovr_all hle] at this
        exact rbytes_row this)
      go_wp2
      go_ret2
      exact ⟨f', _, _, X.out.1, HC2.out, Nat.le_refl _, by omega, by simpa using hb1, .inl ⟨hle, HRB.out, rfl⟩⟩
    · go_wp2
      go_ret2
      exact ⟨f', _, _, X.out.1, HC2.out, Nat.le_refl _, by omega, by simpa using hb1, .inr ⟨hlt, _, rfl⟩⟩
end Go.Proofs.YtnenjkngimfdgaaDoor
