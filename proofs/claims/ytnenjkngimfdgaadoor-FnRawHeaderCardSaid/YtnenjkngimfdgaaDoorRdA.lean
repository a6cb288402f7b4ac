/-
  impl's reader that gives all at once.
-/
import Derived.Test.YtnenjkngimfdgaaDoorReader
import Derived.Deep.RegionWith
namespace Go.Proofs.YtnenjkngimfdgaaDoor
open Go.RowKit
set_option linter.unusedVariables false
set_option linter.unusedSimpArgs false

/-- impl's reader that gives all at once: so much is left. -/
def RdA (w : World) (g : Nat) (left : List UInt8) : Prop := ∃ s : ByteArray, Blk w g 96 #[.string s, .slice none 0 0, .int .i64 0, .bool false] ∧ s.data.toList = left ∧ left.length ≤ 1000000
theorem RdA.blk {w : World} {g : Nat} {left : List UInt8} (h : RdA w g left) : ∃ cs, Blk w g 96 cs := by
  obtain ⟨s, hb, _⟩ := h
  exact ⟨_, hb⟩
theorem RdA.chg {w w' : World} {g : Nat} {left : List UInt8} {S : List Nat} (h : RdA w g left) (hc : Chg S w w') (hg : g ∉ S) : RdA w' g left := by
  obtain ⟨s, hb, h2⟩ := h
  exact ⟨s, hb.chg hc hg, h2⟩
theorem readA_end (g : Nat) (B : Nat) (ad : Addr) (w : World) (hR : RdA w g []) (hE : EofAt w B ad) (hgB : B ≤ g) (A : Option Addr) (n cap : Nat) :
    Calls Tryd.prog 88 #[.pointer (some ⟨g, 0, none⟩), .slice A n cap] w fun e w' => e = .returned (.tuple #[.int .i64 0, .iface 146 (.pointer (some ad))]) ∧ Chg [] w w' := by
  obtain ⟨s, hb, hl, _⟩ := hR
  exact read_end .nilIface B g 0 ad w ⟨⟨s, none, 0, 0, [], hb, hl, ⟨by simp [is_], fun h => absurd h (by simp)⟩, .inl ⟨rfl, by simp⟩, by omega, by simp, by simp⟩, hgB, by simp⟩ hE A n cap
def RedA (w : World) (g b o n : Nat) (t : TypeId) (cur : Array Value) (left : List UInt8) (e : Ending) (w' : World) : Prop :=
  ∃ m : Nat, m = min n left.length ∧ e = .returned (.tuple #[.int .i64 (m : Nat), .nilIface]) ∧ RdA w' g (left.drop m) ∧ Blk w' b t (ovr cur o (bs (left.take m))) ∧ Chg [g, b] w w'
set_option maxRecDepth 100000 in
set_option maxHeartbeats 1000000 in
theorem readA_all (g b o n cap : Nat) (t : TypeId) (cur : Array Value) (c : UInt8) (left : List UInt8) (w : World) (hb : Blk w b t cur) (hR : RdA w g (c :: left)) (hgb : g ≠ b) (hfit : o + n ≤ cur.size) (hn : 0 < n) (hnc : n ≤ cap) :
    Calls Tryd.prog 88 #[.pointer (some ⟨g, 0, none⟩), .slice (some ⟨b, o, none⟩) n cap] w (RedA w g b o n t cur (c :: left)) := by
  obtain ⟨s, hg, hl, hsz⟩ := hR
  have c0 := hg.cell 0
  have c1 := hg.cell 1
  have c3 := hg.cell 3
  have f0 := hg.frozen 0
  simp at c0 c1 c3
  have hs1 : s.size = left.length + 1 := by rw [← size_data, hl]; simp
  have hs0 : ((s.size : Int) == 0) = false := by rw [beq_eq_false_iff_ne]; omega
  have hcp : ∀ m : Nat, m ≤ s.size → m ≤ n → _ := fun m h1 h2 => run_copy_str (P := Tryd.prog) w.drew 38 9 3 5 b o m cap m s cur t Tryd.underlying38 (by kernel_rfl) (Blk.row hb) (by show min s.size m = m; omega) (by omega)
  have fr1 : ∀ cs, (w.drew.setRow b cs).frozen? ⟨g, 0, none⟩ = false := fun cs => ((hg.drew).setRow_far hgb cs).frozen 0
  have cc1 : ∀ cs, (w.drew.setRow b cs).cell? ⟨g, 0, none⟩ = some (.string s) := fun cs => by have := ((hg.drew).setRow_far hgb cs).cell 0; simpa using this
  have END : Hid (∀ m : Nat, m = min n s.size → RedA w g b o n t cur (c :: left) (.returned (.tuple #[.int .i64 (m : Nat), .nilIface])) ((w.drew.setRow b (ovr cur o (bs (s.data.toList.take m)))).setCell ⟨g, 0, none⟩ (.string (s.extract m s.size)))) := hide fun m h0 => by
    have hd : (s.extract m s.size).data.toList = (c :: left).drop m := by rw [Lib.extract_to_end, hl]
    refine ⟨m, by rw [List.length_cons]; omega, rfl, ⟨s.extract m s.size, ?_, hd, by rw [List.length_drop]; omega⟩, ?_, (((Chg.refl [g, b] w).drew).setRow (.inl (by simp)) _).setCell (.inl (by simp)) _⟩
    · have := ((hg.drew).setRow_far (g' := b) hgb (ovr cur o (bs (s.data.toList.take m)))).set_ 0 (.string (s.extract m s.size))
      simpa using this
    · rw [← hl]
      exact ((hb.drew).setRow_ _).far (by simpa using Ne.symm hgb) _
  have hs2 : 0 < s.size := by omega
  clear hg hl hb hs1
  rcases (by omega : n < s.size ∨ s.size ≤ n) with hc | hc
  · have hcp := hcp n (by omega) (by omega)
    have END := hide (END.out n (by omega))
    have hm1 : min (s.size : Int) (n : Int) = n := by omega
    go_enter Tryd.func88, Tryd.ntmps88
    go_wp2
    refine wp_region_quiet_tail 10 (by kernel_rfl) (by kernel_rfl) ?_
    simp only [List.take_succ_cons, List.take_zero, List.drop_succ_cons, List.drop_zero]
    repeat go_big_quiet_step (fail)
    refine wpQuiet_nil ?_
    go_wp2
    go_ret2
    exact END.out
  · have hcp := hcp s.size (by omega) (by omega)
    have END := hide (END.out s.size (by omega))
    have hsc : s.size ≤ cap := by omega
    have hm1 : min (s.size : Int) (n : Int) = s.size := by omega
    go_enter Tryd.func88, Tryd.ntmps88
    go_wp2
    refine wp_region_quiet_tail 10 (by kernel_rfl) (by kernel_rfl) ?_
    simp only [List.take_succ_cons, List.take_zero, List.drop_succ_cons, List.drop_zero]
    repeat go_big_quiet_step (fail)
    refine wpQuiet_nil ?_
    go_wp2
    go_ret2
    have h := END.out
    rw [show s.extract s.size s.size = ByteArray.empty by simp] at h
    exact h
set_option maxRecDepth 100000 in
theorem newReaderA_any (s : ByteArray) (hs : s.size ≤ 1000000) (w : World) :
    Calls Tryd.prog 22 #[.string s, .slice none 0 0, .bool false] w fun e w' => e = .returned (.pointer (some ⟨w.heap.size, 0, none⟩)) ∧ RdA w' w.heap.size s.data.toList ∧ Ext w w' := by
  go_enter Tryd.func22, Tryd.ntmps22
  go_wp2
  go_loop [7, 9, 12] (fun s7 s9 s12 => s12 = .int .i64 0 ∧ s7 = .bool false) (fun _ _ _ => 0)
  case atStart => exact ⟨rfl, rfl⟩
  case round =>
    obtain ⟨rfl, rfl⟩ := hrel
    go_wp2
    go_ret
    exact ⟨rfl, ⟨s, Blk.new w _ _, rfl, by rw [size_data]; exact hs⟩, (Ext.refl w).alloc _⟩

end Go.Proofs.YtnenjkngimfdgaaDoor
