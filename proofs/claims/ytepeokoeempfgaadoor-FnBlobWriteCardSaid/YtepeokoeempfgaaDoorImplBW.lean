/-
  impl.BlobWrite.
-/
import Derived.Test.YtepeokoeempfgaaDoorBSW
namespace Go.Proofs.YtepeokoeempfgaaDoor
open Go.RowKit
set_option linter.unusedVariables false
set_option linter.unusedSimpArgs false

theorem as_use_no (x : Value) (w : World) : (Instr.typeAssert (.iface 215 x) 56 119 true).run Tryd.prog w = .ok (.tuple #[.agg #[.nilIface], .bool false]) w := by kernel_rfl
set_option maxRecDepth 100000 in
theorem stateNilB_any (w : World) : Calls Tryd.prog 29 #[.nilIface] w fun e w' => e = .returned (.int .i64 0) ∧ Ext w w' := by
  go_enter Tryd.func29, Tryd.ntmps29
  go_wp2
  go_ret
  exact ⟨rfl, Ext.refl _⟩
set_option maxRecDepth 100000 in
theorem stateErrB_any (x : Value) (w : World) : Calls Tryd.prog 29 #[.iface 215 x] w fun e w' => e = .returned (.int .i64 2) ∧ Ext w w' := by
  have h1 := as_use_no
  go_enter Tryd.func29, Tryd.ntmps29
  go_wp2
  go_ret
  exact ⟨rfl, (Ext.refl _).alloc _⟩
set_option maxRecDepth 100000 in
theorem newLen_any (v : Value) (g : Nat) (n : Int) (w : World) (hv : v = .iface 60 (.pointer (some ⟨g, 0, none⟩))) :
    Calls Tryd.prog 24 #[v, .int .i64 n] w fun e w' => e = .returned (.iface 83 (.pointer (some ⟨w.heap.size, 0, none⟩))) ∧ w' = w.alloc (.cells #[v, .int .i64 n] 85) := by
  subst hv
  go_enter Tryd.func24, Tryd.ntmps24
  go_wp2
  go_ret
  exact ⟨rfl, rfl⟩
theorem bw_idle (args : Array Value) (w : World) : CallsD Tryd.prog 23 args .returning w fun e u' w' => e = .returned (.tuple #[]) ∧ u' = .returning ∧ w' = w :=
  idle_of w nilTest_any Tryd.func23 rfl rfl (by decide) (by decide)

/-- What is on the wire where the text has n bytes. -/
def BwT (s : ByteArray) (n : Nat) (wire : ByteArray) : Prop := n ≤ s.size → wire.data.toList = bswW s.data.toList n
set_option maxRecDepth 100000 in
set_option maxHeartbeats 4000000 in
theorem implBW_any (s : ByteArray) (n : Nat) (ad : Addr) (w : World) (hP : Tab10 w.heap.size w) (hE : EofAt w w.heap.size ad) (hs : s.size ≤ 10000) (hn : n ≤ 10000) :
    Calls Tryd.prog 12 #[.string s, .int .i64 n] w fun e w' => (∃ wire, e = .returned (.tuple #[.string wire, .int .i64 (if n ≤ s.size then 0 else 2)]) ∧ BwT s n wire) ∧ Ext w w' := by
  have hmf : ∀ (fn : Fn) (first cap : Array Value) (w : World), (Instr.makeFunc fn first cap).run Tryd.prog w = .ok (.func fn first cap) w := fun _ _ _ _ => rfl
  have SO : ∀ W, Calls Tryd.prog 29 #[if n ≤ s.size then .nilIface else .iface 215 (.pointer (some ad))] W fun e w' => e = .returned (.int .i64 (if n ≤ s.size then 0 else 2)) ∧ Ext W w' := fun W => by
    by_cases h : n ≤ s.size
    · rw [if_pos h, if_pos h]; exact stateNilB_any W
    · rw [if_neg h, if_neg h]; exact stateErrB_any _ W
  generalize her : (if n ≤ s.size then Value.nilIface else .iface 215 (.pointer (some ad))) = er at SO
  generalize (if n ≤ s.size then (0 : Int) else 2) = code at SO ⊢
  have SO := hide SO
  obtain ⟨W0, hW0⟩ : ∃ W0, W0 = (((w.alloc (.cells #[.string .empty] 9)).alloc (.cells #[.int .i64 0] 3)).alloc (.cells #[.slice none 0 0, .int .i64 0, .int .i8 0] 54)) := ⟨_, rfl⟩
  have hx0 : Ext w W0 := by rw [hW0]; exact (((Ext.refl w).alloc _).alloc _).alloc _
  have hk0 : W0.heap.size = w.heap.size + 1 + 1 + 1 := by rw [hW0]; simp
  have hbuf : Blk W0 (w.heap.size + 1 + 1) 54 #[.slice none 0 0, .int .i64 0, .int .i8 0] := by rw [hW0]; exact Blk.new_at _ _ _ (by simp)
  have hv1 : Blk W0 w.heap.size 9 #[.string .empty] := by rw [hW0]; exact ((Blk.new w _ _).alloc _).alloc _
  have hv2 : Blk W0 (w.heap.size + 1) 3 #[.int .i64 0] := by rw [hW0]; exact (Blk.new_at _ _ _ (by simp)).alloc _
  have NR := newReaderA_any s (by omega) W0
  rw [hk0] at NR
  have hlen : s.data.toList.length = s.size := size_data s
  rw [hW0] at NR
  have NR := hide NR
  go_enter_defers Tryd.func12, Tryd.ntmps12
  go_wp2_with fail
  refine NR.out.mono ?_
  rintro e w1 ⟨rfl, hR1, hx1⟩
  rw [← hW0] at hx1
  have NL := hide (newLen_any (.iface 60 (.pointer (some ⟨w.heap.size + 1 + 1 + 1, 0, none⟩))) (w.heap.size + 1 + 1 + 1) n w1 rfl)
  go_wp2_with fail
  refine NL.out.mono ?_
  rintro e w2 ⟨rfl, hw2⟩
  have hx2 : Ext w1 w2 := by rw [hw2]; exact (Ext.refl w1).alloc _
  have hk2 : Blk w2 w1.heap.size 85 #[.iface 60 (.pointer (some ⟨w.heap.size + 1 + 1 + 1, 0, none⟩)), .int .i64 n] := by rw [hw2]; exact Blk.new w1 _ _
  clear hw2 NL NR
  go_wp2_with fail
  refine (newOpts_any w2).mono ?_
  rintro e w3 ⟨o, p, r, rfl, hO, hPl, hp1, hpo, hx3⟩
  have hx03 : Ext W0 w3 := (hx1.trans hx2).trans hx3
  have hz1 := hx1.sizes
  have hz2 := hx2.sizes
  have hz3 := hx3.sizes
  have hS : St (w.heap.size + 1 + 1) w3 o p r (w.heap.size + 1 + 1) [] := ⟨none, .slice none 0 0, none, ⟨by omega, fun w' hb => hP w' ((hx0.trans hx03).below.trans (hb.mono (by omega))), hO, ⟨0, (hbuf.chg (Chg.of_ext hx03 []) (by simp))⟩, World.ownsRow_nil _ _ _ _, fun h => absurd rfl h, by omega, by omega, by simp, by simp [Value.ownBlock]⟩, ⟨0, _, hPl, rfl, World.ownsRow_nil _ _ _ _⟩, by simp⟩
  have BW := bsw_any (w.heap.size + 1 + 1) o p r (w.heap.size + 1 + 1) w1.heap.size (w.heap.size + 1 + 1 + 1) n s.data.toList ad w3 hS (hk2.chg (Chg.of_ext hx3 []) (by simp)) (hR1.chg (Chg.of_ext (hx2.trans hx3) []) (by simp)) (by omega) (by omega) ⟨by have := hE.1; omega, by omega, (hE.chg (Chg.of_ext (hx0.trans hx03) []) (by simp)).2.2⟩ hn (by omega)
  unfold BswS at BW
  rw [hlen] at BW
  rw [her] at BW
  have BW := hide BW
  clear her
  have HV := hide (And.intro (hv1.chg (Chg.of_ext hx03 []) (by simp)) (And.intro (hv2.chg (Chg.of_ext hx03 []) (by simp)) (hx0.trans hx03)))
  have hlt1 : w.heap.size < w3.heap.size := by omega
  have hlt2 : w.heap.size + 1 < w3.heap.size := by omega
  clear hS hO hPl hp1 hpo hx2 hx1 hR1 hk2 hx3 hbuf hv1 hv2 hx0 hk0 hP hE hx03 hz1 hz2 hz3 hlen
  go_wp2_with fail
  refine BW.out.mono ?_
  rintro e w4 ⟨rfl, ⟨T, ⟨h, bv, q, hr, -, -⟩, hT⟩, hB⟩
  obtain ⟨lr, hb⟩ := hr.buf
  have hIs : Lib.IsBuffer 54 5 (w.heap.size + 1 + 1) (w.heap.size + 1 + 1) (Lib.byteCells T) w4 := ⟨hr.gb, bv, lr, hb, by
    have e : Lib.byteCells T = bs T := by simp [Lib.byteCells, bs]
    rw [e, bs_length]
    exact own_base hr.own hr.gv, fun e => own_blk_ne' hr.own e hb (by decide) rfl⟩
  have BS := hide (Tryd.Buffer_String (w.heap.size + 1 + 1) (w.heap.size + 1 + 1) _ w4 hIs)
  have v1 := HV.out.1.below hB (by omega)
  have v2 := HV.out.2.1.below hB (by omega)
  have HX2 : Hid (Ext w w4) := hide (HV.out.2.2.below.trans (hB.mono (by omega)))
  have HT := hide hT
  clear hIs hr hb hB BW HV hT
  go_wp2_with fail
  refine BS.out.mono ?_
  rintro e w5 ⟨rfl, k, rfl⟩
  go_wp2_with fail
  refine (SO.out _).mono ?_
  rintro e w5 ⟨rfl, hx5⟩
  have y1 := (v1.drewN k).chg (Chg.of_ext hx5 []) (by simp)
  have y2 := (v2.drewN k).chg (Chg.of_ext hx5 []) (by simp)
  have HX3 : Hid (Ext w w5) := hide ((HX2.out.drewN k).trans hx5)
  have c1 := y1.cell 0
  have c2 := y2.cell 0
  have f1 := y1.frozen 0
  have f2 := y2.frozen 0
  simp at c1 c2
  clear y1 y2 v1 v2 hx5 SO BS
  go_wp2
  refine door_idle (bw_idle _ _) (by simp [go_sem]) ?_
  refine ⟨.tuple #[.string ⟨T.toArray⟩, .int .i64 code], ?_, ⟨⟨T.toArray⟩, rfl, fun h => ?_⟩, ?_⟩
  · simp [results, Tryd.results12, go_sem, c1, c2, f1, f2]
  · exact HT.out h
  · exact ((HX3.out).setCell (Nat.le_refl _) _).setCell (by simp) _
end Go.Proofs.YtepeokoeempfgaaDoor
