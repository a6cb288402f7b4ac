/-
  radix.DoorCommand; impl.CommandWrite.
-/
import Derived.Test.YtepeokoeempfgaaGreatDoorCmdW
namespace Go.Proofs.YtepeokoeempfgaaGreatDoor
open Go.RowKit
set_option linter.unusedVariables false
set_option linter.unusedSimpArgs false

theorem run_copy_strsB (w : World) (b : Nat) (A : Option Addr) (cap : Nat) (l : List ByteArray) (hR : RS w A l) (hb : b < w.heap.size) (hl : l.length ≤ 1000000) :
    ∃ A' cap' w', (Builtin.append_ #[22, 22] 22 #[.slice (some ⟨b, 0, none⟩) 0 0, .slice A l.length cap]).run Tryz.prog w = .ok (.slice (some A') l.length cap') w' ∧ RSB w' (some A') l ∧ Ext w w' ∧ l.length ≤ cap' ∧ cap' ≤ maxLen ∧ A'.block < w'.heap.size := by
  obtain ⟨A', cap', w', h1, h2, h3, h4, h5, -, h7⟩ := run_copy_strs w b A cap l hR hb hl
  refine ⟨A', cap', w', h1, ⟨h2, fun ad e h0 => ?_⟩, h3, h4, h5, h7⟩
  injection e with e
  subst e
  obtain ⟨i0, hi, hz0, hz1, hz2⟩ := info_parts info_str
  obtain ⟨ad, rfl, hab, hac⟩ := hR.addr (by omega)
  have hs : Src Tryz.prog i0.size 22 (.slice (some ad) l.length cap) l.length (ss l) w := Src.ofSlice w Tryz.underlying22 ad l.length cap (ss l) (by rw [hz1, ss_length]; omega) (fun j u hu => by
    have hj : j < l.length := by
      have := (List.getElem?_eq_some_iff.1 hu).1
      rwa [ss_length] at this
    rw [ss_getElem?, List.getElem?_eq_getElem hj] at hu
    simp at hu
    rw [hac j hj, hu]) (ss_one l)
  have h := run_append_grow_src w 22 22 22 9 i0 _ Tryz.underlying22 hi hz0 (some ⟨b, 0, none⟩) 0 0 [] (by
    rw [hz1]
    exact run_firstCells_some w.drew 1 0 ⟨b, 0, none⟩ 0 0 [] (by simp) (by simp)) _ l.length (ss l) hs (by omega) (by omega) (by
    rw [hz2]
    have : Builtin.nextslicecap (0 + l.length) 0 = l.length := by
      unfold Builtin.nextslicecap
      rw [if_pos (by omega)]
      omega
    rw [this]
    omega)
  rw [Nat.zero_add, h1] at h
  injection h with e1 e2
  injection e1 with e1 _ _
  injection e1 with e1
  subst e1 e2
  exact ⟨_, Blk.new_at _ _ _ (by simp)⟩

set_option maxRecDepth 100000 in
set_option maxHeartbeats 1000000 in
theorem doorCmd_any (s : ByteArray) (A : Option Addr) (cap n : Nat) (l : List ByteArray) (B o p r b : Nat) (w : World) (hS : St B w o p r b []) (hT : TabsU w) (hR : RSB w A l) (hA : ∀ ad, A = some ad → ad.block < w.heap.size) (hn : l.length = n) (hl : n ≤ 1000) (hc : n ≤ cap) (hm : cap ≤ maxLen) (hs : s.size ≤ 1000) (hls : ∀ x ∈ l, x.size ≤ 1000) :
    Calls Tryz.prog 10 #[.iface 37 (.pointer (some ⟨b, 0, none⟩)), .string s, .slice A n cap, .pointer (some ⟨o, 0, none⟩)] w fun e w' => e = .returned .nilIface ∧ MsgP B o p r b [] (textsW (s :: l)).data.toList w w' := by
  have CM := hide (cmd_any s A cap (fun i => i < w.heap.size) n _ _ w (fun i h => h) fun w1 hx =>
    propsU_any s A cap (fun i => i < w.heap.size ∨ w1.heap.size ≤ i) n l w1 hn (by omega) (hT.ext hx) (hR.1.ext hx) hl hc hm (fun x hx => by have := hls x hx; omega) (fun ad e => .inl (hA ad e)) (fun i hi => .inr hi))
  have MR : Hid (∀ w1 c A2 k2 c2 a1 b1 d1, Ext w w1 → Blk w1 c 84 (cmdCells s A n cap A2 k2 c2 a1 b1 d1) → Calls Tryz.prog 17 #[.pointer (some ⟨c, 0, none⟩), .iface 37 (.pointer (some ⟨b, 0, none⟩)), .pointer (some ⟨o, 0, none⟩)] w1 fun e w' => e = .returned .nilIface ∧ St B w' o p r b ([] ++ (textsW (s :: l)).data.toList) ∧ Fr B w w') := hide fun w1 c A2 k2 c2 a1 b1 d1 hx hb =>
    (cmdMarshal_any c s A cap A2 k2 c2 a1 b1 d1 n l B o p r b w1 (hS.chg_ext hx).1 hb (hR.ext hx) hn hl hs hls).mono fun e w' ⟨h1, h2⟩ => ⟨h1, h2.1, (hS.chg_ext hx).2.trans h2.2⟩
  clear hS hT hR hA hls
  go_enter Tryz.func10, Tryz.ntmps10
  go_wp2_with fail
  refine CM.out.mono ?_
  rintro e w1 ⟨g, A2, c2, rfl, hb, -, -, hx, -, -, -⟩
  have CL := hide (MR.out w1 g A2 _ c2 true _ _ hx hb)
  clear hb hx MR CM
  go_wp2_with fail
  refine CL.out.mono ?_
  rintro e w2 ⟨rfl, hM⟩
  have HM := hide hM
  clear hM CL
  go_wp2
  go_ret
  exact ⟨rfl, HM.out⟩

set_option maxRecDepth 100000 in
theorem stateNil_any (w : World) : Calls Tryz.prog 13 #[.nilIface] w fun e w' => e = .returned (.int .i64 0) ∧ w' = w := by
  go_enter Tryz.func13, Tryz.ntmps13
  go_wp2
  go_ret
  exact ⟨rfl, rfl⟩
theorem cw_idle (args : Array Value) (w : World) : CallsD Tryz.prog 9 args .returning w fun e u' w' => e = .returned (.tuple #[]) ∧ u' = .returning ∧ w' = w :=
  idle_of w nilTest_any Tryz.func9 rfl rfl (by decide) (by decide)

set_option maxRecDepth 100000 in
set_option maxHeartbeats 2000000 in
theorem implCW_any (s : ByteArray) (A : Option Addr) (cap n : Nat) (l : List ByteArray) (w : World) (hT : TabsU w) (hP : Tab10 w.heap.size w) (hR : RS w A l) (hn : l.length = n) (hl : n ≤ 1000) (hs : s.size ≤ 1000) (hls : ∀ x ∈ l, x.size ≤ 1000) :
    Calls Tryz.prog 6 #[.string s, .slice A n cap] w fun e w' => e = .returned (.tuple #[.string (textsW (s :: l)), .int .i64 0]) ∧ Ext w w' := by
  have hmf : ∀ (fn : Fn) (first cap : Array Value) (w : World), (Instr.makeFunc fn first cap).run Tryz.prog w = .ok (.func fn first cap) w := fun _ _ _ _ => rfl
  obtain ⟨W0, hW0⟩ : ∃ W0, W0 = ((((w.alloc (.cells #[.string .empty] 9)).alloc (.cells #[.int .i64 0] 3)).alloc (.cells #[.slice none 0 0, .int .i64 0, .int .i8 0] 33)).alloc (.cells #[] 9)) := ⟨_, rfl⟩
  have hx0 : Ext w W0 := by rw [hW0]; exact ((((Ext.refl w).alloc _).alloc _).alloc _).alloc _
  have hk0 : W0.heap.size = w.heap.size + 4 := by rw [hW0]; simp
  have hbuf : Blk W0 (w.heap.size + 1 + 1) 33 #[.slice none 0 0, .int .i64 0, .int .i8 0] := by rw [hW0]; exact (Blk.new_at _ _ _ (by simp)).alloc _
  have hv1 : Blk W0 w.heap.size 9 #[.string .empty] := by rw [hW0]; exact (((Blk.new w _ _).alloc _).alloc _).alloc _
  have hv2 : Blk W0 (w.heap.size + 1) 3 #[.int .i64 0] := by rw [hW0]; exact ((Blk.new_at _ _ _ (by simp)).alloc _).alloc _
  have CP := run_copy_strsB W0 (w.heap.size + 1 + 1 + 1) A cap l (hR.ext hx0) (by omega) (by rw [hn]; omega)
  rw [hn] at CP
  rw [hW0] at CP
  obtain ⟨A1, c1, w1, hrun, hR1, hx1, hc1, hm1, hA1⟩ := CP
  rw [← hW0] at hx1
  clear hR
  go_enter_defers Tryz.func6, Tryz.ntmps6
  go_wp2_with (at_builtin; refine wpList_append_run rfl _ _ _ _ rfl _ _ _ rfl rfl hrun ?_)
  refine (newOpts_any w1).mono ?_
  rintro e w2 ⟨o, p, r, rfl, hO, hPl, hp1, hpo, hx2⟩
  have hx02 : Ext W0 w2 := hx1.trans hx2
  have hS : St w.heap.size w2 o p r (w.heap.size + 1 + 1) [] := ⟨none, .slice none 0 0, none, ⟨(hx0.trans hx02).sizes, Lib.TabBelow.on hP (hx0.trans hx02), hO, ⟨0, (hbuf.chg (Chg.of_ext hx02 []) (by simp))⟩, World.ownsRow_nil _ _ _ _, fun h => absurd rfl h, by
    have := hx1.sizes
    omega, by omega, by simp, by simp [Value.ownBlock]⟩, ⟨0, _, hPl, rfl, World.ownsRow_nil _ _ _ _⟩, by simp⟩
  have DC := hide (doorCmd_any s (some A1) c1 n l w.heap.size o p r (w.heap.size + 1 + 1) w2 hS (hT.ext (hx0.trans hx02)) (hR1.ext hx2) (fun ad e => by
    injection e with e
    subst e
    have := hx2.sizes
    omega) hn hl hc1 hm1 hs hls)
  have HV := hide (And.intro (hv1.chg (Chg.of_ext hx02 []) (by simp)) (And.intro (hv2.chg (Chg.of_ext hx02 []) (by simp)) (hx0.trans hx02)))
  clear hS hO hPl hp1 hpo hx2 hx1 hR1 hbuf hv1 hv2 hx0 hk0 hc1 hm1 hA1 hrun hT hP hls hx02
  go_wp2_with fail
  refine DC.out.mono ?_
  rintro e w3 ⟨rfl, hM⟩
  obtain ⟨⟨h, bv, q, hr, -, -⟩, hF⟩ := hM
  obtain ⟨lr, hb⟩ := hr.buf
  have hIs : Lib.IsBuffer 33 5 w.heap.size (w.heap.size + 1 + 1) (Lib.byteCells ([] ++ (textsW (s :: l)).data.toList)) w3 := ⟨hr.gb, bv, lr, hb, by
    have e : Lib.byteCells ([] ++ (textsW (s :: l)).data.toList) = bs ([] ++ (textsW (s :: l)).data.toList) := by simp [Lib.byteCells, bs]
    rw [e, bs_length]
    exact own_base hr.own hr.gv, fun e => own_blk_ne' hr.own e hb (by decide) rfl⟩
  have BS := hide (Tryz.Buffer_String w.heap.size (w.heap.size + 1 + 1) _ w3 hIs)
  have hE : (⟨([] ++ (textsW (s :: l)).data.toList).toArray⟩ : ByteArray) = textsW (s :: l) := by simp
  rw [hE] at BS
  have v1 := hF.blk HV.out.1 (by unfold TT; decide)
  have v2 := hF.blk HV.out.2.1 (by unfold TT; decide)
  have HX2 : Hid (Ext w w3) := hide (HV.out.2.2.below.trans hF.below)
  clear hIs hE hr hb hF DC HV
  go_wp2_with fail
  refine BS.out.mono ?_
  rintro e w4 ⟨rfl, k, rfl⟩
  have SN := hide (stateNil_any (w3.drewN k))
  go_wp2_with fail
  refine SN.out.mono ?_
  rintro e w4 ⟨rfl, rfl⟩
  have c1 := (v1.drewN k).cell 0
  have c2 := (v2.drewN k).cell 0
  have f1 := (v1.drewN k).frozen 0
  have f2 := (v2.drewN k).frozen 0
  simp at c1 c2
  go_wp2
  refine door_idle (cw_idle _ _) (by simp [go_sem]) ?_
  refine ⟨.tuple #[.string (textsW (s :: l)), .int .i64 0], ?_, rfl, ?_⟩
  · simp [results, Tryz.results6, go_sem, c1, c2, f1, f2]
  · exact ((HX2.out.drewN k).setCell (Nat.le_refl _) _).setCell (by simp) _
end Go.Proofs.YtepeokoeempfgaaGreatDoor
