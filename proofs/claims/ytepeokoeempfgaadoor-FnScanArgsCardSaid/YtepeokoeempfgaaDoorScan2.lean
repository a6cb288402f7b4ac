/-
  DoorScan; impl.ScanArgs.
-/
import Derived.Test.YtepeokoeempfgaaDoorScan
import Derived.Test.YtepeokoeempfgaaDoorImplTraits
namespace Go.Proofs.YtepeokoeempfgaaDoor
open Go.RowKit
set_option linter.unusedVariables false
set_option linter.unusedSimpArgs false

theorem up_scan : upT sSCAN = sSCAN := by decide
/-- The command of a scan. -/
def scanC (c : ByteArray) : ByteArray := upT (if c.toList.isEmpty then sSCAN else c)

set_option maxRecDepth 100000 in
set_option maxHeartbeats 1000000 in
theorem doorScan_any (c k pt : ByteArray) (n : Int) (ty cur : ByteArray) (h0 : -9223372036854775808 ≤ n) (h1 : n ≤ 9223372036854775807) (hc : c.size ≤ 1000) (ha : asciiB c.data.toList = true) (hs : k.size ≤ 1000 ∧ cur.size ≤ 1000 ∧ pt.size ≤ 1000 ∧ ty.size ≤ 1000) (w : World) (hT : TabsU w) (hP : TabP w) :
    Calls Tryd.prog 32 #[.agg #[.string c, .string k, .string pt, .int .i64 n, .string ty], .string cur] w fun e w' => ∃ A' cap, e = .returned (.tuple #[.string (scanC c), .slice A' (l5 ((scanC c).toList == [83, 67, 65, 78]) k cur pt n ty).length cap]) ∧ RS w' A' (l5 ((scanC c).toList == [83, 67, 65, 78]) k cur pt n ty) ∧ Ext w w' ∧ ∀ ad, A' = some ad → w.heap.size ≤ ad.block := by
  have hc2 : (if c.toList.isEmpty then sSCAN else c).size ≤ 1000 ∧ asciiB (if c.toList.isEmpty then sSCAN else c).data.toList = true := by
    split
    · exact ⟨by decide, by decide⟩
    · exact ⟨hc, ha⟩
  have WD : Hid (∀ w, Calls Tryd.prog 49 #[.agg #[.string c, .string k, .string pt, .int .i64 n, .string ty]] w fun e w' => e = .returned (.agg #[.string (if c.toList.isEmpty then sSCAN else c), .string k, .string pt, .int .i64 n, .string ty]) ∧ Ext w w') := hide (defaults_any c k pt n ty)
  unfold scanC
  generalize (if c.toList.isEmpty then sSCAN else c) = c2 at hc2 WD ⊢
  have SC : Hid (∀ w1, Ext w w1 → Calls Tryd.prog 50 #[.agg #[.string c2, .string k, .string pt, .int .i64 n, .string ty], .nilIface, .string cur] w1 fun e w' => ∃ g A' cap A2 k2 c3 b1 b2 b3, e = .returned (.pointer (some ⟨g, 0, none⟩)) ∧ Blk w' g 128 (cmdCells (upT c2) A' (l5 ((upT c2).toList == [83, 67, 65, 78]) k cur pt n ty).length cap A2 k2 c3 b1 b2 b3) ∧ RS w' A' (l5 ((upT c2).toList == [83, 67, 65, 78]) k cur pt n ty) ∧ Ext w1 w' ∧ ∀ ad, A' = some ad → w1.heap.size ≤ ad.block) :=
    hide fun w1 hx => scanCmd_any c2 k pt n ty cur h0 h1 hc2.1 hc2.2 hs w1 (hT.ext hx) (hP.ext hx)
  generalize l5 ((upT c2).toList == [83, 67, 65, 78]) k cur pt n ty = L at SC ⊢
  generalize upT c2 = U at SC ⊢
  clear hT hP hs hc2 hc ha
  go_enter Tryd.func32, Tryd.ntmps32
  go_wp2_with fail
  refine (WD.out _).mono ?_
  rintro e w1 ⟨rfl, hx1⟩
  have HX1 : Hid (Ext w w1) := hide (((Ext.refl w).alloc _).trans hx1)
  clear hx1 WD
  go_wp2_with fail
  refine (SC.out _ HX1.out).mono ?_
  rintro e w2 ⟨g, A', cap, A2, k2, c3, b1, b2, b3, rfl, hb, hR, hx2, hA⟩
  have HE := hide (And.intro hR (HX1.out.trans hx2))
  have HA : Hid (∀ ad, A' = some ad → w.heap.size ≤ ad.block) := hide fun ad had => Nat.le_trans HX1.out.sizes (hA ad had)
  clear hA
  have q1 := hb.cell 1
  have q2 := hb.cell 2
  simp [cmdCells] at q1 q2
  clear hb hR hx2 HX1 SC
  go_wp2
  go_quiet (fail)
  go_wp2
  exact bodyPost_ret (v := .tuple #[.string U, .slice A' L.length cap]) (by simp [results, Tryd.results32, go_sem]) rfl ⟨A', cap, rfl, HE.out.1.ext ((Ext.refl _).drewN nq), HE.out.2.drewN nq, HA.out⟩

theorem scan1_idle (args : Array Value) (w : World) : CallsD Tryd.prog 31 args .returning w fun e u' w' => e = .returned (.tuple #[]) ∧ u' = .returning ∧ w' = w :=
  idle_of w nilTest_any Tryd.func31 rfl rfl (by decide) (by decide)

set_option maxRecDepth 100000 in
set_option maxHeartbeats 2000000 in
theorem implScan_any (c k pt : ByteArray) (n : Int) (ty cur : ByteArray) (h0 : -9223372036854775808 ≤ n) (h1 : n ≤ 9223372036854775807) (hc : c.size ≤ 1000) (ha : asciiB c.data.toList = true) (hs : k.size ≤ 1000 ∧ cur.size ≤ 1000 ∧ pt.size ≤ 1000 ∧ ty.size ≤ 1000) (w : World) (hT : TabsU w) (hP : TabP w) :
    Calls Tryd.prog 16 #[.agg #[.string c, .string k, .string pt, .int .i64 n, .string ty], .string cur] w fun e w' => ∃ A' cap, e = .returned (.tuple #[.string (scanC c), .slice A' (l5 ((scanC c).toList == [83, 67, 65, 78]) k cur pt n ty).length cap, .bool true]) ∧ RS w' A' (l5 ((scanC c).toList == [83, 67, 65, 78]) k cur pt n ty) ∧ Ext w w' ∧ ∀ ad, A' = some ad → w.heap.size ≤ ad.block := by
  have hmf : ∀ (fn : Fn) (first cap : Array Value) (w : World), (Instr.makeFunc fn first cap).run Tryd.prog w = .ok (.func fn first cap) w := fun _ _ _ _ => rfl
  have DS : Hid (∀ w1, Ext w w1 → Calls Tryd.prog 32 #[.agg #[.string c, .string k, .string pt, .int .i64 n, .string ty], .string cur] w1 fun e w' => ∃ A' cap, e = .returned (.tuple #[.string (scanC c), .slice A' (l5 ((scanC c).toList == [83, 67, 65, 78]) k cur pt n ty).length cap]) ∧ RS w' A' (l5 ((scanC c).toList == [83, 67, 65, 78]) k cur pt n ty) ∧ Ext w1 w' ∧ ∀ ad, A' = some ad → w1.heap.size ≤ ad.block) := hide fun w1 hx =>
    doorScan_any c k pt n ty cur h0 h1 hc ha hs w1 (hT.ext hx) (hP.ext hx)
  have hkl := l5_length ((scanC c).toList == [83, 67, 65, 78]) k cur pt n ty
  generalize l5 ((scanC c).toList == [83, 67, 65, 78]) k cur pt n ty = K at DS hkl ⊢
  generalize scanC c = U at DS ⊢
  clear hT hP hs ha hc h0 h1
  go_enter_defers Tryd.func16, Tryd.ntmps16
  go_wp2_with fail
  refine (DS.out _ ((((((Ext.refl w).alloc _).alloc _).alloc _).alloc _))).mono ?_
  rintro e w2 ⟨A', cap, rfl, hR, hx, hA⟩
  have hsz : w.heap.size + 4 ≤ w2.heap.size := by have := hx.sizes; simp at this; omega
  have v1 : Var w2 (w.heap.size + 1) (.string .empty) := ((Var.new_at _ (.string .empty) _ _ (by simp)).ext (((Ext.refl _).alloc _).alloc _)).ext hx
  have v2 : Var w2 (w.heap.size + 1 + 1) (.slice none 0 0) := ((Var.new_at _ (.slice none 0 0) _ _ (by simp)).ext ((Ext.refl _).alloc _)).ext hx
  have v3 : Var w2 (w.heap.size + 1 + 1 + 1) (.bool false) := (Var.new_at _ (.bool false) _ _ (by simp)).ext hx
  obtain ⟨x1, c1, f1⟩ := v1
  obtain ⟨x2, c2, f2⟩ := v2
  obtain ⟨x3, c3, f3⟩ := v3
  have n12 : ¬ w.heap.size + 1 = w.heap.size + 1 + 1 := by omega
  have n21 : ¬ w.heap.size + 1 + 1 = w.heap.size + 1 := by omega
  obtain ⟨W3, hW3⟩ : ∃ W3, W3 = (w2.setCell ⟨w.heap.size + 1, 0, none⟩ (.string U)).setCell ⟨w.heap.size + 1 + 1, 0, none⟩ (.slice A' K.length cap) := ⟨_, rfl⟩
  have hC3 : Chg [w.heap.size + 1, w.heap.size + 1 + 1] w2 W3 := by rw [hW3]; exact ((Chg.refl _ _).setCell (.inl (by simp)) _).setCell (.inl (by simp)) _
  have hR3 : RS W3 A' K := hR.chg hC3 fun ad had hm => by
    have := hA ad had
    simp at this hm
    omega
  have hk3 : W3.heap.size = w2.heap.size := by rw [hW3]; simp
  have k1 : W3.cell? ⟨w.heap.size + 1, 0, none⟩ = some (.string U) ∧ W3.frozen? ⟨w.heap.size + 1, 0, none⟩ = false := by
    rw [hW3]
    go_simp
  have k2 : W3.cell? ⟨w.heap.size + 1 + 1, 0, none⟩ = some (.slice A' K.length cap) ∧ W3.frozen? ⟨w.heap.size + 1 + 1, 0, none⟩ = false := by
    rw [hW3]
    go_simp
  have k3 : W3.frozen? ⟨w.heap.size + 1 + 1 + 1, 0, none⟩ = false := by
    rw [hW3]
    go_simp
  have CP := run_copy_strs ((W3.alloc (.cells #[] 9)).drew) w2.heap.size A' cap K (hR3.ext (((Ext.refl _).alloc _).drew)) (by simp; omega) (by omega)
  obtain ⟨A3, cp3, w3, hrun3, hR4, hx3, -, -, hA3, -⟩ := CP
  have e1 := (hx3.cellOf (p := ⟨w.heap.size + 1, 0, none⟩) (v := .string U) (by first | (go_simp; done) | (go_simp; exact k1.1)))
  have HXE : Hid (Ext W3 w3) := hide ((((Ext.refl W3).alloc _).drew).trans hx3)
  have g1 : w3.frozen? ⟨w.heap.size + 1, 0, none⟩ = false := (HXE.out.frozen (p := ⟨w.heap.size + 1, 0, none⟩) (by simp; omega)).trans k1.2
  have g2 : w3.frozen? ⟨w.heap.size + 1 + 1, 0, none⟩ = false := (HXE.out.frozen (p := ⟨w.heap.size + 1 + 1, 0, none⟩) (by simp; omega)).trans k2.2
  have g3 : w3.frozen? ⟨w.heap.size + 1 + 1 + 1, 0, none⟩ = false := (HXE.out.frozen (p := ⟨w.heap.size + 1 + 1 + 1, 0, none⟩) (by simp; omega)).trans k3
  have e2 := HXE.out.cellOf k2.1
  have e3 := HXE.out.cellOf (p := ⟨w.heap.size + 1 + 1 + 1, 0, none⟩) (v := .bool false) (by rw [hW3]; go_simp)
  have HE : Hid (Ext w w3 ∧ ∀ wx, Chg [w.heap.size + 1, w.heap.size + 1 + 1, w.heap.size + 1 + 1 + 1] w3 wx → RS wx (some A3) K) := hide ⟨?_, ?_⟩
  rotate_left 1
  · have h1 : Ext w w2 := ((((((Ext.refl w).alloc _).alloc _).alloc _).alloc _)).trans hx
    have h2 : Ext w W3 := by rw [hW3]; exact (h1.setCell (by show _ ≤ w.heap.size + 1; omega) _).setCell (by show _ ≤ w.heap.size + 1 + 1; omega) _
    exact h2.trans HXE.out
  · intro wx hC
    refine hR4.chg hC fun ad had hm => ?_
    injection had with had
    subst had
    simp at hA3 hm
    omega
  have HAD : Hid (w.heap.size ≤ A3.block) := hide (by simp at hA3; omega)
  have n13 : ¬ w.heap.size + 1 = w.heap.size + 1 + 1 + 1 := by omega
  have n23 : ¬ w.heap.size + 1 + 1 = w.heap.size + 1 + 1 + 1 := by omega
  have n31 : ¬ w.heap.size + 1 + 1 + 1 = w.heap.size + 1 := by omega
  have n32 : ¬ w.heap.size + 1 + 1 + 1 = w.heap.size + 1 + 1 := by omega
  obtain ⟨k1, k1f⟩ := k1
  obtain ⟨k2, k2f⟩ := k2
  have nn1 : ¬ W3.heap.size = w.heap.size + 1 := by omega
  have nn2 : ¬ W3.heap.size = w.heap.size + 1 + 1 := by omega
  have nn3 : ¬ W3.heap.size = w.heap.size + 1 + 1 + 1 := by omega
  clear hR hx hA hR3 hR4 hx3 hA3 hC3 DS HXE
  go_wp2
  rw [← hW3]
  clear hW3 c1 c2 c3 f1 f2 f3 x1 x2 x3
  rw [← hk3] at hrun3
  have a1 : ∀ o, (W3.alloc o).cell? ⟨w.heap.size + 1, 0, none⟩ = some (.string U) := fun o => (World.cell?_alloc_lt W3 o ⟨w.heap.size + 1, 0, none⟩ (by show w.heap.size + 1 < _; omega)).trans k1
  have a2 : ∀ o, (W3.alloc o).cell? ⟨w.heap.size + 1 + 1, 0, none⟩ = some (.slice A' K.length cap) := fun o => (World.cell?_alloc_lt W3 o ⟨w.heap.size + 1 + 1, 0, none⟩ (by show w.heap.size + 1 + 1 < _; omega)).trans k2
  have s1 : ∀ v, (w3.setCell ⟨w.heap.size + 1 + 1, 0, none⟩ v).cell? ⟨w.heap.size + 1, 0, none⟩ = some (.string U) := fun v => by rw [World.cell?_setCell_other _ _ _ _ (by simp)]; exact e1
  clear hk3 s1
  refine wp_region_noPanic ?_
  refine wp_region_any (by kernel_rfl) ?_
  change wpAny _ _ _ _ _ _ _ (World.drew _)
  refine wpAny_ready (rs := [0, 1, 2]) (by kernel_rfl) (by simp) ?_
  refine AllReady.cons rfl (fun K0 hK => ?_) ?_
  · go_simp
    refine hK _ _ ?_
    clear hK K0
    refine wpAny_ready (rs := [1, 2]) (by kernel_rfl) (by simp) ?_
    refine AllReady.cons rfl (fun K0 hK => ?_) ?_
    · go_simp
      refine hK _ _ ?_
      clear hK K0
      refine wpAny_ready (rs := [2]) (by kernel_rfl) (by simp) ?_
      refine AllReady.cons rfl (fun K0 hK => ?_) ?_
      · go_simp
        refine hK _ _ ?_
        clear hK K0
        refine wpAny_ready (rs := [3]) (by kernel_rfl) (by simp) ?_
        refine AllReady.cons rfl (fun K0 hK => ?_) ?_
        · refine step_append_run rfl _ _ _ _ rfl _ _ _ rfl rfl hrun3 ?_
          refine hK _ _ ?_
          clear hK K0
          refine wpAny_ready (rs := [4]) (by kernel_rfl) (by simp) ?_
          refine AllReady.cons rfl (fun K0 hK => ?_) ?_
          · go_simp
            refine hK _ _ ?_
            clear hK K0
            refine wpAny_ready (rs := [5]) (by kernel_rfl) (by simp) ?_
            refine AllReady.cons rfl (fun K0 hK => ?_) ?_
            · go_simp
              refine hK _ _ ?_
              clear hK K0
              refine wpAny_ready (rs := [6]) (by kernel_rfl) (by simp) ?_
              refine AllReady.cons rfl (fun K0 hK => ?_) ?_
              · go_simp
                refine hK _ _ ?_
                clear hK K0
                refine wpAny_done (by kernel_rfl) ?_ _
                refine NoPanic.normal ?_
                go_wp2
                refine door_idle (scan1_idle _ _) (by simp [go_sem]) ?_
                refine ⟨.tuple #[.string U, .slice (some A3) K.length cp3, .bool true], ?_, ⟨some A3, cp3, rfl, HE.out.2 _ ?_, ?_, fun ad had => by injection had with had; subst had; exact HAD.out⟩⟩
                · simp [results, Tryd.results16, go_sem, e1, e2, e3, g1, g2, g3, n12, n21, n13, n23, n31, n32]
                · exact (((Chg.refl _ _).setCell (.inl (by simp)) _).setCell (.inl (by simp)) _).setCell (.inl (by simp)) _
                · exact ((HE.out.1.setCell (by show _ ≤ w.heap.size + 1; omega) _).setCell (by show _ ≤ w.heap.size + 1 + 1; omega) _).setCell (by show _ ≤ w.heap.size + 1 + 1 + 1; omega) _
              exact AllReady.nil
            exact AllReady.nil
          exact AllReady.nil
        exact AllReady.nil
      exact AllReady.nil
    refine AllReady.cons rfl (fun K0 hK => ?_) ?_
    · go_simp
      refine hK _ _ ?_
      clear hK K0
      refine wpAny_ready (rs := [1]) (by kernel_rfl) (by simp) ?_
      refine AllReady.cons rfl (fun K0 hK => ?_) ?_
      · go_simp
        refine hK _ _ ?_
        clear hK K0
        refine wpAny_ready (rs := [3]) (by kernel_rfl) (by simp) ?_
        refine AllReady.cons rfl (fun K0 hK => ?_) ?_
        · refine step_append_run rfl _ _ _ _ rfl _ _ _ rfl rfl hrun3 ?_
          refine hK _ _ ?_
          clear hK K0
          refine wpAny_ready (rs := [4]) (by kernel_rfl) (by simp) ?_
          refine AllReady.cons rfl (fun K0 hK => ?_) ?_
          · go_simp
            refine hK _ _ ?_
            clear hK K0
            refine wpAny_ready (rs := [5]) (by kernel_rfl) (by simp) ?_
            refine AllReady.cons rfl (fun K0 hK => ?_) ?_
            · go_simp
              refine hK _ _ ?_
              clear hK K0
              refine wpAny_ready (rs := [6]) (by kernel_rfl) (by simp) ?_
              refine AllReady.cons rfl (fun K0 hK => ?_) ?_
              · go_simp
                refine hK _ _ ?_
                clear hK K0
                refine wpAny_done (by kernel_rfl) ?_ _
                refine NoPanic.normal ?_
                go_wp2
                refine door_idle (scan1_idle _ _) (by simp [go_sem]) ?_
                refine ⟨.tuple #[.string U, .slice (some A3) K.length cp3, .bool true], ?_, ⟨some A3, cp3, rfl, HE.out.2 _ ?_, ?_, fun ad had => by injection had with had; subst had; exact HAD.out⟩⟩
                · simp [results, Tryd.results16, go_sem, e1, e2, e3, g1, g2, g3, n12, n21, n13, n23, n31, n32]
                · exact (((Chg.refl _ _).setCell (.inl (by simp)) _).setCell (.inl (by simp)) _).setCell (.inl (by simp)) _
                · exact ((HE.out.1.setCell (by show _ ≤ w.heap.size + 1; omega) _).setCell (by show _ ≤ w.heap.size + 1 + 1; omega) _).setCell (by show _ ≤ w.heap.size + 1 + 1 + 1; omega) _
              exact AllReady.nil
            exact AllReady.nil
          exact AllReady.nil
        exact AllReady.nil
      exact AllReady.nil
    exact AllReady.nil
  refine AllReady.cons rfl (fun K0 hK => ?_) ?_
  · go_simp
    refine hK _ _ ?_
    clear hK K0
    refine wpAny_ready (rs := [0, 2]) (by kernel_rfl) (by simp) ?_
    refine AllReady.cons rfl (fun K0 hK => ?_) ?_
    · go_simp
      refine hK _ _ ?_
      clear hK K0
      refine wpAny_ready (rs := [2]) (by kernel_rfl) (by simp) ?_
      refine AllReady.cons rfl (fun K0 hK => ?_) ?_
      · go_simp
        refine hK _ _ ?_
        clear hK K0
        refine wpAny_ready (rs := [3]) (by kernel_rfl) (by simp) ?_
        refine AllReady.cons rfl (fun K0 hK => ?_) ?_
        · refine step_append_run rfl _ _ _ _ rfl _ _ _ rfl rfl hrun3 ?_
          refine hK _ _ ?_
          clear hK K0
          refine wpAny_ready (rs := [4]) (by kernel_rfl) (by simp) ?_
          refine AllReady.cons rfl (fun K0 hK => ?_) ?_
          · go_simp
            refine hK _ _ ?_
            clear hK K0
            refine wpAny_ready (rs := [5]) (by kernel_rfl) (by simp) ?_
            refine AllReady.cons rfl (fun K0 hK => ?_) ?_
            · go_simp
              refine hK _ _ ?_
              clear hK K0
              refine wpAny_ready (rs := [6]) (by kernel_rfl) (by simp) ?_
              refine AllReady.cons rfl (fun K0 hK => ?_) ?_
              · go_simp
                refine hK _ _ ?_
                clear hK K0
                refine wpAny_done (by kernel_rfl) ?_ _
                refine NoPanic.normal ?_
                go_wp2
                refine door_idle (scan1_idle _ _) (by simp [go_sem]) ?_
                refine ⟨.tuple #[.string U, .slice (some A3) K.length cp3, .bool true], ?_, ⟨some A3, cp3, rfl, HE.out.2 _ ?_, ?_, fun ad had => by injection had with had; subst had; exact HAD.out⟩⟩
                · simp [results, Tryd.results16, go_sem, e1, e2, e3, g1, g2, g3, n12, n21, n13, n23, n31, n32]
                · exact (((Chg.refl _ _).setCell (.inl (by simp)) _).setCell (.inl (by simp)) _).setCell (.inl (by simp)) _
                · exact ((HE.out.1.setCell (by show _ ≤ w.heap.size + 1; omega) _).setCell (by show _ ≤ w.heap.size + 1 + 1; omega) _).setCell (by show _ ≤ w.heap.size + 1 + 1 + 1; omega) _
              exact AllReady.nil
            exact AllReady.nil
          exact AllReady.nil
        exact AllReady.nil
      exact AllReady.nil
    refine AllReady.cons rfl (fun K0 hK => ?_) ?_
    · go_simp
      refine hK _ _ ?_
      clear hK K0
      refine wpAny_ready (rs := [0, 3]) (by kernel_rfl) (by simp) ?_
      refine AllReady.cons rfl (fun K0 hK => ?_) ?_
      · go_simp
        refine hK _ _ ?_
        clear hK K0
        refine wpAny_ready (rs := [3]) (by kernel_rfl) (by simp) ?_
        refine AllReady.cons rfl (fun K0 hK => ?_) ?_
        · refine step_append_run rfl _ _ _ _ rfl _ _ _ rfl rfl hrun3 ?_
          refine hK _ _ ?_
          clear hK K0
          refine wpAny_ready (rs := [4]) (by kernel_rfl) (by simp) ?_
          refine AllReady.cons rfl (fun K0 hK => ?_) ?_
          · go_simp
            refine hK _ _ ?_
            clear hK K0
            refine wpAny_ready (rs := [5]) (by kernel_rfl) (by simp) ?_
            refine AllReady.cons rfl (fun K0 hK => ?_) ?_
            · go_simp
              refine hK _ _ ?_
              clear hK K0
              refine wpAny_ready (rs := [6]) (by kernel_rfl) (by simp) ?_
              refine AllReady.cons rfl (fun K0 hK => ?_) ?_
              · go_simp
                refine hK _ _ ?_
                clear hK K0
                refine wpAny_done (by kernel_rfl) ?_ _
                refine NoPanic.normal ?_
                go_wp2
                refine door_idle (scan1_idle _ _) (by simp [go_sem]) ?_
                refine ⟨.tuple #[.string U, .slice (some A3) K.length cp3, .bool true], ?_, ⟨some A3, cp3, rfl, HE.out.2 _ ?_, ?_, fun ad had => by injection had with had; subst had; exact HAD.out⟩⟩
                · simp [results, Tryd.results16, go_sem, e1, e2, e3, g1, g2, g3, n12, n21, n13, n23, n31, n32]
                · exact (((Chg.refl _ _).setCell (.inl (by simp)) _).setCell (.inl (by simp)) _).setCell (.inl (by simp)) _
                · exact ((HE.out.1.setCell (by show _ ≤ w.heap.size + 1; omega) _).setCell (by show _ ≤ w.heap.size + 1 + 1; omega) _).setCell (by show _ ≤ w.heap.size + 1 + 1 + 1; omega) _
              exact AllReady.nil
            exact AllReady.nil
          exact AllReady.nil
        exact AllReady.nil
      refine AllReady.cons rfl (fun K0 hK => ?_) ?_
      · refine step_append_run rfl _ _ _ _ rfl _ _ _ rfl rfl hrun3 ?_
        refine hK _ _ ?_
        clear hK K0
        refine wpAny_ready (rs := [0]) (by kernel_rfl) (by simp) ?_
        refine AllReady.cons rfl (fun K0 hK => ?_) ?_
        · go_simp
          refine hK _ _ ?_
          clear hK K0
          refine wpAny_ready (rs := [4]) (by kernel_rfl) (by simp) ?_
          refine AllReady.cons rfl (fun K0 hK => ?_) ?_
          · go_simp
            refine hK _ _ ?_
            clear hK K0
            refine wpAny_ready (rs := [5]) (by kernel_rfl) (by simp) ?_
            refine AllReady.cons rfl (fun K0 hK => ?_) ?_
            · go_simp
              refine hK _ _ ?_
              clear hK K0
              refine wpAny_ready (rs := [6]) (by kernel_rfl) (by simp) ?_
              refine AllReady.cons rfl (fun K0 hK => ?_) ?_
              · go_simp
                refine hK _ _ ?_
                clear hK K0
                refine wpAny_done (by kernel_rfl) ?_ _
                refine NoPanic.normal ?_
                go_wp2
                refine door_idle (scan1_idle _ _) (by simp [go_sem]) ?_
                refine ⟨.tuple #[.string U, .slice (some A3) K.length cp3, .bool true], ?_, ⟨some A3, cp3, rfl, HE.out.2 _ ?_, ?_, fun ad had => by injection had with had; subst had; exact HAD.out⟩⟩
                · simp [results, Tryd.results16, go_sem, e1, e2, e3, g1, g2, g3, n12, n21, n13, n23, n31, n32]
                · exact (((Chg.refl _ _).setCell (.inl (by simp)) _).setCell (.inl (by simp)) _).setCell (.inl (by simp)) _
                · exact ((HE.out.1.setCell (by show _ ≤ w.heap.size + 1; omega) _).setCell (by show _ ≤ w.heap.size + 1 + 1; omega) _).setCell (by show _ ≤ w.heap.size + 1 + 1 + 1; omega) _
              exact AllReady.nil
            exact AllReady.nil
          exact AllReady.nil
        exact AllReady.nil
      exact AllReady.nil
    exact AllReady.nil
  refine AllReady.cons rfl (fun K0 hK => ?_) ?_
  · go_simp
    refine hK _ _ ?_
    clear hK K0
    refine wpAny_ready (rs := [0, 1]) (by kernel_rfl) (by simp) ?_
    refine AllReady.cons rfl (fun K0 hK => ?_) ?_
    · go_simp
      refine hK _ _ ?_
      clear hK K0
      refine wpAny_ready (rs := [1]) (by kernel_rfl) (by simp) ?_
      refine AllReady.cons rfl (fun K0 hK => ?_) ?_
      · go_simp
        refine hK _ _ ?_
        clear hK K0
        refine wpAny_ready (rs := [3]) (by kernel_rfl) (by simp) ?_
        refine AllReady.cons rfl (fun K0 hK => ?_) ?_
        · refine step_append_run rfl _ _ _ _ rfl _ _ _ rfl rfl hrun3 ?_
          refine hK _ _ ?_
          clear hK K0
          refine wpAny_ready (rs := [4]) (by kernel_rfl) (by simp) ?_
          refine AllReady.cons rfl (fun K0 hK => ?_) ?_
          · go_simp
            refine hK _ _ ?_
            clear hK K0
            refine wpAny_ready (rs := [5]) (by kernel_rfl) (by simp) ?_
            refine AllReady.cons rfl (fun K0 hK => ?_) ?_
            · go_simp
              refine hK _ _ ?_
              clear hK K0
              refine wpAny_ready (rs := [6]) (by kernel_rfl) (by simp) ?_
              refine AllReady.cons rfl (fun K0 hK => ?_) ?_
              · go_simp
                refine hK _ _ ?_
                clear hK K0
                refine wpAny_done (by kernel_rfl) ?_ _
                refine NoPanic.normal ?_
                go_wp2
                refine door_idle (scan1_idle _ _) (by simp [go_sem]) ?_
                refine ⟨.tuple #[.string U, .slice (some A3) K.length cp3, .bool true], ?_, ⟨some A3, cp3, rfl, HE.out.2 _ ?_, ?_, fun ad had => by injection had with had; subst had; exact HAD.out⟩⟩
                · simp [results, Tryd.results16, go_sem, e1, e2, e3, g1, g2, g3, n12, n21, n13, n23, n31, n32]
                · exact (((Chg.refl _ _).setCell (.inl (by simp)) _).setCell (.inl (by simp)) _).setCell (.inl (by simp)) _
                · exact ((HE.out.1.setCell (by show _ ≤ w.heap.size + 1; omega) _).setCell (by show _ ≤ w.heap.size + 1 + 1; omega) _).setCell (by show _ ≤ w.heap.size + 1 + 1 + 1; omega) _
              exact AllReady.nil
            exact AllReady.nil
          exact AllReady.nil
        exact AllReady.nil
      exact AllReady.nil
    refine AllReady.cons rfl (fun K0 hK => ?_) ?_
    · go_simp
      refine hK _ _ ?_
      clear hK K0
      refine wpAny_ready (rs := [0, 3]) (by kernel_rfl) (by simp) ?_
      refine AllReady.cons rfl (fun K0 hK => ?_) ?_
      · go_simp
        refine hK _ _ ?_
        clear hK K0
        refine wpAny_ready (rs := [3]) (by kernel_rfl) (by simp) ?_
        refine AllReady.cons rfl (fun K0 hK => ?_) ?_
        · refine step_append_run rfl _ _ _ _ rfl _ _ _ rfl rfl hrun3 ?_
          refine hK _ _ ?_
          clear hK K0
          refine wpAny_ready (rs := [4]) (by kernel_rfl) (by simp) ?_
          refine AllReady.cons rfl (fun K0 hK => ?_) ?_
          · go_simp
            refine hK _ _ ?_
            clear hK K0
            refine wpAny_ready (rs := [5]) (by kernel_rfl) (by simp) ?_
            refine AllReady.cons rfl (fun K0 hK => ?_) ?_
            · go_simp
              refine hK _ _ ?_
              clear hK K0
              refine wpAny_ready (rs := [6]) (by kernel_rfl) (by simp) ?_
              refine AllReady.cons rfl (fun K0 hK => ?_) ?_
              · go_simp
                refine hK _ _ ?_
                clear hK K0
                refine wpAny_done (by kernel_rfl) ?_ _
                refine NoPanic.normal ?_
                go_wp2
                refine door_idle (scan1_idle _ _) (by simp [go_sem]) ?_
                refine ⟨.tuple #[.string U, .slice (some A3) K.length cp3, .bool true], ?_, ⟨some A3, cp3, rfl, HE.out.2 _ ?_, ?_, fun ad had => by injection had with had; subst had; exact HAD.out⟩⟩
                · simp [results, Tryd.results16, go_sem, e1, e2, e3, g1, g2, g3, n12, n21, n13, n23, n31, n32]
                · exact (((Chg.refl _ _).setCell (.inl (by simp)) _).setCell (.inl (by simp)) _).setCell (.inl (by simp)) _
                · exact ((HE.out.1.setCell (by show _ ≤ w.heap.size + 1; omega) _).setCell (by show _ ≤ w.heap.size + 1 + 1; omega) _).setCell (by show _ ≤ w.heap.size + 1 + 1 + 1; omega) _
              exact AllReady.nil
            exact AllReady.nil
          exact AllReady.nil
        exact AllReady.nil
      refine AllReady.cons rfl (fun K0 hK => ?_) ?_
      · refine step_append_run rfl _ _ _ _ rfl _ _ _ rfl rfl hrun3 ?_
        refine hK _ _ ?_
        clear hK K0
        refine wpAny_ready (rs := [0]) (by kernel_rfl) (by simp) ?_
        refine AllReady.cons rfl (fun K0 hK => ?_) ?_
        · go_simp
          refine hK _ _ ?_
          clear hK K0
          refine wpAny_ready (rs := [4]) (by kernel_rfl) (by simp) ?_
          refine AllReady.cons rfl (fun K0 hK => ?_) ?_
          · go_simp
            refine hK _ _ ?_
            clear hK K0
            refine wpAny_ready (rs := [5]) (by kernel_rfl) (by simp) ?_
            refine AllReady.cons rfl (fun K0 hK => ?_) ?_
            · go_simp
              refine hK _ _ ?_
              clear hK K0
              refine wpAny_ready (rs := [6]) (by kernel_rfl) (by simp) ?_
              refine AllReady.cons rfl (fun K0 hK => ?_) ?_
              · go_simp
                refine hK _ _ ?_
                clear hK K0
                refine wpAny_done (by kernel_rfl) ?_ _
                refine NoPanic.normal ?_
                go_wp2
                refine door_idle (scan1_idle _ _) (by simp [go_sem]) ?_
                refine ⟨.tuple #[.string U, .slice (some A3) K.length cp3, .bool true], ?_, ⟨some A3, cp3, rfl, HE.out.2 _ ?_, ?_, fun ad had => by injection had with had; subst had; exact HAD.out⟩⟩
                · simp [results, Tryd.results16, go_sem, e1, e2, e3, g1, g2, g3, n12, n21, n13, n23, n31, n32]
                · exact (((Chg.refl _ _).setCell (.inl (by simp)) _).setCell (.inl (by simp)) _).setCell (.inl (by simp)) _
                · exact ((HE.out.1.setCell (by show _ ≤ w.heap.size + 1; omega) _).setCell (by show _ ≤ w.heap.size + 1 + 1; omega) _).setCell (by show _ ≤ w.heap.size + 1 + 1 + 1; omega) _
              exact AllReady.nil
            exact AllReady.nil
          exact AllReady.nil
        exact AllReady.nil
      exact AllReady.nil
    exact AllReady.nil
  exact AllReady.nil
end Go.Proofs.YtepeokoeempfgaaDoor
