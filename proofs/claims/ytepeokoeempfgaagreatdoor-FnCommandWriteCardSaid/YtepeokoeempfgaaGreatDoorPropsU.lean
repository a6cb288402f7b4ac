/-
  DefaultActionProperties.
-/
import Derived.Test.YtepeokoeempfgaaGreatDoorProps
import Derived.Test.YtepeokoeempfgaaGreatDoorStreamsU
namespace Go.Proofs.YtepeokoeempfgaaGreatDoor
open Go.RowKit
set_option linter.unusedVariables false
set_option linter.unusedSimpArgs false

set_option maxRecDepth 100000 in
set_option maxHeartbeats 4000000 in
theorem propsU_any (s : ByteArray) (A : Option Addr) (cap : Nat) (B : Nat → Prop) (n : Nat) (l : List ByteArray) (w : World) (hn : l.length = n) (hs1 : s.size ≤ 1000000) (hT : TabsU w) (hR : RS w A l) (hl : n ≤ 1000) (hc : n ≤ cap) (hm : cap ≤ maxLen) (hs : ∀ s ∈ l, s.size ≤ 1000000) (hB : ∀ ad, A = some ad → B ad.block) (hBw : ∀ i, w.heap.size ≤ i → B i) :
    Calls Tryz.prog 32 #[.string s, .slice A n cap] w (RetT w B (keysOfU (upU s).toList (bareK.contains (upU s).data.toList) l) (!blockK.contains (upU s).data.toList)) := by
  have HT := hide hT
  have TU : Hid (∀ w1, Ext w w1 → Calls Tryz.prog 37 #[.string s] w1 fun e w' => e = .returned (.string (upU s)) ∧ Ext w1 w') := hide fun w1 hx => toUpperU_any s w1 hs1 (hT.ext hx)
  clear hT
  generalize upU s = U at TU ⊢
  have LKB : Hid (∀ w m, MapAt w m blockK → (Instr.lookup 111 (.map (some m)) (.string U) false).run Tryz.prog w = .ok (.bool (blockK.contains U.data.toList)) w) := hide fun w m hM =>
    run_lookup_set Tryz.underlying111 Tryz.underlying9 (fun _ => by kernel_rfl) w m _ hM U
  have LKN : Hid (∀ w m, MapAt w m bareK → (Instr.lookup 111 (.map (some m)) (.string U) false).run Tryz.prog w = .ok (.bool (bareK.contains U.data.toList)) w) := hide fun w m hM =>
    run_lookup_set Tryz.underlying111 Tryz.underlying9 (fun _ => by kernel_rfl) w m _ hM U
  generalize bareK.contains U.data.toList = V at LKN ⊢
  generalize blockK.contains U.data.toList = F at LKB ⊢
  have HBM := hide blocking_any
  have HNM := hide noKey_any
  have HM := hide hm
  unfold maxLen at hm
  have HR := hide hR
  have HS := hide hs
  have HBB := hide hB
  have HN := hide hn
  have HBW := hide hBw
  by_cases h0 : n = 0
  · rw [keys_nilU (by rw [hn]; exact h0)]
    subst h0
    clear hR hs hB hn hBw
    cases V with
    | true =>
      go_enter Tryz.func32, Tryz.ntmps32
      go_wp2_with fail
      refine (HBM.out _).mono ?_
      rintro e w1 ⟨m1, rfl, hx1, hM1⟩
      have HM1 := hide hM1
      have HX1 := hide hx1
      clear hx1 hM1
      go_wp2_with fail
      refine (TU.out _ (((Ext.refl w).alloc _).trans HX1.out)).mono ?_
      rintro e w2 ⟨rfl, hx2⟩
      have lk := LKB.out w2 m1 (HM1.out.ext hx2)
      have HX2 := hide hx2
      clear hx2
      go_wp2_with fail
      refine (TU.out _ (((((Ext.refl w).alloc _).trans HX1.out).trans HX2.out).alloc _)).mono ?_
      rintro e w3 ⟨rfl, hx3⟩
      have HP : Hid (PB w w.heap.size w2.heap.size (!F) w3) := hide ⟨(((Blk.new w _ _).chg (Chg.of_ext HX1.out []) (by simp)).chg (Chg.of_ext HX2.out []) (by simp)).chg (Chg.of_ext ((Ext.alloc (Ext.refl w2) _).trans hx3) []) (by simp),
        (Blk.new w2 _ _).chg (Chg.of_ext hx3 []) (by simp), by have h1 := HX1.out.sizes; have h2 := HX2.out.sizes; simp at h1; omega, Nat.le_refl _, by have h1 := HX1.out.sizes; have h2 := HX2.out.sizes; simp at h1; omega,
        (((((Ext.refl w).alloc _).trans HX1.out).trans HX2.out).alloc _).trans hx3⟩
      clear hx3 lk HX1 HX2 HM1
      go_wp2_with fail
      refine (HNM.out _).mono ?_
      rintro e w4 ⟨m4, rfl, hx4, hM4⟩
      have lk := LKN.out w4 m4 hM4
      have HP := hide (HP.out.on hx4)
      clear hx4 hM4
      obtain ⟨⟨c0, c1, c2, c3⟩, ⟨d0, d1, d2, d3⟩, ⟨f0, f1, f2, f3⟩, g0, nn1, nn2⟩ := HP.out.cells
      go_wp2
      exact bodyPost_ret (v := traits none 0 0 true (!F) (!F)) (by simp [results, Tryz.results32, go_sem, traits, c0, c1, c2, c3, f0, f1, f2, f3, d0, d1, d2, d3, g0, nn1, nn2]) rfl HP.out.none_
    | false =>
      go_enter Tryz.func32, Tryz.ntmps32
      go_wp2_with fail
      refine (HBM.out _).mono ?_
      rintro e w1 ⟨m1, rfl, hx1, hM1⟩
      have HM1 := hide hM1
      have HX1 := hide hx1
      clear hx1 hM1
      go_wp2_with fail
      refine (TU.out _ (((Ext.refl w).alloc _).trans HX1.out)).mono ?_
      rintro e w2 ⟨rfl, hx2⟩
      have lk := LKB.out w2 m1 (HM1.out.ext hx2)
      have HX2 := hide hx2
      clear hx2
      go_wp2_with fail
      refine (TU.out _ (((((Ext.refl w).alloc _).trans HX1.out).trans HX2.out).alloc _)).mono ?_
      rintro e w3 ⟨rfl, hx3⟩
      have HP : Hid (PB w w.heap.size w2.heap.size (!F) w3) := hide ⟨(((Blk.new w _ _).chg (Chg.of_ext HX1.out []) (by simp)).chg (Chg.of_ext HX2.out []) (by simp)).chg (Chg.of_ext ((Ext.alloc (Ext.refl w2) _).trans hx3) []) (by simp),
        (Blk.new w2 _ _).chg (Chg.of_ext hx3 []) (by simp), by have h1 := HX1.out.sizes; have h2 := HX2.out.sizes; simp at h1; omega, Nat.le_refl _, by have h1 := HX1.out.sizes; have h2 := HX2.out.sizes; simp at h1; omega,
        (((((Ext.refl w).alloc _).trans HX1.out).trans HX2.out).alloc _).trans hx3⟩
      clear hx3 lk HX1 HX2 HM1
      go_wp2_with fail
      refine (HNM.out _).mono ?_
      rintro e w4 ⟨m4, rfl, hx4, hM4⟩
      have lk := LKN.out w4 m4 hM4
      have HP := hide (HP.out.on hx4)
      clear hx4 hM4
      obtain ⟨⟨c0, c1, c2, c3⟩, ⟨d0, d1, d2, d3⟩, ⟨f0, f1, f2, f3⟩, g0, nn1, nn2⟩ := HP.out.cells
      go_wp2
      exact bodyPost_ret (v := traits none 0 0 true (!F) (!F)) (by simp [results, Tryz.results32, go_sem, traits, c0, c1, c2, c3, f0, f1, f2, f3, d0, d1, d2, d3, g0, nn1, nn2]) rfl HP.out.none_
  have hne : ((n : Int) == 0) = false := by rw [beq_eq_false_iff_ne]; omega
  have hn1 : 1 ≤ n := by omega
  obtain ⟨ad, rfl, hab, hcell⟩ := hR.addr (by rw [hn]; omega)
  have HAB := hide hab
  have HC0 : Hid (w.cell? ad = some (.string (l.getD 0 ⟨#[]⟩)) ∧ (l.getD 0 ⟨#[]⟩).size ≤ 1000000) := hide (by
    have h := hcell 0 (by omega)
    have e : l.getD 0 ⟨#[]⟩ = l[0]'(by omega) := by rw [List.getD_eq_getElem?_getD, List.getElem?_eq_getElem (by omega)]; rfl
    have e2 : ad.add 0 = ad := by unfold Addr.add; simp
    rw [e2] at h
    rw [e]
    exact ⟨h, hs _ (List.getElem_mem _)⟩)
  have HB := hide (hB ad rfl)
  clear hcell hab
  cases V with
  | true =>
    rw [keys_bareU]
    clear hR hs hB hn h0 hBw
    go_enter Tryz.func32, Tryz.ntmps32
    go_wp2_with fail
    refine (HBM.out _).mono ?_
    rintro e w1 ⟨m1, rfl, hx1, hM1⟩
    have HM1 := hide hM1
    have HX1 := hide hx1
    clear hx1 hM1
    go_wp2_with fail
    refine (TU.out _ (((Ext.refl w).alloc _).trans HX1.out)).mono ?_
    rintro e w2 ⟨rfl, hx2⟩
    have lk := LKB.out w2 m1 (HM1.out.ext hx2)
    have HX2 := hide hx2
    clear hx2
    go_wp2_with fail
    refine (TU.out _ (((((Ext.refl w).alloc _).trans HX1.out).trans HX2.out).alloc _)).mono ?_
    rintro e w3 ⟨rfl, hx3⟩
    have HP : Hid (PB w w.heap.size w2.heap.size (!F) w3) := hide ⟨(((Blk.new w _ _).chg (Chg.of_ext HX1.out []) (by simp)).chg (Chg.of_ext HX2.out []) (by simp)).chg (Chg.of_ext ((Ext.alloc (Ext.refl w2) _).trans hx3) []) (by simp),
      (Blk.new w2 _ _).chg (Chg.of_ext hx3 []) (by simp), by have h1 := HX1.out.sizes; have h2 := HX2.out.sizes; simp at h1; omega, Nat.le_refl _, by have h1 := HX1.out.sizes; have h2 := HX2.out.sizes; simp at h1; omega,
      (((((Ext.refl w).alloc _).trans HX1.out).trans HX2.out).alloc _).trans hx3⟩
    clear hx3 lk HX1 HX2 HM1
    go_wp2_with fail
    refine (HNM.out _).mono ?_
    rintro e w4 ⟨m4, rfl, hx4, hM4⟩
    have lk := LKN.out w4 m4 hM4
    have HP := hide (HP.out.on hx4)
    clear hx4 hM4
    obtain ⟨⟨c0, c1, c2, c3⟩, ⟨d0, d1, d2, d3⟩, ⟨f0, f1, f2, f3⟩, g0, nn1, nn2⟩ := HP.out.cells
    go_wp2
    exact bodyPost_ret (v := traits none 0 0 true (!F) (!F)) (by simp [results, Tryz.results32, go_sem, traits, c0, c1, c2, c3, f0, f1, f2, f3, d0, d1, d2, d3, g0, nn1, nn2]) rfl HP.out.none_
  | false =>
    rw [keys_kindU (by rw [hn]; exact h0), hn]
    clear hR hs hB hn h0 hBw
    generalize hu : U.toList = u
    rcases kind_cases u with ⟨hU, hk⟩ | ⟨hU, hk⟩ | ⟨hU, hk⟩ | ⟨hU, hk⟩ | ⟨hU, hk⟩ | ⟨hU, hk⟩ | ⟨hU, hk⟩ | ⟨n0, n1, n2, n3, n4, n5, n6, hk⟩
    · rw [hk]
      clear hk
      subst hU
      by_cases h1 : 1 < n
      · rw [show (if 1 < n then l.drop 1 else l.take 1) = l.drop 1 from if_pos h1]
        have b1 : decide (1 < (n : Int)) = true := decide_eq_true (by omega)
        go_enter Tryz.func32, Tryz.ntmps32
        go_wp2_with fail
        refine (HBM.out _).mono ?_
        rintro e w1 ⟨m1, rfl, hx1, hM1⟩
        have HM1 := hide hM1
        have HX1 := hide hx1
        clear hx1 hM1
        go_wp2_with fail
        refine (TU.out _ (((Ext.refl w).alloc _).trans HX1.out)).mono ?_
        rintro e w2 ⟨rfl, hx2⟩
        have lk := LKB.out w2 m1 (HM1.out.ext hx2)
        have HX2 := hide hx2
        clear hx2
        go_wp2_with fail
        refine (TU.out _ (((((Ext.refl w).alloc _).trans HX1.out).trans HX2.out).alloc _)).mono ?_
        rintro e w3 ⟨rfl, hx3⟩
        have HP : Hid (PB w w.heap.size w2.heap.size (!F) w3) := hide ⟨(((Blk.new w _ _).chg (Chg.of_ext HX1.out []) (by simp)).chg (Chg.of_ext HX2.out []) (by simp)).chg (Chg.of_ext ((Ext.alloc (Ext.refl w2) _).trans hx3) []) (by simp),
          (Blk.new w2 _ _).chg (Chg.of_ext hx3 []) (by simp), by have h1 := HX1.out.sizes; have h2 := HX2.out.sizes; simp at h1; omega, Nat.le_refl _, by have h1 := HX1.out.sizes; have h2 := HX2.out.sizes; simp at h1; omega,
          (((((Ext.refl w).alloc _).trans HX1.out).trans HX2.out).alloc _).trans hx3⟩
        clear hx3 lk HX1 HX2 HM1
        go_wp2_with fail
        refine (HNM.out _).mono ?_
        rintro e w4 ⟨m4, rfl, hx4, hM4⟩
        have lk := LKN.out w4 m4 hM4
        have HP := hide (HP.out.on hx4)
        clear hx4 hM4
        obtain ⟨⟨c0, c1, c2, c3⟩, ⟨d0, d1, d2, d3⟩, ⟨f0, f1, f2, f3⟩, g0, nn1, nn2⟩ := HP.out.cells
        go_wp2
        exact bodyPost_ret (v := traits (some ⟨ad.block, ad.off + 1, none⟩) (n - 1) (cap - 1) true (!F) (!F)) (by simp [results, Tryz.results32, go_sem, traits, c0, c1, c2, c3, f0, f1, f2, f3, d0, d1, d2, d3, g0, nn1, nn2]) rfl (HP.out.fin (ret_rest (HR.out.ext HP.out.ext) HN.out (by omega) hc HM.out (Ext.refl _) HB.out |>.before HP.out.ext))
      · rw [show (if 1 < n then l.drop 1 else l.take 1) = l.take 1 from if_neg h1]
        have b1 : decide (1 < (n : Int)) = false := decide_eq_false (by omega)
        go_enter Tryz.func32, Tryz.ntmps32
        go_wp2_with fail
        refine (HBM.out _).mono ?_
        rintro e w1 ⟨m1, rfl, hx1, hM1⟩
        have HM1 := hide hM1
        have HX1 := hide hx1
        clear hx1 hM1
        go_wp2_with fail
        refine (TU.out _ (((Ext.refl w).alloc _).trans HX1.out)).mono ?_
        rintro e w2 ⟨rfl, hx2⟩
        have lk := LKB.out w2 m1 (HM1.out.ext hx2)
        have HX2 := hide hx2
        clear hx2
        go_wp2_with fail
        refine (TU.out _ (((((Ext.refl w).alloc _).trans HX1.out).trans HX2.out).alloc _)).mono ?_
        rintro e w3 ⟨rfl, hx3⟩
        have HP : Hid (PB w w.heap.size w2.heap.size (!F) w3) := hide ⟨(((Blk.new w _ _).chg (Chg.of_ext HX1.out []) (by simp)).chg (Chg.of_ext HX2.out []) (by simp)).chg (Chg.of_ext ((Ext.alloc (Ext.refl w2) _).trans hx3) []) (by simp),
          (Blk.new w2 _ _).chg (Chg.of_ext hx3 []) (by simp), by have h1 := HX1.out.sizes; have h2 := HX2.out.sizes; simp at h1; omega, Nat.le_refl _, by have h1 := HX1.out.sizes; have h2 := HX2.out.sizes; simp at h1; omega,
          (((((Ext.refl w).alloc _).trans HX1.out).trans HX2.out).alloc _).trans hx3⟩
        clear hx3 lk HX1 HX2 HM1
        go_wp2_with fail
        refine (HNM.out _).mono ?_
        rintro e w4 ⟨m4, rfl, hx4, hM4⟩
        have lk := LKN.out w4 m4 hM4
        have HP := hide (HP.out.on hx4)
        clear hx4 hM4
        obtain ⟨⟨c0, c1, c2, c3⟩, ⟨d0, d1, d2, d3⟩, ⟨f0, f1, f2, f3⟩, g0, nn1, nn2⟩ := HP.out.cells
        go_wp2
        exact bodyPost_ret (v := traits (some ad) 1 cap true (!F) (!F)) (by simp [results, Tryz.results32, go_sem, traits, c0, c1, c2, c3, f0, f1, f2, f3, d0, d1, d2, d3, g0, nn1, nn2]) rfl (HP.out.fin (ret_take (HR.out.ext HP.out.ext) HN.out hn1 hc HM.out (Ext.refl _) HB.out |>.before HP.out.ext))
    · rw [hk]
      clear hk
      subst hU
      generalize hl0 : l.getD 0 ⟨#[]⟩ = a at HC0
      have US : Hid (∀ w1, Ext w w1 → Calls Tryz.prog 37 #[.string a] w1 fun e w' => e = .returned (.string (upU a)) ∧ Ext w1 w') := hide fun w1 hx => toUpperU_any a w1 HC0.out.2 (HT.out.ext hx)
      have hbu : ((upU a).toList == [85, 83, 65, 71, 69]) = isUsageU a := rfl
      clear hl0
      by_cases h1 : 1 < n
      · have b1 : decide (1 < (n : Int)) = true := decide_eq_true (by omega)
        cases hV : isUsageU a with
        | true =>
          rw [hV] at hbu
          rw [show (if 1 < n then (if true = true then (l.drop 1).take 1 else l.take 1) else l.take 1) = (l.drop 1).take 1 from by rw [if_pos h1]; rfl]
          clear hV
          go_enter Tryz.func32, Tryz.ntmps32
          go_wp2_with fail
          refine (HBM.out _).mono ?_
          rintro e w1 ⟨m1, rfl, hx1, hM1⟩
          have HM1 := hide hM1
          have HX1 := hide hx1
          clear hx1 hM1
          go_wp2_with fail
          refine (TU.out _ (((Ext.refl w).alloc _).trans HX1.out)).mono ?_
          rintro e w2 ⟨rfl, hx2⟩
          have lk := LKB.out w2 m1 (HM1.out.ext hx2)
          have HX2 := hide hx2
          clear hx2
          go_wp2_with fail
          refine (TU.out _ (((((Ext.refl w).alloc _).trans HX1.out).trans HX2.out).alloc _)).mono ?_
          rintro e w3 ⟨rfl, hx3⟩
          have HP : Hid (PB w w.heap.size w2.heap.size (!F) w3) := hide ⟨(((Blk.new w _ _).chg (Chg.of_ext HX1.out []) (by simp)).chg (Chg.of_ext HX2.out []) (by simp)).chg (Chg.of_ext ((Ext.alloc (Ext.refl w2) _).trans hx3) []) (by simp),
            (Blk.new w2 _ _).chg (Chg.of_ext hx3 []) (by simp), by have h1 := HX1.out.sizes; have h2 := HX2.out.sizes; simp at h1; omega, Nat.le_refl _, by have h1 := HX1.out.sizes; have h2 := HX2.out.sizes; simp at h1; omega,
            (((((Ext.refl w).alloc _).trans HX1.out).trans HX2.out).alloc _).trans hx3⟩
          clear hx3 lk HX1 HX2 HM1
          go_wp2_with fail
          refine (HNM.out _).mono ?_
          rintro e w4 ⟨m4, rfl, hx4, hM4⟩
          have lk := LKN.out w4 m4 hM4
          have HP := hide (HP.out.on hx4)
          clear hx4 hM4
          obtain ⟨⟨c0, c1, c2, c3⟩, ⟨d0, d1, d2, d3⟩, ⟨f0, f1, f2, f3⟩, g0, nn1, nn2⟩ := HP.out.cells
          have hc0 : w4.cell? ad = some (.string a) := by rw [HP.out.ext.cell HAB.out]; exact HC0.out.1
          go_wp2_with fail
          refine (US.out _ HP.out.ext).mono ?_
          rintro e w5 ⟨rfl, hx5⟩
          have HP := hide (HP.out.on hx5)
          clear hx5 hc0 c0 c1 c2 c3 d0 d1 d2 d3 f0 f1 f2 f3 g0 nn1 nn2
          obtain ⟨⟨c0, c1, c2, c3⟩, ⟨d0, d1, d2, d3⟩, ⟨f0, f1, f2, f3⟩, g0, nn1, nn2⟩ := HP.out.cells
          go_wp2
          exact bodyPost_ret (v := traits (some ⟨ad.block, ad.off + 1, none⟩) 1 (cap - 1) true (!F) (!F)) (by simp [results, Tryz.results32, go_sem, traits, c0, c1, c2, c3, f0, f1, f2, f3, d0, d1, d2, d3, g0, nn1, nn2]) rfl (HP.out.fin (ret_mid (HR.out.ext HP.out.ext) HN.out (by omega) hc HM.out (Ext.refl _) HB.out |>.before HP.out.ext))
        | false =>
          rw [hV] at hbu
          rw [show (if 1 < n then (if false = true then (l.drop 1).take 1 else l.take 1) else l.take 1) = l.take 1 from by rw [if_pos h1]; rfl]
          clear hV
          go_enter Tryz.func32, Tryz.ntmps32
          go_wp2_with fail
          refine (HBM.out _).mono ?_
          rintro e w1 ⟨m1, rfl, hx1, hM1⟩
          have HM1 := hide hM1
          have HX1 := hide hx1
          clear hx1 hM1
          go_wp2_with fail
          refine (TU.out _ (((Ext.refl w).alloc _).trans HX1.out)).mono ?_
          rintro e w2 ⟨rfl, hx2⟩
          have lk := LKB.out w2 m1 (HM1.out.ext hx2)
          have HX2 := hide hx2
          clear hx2
          go_wp2_with fail
          refine (TU.out _ (((((Ext.refl w).alloc _).trans HX1.out).trans HX2.out).alloc _)).mono ?_
          rintro e w3 ⟨rfl, hx3⟩
          have HP : Hid (PB w w.heap.size w2.heap.size (!F) w3) := hide ⟨(((Blk.new w _ _).chg (Chg.of_ext HX1.out []) (by simp)).chg (Chg.of_ext HX2.out []) (by simp)).chg (Chg.of_ext ((Ext.alloc (Ext.refl w2) _).trans hx3) []) (by simp),
            (Blk.new w2 _ _).chg (Chg.of_ext hx3 []) (by simp), by have h1 := HX1.out.sizes; have h2 := HX2.out.sizes; simp at h1; omega, Nat.le_refl _, by have h1 := HX1.out.sizes; have h2 := HX2.out.sizes; simp at h1; omega,
            (((((Ext.refl w).alloc _).trans HX1.out).trans HX2.out).alloc _).trans hx3⟩
          clear hx3 lk HX1 HX2 HM1
          go_wp2_with fail
          refine (HNM.out _).mono ?_
          rintro e w4 ⟨m4, rfl, hx4, hM4⟩
          have lk := LKN.out w4 m4 hM4
          have HP := hide (HP.out.on hx4)
          clear hx4 hM4
          obtain ⟨⟨c0, c1, c2, c3⟩, ⟨d0, d1, d2, d3⟩, ⟨f0, f1, f2, f3⟩, g0, nn1, nn2⟩ := HP.out.cells
          have hc0 : w4.cell? ad = some (.string a) := by rw [HP.out.ext.cell HAB.out]; exact HC0.out.1
          go_wp2_with fail
          refine (US.out _ HP.out.ext).mono ?_
          rintro e w5 ⟨rfl, hx5⟩
          have HP := hide (HP.out.on hx5)
          clear hx5 hc0 c0 c1 c2 c3 d0 d1 d2 d3 f0 f1 f2 f3 g0 nn1 nn2
          obtain ⟨⟨c0, c1, c2, c3⟩, ⟨d0, d1, d2, d3⟩, ⟨f0, f1, f2, f3⟩, g0, nn1, nn2⟩ := HP.out.cells
          go_wp2
          exact bodyPost_ret (v := traits (some ad) 1 cap true (!F) (!F)) (by simp [results, Tryz.results32, go_sem, traits, c0, c1, c2, c3, f0, f1, f2, f3, d0, d1, d2, d3, g0, nn1, nn2]) rfl (HP.out.fin (ret_take (HR.out.ext HP.out.ext) HN.out hn1 hc HM.out (Ext.refl _) HB.out |>.before HP.out.ext))
      · rw [show (if 1 < n then (if isUsageU a = true then (l.drop 1).take 1 else l.take 1) else l.take 1) = l.take 1 from if_neg h1]
        have b1 : decide (1 < (n : Int)) = false := decide_eq_false (by omega)
        go_enter Tryz.func32, Tryz.ntmps32
        go_wp2_with fail
        refine (HBM.out _).mono ?_
        rintro e w1 ⟨m1, rfl, hx1, hM1⟩
        have HM1 := hide hM1
        have HX1 := hide hx1
        clear hx1 hM1
        go_wp2_with fail
        refine (TU.out _ (((Ext.refl w).alloc _).trans HX1.out)).mono ?_
        rintro e w2 ⟨rfl, hx2⟩
        have lk := LKB.out w2 m1 (HM1.out.ext hx2)
        have HX2 := hide hx2
        clear hx2
        go_wp2_with fail
        refine (TU.out _ (((((Ext.refl w).alloc _).trans HX1.out).trans HX2.out).alloc _)).mono ?_
        rintro e w3 ⟨rfl, hx3⟩
        have HP : Hid (PB w w.heap.size w2.heap.size (!F) w3) := hide ⟨(((Blk.new w _ _).chg (Chg.of_ext HX1.out []) (by simp)).chg (Chg.of_ext HX2.out []) (by simp)).chg (Chg.of_ext ((Ext.alloc (Ext.refl w2) _).trans hx3) []) (by simp),
          (Blk.new w2 _ _).chg (Chg.of_ext hx3 []) (by simp), by have h1 := HX1.out.sizes; have h2 := HX2.out.sizes; simp at h1; omega, Nat.le_refl _, by have h1 := HX1.out.sizes; have h2 := HX2.out.sizes; simp at h1; omega,
          (((((Ext.refl w).alloc _).trans HX1.out).trans HX2.out).alloc _).trans hx3⟩
        clear hx3 lk HX1 HX2 HM1
        go_wp2_with fail
        refine (HNM.out _).mono ?_
        rintro e w4 ⟨m4, rfl, hx4, hM4⟩
        have lk := LKN.out w4 m4 hM4
        have HP := hide (HP.out.on hx4)
        clear hx4 hM4
        obtain ⟨⟨c0, c1, c2, c3⟩, ⟨d0, d1, d2, d3⟩, ⟨f0, f1, f2, f3⟩, g0, nn1, nn2⟩ := HP.out.cells
        go_wp2
        exact bodyPost_ret (v := traits (some ad) 1 cap true (!F) (!F)) (by simp [results, Tryz.results32, go_sem, traits, c0, c1, c2, c3, f0, f1, f2, f3, d0, d1, d2, d3, g0, nn1, nn2]) rfl (HP.out.fin (ret_take (HR.out.ext HP.out.ext) HN.out hn1 hc HM.out (Ext.refl _) HB.out |>.before HP.out.ext))
    · rw [hk]
      clear hk
      subst hU
      show Calls _ _ _ _ (RetT w B (pairsOf l) (!F))
      go_enter Tryz.func32, Tryz.ntmps32
      go_wp2_with fail
      refine (HBM.out _).mono ?_
      rintro e w1 ⟨m1, rfl, hx1, hM1⟩
      have HM1 := hide hM1
      have HX1 := hide hx1
      clear hx1 hM1
      go_wp2_with fail
      refine (TU.out _ (((Ext.refl w).alloc _).trans HX1.out)).mono ?_
      rintro e w2 ⟨rfl, hx2⟩
      have lk := LKB.out w2 m1 (HM1.out.ext hx2)
      have HX2 := hide hx2
      clear hx2
      go_wp2_with fail
      refine (TU.out _ (((((Ext.refl w).alloc _).trans HX1.out).trans HX2.out).alloc _)).mono ?_
      rintro e w3 ⟨rfl, hx3⟩
      have HP : Hid (PB w w.heap.size w2.heap.size (!F) w3) := hide ⟨(((Blk.new w _ _).chg (Chg.of_ext HX1.out []) (by simp)).chg (Chg.of_ext HX2.out []) (by simp)).chg (Chg.of_ext ((Ext.alloc (Ext.refl w2) _).trans hx3) []) (by simp),
        (Blk.new w2 _ _).chg (Chg.of_ext hx3 []) (by simp), by have h1 := HX1.out.sizes; have h2 := HX2.out.sizes; simp at h1; omega, Nat.le_refl _, by have h1 := HX1.out.sizes; have h2 := HX2.out.sizes; simp at h1; omega,
        (((((Ext.refl w).alloc _).trans HX1.out).trans HX2.out).alloc _).trans hx3⟩
      clear hx3 lk HX1 HX2 HM1
      go_wp2_with fail
      refine (HNM.out _).mono ?_
      rintro e w4 ⟨m4, rfl, hx4, hM4⟩
      have lk := LKN.out w4 m4 hM4
      have HP := hide (HP.out.on hx4)
      clear hx4 hM4
      obtain ⟨⟨c0, c1, c2, c3⟩, ⟨d0, d1, d2, d3⟩, ⟨f0, f1, f2, f3⟩, g0, nn1, nn2⟩ := HP.out.cells
      have HX4 := hide HP.out.ext
      have PK : Hid (Calls Tryz.prog 39 #[.slice (some ad) n cap] w4 (RetS w4 B (pairsOf l))) := hide (by
        have h := implPairs_any (some ad) cap l w4 (HR.out.ext HP.out.ext) (by rw [HN.out]; exact hl)
        rw [HN.out] at h
        refine h.mono ?_
        rintro e w6 ⟨A', c, h1, h2, h3, h4, h5, h6⟩
        exact ⟨A', c, h1, h2, h3, h4, h5, fun ad2 had => HBW.out _ (Nat.le_trans HP.out.ext.sizes (h6 ad2 had))⟩)
      go_wp2_with fail
      refine PK.out.mono ?_
      rintro e w5 ⟨A', c, rfl, hr⟩
      have HF := hide (show RetS w4 B (pairsOf l) (.returned (.slice A' (pairsOf l).length c)) w5 from ⟨A', c, rfl, hr⟩)
      have HP := hide (HP.out.on hr.2.1)
      clear hr PK c0 c1 c2 c3 d0 d1 d2 d3 f0 f1 f2 f3 g0 nn1 nn2
      obtain ⟨⟨c0, c1, c2, c3⟩, ⟨d0, d1, d2, d3⟩, ⟨f0, f1, f2, f3⟩, g0, nn1, nn2⟩ := HP.out.cells
      go_wp2
      exact bodyPost_ret (v := traits A' (pairsOf l).length c true (!F) (!F)) (by simp [results, Tryz.results32, go_sem, traits, c0, c1, c2, c3, f0, f1, f2, f3, d0, d1, d2, d3, g0, nn1, nn2]) rfl (HP.out.fin (HF.out.before HX4.out))
    · rw [hk]
      clear hk
      subst hU
      show Calls _ _ _ _ (RetT w B ((l.drop 1).take 1) (!F))
      by_cases h1 : n = 1
      · have hK : (l.drop 1).take 1 = [] := by rw [List.drop_eq_nil_of_le (by rw [HN.out]; omega)]; rfl
        rw [hK]
        have b1 : ¬ 2 ≤ (n : Int) := by omega
        clear hK h1
        go_enter Tryz.func32, Tryz.ntmps32
        go_wp2_with fail
        refine (HBM.out _).mono ?_
        rintro e w1 ⟨m1, rfl, hx1, hM1⟩
        have HM1 := hide hM1
        have HX1 := hide hx1
        clear hx1 hM1
        go_wp2_with fail
        refine (TU.out _ (((Ext.refl w).alloc _).trans HX1.out)).mono ?_
        rintro e w2 ⟨rfl, hx2⟩
        have lk := LKB.out w2 m1 (HM1.out.ext hx2)
        have HX2 := hide hx2
        clear hx2
        go_wp2_with fail
        refine (TU.out _ (((((Ext.refl w).alloc _).trans HX1.out).trans HX2.out).alloc _)).mono ?_
        rintro e w3 ⟨rfl, hx3⟩
        have HP : Hid (PB w w.heap.size w2.heap.size (!F) w3) := hide ⟨(((Blk.new w _ _).chg (Chg.of_ext HX1.out []) (by simp)).chg (Chg.of_ext HX2.out []) (by simp)).chg (Chg.of_ext ((Ext.alloc (Ext.refl w2) _).trans hx3) []) (by simp),
          (Blk.new w2 _ _).chg (Chg.of_ext hx3 []) (by simp), by have h1 := HX1.out.sizes; have h2 := HX2.out.sizes; simp at h1; omega, Nat.le_refl _, by have h1 := HX1.out.sizes; have h2 := HX2.out.sizes; simp at h1; omega,
          (((((Ext.refl w).alloc _).trans HX1.out).trans HX2.out).alloc _).trans hx3⟩
        clear hx3 lk HX1 HX2 HM1
        go_wp2_with fail
        refine (HNM.out _).mono ?_
        rintro e w4 ⟨m4, rfl, hx4, hM4⟩
        have lk := LKN.out w4 m4 hM4
        have HP := hide (HP.out.on hx4)
        clear hx4 hM4
        obtain ⟨⟨c0, c1, c2, c3⟩, ⟨d0, d1, d2, d3⟩, ⟨f0, f1, f2, f3⟩, g0, nn1, nn2⟩ := HP.out.cells
        go_wp2
        exact bodyPost_ret (v := traits none 0 0 true (!F) (!F)) (by simp [results, Tryz.results32, go_sem, traits, c0, c1, c2, c3, f0, f1, f2, f3, d0, d1, d2, d3, g0, nn1, nn2]) rfl HP.out.none_
      · have b1 : 2 ≤ (n : Int) := by omega
        have h2 : 2 ≤ n := by omega
        go_enter Tryz.func32, Tryz.ntmps32
        go_wp2_with fail
        refine (HBM.out _).mono ?_
        rintro e w1 ⟨m1, rfl, hx1, hM1⟩
        have HM1 := hide hM1
        have HX1 := hide hx1
        clear hx1 hM1
        go_wp2_with fail
        refine (TU.out _ (((Ext.refl w).alloc _).trans HX1.out)).mono ?_
        rintro e w2 ⟨rfl, hx2⟩
        have lk := LKB.out w2 m1 (HM1.out.ext hx2)
        have HX2 := hide hx2
        clear hx2
        go_wp2_with fail
        refine (TU.out _ (((((Ext.refl w).alloc _).trans HX1.out).trans HX2.out).alloc _)).mono ?_
        rintro e w3 ⟨rfl, hx3⟩
        have HP : Hid (PB w w.heap.size w2.heap.size (!F) w3) := hide ⟨(((Blk.new w _ _).chg (Chg.of_ext HX1.out []) (by simp)).chg (Chg.of_ext HX2.out []) (by simp)).chg (Chg.of_ext ((Ext.alloc (Ext.refl w2) _).trans hx3) []) (by simp),
          (Blk.new w2 _ _).chg (Chg.of_ext hx3 []) (by simp), by have h1 := HX1.out.sizes; have h2 := HX2.out.sizes; simp at h1; omega, Nat.le_refl _, by have h1 := HX1.out.sizes; have h2 := HX2.out.sizes; simp at h1; omega,
          (((((Ext.refl w).alloc _).trans HX1.out).trans HX2.out).alloc _).trans hx3⟩
        clear hx3 lk HX1 HX2 HM1
        go_wp2_with fail
        refine (HNM.out _).mono ?_
        rintro e w4 ⟨m4, rfl, hx4, hM4⟩
        have lk := LKN.out w4 m4 hM4
        have HP := hide (HP.out.on hx4)
        clear hx4 hM4
        obtain ⟨⟨c0, c1, c2, c3⟩, ⟨d0, d1, d2, d3⟩, ⟨f0, f1, f2, f3⟩, g0, nn1, nn2⟩ := HP.out.cells
        go_wp2
        exact bodyPost_ret (v := traits (some ⟨ad.block, ad.off + 1, none⟩) 1 (cap - 1) true (!F) (!F)) (by simp [results, Tryz.results32, go_sem, traits, c0, c1, c2, c3, f0, f1, f2, f3, d0, d1, d2, d3, g0, nn1, nn2]) rfl (HP.out.fin (ret_mid (HR.out.ext HP.out.ext) HN.out (by omega) hc HM.out (Ext.refl _) HB.out |>.before HP.out.ext))
    · rw [hk]
      clear hk
      subst hU
      by_cases h1 : 1 < n
      · rw [show (if 1 < n then (l.drop 1).take 1 else l.take 1) = (l.drop 1).take 1 from if_pos h1]
        have b1 : decide (1 < (n : Int)) = true := decide_eq_true (by omega)
        go_enter Tryz.func32, Tryz.ntmps32
        go_wp2_with fail
        refine (HBM.out _).mono ?_
        rintro e w1 ⟨m1, rfl, hx1, hM1⟩
        have HM1 := hide hM1
        have HX1 := hide hx1
        clear hx1 hM1
        go_wp2_with fail
        refine (TU.out _ (((Ext.refl w).alloc _).trans HX1.out)).mono ?_
        rintro e w2 ⟨rfl, hx2⟩
        have lk := LKB.out w2 m1 (HM1.out.ext hx2)
        have HX2 := hide hx2
        clear hx2
        go_wp2_with fail
        refine (TU.out _ (((((Ext.refl w).alloc _).trans HX1.out).trans HX2.out).alloc _)).mono ?_
        rintro e w3 ⟨rfl, hx3⟩
        have HP : Hid (PB w w.heap.size w2.heap.size (!F) w3) := hide ⟨(((Blk.new w _ _).chg (Chg.of_ext HX1.out []) (by simp)).chg (Chg.of_ext HX2.out []) (by simp)).chg (Chg.of_ext ((Ext.alloc (Ext.refl w2) _).trans hx3) []) (by simp),
          (Blk.new w2 _ _).chg (Chg.of_ext hx3 []) (by simp), by have h1 := HX1.out.sizes; have h2 := HX2.out.sizes; simp at h1; omega, Nat.le_refl _, by have h1 := HX1.out.sizes; have h2 := HX2.out.sizes; simp at h1; omega,
          (((((Ext.refl w).alloc _).trans HX1.out).trans HX2.out).alloc _).trans hx3⟩
        clear hx3 lk HX1 HX2 HM1
        go_wp2_with fail
        refine (HNM.out _).mono ?_
        rintro e w4 ⟨m4, rfl, hx4, hM4⟩
        have lk := LKN.out w4 m4 hM4
        have HP := hide (HP.out.on hx4)
        clear hx4 hM4
        obtain ⟨⟨c0, c1, c2, c3⟩, ⟨d0, d1, d2, d3⟩, ⟨f0, f1, f2, f3⟩, g0, nn1, nn2⟩ := HP.out.cells
        go_wp2
        exact bodyPost_ret (v := traits (some ⟨ad.block, ad.off + 1, none⟩) 1 (cap - 1) true (!F) (!F)) (by simp [results, Tryz.results32, go_sem, traits, c0, c1, c2, c3, f0, f1, f2, f3, d0, d1, d2, d3, g0, nn1, nn2]) rfl (HP.out.fin (ret_mid (HR.out.ext HP.out.ext) HN.out (by omega) hc HM.out (Ext.refl _) HB.out |>.before HP.out.ext))
      · rw [show (if 1 < n then (l.drop 1).take 1 else l.take 1) = l.take 1 from if_neg h1]
        have b1 : decide (1 < (n : Int)) = false := decide_eq_false (by omega)
        go_enter Tryz.func32, Tryz.ntmps32
        go_wp2_with fail
        refine (HBM.out _).mono ?_
        rintro e w1 ⟨m1, rfl, hx1, hM1⟩
        have HM1 := hide hM1
        have HX1 := hide hx1
        clear hx1 hM1
        go_wp2_with fail
        refine (TU.out _ (((Ext.refl w).alloc _).trans HX1.out)).mono ?_
        rintro e w2 ⟨rfl, hx2⟩
        have lk := LKB.out w2 m1 (HM1.out.ext hx2)
        have HX2 := hide hx2
        clear hx2
        go_wp2_with fail
        refine (TU.out _ (((((Ext.refl w).alloc _).trans HX1.out).trans HX2.out).alloc _)).mono ?_
        rintro e w3 ⟨rfl, hx3⟩
        have HP : Hid (PB w w.heap.size w2.heap.size (!F) w3) := hide ⟨(((Blk.new w _ _).chg (Chg.of_ext HX1.out []) (by simp)).chg (Chg.of_ext HX2.out []) (by simp)).chg (Chg.of_ext ((Ext.alloc (Ext.refl w2) _).trans hx3) []) (by simp),
          (Blk.new w2 _ _).chg (Chg.of_ext hx3 []) (by simp), by have h1 := HX1.out.sizes; have h2 := HX2.out.sizes; simp at h1; omega, Nat.le_refl _, by have h1 := HX1.out.sizes; have h2 := HX2.out.sizes; simp at h1; omega,
          (((((Ext.refl w).alloc _).trans HX1.out).trans HX2.out).alloc _).trans hx3⟩
        clear hx3 lk HX1 HX2 HM1
        go_wp2_with fail
        refine (HNM.out _).mono ?_
        rintro e w4 ⟨m4, rfl, hx4, hM4⟩
        have lk := LKN.out w4 m4 hM4
        have HP := hide (HP.out.on hx4)
        clear hx4 hM4
        obtain ⟨⟨c0, c1, c2, c3⟩, ⟨d0, d1, d2, d3⟩, ⟨f0, f1, f2, f3⟩, g0, nn1, nn2⟩ := HP.out.cells
        go_wp2
        exact bodyPost_ret (v := traits (some ad) 1 cap true (!F) (!F)) (by simp [results, Tryz.results32, go_sem, traits, c0, c1, c2, c3, f0, f1, f2, f3, d0, d1, d2, d3, g0, nn1, nn2]) rfl (HP.out.fin (ret_take (HR.out.ext HP.out.ext) HN.out hn1 hc HM.out (Ext.refl _) HB.out |>.before HP.out.ext))
    · rw [hk]
      clear hk
      subst hU
      show Calls _ _ _ _ (RetT w B (streamsOfU l) (!F))
      go_enter Tryz.func32, Tryz.ntmps32
      go_wp2_with fail
      refine (HBM.out _).mono ?_
      rintro e w1 ⟨m1, rfl, hx1, hM1⟩
      have HM1 := hide hM1
      have HX1 := hide hx1
      clear hx1 hM1
      go_wp2_with fail
      refine (TU.out _ (((Ext.refl w).alloc _).trans HX1.out)).mono ?_
      rintro e w2 ⟨rfl, hx2⟩
      have lk := LKB.out w2 m1 (HM1.out.ext hx2)
      have HX2 := hide hx2
      clear hx2
      go_wp2_with fail
      refine (TU.out _ (((((Ext.refl w).alloc _).trans HX1.out).trans HX2.out).alloc _)).mono ?_
      rintro e w3 ⟨rfl, hx3⟩
      have HP : Hid (PB w w.heap.size w2.heap.size (!F) w3) := hide ⟨(((Blk.new w _ _).chg (Chg.of_ext HX1.out []) (by simp)).chg (Chg.of_ext HX2.out []) (by simp)).chg (Chg.of_ext ((Ext.alloc (Ext.refl w2) _).trans hx3) []) (by simp),
        (Blk.new w2 _ _).chg (Chg.of_ext hx3 []) (by simp), by have h1 := HX1.out.sizes; have h2 := HX2.out.sizes; simp at h1; omega, Nat.le_refl _, by have h1 := HX1.out.sizes; have h2 := HX2.out.sizes; simp at h1; omega,
        (((((Ext.refl w).alloc _).trans HX1.out).trans HX2.out).alloc _).trans hx3⟩
      clear hx3 lk HX1 HX2 HM1
      go_wp2_with fail
      refine (HNM.out _).mono ?_
      rintro e w4 ⟨m4, rfl, hx4, hM4⟩
      have lk := LKN.out w4 m4 hM4
      have HP := hide (HP.out.on hx4)
      clear hx4 hM4
      obtain ⟨⟨c0, c1, c2, c3⟩, ⟨d0, d1, d2, d3⟩, ⟨f0, f1, f2, f3⟩, g0, nn1, nn2⟩ := HP.out.cells
      have HX4 := hide HP.out.ext
      have PK : Hid (Calls Tryz.prog 40 #[.slice (some ad) n cap] w4 (RetS w4 B (streamsOfU l))) := hide (by
        exact implStreamsU_any (some ad) cap B n l w4 HN.out (HR.out.ext HP.out.ext) hl hc HM.out HS.out (HT.out.ext HP.out.ext) HBB.out)
      go_wp2_with fail
      refine PK.out.mono ?_
      rintro e w5 ⟨A', c, rfl, hr⟩
      have HF := hide (show RetS w4 B (streamsOfU l) (.returned (.slice A' (streamsOfU l).length c)) w5 from ⟨A', c, rfl, hr⟩)
      have HP := hide (HP.out.on hr.2.1)
      clear hr PK c0 c1 c2 c3 d0 d1 d2 d3 f0 f1 f2 f3 g0 nn1 nn2
      obtain ⟨⟨c0, c1, c2, c3⟩, ⟨d0, d1, d2, d3⟩, ⟨f0, f1, f2, f3⟩, g0, nn1, nn2⟩ := HP.out.cells
      go_wp2
      exact bodyPost_ret (v := traits A' (streamsOfU l).length c true (!F) (!F)) (by simp [results, Tryz.results32, go_sem, traits, c0, c1, c2, c3, f0, f1, f2, f3, d0, d1, d2, d3, g0, nn1, nn2]) rfl (HP.out.fin (HF.out.before HX4.out))
    · rw [hk]
      clear hk
      subst hU
      show Calls _ _ _ _ (RetT w B (streamsOfU l) (!F))
      go_enter Tryz.func32, Tryz.ntmps32
      go_wp2_with fail
      refine (HBM.out _).mono ?_
      rintro e w1 ⟨m1, rfl, hx1, hM1⟩
      have HM1 := hide hM1
      have HX1 := hide hx1
      clear hx1 hM1
      go_wp2_with fail
      refine (TU.out _ (((Ext.refl w).alloc _).trans HX1.out)).mono ?_
      rintro e w2 ⟨rfl, hx2⟩
      have lk := LKB.out w2 m1 (HM1.out.ext hx2)
      have HX2 := hide hx2
      clear hx2
      go_wp2_with fail
      refine (TU.out _ (((((Ext.refl w).alloc _).trans HX1.out).trans HX2.out).alloc _)).mono ?_
      rintro e w3 ⟨rfl, hx3⟩
      have HP : Hid (PB w w.heap.size w2.heap.size (!F) w3) := hide ⟨(((Blk.new w _ _).chg (Chg.of_ext HX1.out []) (by simp)).chg (Chg.of_ext HX2.out []) (by simp)).chg (Chg.of_ext ((Ext.alloc (Ext.refl w2) _).trans hx3) []) (by simp),
        (Blk.new w2 _ _).chg (Chg.of_ext hx3 []) (by simp), by have h1 := HX1.out.sizes; have h2 := HX2.out.sizes; simp at h1; omega, Nat.le_refl _, by have h1 := HX1.out.sizes; have h2 := HX2.out.sizes; simp at h1; omega,
        (((((Ext.refl w).alloc _).trans HX1.out).trans HX2.out).alloc _).trans hx3⟩
      clear hx3 lk HX1 HX2 HM1
      go_wp2_with fail
      refine (HNM.out _).mono ?_
      rintro e w4 ⟨m4, rfl, hx4, hM4⟩
      have lk := LKN.out w4 m4 hM4
      have HP := hide (HP.out.on hx4)
      clear hx4 hM4
      obtain ⟨⟨c0, c1, c2, c3⟩, ⟨d0, d1, d2, d3⟩, ⟨f0, f1, f2, f3⟩, g0, nn1, nn2⟩ := HP.out.cells
      have HX4 := hide HP.out.ext
      have PK : Hid (Calls Tryz.prog 40 #[.slice (some ad) n cap] w4 (RetS w4 B (streamsOfU l))) := hide (by
        exact implStreamsU_any (some ad) cap B n l w4 HN.out (HR.out.ext HP.out.ext) hl hc HM.out HS.out (HT.out.ext HP.out.ext) HBB.out)
      go_wp2_with fail
      refine PK.out.mono ?_
      rintro e w5 ⟨A', c, rfl, hr⟩
      have HF := hide (show RetS w4 B (streamsOfU l) (.returned (.slice A' (streamsOfU l).length c)) w5 from ⟨A', c, rfl, hr⟩)
      have HP := hide (HP.out.on hr.2.1)
      clear hr PK c0 c1 c2 c3 d0 d1 d2 d3 f0 f1 f2 f3 g0 nn1 nn2
      obtain ⟨⟨c0, c1, c2, c3⟩, ⟨d0, d1, d2, d3⟩, ⟨f0, f1, f2, f3⟩, g0, nn1, nn2⟩ := HP.out.cells
      go_wp2
      exact bodyPost_ret (v := traits A' (streamsOfU l).length c true (!F) (!F)) (by simp [results, Tryz.results32, go_sem, traits, c0, c1, c2, c3, f0, f1, f2, f3, d0, d1, d2, d3, g0, nn1, nn2]) rfl (HP.out.fin (HF.out.before HX4.out))
    · rw [hk]
      clear hk
      show Calls _ _ _ _ (RetT w B (l.take 1) (!F))
      rw [← hu] at n0 n1 n2 n3 n4 n5 n6
      clear hu
      have e0 : (U.toList == [66, 73, 84, 79, 80]) = false := by rw [beq_eq_false_iff_ne]; exact n0
      have e1 : (U.toList == [77, 69, 77, 79, 82, 89]) = false := by rw [beq_eq_false_iff_ne]; exact n1
      have e2 : (U.toList == [77, 83, 69, 84]) = false := by rw [beq_eq_false_iff_ne]; exact n2
      have e3 : (U.toList == [88, 73, 78, 70, 79]) = false := by rw [beq_eq_false_iff_ne]; exact n3
      have e4 : (U.toList == [88, 71, 82, 79, 85, 80]) = false := by rw [beq_eq_false_iff_ne]; exact n4
      have e5 : (U.toList == [88, 82, 69, 65, 68]) = false := by rw [beq_eq_false_iff_ne]; exact n5
      have e6 : (U.toList == [88, 82, 69, 65, 68, 71, 82, 79, 85, 80]) = false := by rw [beq_eq_false_iff_ne]; exact n6
      go_enter Tryz.func32, Tryz.ntmps32
      go_wp2_with fail
      refine (HBM.out _).mono ?_
      rintro e w1 ⟨m1, rfl, hx1, hM1⟩
      have HM1 := hide hM1
      have HX1 := hide hx1
      clear hx1 hM1
      go_wp2_with fail
      refine (TU.out _ (((Ext.refl w).alloc _).trans HX1.out)).mono ?_
      rintro e w2 ⟨rfl, hx2⟩
      have lk := LKB.out w2 m1 (HM1.out.ext hx2)
      have HX2 := hide hx2
      clear hx2
      go_wp2_with fail
      refine (TU.out _ (((((Ext.refl w).alloc _).trans HX1.out).trans HX2.out).alloc _)).mono ?_
      rintro e w3 ⟨rfl, hx3⟩
      have HP : Hid (PB w w.heap.size w2.heap.size (!F) w3) := hide ⟨(((Blk.new w _ _).chg (Chg.of_ext HX1.out []) (by simp)).chg (Chg.of_ext HX2.out []) (by simp)).chg (Chg.of_ext ((Ext.alloc (Ext.refl w2) _).trans hx3) []) (by simp),
        (Blk.new w2 _ _).chg (Chg.of_ext hx3 []) (by simp), by have h1 := HX1.out.sizes; have h2 := HX2.out.sizes; simp at h1; omega, Nat.le_refl _, by have h1 := HX1.out.sizes; have h2 := HX2.out.sizes; simp at h1; omega,
        (((((Ext.refl w).alloc _).trans HX1.out).trans HX2.out).alloc _).trans hx3⟩
      clear hx3 lk HX1 HX2 HM1
      go_wp2_with fail
      refine (HNM.out _).mono ?_
      rintro e w4 ⟨m4, rfl, hx4, hM4⟩
      have lk := LKN.out w4 m4 hM4
      have HP := hide (HP.out.on hx4)
      clear hx4 hM4
      obtain ⟨⟨c0, c1, c2, c3⟩, ⟨d0, d1, d2, d3⟩, ⟨f0, f1, f2, f3⟩, g0, nn1, nn2⟩ := HP.out.cells
      go_wp2
      exact bodyPost_ret (v := traits (some ad) 1 cap true (!F) (!F)) (by simp [results, Tryz.results32, go_sem, traits, c0, c1, c2, c3, f0, f1, f2, f3, d0, d1, d2, d3, g0, nn1, nn2]) rfl (HP.out.fin (ret_take (HR.out.ext HP.out.ext) HN.out hn1 hc HM.out (Ext.refl _) HB.out |>.before HP.out.ext))
end Go.Proofs.YtepeokoeempfgaaGreatDoor
