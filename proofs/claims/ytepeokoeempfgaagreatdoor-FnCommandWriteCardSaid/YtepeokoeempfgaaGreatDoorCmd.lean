/-
  CmdConfig.Cmd, Properties, DoorCommandProperties.
-/
import Derived.Test.YtepeokoeempfgaaGreatDoorProps
import Derived.Deep.RegionHeld3
namespace Go.Proofs.YtepeokoeempfgaaGreatDoor
open Go.RowKit
set_option linter.unusedVariables false
set_option linter.unusedSimpArgs false

theorem RetT.before {w w1 w2 : World} {B : Nat → Prop} {K : List ByteArray} {p : Bool} {e : Ending} (h : RetT w1 B K p e w2) (hx : Ext w w1) : RetT w B K p e w2 := by
  obtain ⟨A', c, h1, h2, h3, h4⟩ := h
  exact ⟨A', c, h1, h2, hx.trans h3, h4⟩

set_option maxRecDepth 100000 in
set_option maxHeartbeats 1000000 in
theorem actProps_any (s : ByteArray) (A : Option Addr) (cap : Nat) (Bo : Nat → Prop) (n : Nat) (K : List ByteArray) (p : Bool) (w : World) (PD : ∀ w1, Ext w w1 → Calls Tryz.prog 32 #[.string s, .slice A n cap] w1 (RetT w1 (fun i => Bo i ∨ w1.heap.size ≤ i) K p)) :
    Calls Tryz.prog 27 #[.agg #[.nilFunc], .string s, .slice A n cap] w (RetT w (fun i => Bo i ∨ w.heap.size ≤ i) K p) := by
  have HPD := hide PD
  have hnf : ∀ w, (binOp .eql 48 .nilFunc .nilFunc).run Tryz.prog w = .ok (.bool true) w := fun _ => by kernel_rfl
  clear PD
  go_enter Tryz.func27, Tryz.ntmps27
  go_wp2_with fail
  refine (HPD.out _ (((Ext.refl w).alloc _).alloc _)).mono ?_
  rintro e w1 ⟨A', c, he, hR, hx, hc1, hc2, hB⟩
  unfold traits at he
  subst he
  have hb : Blk w1 (w.heap.size + 1) 82 #[.slice none 0 0, .bool false, .bool false, .bool false] := (Blk.new_at _ _ _ (by simp)).chg (Chg.of_ext hx []) (by simp)
  have c0 := hb.cell 0
  have c1 := hb.cell 1
  have c2 := hb.cell 2
  have c3 := hb.cell 3
  have f0 := hb.frozen 0
  have f1 := hb.frozen 1
  have f2 := hb.frozen 2
  have f3 := hb.frozen 3
  simp at c0 c1 c2 c3
  have HF : Hid (∀ wx, Chg [w.heap.size + 1] w1 wx → RS wx A' K) := hide fun wx h => hR.chg1 hb (by simp [noStr]) h
  have HE : Hid (Ext w w1) := hide ((((Ext.refl w).alloc _).alloc _).trans hx)
  have HL : Hid (K.length ≤ c ∧ c ≤ maxLen ∧ ∀ ad, A' = some ad → (Bo ad.block ∨ w.heap.size ≤ ad.block)) := hide ⟨hc1, hc2, fun ad had => by
    rcases hB ad had with h | h
    · exact .inl h
    · simp at h
      exact .inr (by omega)⟩
  clear hb hR hx hc1 hc2 hB HPD
  go_wp2
  refine bodyPost_ret (v := traits A' K.length c true p p) (by simp [results, Tryz.results27, go_sem, traits, c0, c1, c2, c3, f0, f1, f2, f3]) rfl ⟨A', c, rfl, HF.out _ ?_, ?_, HL.out⟩
  · exact ((((Chg.refl _ _).setCell (.inl (by simp)) _).setCell (.inl (by simp)) _).setCell (.inl (by simp)) _).setCell (.inl (by simp)) _
  · exact (((HE.out.setCell (by simp) _).setCell (by simp) _).setCell (by simp) _).setCell (by simp) _

/-- The cells of a command. -/
def cmdCells (s : ByteArray) (A : Option Addr) (n cap : Nat) (A' : Option Addr) (k c : Nat) (a b d : Bool) : Array Value := #[.nilIface, .string s, .slice A n cap, .slice A' k c, .bool a, .bool b, .bool d, .nilIface]
def RetC (w : World) (B : Nat → Prop) (s : ByteArray) (A : Option Addr) (n cap : Nat) (K : List ByteArray) (p : Bool) (e : Ending) (w' : World) : Prop :=
  ∃ g A' c, e = .returned (.pointer (some ⟨g, 0, none⟩)) ∧ Blk w' g 84 (cmdCells s A n cap A' K.length c true p p) ∧ w.heap.size ≤ g ∧ RS w' A' K ∧ Ext w w' ∧ K.length ≤ c ∧ c ≤ maxLen ∧ ∀ ad, A' = some ad → B ad.block

set_option maxRecDepth 100000 in
set_option maxHeartbeats 2000000 in
theorem cmd_any (s : ByteArray) (A : Option Addr) (cap : Nat) (Bo : Nat → Prop) (n : Nat) (K : List ByteArray) (p : Bool) (w : World) (hBo : ∀ i, Bo i → i < w.heap.size) (PD : ∀ w1, Ext w w1 → Calls Tryz.prog 32 #[.string s, .slice A n cap] w1 (RetT w1 (fun i => Bo i ∨ w1.heap.size ≤ i) K p)) :
    Calls Tryz.prog 16 #[.agg #[.nilFunc], .nilIface, .string s, .slice A n cap] w (RetC w (fun i => Bo i ∨ w.heap.size ≤ i) s A n cap K p) := by
  have AP : Hid (∀ w1, Ext w w1 → Calls Tryz.prog 27 #[.agg #[.nilFunc], .string s, .slice A n cap] w1 (RetT w1 (fun i => Bo i ∨ w1.heap.size ≤ i) K p)) := hide fun w1 hx =>
    actProps_any s A cap Bo n K p w1 fun w2 hx2 => PD w2 (hx.trans hx2)
  have HBO := hide hBo
  clear PD hBo
  go_enter Tryz.func16, Tryz.ntmps16
  go_wp2
  have HX : Hid (Ext w ((w.alloc (.cells #[.nilFunc] 50)).alloc (.cells (cmdCells s A n cap none 0 0 false false false) 84))) := hide (((Ext.refl w).alloc _).alloc _)
  have HB1 : Hid (Blk ((w.alloc (.cells #[.nilFunc] 50)).alloc (.cells (cmdCells s A n cap none 0 0 false false false) 84)) w.heap.size 50 #[.nilFunc]) := hide ((Blk.new w _ _).alloc _)
  have HB2 : Hid (Blk ((w.alloc (.cells #[.nilFunc] 50)).alloc (.cells (cmdCells s A n cap none 0 0 false false false) 84)) (w.heap.size + 1) 84 (cmdCells s A n cap none 0 0 false false false)) := hide (Blk.new_at _ _ _ (by simp))
  unfold cmdCells at HX HB1 HB2
  generalize (w.alloc (.cells #[.nilFunc] 50)).alloc (.cells #[.nilIface, .string s, .slice A n cap, .slice none 0 0, .bool false, .bool false, .bool false, .nilIface] 84) = W at HX HB1 HB2 ⊢
  generalize hb : w.heap.size + 1 = g at HB2 ⊢
  have HG : Hid (w.heap.size ≤ g) := hide (by omega)
  clear hb
  generalize hq : w.heap.size = q at HB1 ⊢
  have hne : q ≠ g := Blk.ne_ HB1.out HB2.out (by decide)
  have hne2 : ¬ g = q := fun e => hne e.symm
  have b0 := HB1.out.cell 0
  have c1 := HB2.out.cell 1
  have c2 := HB2.out.cell 2
  simp at b0 c1 c2
  have FX : Hid (∀ w1, Ext W.drew w1 → (w1.cell? ⟨q, 0, none⟩ = some .nilFunc ∧ w1.cell? ⟨g, 1, none⟩ = some (.string s) ∧ w1.cell? ⟨g, 2, none⟩ = some (.slice A n cap)) ∧
      (w1.cell? ⟨g, 3, none⟩ = some (.slice none 0 0) ∧ w1.cell? ⟨g, 4, none⟩ = some (.bool false) ∧ w1.cell? ⟨g, 5, none⟩ = some (.bool false) ∧ w1.cell? ⟨g, 6, none⟩ = some (.bool false)) ∧
      (w1.frozen? ⟨g, 3, none⟩ = false ∧ w1.frozen? ⟨g, 4, none⟩ = false ∧ w1.frozen? ⟨g, 5, none⟩ = false ∧ w1.frozen? ⟨g, 6, none⟩ = false)) := hide fun w1 hx => by
    have h1 := HB1.out.drew.chg (Chg.of_ext hx []) (by simp)
    have h2 := HB2.out.drew.chg (Chg.of_ext hx []) (by simp)
    have e0 := h1.cell 0
    have e1 := h2.cell 1
    have e2 := h2.cell 2
    have e3 := h2.cell 3
    have e4 := h2.cell 4
    have e5 := h2.cell 5
    have e6 := h2.cell 6
    simp at e0 e1 e2 e3 e4 e5 e6
    exact ⟨⟨e0, e1, e2⟩, ⟨e3, e4, e5, e6⟩, h2.frozen 3, h2.frozen 4, h2.frozen 5, h2.frozen 6⟩
  have END : Hid (∀ w1 A' c wx, RS w1 A' K → Ext W.drew w1 → K.length ≤ c → c ≤ maxLen → (∀ ad, A' = some ad → (Bo ad.block ∨ W.drew.heap.size ≤ ad.block)) → wx = (((w1.setCell ⟨g, 3, none⟩ (.slice A' K.length c)).setCell ⟨g, 4, none⟩ (.bool true)).setCell ⟨g, 5, none⟩ (.bool p)).setCell ⟨g, 6, none⟩ (.bool p) →
      RetC w (fun i => Bo i ∨ w.heap.size ≤ i) s A n cap K p (.returned (.pointer (some ⟨g, 0, none⟩))) wx) := hide fun w1 A' c wx hR hx h1 h2 h3 hw => by
    subst hw
    have hb := HB2.out.drew.chg (Chg.of_ext hx []) (by simp)
    have hC : Chg [g] w1 ((((w1.setCell ⟨g, 3, none⟩ (.slice A' K.length c)).setCell ⟨g, 4, none⟩ (.bool true)).setCell ⟨g, 5, none⟩ (.bool p)).setCell ⟨g, 6, none⟩ (.bool p)) := ((((Chg.refl _ _).setCell (.inl (by simp)) _).setCell (.inl (by simp)) _).setCell (.inl (by simp)) _).setCell (.inl (by simp)) _
    have hgW : g < W.heap.size := Blk.lt HB2.out
    refine ⟨g, A', c, rfl, ?_, HG.out, ?_, ?_, h1, h2, fun ad had => by
      rcases h3 ad had with h | h
      · exact .inl h
      · have := HX.out.sizes
        simp at h
        exact .inr (by omega)⟩
    · have := (((hb.set_ 3 (.slice A' K.length c)).set_ 4 (.bool true)).set_ 5 (.bool p)).set_ 6 (.bool p)
      unfold cmdCells
      simpa using this
    · refine hR.chg hC fun ad had hm => ?_
      have hm : ad.block = g := by simpa using hm
      rcases h3 ad had with h | h
      · have := HBO.out _ h
        have := HG.out
        omega
      · simp at h
        omega
    · exact ((Chg.of_ext (HX.out.drew.trans hx) []).then hC (fun i hi => .inr (by have := HG.out; simp at hi; omega))).ext (by simp)
  have KEEP : Hid (∀ (w1 : World) (v1 v2 v3 v4 : Value), (w1.cell? ⟨q, 0, none⟩ = some .nilFunc ∧ w1.cell? ⟨g, 1, none⟩ = some (.string s) ∧ w1.cell? ⟨g, 2, none⟩ = some (.slice A n cap)) →
      (((((w1.setCell ⟨g, 3, none⟩ v1).setCell ⟨g, 4, none⟩ v2).setCell ⟨g, 5, none⟩ v3).setCell ⟨g, 6, none⟩ v4).cell? ⟨q, 0, none⟩ = some .nilFunc ∧ ((((w1.setCell ⟨g, 3, none⟩ v1).setCell ⟨g, 4, none⟩ v2).setCell ⟨g, 5, none⟩ v3).setCell ⟨g, 6, none⟩ v4).cell? ⟨g, 1, none⟩ = some (.string s) ∧ ((((w1.setCell ⟨g, 3, none⟩ v1).setCell ⟨g, 4, none⟩ v2).setCell ⟨g, 5, none⟩ v3).setCell ⟨g, 6, none⟩ v4).cell? ⟨g, 2, none⟩ = some (.slice A n cap))) := hide fun w1 v1 v2 v3 v4 ⟨k1, k2, k3⟩ => by
    refine ⟨?_, ?_, ?_⟩ <;> rw [World.cell?_setCell_other _ _ _ _ (by simp [hne, hne2]), World.cell?_setCell_other _ _ _ _ (by simp [hne, hne2]), World.cell?_setCell_other _ _ _ _ (by simp [hne, hne2]), World.cell?_setCell_other _ _ _ _ (by simp [hne, hne2])]
    · exact k1
    · exact k2
    · exact k3
  have CALL := hide (AP.out _ HX.out.drew)
  clear AP HX HB1 HB2 HG hq
  go_region_held3 (fun w' => w'.cell? ⟨q, 0, none⟩ = some .nilFunc ∧ w'.cell? ⟨g, 1, none⟩ = some (.string s) ∧ w'.cell? ⟨g, 2, none⟩ = some (.slice A n cap)) (first | exact ⟨b0, c1, c2⟩ | exact hfx | exact KEEP.out _ _ _ _ _ hfx) (first | (go_at_call 27; refine CALL.out.mono ?_; rintro e w1 ⟨A', c, he, hR, hx, hc1, hc2, hBB⟩; unfold traits at he; subst he; obtain ⟨hfx, ⟨e3, e4, e5, e6⟩, g3, g4, g5, g6⟩ := FX.out _ hx; have HE := hide (END.out w1 A' c _ hR hx hc1 hc2 hBB rfl); clear hR hx))
  go_wp2
  go_ret
  exact HE.out

end Go.Proofs.YtepeokoeempfgaaGreatDoor
