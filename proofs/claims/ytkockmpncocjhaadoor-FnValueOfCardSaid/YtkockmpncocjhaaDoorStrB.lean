/-
  lineprotocol.StringValueFromBytes.
-/
import Derived.Test.YtkockmpncocjhaaDoorValidB
import Derived.Test.YtkockmpncocjhaaDoorGrow
namespace Go.Proofs.YtkockmpncocjhaaDoor
open Go.RowKit Go.Lib Go.Shelf
set_option linter.unusedVariables false
set_option linter.unusedSimpArgs false

theorem rb_of_own {w : World} {v : Value} {l : List UInt8} (h : OwnB w v l) : ∃ A c, v = .slice A l.length c ∧ RBytes w A l ∧ ∀ ad, A = some ad → v.ownBlock = some ad.block := by
  rcases h.2 with ⟨e, h0⟩ | ⟨g, cap, cur, e, hrest⟩
  · have hl : l = [] := List.length_eq_zero_iff.1 h0
    subst hl
    exact ⟨none, 0, e, RBytes.empty _ _, fun ad e2 => by cases e2⟩
  · subst e
    refine ⟨some ⟨g, 0, none⟩, cap, rfl, ⟨by simp [bs], fun _ => ⟨_, rfl, ?_, fun j u hu => World.ownsRow.cells h (g := g) rfl j u hu⟩⟩, fun ad e2 => by injection e2 with e2; subst e2; rfl⟩
    exact Blk.lt (t := 5) hrest.2.1
theorem ext_grown {w w' : World} (h : w.grownBy w' none) : Ext w w' := ⟨h.os, h.tape, h.output, h.size, fun i hi => h.block i hi (by simp)⟩
set_option maxRecDepth 100000 in
theorem strB_ok (a : Addr) (c0 : Nat) (s : ByteArray) (w : World) (hc : s.size ≤ c0) (hs : s.size ≤ 1000000) (hR : RBytes w (some a) s.data.toList) (hA : ∀ W, Ext w W → ∀ j (hj : j < s.data.toList.length), W.cell? (a.add j) = some (.int .u8 (s.data.toList[j].toNat))) (hT : TabsV w) (hv : validD s.data.toList = true) :
    Calls Tryd.prog 25 #[.slice (some a) s.size c0] w fun e w' => (∃ x, e = .returned (.tuple #[x, .bool true]) ∧ StrOf w' w.heap.size x s) ∧ Ext w w' := by
  have HU : Hid (∀ w', Ext w w' → Calls Tryd.prog 35 #[.slice (some a) s.size c0] w' fun e w'' => e = .returned (.bool true) ∧ Ext w' w'') := hide fun w' hx => by
    have h := validB_any (some a) c0 s w' hc hs (RBytes.chg hR (Chg.of_ext hx []) (by simp)) (hT.ext hx)
    rw [hv] at h
    exact h
  have CV : Hid (∀ wx, Ext w wx → ∃ v' w', (Builtin.append_ #[35, 35] 35 #[.slice none 0 0, .slice (some a) s.size c0]).run Tryd.prog wx = .ok v' w' ∧ OwnB w' v' s.data.toList ∧ wx.grownBy w' none ∧ SameOrNew wx (.slice none 0 0) v') := hide fun wx hx => by
    have h := append_bytes wx (.slice none 0 0) [] s.data.toList s.size a c0 ⟨by simp [bs], .inl ⟨rfl, rfl⟩⟩ (hA wx hx) (by rw [Array.length_toList]; rfl) (by simp; omega)
    simpa [Value.ownBlock] using h
  clear hT hv hR hA
  go_enter Tryd.func25, Tryd.ntmps25
  go_wp2_with fail
  refine (HU.out _ ((Ext.refl w).alloc _)).mono ?_
  rintro e w1 ⟨rfl, hx⟩
  obtain ⟨v', w2, hrun, ho, hg, hn⟩ := CV.out w1 (((Ext.refl w).alloc _).trans hx)
  have hx2 := ext_grown hg
  obtain ⟨A, c, rfl, hRR, hB⟩ := rb_of_own ho
  have hb := ((Blk.new w 38 #[.int .u64 0, .slice none 0 0, .int .u8 0]).chg (Chg.of_ext hx []) (by simp)).chg (Chg.of_ext hx2 []) (by simp)
  have c0 := hb.cell 0
  have c1 := hb.cell 1
  have c2 := hb.cell 2
  have f0 := hb.frozen 0
  have f1 := hb.frozen 1
  have f2 := hb.frozen 2
  simp at c0 c1 c2
  have HX : Hid (Ext w w2) := hide ((((Ext.refl w).alloc _).trans hx).trans hx2)
  have hlt : w.heap.size < w1.heap.size := by have := hx.sizes; simp at this; omega
  have hAB : ∀ ad, A = some ad → w.heap.size < ad.block := fun ad e => by
    rcases hn with h | ⟨k, h, hk⟩
    · rw [hB ad e] at h; cases h
    · rw [hB ad e] at h; injection h with h; omega
  have HR := hide (And.intro hRR hAB)
  have hl : s.data.toList.length = s.size := by rw [Array.length_toList]; rfl
  rw [hl] at hrun
  clear hx hb CV HU hs hlt hAB hRR hn hB ho hg hx2 hl
  go_wp2_with (refine wpList_append_run rfl _ _ _ _ rfl _ _ _ rfl rfl hrun ?_)
  refine bodyPost_ret (v := .tuple #[lpV 0 A s.size c 0, .bool true]) (by simp [results, Tryd.results25, go_sem, lpV, c0, c1, c2, f0, f1, f2]) rfl ⟨⟨_, rfl, ⟨A, _, _, rfl, rfl, HR.out.1.chg ((((Chg.refl [w.heap.size] w2).setCell (.inl (by simp)) _).setCell (.inl (by simp)) _).setCell (.inl (by simp)) _) (fun ad h => by have := HR.out.2 ad h; simp; omega), fun ad h => Nat.le_of_lt (HR.out.2 ad h)⟩⟩, ?_⟩
  exact ((HX.out.setCell (by simp) _).setCell (by simp) _).setCell (by simp) _
set_option maxRecDepth 100000 in
theorem strB_bad (a : Addr) (c0 : Nat) (s : ByteArray) (w : World) (hc : s.size ≤ c0) (hs : s.size ≤ 1000000) (hR : RBytes w (some a) s.data.toList) (hT : TabsV w) (hv : validD s.data.toList = false) :
    Calls Tryd.prog 25 #[.slice (some a) s.size c0] w fun e w' => e = .returned (.tuple #[lpV 0 none 0 0 0, .bool false]) ∧ Ext w w' := by
  have HU : Hid (∀ w', Ext w w' → Calls Tryd.prog 35 #[.slice (some a) s.size c0] w' fun e w'' => e = .returned (.bool false) ∧ Ext w' w'') := hide fun w' hx => by
    have h := validB_any (some a) c0 s w' hc hs (RBytes.chg hR (Chg.of_ext hx []) (by simp)) (hT.ext hx)
    rw [hv] at h
    exact h
  clear hT hv hR
  go_enter Tryd.func25, Tryd.ntmps25
  go_wp2_with fail
  refine (HU.out _ ((Ext.refl w).alloc _)).mono ?_
  rintro e w1 ⟨rfl, hx⟩
  have hb := (Blk.new w 38 #[.int .u64 0, .slice none 0 0, .int .u8 0]).chg (Chg.of_ext hx []) (by simp)
  have c0 := hb.cell 0
  have c1 := hb.cell 1
  have c2 := hb.cell 2
  have f0 := hb.frozen 0
  have f1 := hb.frozen 1
  have f2 := hb.frozen 2
  simp at c0 c1 c2
  have HX : Hid (Ext w w1) := hide (((Ext.refl w).alloc _).trans hx)
  clear hx hb HU hs
  go_wp2
  refine bodyPost_ret (v := .tuple #[lpV 0 none 0 0 0, .bool false]) (by simp [results, Tryd.results25, go_sem, lpV, c0, c1, c2, f0, f1, f2]) rfl ⟨rfl, ?_⟩
  exact ((HX.out.setCell (by simp) _).setCell (by simp) _).setCell (by simp) _
end Go.Proofs.YtkockmpncocjhaaDoor
