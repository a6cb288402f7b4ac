/-
  impl.CommandTraits.
-/
import Derived.Test.YtepeokoeempfgaaDoorCmd
namespace Go.Proofs.YtepeokoeempfgaaDoor
open Go.RowKit
set_option linter.unusedVariables false
set_option linter.unusedSimpArgs false

theorem step_append_run {P : Program} {ops : Array Oper} {o : Oper} {a : Act} {w w' : World} {K : Act → World → Prop} {Q : Exit → Act → World → Prop} {E : Prop}
    (hgd : o.guard = none) (sl x : Operand) (t u : TypeId) (ho : o.op = .call { callee := .builtin .append, args := #[sl, x], argTypes := #[t, u] }) (v1 v2 r : Value) (hs : a.eval sl = v1) (hx : a.eval x = v2)
    (hr : (Builtin.append_ #[t, u] o.type #[v1, v2]).run P w = .ok r w') (h : K (a.put o.dst r) w') : if Region.wanted o (yielded ops a.tmps) = true then Oper.wp P o a w K Q else E := by
  have hw : Region.wanted o (yielded ops a.tmps) = true := by simp [Region.wanted, hgd]
  rw [if_pos hw]
  unfold Oper.wp execOp
  simp only [ho, resolve, invoke, builtin, Sem.run_bind, Sem.run_pure, Result.andThen_ok, List.map_toArray, List.map_cons, List.map_nil, hs, hx, hr]
  exact h

theorem streamsOf_le (l : List ByteArray) : (streamsOf l).length ≤ l.length := by
  induction l with
  | nil => exact Nat.le_refl _
  | cons a r ih =>
    rw [streamsOf]
    split
    · rw [List.length_take]
      simp
      omega
    · simp
      omega
theorem keysOf_le (u : List UInt8) (b : Bool) (l : List ByteArray) : (keysOf u b l).length ≤ l.length := by
  have h1 := streamsOf_le l
  have h2 := pairsOf_length l
  unfold keysOf
  split
  · simp
  · split
    · simp
    · split <;> (repeat' split) <;> simp [List.length_take, List.length_drop] <;> omega
theorem traits1_idle (args : Array Value) (w : World) : CallsD Tryd.prog 18 args .returning w fun e u' w' => e = .returned (.tuple #[]) ∧ u' = .returning ∧ w' = w :=
  idle_of w nilTest_any Tryd.func18 rfl rfl (by decide) (by decide)

set_option maxRecDepth 100000 in
set_option maxHeartbeats 2000000 in
theorem implTraits_any (s : ByteArray) (A : Option Addr) (cap n : Nat) (l : List ByteArray) (w : World) (hn : l.length = n) (hs1 : s.size ≤ 1000000) (ha : asciiB s.data.toList = true) (hR : RS w A l) (hl : n ≤ 1000) (hs : ∀ s ∈ l, s.size ≤ 1000000 ∧ asciiB s.data.toList = true) :
    Calls Tryd.prog 9 #[.string s, .slice A n cap] w fun e w' => ∃ A' c, e = .returned (.tuple #[traits A' (keysOf (upT s).toList (bareK.contains (upT s).data.toList) l).length c true (!blockK.contains (upT s).data.toList) (!blockK.contains (upT s).data.toList), .bool true]) ∧ RS w' A' (keysOf (upT s).toList (bareK.contains (upT s).data.toList) l) ∧ Ext w w' := by
  have hmf : ∀ (fn : Fn) (first cap : Array Value) (w : World), (Instr.makeFunc fn first cap).run Tryd.prog w = .ok (.func fn first cap) w := fun _ _ _ _ => rfl
  have DP : Hid (∀ w1 A1 c1, RS w1 A1 l → n ≤ c1 → c1 ≤ maxLen → (∀ ad, A1 = some ad → ad.block < w1.heap.size) → Calls Tryd.prog 19 #[.string s, .slice A1 n c1] w1 (RetT w1 (fun i => (∃ ad, A1 = some ad ∧ i = ad.block) ∨ w1.heap.size ≤ i) (keysOf (upT s).toList (bareK.contains (upT s).data.toList) l) (!blockK.contains (upT s).data.toList))) := hide fun w1 A1 c1 hR1 hc1 hm1 hlt =>
    doorProps_any s A1 c1 (fun i => ∃ ad, A1 = some ad ∧ i = ad.block) n _ _ w1 (fun i ⟨ad, h1, h2⟩ => by rw [h2]; exact hlt ad h1) fun w2 hx2 =>
      props_any s A1 c1 _ n l w2 hn hs1 ha (hR1.ext hx2) hl hc1 hm1 hs (fun ad h => .inl ⟨ad, h, rfl⟩) (fun i hi => .inr hi)
  have hkl := keysOf_le (upT s).toList (bareK.contains (upT s).data.toList) l
  rw [hn] at hkl
  generalize keysOf (upT s).toList (bareK.contains (upT s).data.toList) l = K at DP hkl ⊢
  generalize (!blockK.contains (upT s).data.toList) = p at DP ⊢
  obtain ⟨W0, hW0⟩ : ∃ W0, W0 = (((w.alloc (.cells #[.slice none 0 0, .bool false, .bool false, .bool false] 26)).alloc (.cells #[.bool false] 4)).alloc (.cells #[] 9)) := ⟨_, rfl⟩
  have hx0 : Ext w W0 := by rw [hW0]; exact (((Ext.refl w).alloc _).alloc _).alloc _
  have hk0 : W0.heap.size = w.heap.size + 3 := by rw [hW0]; simp
  have CP := run_copy_strs W0 (w.heap.size + 1 + 1) A cap l (hR.ext hx0) (by omega) (by rw [hn]; omega)
  rw [hn] at CP
  rw [hW0] at CP
  obtain ⟨A1, c1, w1, hrun, hR1, hx1, hc1, hm1, -, hA1⟩ := CP
  rw [← hW0] at hx1
  clear hR
  go_enter_defers Tryd.func9, Tryd.ntmps9
  go_wp2_with (at_builtin; refine wpList_append_run rfl _ _ _ _ rfl _ _ _ rfl rfl hrun ?_)
  have CALL := hide (DP.out w1 (some A1) c1 hR1 hc1 hm1 (fun ad had => by
    injection had with had
    subst had
    exact hA1))
  have HR := hide (And.intro hx0 (And.intro hx1 hk0))
  have V0 : Hid (Blk w1 w.heap.size 26 #[.slice none 0 0, .bool false, .bool false, .bool false] ∧ Var w1 (w.heap.size + 1) (.bool false)) := hide (by
    have h0 : Blk W0 w.heap.size 26 #[.slice none 0 0, .bool false, .bool false, .bool false] := by rw [hW0]; exact ((Blk.new w _ _).alloc _).alloc _
    have h1 : Var W0 (w.heap.size + 1) (.bool false) := by rw [hW0]; exact (Var.new_at _ (.bool false) _ _ (by simp)).ext ((Ext.refl _).alloc _)
    exact ⟨h0.chg (Chg.of_ext hx1 []) (by simp), h1.ext hx1⟩)
  clear hR1 hx1 hc1 hm1 hA1 hrun DP hx0 hk0
  go_wp2_with fail
  refine CALL.out.mono ?_
  rintro e w2 ⟨A2, c2, he, hR2, hx2, hc2, hm2, hB2⟩
  unfold traits at he
  subst he
  have CP := run_copy_strs ((w2.alloc (.cells #[.slice A2 K.length c2, .bool true, .bool p, .bool p] 45)).alloc (.cells #[] 9)).drew (w2.heap.size + 1) A2 c2 K (hR2.ext ((((Ext.refl _).alloc _).alloc _).drew)) (by simp) (by omega)
  obtain ⟨A3, c3, w3, hrun3, hR3, hx3, -, -, hA3, -⟩ := CP
  have hx6 : Ext (w2.alloc (.cells #[.slice A2 K.length c2, .bool true, .bool p, .bool p] 45)) w3 := (((Ext.refl _).alloc _).drew).trans hx3
  have hb6 : Blk (w2.alloc (.cells #[.slice A2 K.length c2, .bool true, .bool p, .bool p] 45)) w2.heap.size 45 #[.slice A2 K.length c2, .bool true, .bool p, .bool p] := Blk.new w2 _ _
  have hb63 := hb6.chg (Chg.of_ext hx6 []) (by simp)
  have v3 : Blk w3 w.heap.size 26 #[.slice none 0 0, .bool false, .bool false, .bool false] ∧ Var w3 (w.heap.size + 1) (.bool false) :=
    ⟨((V0.out.1.chg (Chg.of_ext hx2 []) (by simp)).alloc _).chg (Chg.of_ext hx6 []) (by simp), ((V0.out.2.ext hx2).ext ((Ext.refl _).alloc _)).ext hx6⟩
  have hxw : Ext w w3 := (((HR.out.1.trans HR.out.2.1).trans hx2).alloc _).trans hx6
  have hlt : w.heap.size + 1 < w2.heap.size := by
    have h1 := HR.out.2.1.sizes
    have h2 := hx2.sizes
    have h3 := HR.out.2.2
    omega
  have HW : Hid (Ext w w3 ∧ ∀ wx, Chg [w.heap.size, w.heap.size + 1] w3 wx → RS wx (some A3) K) := hide ⟨hxw, fun wx hC => hR3.chg hC fun ad had hm => by
    injection had with had
    subst had
    simp at hA3 hm
    omega⟩
  have k0 := hb63.cell 0
  have k1 := hb63.cell 1
  have k2 := hb63.cell 2
  have k3 := hb63.cell 3
  have c0 := v3.1.cell 0
  have c1 := v3.1.cell 1
  have c2' := v3.1.cell 2
  have c3' := v3.1.cell 3
  have f0 := v3.1.frozen 0
  have f1 := v3.1.frozen 1
  have f2 := v3.1.frozen 2
  have f3 := v3.1.frozen 3
  have cv := v3.2.2.1
  have fv := v3.2.2.2
  simp at k0 k1 k2 k3 c0 c1 c2' c3'
  have KK := And.intro k0 (And.intro k1 (And.intro k2 k3))
  have nn : ¬ w2.heap.size = w.heap.size := by omega
  have nn2 : ¬ w2.heap.size = w.heap.size + 1 := by omega
  have KEEP : Hid (∀ wx, Chg [w.heap.size, w.heap.size + 1] w3 wx → wx.cell? ⟨w2.heap.size, 0, none⟩ = some (.slice A2 K.length c2) ∧ wx.cell? ⟨w2.heap.size, 1, none⟩ = some (.bool true) ∧ wx.cell? ⟨w2.heap.size, 2, none⟩ = some (.bool p) ∧ wx.cell? ⟨w2.heap.size, 3, none⟩ = some (.bool p)) := hide fun wx hC =>
    ⟨cell_chg k0 hC (by simp [nn, nn2]), cell_chg k1 hC (by simp [nn, nn2]), cell_chg k2 hC (by simp [nn, nn2]), cell_chg k3 hC (by simp [nn, nn2])⟩
  clear hR2 hx2 hB2 hR3 hx3 hx6 hb6 hb63 v3 hxw hA3 V0 HR CALL hW0
  go_wp2
  go_region_held3 (fun w' => w'.cell? ⟨w2.heap.size, 0, none⟩ = some (.slice A2 K.length c2) ∧ w'.cell? ⟨w2.heap.size, 1, none⟩ = some (.bool true) ∧ w'.cell? ⟨w2.heap.size, 2, none⟩ = some (.bool p) ∧ w'.cell? ⟨w2.heap.size, 3, none⟩ = some (.bool p))
    (first | with_reducible exact KK | (with_reducible refine KEEP.out _ ?_; first | (with_reducible exact ((((Chg.refl _ _).setCell (.inl (by simp)) _).setCell (.inl (by simp)) _).setCell (.inl (by simp)) _).setCell (.inl (by simp)) _) | (with_reducible exact (((((Chg.refl _ _).setCell (.inl (by simp)) _).setCell (.inl (by simp)) _).setCell (.inl (by simp)) _).setCell (.inl (by simp)) _).setCell (.inl (by simp)) _) | (with_reducible exact (Chg.refl _ _).setCell (.inl (by simp)) _)) | (simp [nn, nn2]; done) | go_keep)
    ((refine step_append_run rfl _ _ _ _ rfl _ _ _ rfl rfl hrun3 ?_))
  clear KEEP KK
  go_wp2
  refine door_idle (traits1_idle _ _) (by simp [go_sem]) ?_
  have n1 : ¬ w.heap.size = w.heap.size + 1 := by omega
  refine ⟨.tuple #[traits (some A3) K.length c3 true p p, .bool true], ?_, ⟨some A3, c3, rfl, HW.out.2 _ ?_, ?_⟩⟩
  · simp [results, Tryd.results9, go_sem, traits, c0, c1, c2', c3', f0, f1, f2, f3, cv, fv]
  · exact (((((Chg.refl _ _).setCell (.inl (by simp)) _).setCell (.inl (by simp)) _).setCell (.inl (by simp)) _).setCell (.inl (by simp)) _).setCell (.inl (by simp)) _
  · exact ((((HW.out.1.setCell (by simp) _).setCell (by simp) _).setCell (by simp) _).setCell (by simp) _).setCell (by simp) _
end Go.Proofs.YtepeokoeempfgaaDoor
