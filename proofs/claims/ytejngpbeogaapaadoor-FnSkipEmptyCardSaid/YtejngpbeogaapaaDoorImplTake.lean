/-
  DoorTake, impl.Take.
-/
import Derived.Test.YtejngpbeogaapaaDoorNewDec2
namespace Go.Proofs.YtejngpbeogaapaaDoor
open Go.RowKit
set_option linter.unusedVariables false
set_option linter.unusedSimpArgs false

theorem Dec.lt {w : World} {B d : Nat} {S : List Nat} {all : List UInt8} {p av : Nat} {cp : Bool} {sec : Int} {sk : Bool} {esc : Value} {line : Int} {er : Value} {f : Nat} (h : Dec w B d S all p av cp sec sk esc line er f) : ∀ i ∈ S, i < w.heap.size := by
  obtain ⟨rd, A, cap, r0, L, rest, h1, _⟩ := h
  exact h1.lt
theorem set_old {w w' : World} {i : Nat} {fs : Nat → Bool} (hx : Ext w w') (hi : i < w.heap.size) (h : SetAt w' i fs) : SetAt w i fs := (hx.block i hi).symm.trans h

set_option maxRecDepth 100000 in
theorem doorTake_any (B d s : Nat) (hs : s ≤ 13) (S : List Nat) (all : List UInt8) (p av : Nat) (cp : Bool) (sec : Int) (sk : Bool) (esc : Value) (line : Int) (er : Value) (f : Nat) (w : World) (ad : Addr)
    (h : Dec w B d S all p av cp sec sk esc line er f) (hE : EofAt w B ad) :
    Calls Tryd.prog 20 #[.pointer (some ⟨d, 0, none⟩), .int .i64 s] w (TakeP w B d S all p av sec sk esc line er ((all.drop p).takeWhile fun c => doorF s c.toNat)) := by
  have SET := hide (doorSet_any s hs w)
  generalize ht : ((all.drop p).takeWhile fun c => doorF s c.toNat) = t
  have HT := hide ht
  have H := hide (And.intro h hE)
  clear h hE ht
  go_enter Tryd.func20, Tryd.ntmps20
  go_wp2_with fail
  refine SET.out.mono ?_
  rintro e w1 ⟨F, rfl, hx, hF, hN⟩
  have X := hide (And.intro hx hF)
  have N := hide hN
  clear hx hF hN SET
  have TK := take_any B d F (doorF s) S all p av cp sec sk esc line er f w1 ad (H.out.1.ext X.out.1) (H.out.2.chg (Chg.of_ext X.out.1 []) (by simp)) X.out.2 (fun hm => by have := H.out.1.lt F hm; have := N.out; omega)
  rw [HT.out] at TK
  have HTK := hide TK
  clear TK
  go_wp2_with fail
  refine HTK.out.mono ?_
  rintro e w2 ⟨S', av', cp', f', A, cap, rfl, hR, hD, hav, hC, hnew, hfin⟩
  have Y := hide (show TakeP w B d S all p av sec sk esc line er t (.returned (.slice A t.length cap)) w2 from
    ⟨S', av', cp', f', A, cap, rfl, hR, hD, hav, (Chg.of_ext X.out.1 S).trans hC, fun i hi => by
      rcases hnew i hi with h | h
      · exact .inl h
      · exact .inr (Nat.le_trans X.out.1.sizes h), hfin⟩)
  clear hR hD hav hC hnew hfin HT X H HTK
  go_wp2
  go_ret
  exact Y.out

theorem var_chg {w w' : World} {b : Nat} {v : Value} {S : List Nat} (h : Var w b v) (hc : Chg S w w') (hb : b ∉ S) : Var w' b v :=
  ⟨Nat.lt_of_lt_of_le h.1 hc.size, cell_chg h.2.1 hc hb, by rw [World.frozen?_of_block (hc.block _ h.1 hb)]; exact h.2.2⟩
theorem take1_idle (args : Array Value) (w : World) : CallsD Tryd.prog 19 args .returning w fun e u' w' => e = .returned (.tuple #[]) ∧ u' = .returning ∧ w' = w :=
  idle_of w nilTest_any Tryd.func19 rfl rfl (by decide) (by decide)

set_option maxRecDepth 100000 in
set_option maxHeartbeats 1000000 in
theorem implTake_any (s : Nat) (hs : s ≤ 13) (text : ByteArray) (A : Option Addr) (cap : Nat) (l : List Int) (w : World) (B : Nat) (ad : Addr) (ht : text.size ≤ 1048576) (hE : EofAt w B ad)
    (hR : Reads w B 1 A l.length (is_ l)) (hll : l.length ≤ 1000) (hv : ∀ x ∈ l, -9223372036854775808 ≤ x ∧ x ≤ 9223372036854775807) :
    Calls Tryd.prog 8 #[.int .i64 s, .string text, .slice A l.length cap] w fun e w' => e = .returned (.tuple #[.string ⟨(text.data.toList.takeWhile fun c => doorF s c.toNat).toArray⟩, .bool true]) ∧ Ext w w' := by
  have hmf : ∀ (fn : Fn) (first cap : Array Value) (w : World), (Instr.makeFunc fn first cap).run Tryd.prog w = .ok (.func fn first cap) w := fun _ _ _ _ => rfl
  generalize hr : (⟨(text.data.toList.takeWhile fun c => doorF s c.toNat).toArray⟩ : ByteArray) = r
  have HR0 := hide hr
  have DEC : Hid (∀ w1, Ext w w1 → Calls Tryd.prog 21 #[.string text, .slice A l.length cap, .bool false] w1 (DecNew w1 B text.data.toList)) := hide fun w1 hx =>
    decoder_any B text A cap l w1 (hR.chg (Chg.of_ext hx []) (by simp) hE.2.1) (Nat.le_trans hE.2.1 hx.sizes) hll ht hv
  have HE := hide hE
  have HZ : Hid (Var ((w.alloc (.cells #[.string ⟨#[]⟩] 9)).alloc (.cells #[.bool false] 4)) w.heap.size (.string ⟨#[]⟩)) := hide ((Var.new w (.string ⟨#[]⟩) _).ext ((Ext.refl _).alloc _))
  have HY : Hid (Var ((w.alloc (.cells #[.string ⟨#[]⟩] 9)).alloc (.cells #[.bool false] 4)) (w.heap.size + 1) (.bool false)) := hide (Var.new_at _ (.bool false) _ _ (by simp))
  clear hE hR hll hv hr
  go_enter_defers Tryd.func8, Tryd.ntmps8
  go_wp2_with fail
  refine (DEC.out _ (((Ext.refl w).alloc _).alloc _)).mono ?_
  rintro e w1 ⟨d, S, av, cp, esc, f, rfl, hD, hx, hge, hns⟩
  have hx1 : Ext w w1 := (((Ext.refl w).alloc _).alloc _).trans hx
  have CALL := hide (doorTake_any B d s hs S _ 0 av cp 5 false esc 1 .nilIface f w1 ad hD (HE.out.chg (Chg.of_ext hx1 []) (by simp)))
  rw [List.drop_zero] at CALL
  have V := hide (And.intro (HZ.out.ext hx) (And.intro (HY.out.ext hx) (And.intro hx1 hge)))
  clear hD hx hge hns hx1 HZ HY DEC HE
  generalize htt : (text.data.toList.takeWhile fun c => doorF s c.toNat) = t at CALL
  rw [htt] at HR0
  clear htt
  generalize hT : t.length = T at CALL
  go_wp2_with fail
  refine CALL.out.mono ?_
  rintro e w2 ⟨S', av', cp', f', A', cap', rfl, hRB, _, _, hC, _⟩
  have hst : (convert 43 9 (.slice A' T cap')).run Tryd.prog w2 = .ok (.string r) w2 := by
    rw [← HR0.out]
    exact run_string_n w2 _ _ _ Tryd.underlying43 Tryd.underlying5 Tryd.underlying9 T cap' hT hRB
  obtain ⟨v1, v2, v3, v4⟩ := V.out
  simp at v4
  have hn1 : w.heap.size ∉ S := fun hm => by have := v4 _ hm; omega
  have hn2 : w.heap.size + 1 ∉ S := fun hm => by have := v4 _ hm; omega
  obtain ⟨s2, c2, f2⟩ := var_chg v1 hC hn1
  obtain ⟨s3, c3, f3⟩ := var_chg v2 hC hn2
  have hx2 : Ext w w2 := ((Chg.of_ext v3 []).then hC (fun i hi => .inr (by have := v4 i hi; omega))).ext (by simp)
  have HX := hide hx2
  clear hx2 hRB hC v1 v2 v3 v4 V CALL hn1 hn2
  go_wp2
  refine door_idle (take1_idle _ _) (by simp [go_sem]) ?_
  have HXo := HX.out
  simp [results, Tryd.results8, go_sem, c2, c3, f2, f3]
  repeat (first | exact Ext.refl _ | assumption | refine Ext.drew ?_ | refine Ext.drewN ?_ _ | refine Ext.alloc ?_ _ | refine ext_bytesWorld ?_ _ _ | refine Ext.setCell ?_ (by first | (simp; done) | (simp; omega)) _)
end Go.Proofs.YtejngpbeogaapaaDoor
