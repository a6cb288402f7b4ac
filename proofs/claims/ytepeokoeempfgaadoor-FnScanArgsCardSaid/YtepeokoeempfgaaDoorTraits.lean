/-
  spec.TraitsOf.
-/
import Derived.Test.YtepeokoeempfgaaDoorKeysOf
namespace Go.Proofs.YtepeokoeempfgaaDoor
open Go.RowKit
set_option linter.unusedVariables false
set_option linter.unusedSimpArgs false

def noStr (u : Value) : Bool := match u with | .string _ => false | _ => true
/-- What reads as texts does not lie in a block without texts. -/
theorem RS.chg1 {w wx : World} {A : Option Addr} {l : List ByteArray} {g : Nat} {t : TypeId} {cs : Array Value} (h : RS w A l) (hb : Blk w g t cs) (hns : cs.all noStr = true) (hc : Chg [g] w wx) : RS wx A l := by
  by_cases hl : 0 < l.length
  · obtain ⟨ad, rfl, hab, hcell⟩ := h.addr hl
    refine h.chg hc fun ad2 h2 hm => ?_
    injection h2 with h2
    subst h2
    have hg : ad.block = g := by simpa using hm
    have h0 := hcell 0 hl
    have e : ad.add 0 = ad := by unfold Addr.add; simp
    rw [e] at h0
    unfold Blk at hb
    unfold World.cell? at h0
    rw [hg, hb] at h0
    simp only at h0
    split at h0
    · cases h0
    · have hmem := Array.mem_of_getElem? h0
      have := Array.all_eq_true'.1 hns _ hmem
      simp [noStr] at this
  · have : l = [] := List.eq_nil_of_length_eq_zero (by omega)
    subst this
    exact RS.nil _ _
/-- A value of four: a list of texts and three truths. -/
def traits (A : Option Addr) (n c : Nat) (r p s : Bool) : Value := .agg #[.slice A n c, .bool r, .bool p, .bool s]
def RetT (w : World) (B : Nat → Prop) (K : List ByteArray) (free : Bool) (e : Ending) (w' : World) : Prop := ∃ A' c, e = .returned (traits A' K.length c true free free) ∧ RS w' A' K ∧ Ext w w' ∧ K.length ≤ c ∧ c ≤ maxLen ∧ ∀ ad, A' = some ad → B ad.block

set_option maxRecDepth 100000 in
set_option maxHeartbeats 2000000 in
theorem specTraits_any (s : ByteArray) (A : Option Addr) (cap : Nat) (B : Nat → Prop) (n : Nat) (l : List ByteArray) (w : World) (hn : l.length = n) (hs1 : s.size ≤ 1000000) (hR : RS w A l) (hl : n ≤ 1000) (hc : n ≤ cap) (hm : cap ≤ maxLen) (hs : ∀ s ∈ l, s.size ≤ 1000000) (hB : ∀ ad, A = some ad → B ad.block) (hBw : ∀ i, w.heap.size ≤ i → B i) :
    Calls Tryd.prog 10 #[.string s, .slice A n cap] w (RetT w B (keysOf (upT s).toList (bareK.contains (upT s).data.toList) l) (!blockK.contains (upT s).data.toList)) := by
  have UP : Hid (∀ w, Calls Tryd.prog 21 #[.string s] w fun e w' => e = .returned (.string (upT s)) ∧ Ext w w') := hide fun w => upper_any s w hs1
  have KE : Hid (∀ w1, Ext w w1 → Calls Tryd.prog 22 #[.string s, .slice A n cap] w1 (RetS w1 B (keysOf (upT s).toList (bareK.contains (upT s).data.toList) l))) := hide fun w1 hx =>
    specKeys_any s A cap B n l w1 hn hs1 (hR.ext hx) hl hc hm hs hB (fun i hi => hBw i (Nat.le_trans hx.sizes hi))
  generalize keysOf (upT s).toList (bareK.contains (upT s).data.toList) l = K at KE ⊢
  have hus : (upT s).size ≤ 1000000 := by rw [upT_size]; exact hs1
  generalize upT s = U at UP hus ⊢
  have WD : Hid (∀ w, Calls Tryd.prog 20 #[.string U, .string blockT] w fun e w' => e = .returned (.bool (blockK.contains U.data.toList)) ∧ w = w') := hide fun w =>
    word_any U blockT blockK w hus rfl (by decide) (by decide)
  generalize blockK.contains U.data.toList = V at WD ⊢
  have HV : Hid (Blk (w.alloc (.cells #[.slice none 0 0, .bool false, .bool false, .bool false] 26)) w.heap.size 26 #[.slice none 0 0, .bool false, .bool false, .bool false]) := hide (Blk.new w _ _)
  clear hR hs hB hn hBw
  go_enter Tryd.func10, Tryd.ntmps10
  go_wp2_with fail
  refine (UP.out _).mono ?_
  rintro e w1 ⟨rfl, hx⟩
  have HX : Hid (Ext (w.alloc (.cells #[.slice none 0 0, .bool false, .bool false, .bool false] 26)) w1) := hide hx
  clear hx
  go_wp2_with fail
  refine (WD.out _).mono ?_
  rintro e w2 ⟨rfl, rfl⟩
  go_wp2_with fail
  refine (KE.out _ (((Ext.refl w).alloc _).trans HX.out)).mono ?_
  rintro e w3 ⟨A', c, rfl, hK1, hK2, hK3, hK4, hK5⟩
  have hb := (HV.out.chg (Chg.of_ext HX.out []) (by simp)).chg (Chg.of_ext hK2 []) (by simp)
  have c0 := hb.cell 0
  have c1 := hb.cell 1
  have c2 := hb.cell 2
  have c3 := hb.cell 3
  have f0 := hb.frozen 0
  have f1 := hb.frozen 1
  have f2 := hb.frozen 2
  have f3 := hb.frozen 3
  simp at c0 c1 c2 c3
  have HF : Hid (∀ wx, Chg [w.heap.size] w3 wx → RS wx A' K) := hide fun wx h => hK1.chg1 hb (by simp [noStr]) h
  have HE : Hid (Ext w w3) := hide ((((Ext.refl w).alloc _).trans HX.out).trans hK2)
  have HL := hide (And.intro hK3 (And.intro hK4 hK5))
  clear hb hK1 hK2 HX HV WD UP KE hK3 hK4 hK5
  go_wp2
  refine bodyPost_ret (v := traits A' K.length c true (!V) (!V)) (by simp [results, Tryd.results10, go_sem, traits, c0, c1, c2, c3, f0, f1, f2, f3]) rfl ⟨A', c, rfl, HF.out _ ?_, ?_, HL.out⟩
  · exact ((((Chg.refl _ _).setCell (.inl (by simp)) _).setCell (.inl (by simp)) _).setCell (.inl (by simp)) _).setCell (.inl (by simp)) _
  · exact (((HE.out.setCell (Nat.le_refl _) _).setCell (Nat.le_refl _) _).setCell (Nat.le_refl _) _).setCell (Nat.le_refl _) _
end Go.Proofs.YtepeokoeempfgaaDoor
