/-
  ScannerConfig: withDefaults, cmd.
-/
import Derived.Test.YtepeokoeempfgaaDoorPropsU
import Derived.Test.YtepeokoeempfgaaDoorCmd
import Derived.Test.YtepeokoeempfgaaDoorApp
import Derived.Deep.DeepCutAuto
import Derived.Lib.SmallJoins
namespace Go.Proofs.YtepeokoeempfgaaDoor
open Go.RowKit
set_option linter.unusedVariables false
set_option linter.unusedSimpArgs false

def opt (b : Bool) (l : List ByteArray) : List ByteArray := if b then l else []
def sSCAN : ByteArray := ⟨#[83, 67, 65, 78]⟩
def sMATCH : ByteArray := ⟨#[77, 65, 84, 67, 72]⟩
def sCOUNT : ByteArray := ⟨#[67, 79, 85, 78, 84]⟩
def sTYPE : ByteArray := ⟨#[84, 89, 80, 69]⟩
def numT (n : Int) : ByteArray := ⟨(Lib.itoa n).toArray⟩
def l2 (bS : Bool) (k cur : ByteArray) : List ByteArray := opt (!bS) [k] ++ [cur]
def l3 (bS : Bool) (k cur pt : ByteArray) : List ByteArray := l2 bS k cur ++ opt (!pt.toList.isEmpty) [sMATCH, pt]
def l4 (bS : Bool) (k cur pt : ByteArray) (n : Int) : List ByteArray := l3 bS k cur pt ++ opt (decide (0 < n)) [sCOUNT, numT n]
def l5 (bS : Bool) (k cur pt : ByteArray) (n : Int) (ty : ByteArray) : List ByteArray := l4 bS k cur pt n ++ opt (!ty.toList.isEmpty) [sTYPE, ty]
theorem opt_length (b : Bool) (l : List ByteArray) : (opt b l).length ≤ l.length := by unfold opt; split <;> simp
theorem l2_length (bS : Bool) (k cur : ByteArray) : (l2 bS k cur).length ≤ 2 := by have := opt_length (!bS) [k]; simp [l2] at *; omega
theorem l3_length (bS : Bool) (k cur pt : ByteArray) : (l3 bS k cur pt).length ≤ 4 := by have := opt_length (!pt.toList.isEmpty) [sMATCH, pt]; have := l2_length bS k cur; simp [l3] at *; omega
theorem l4_length (bS : Bool) (k cur pt : ByteArray) (n : Int) : (l4 bS k cur pt n).length ≤ 6 := by have := opt_length (decide (0 < n)) [sCOUNT, numT n]; have := l3_length bS k cur pt; simp [l4] at *; omega
theorem l5_length (bS : Bool) (k cur pt : ByteArray) (n : Int) (ty : ByteArray) : (l5 bS k cur pt n ty).length ≤ 8 := by have := opt_length (!ty.toList.isEmpty) [sTYPE, ty]; have := l4_length bS k cur pt n; simp [l5] at *; omega

theorem numT_size (n : Int) (h0 : -9223372036854775808 ≤ n) (h1 : n ≤ 9223372036854775807) : (numT n).size ≤ 21 := by
  have e : (numT n).size = (Lib.itoa n).length := by simp [numT, ByteArray.size]
  rw [e]
  unfold Lib.itoa
  have a1 := Lib.nDigits_le20 n.natAbs (by omega)
  have a2 := Lib.nDigits_le20 n.toNat (by omega)
  split
  · rw [List.length_cons, Lib.decDigits_length]; omega
  · rw [Lib.decDigits_length]; omega
theorem l5_sizes (bS : Bool) (k cur pt : ByteArray) (n : Int) (ty : ByteArray) (h0 : -9223372036854775808 ≤ n) (h1 : n ≤ 9223372036854775807) (hs : k.size ≤ 1000 ∧ cur.size ≤ 1000 ∧ pt.size ≤ 1000 ∧ ty.size ≤ 1000) : ∀ s ∈ l5 bS k cur pt n ty, s.size ≤ 1000 := by
  have hn := numT_size n h0 h1
  have q1 : sMATCH.size = 5 := rfl
  have q2 : sCOUNT.size = 5 := rfl
  have q3 : sTYPE.size = 4 := rfl
  have ho : ∀ (b : Bool) (m : List ByteArray), (∀ s ∈ m, s.size ≤ 1000) → ∀ s ∈ opt b m, s.size ≤ 1000 := fun b m hm s hs => by
    unfold opt at hs
    split at hs
    · exact hm s hs
    · cases hs
  intro s hm
  unfold l5 l4 l3 l2 at hm
  simp only [List.mem_append] at hm
  rcases hm with (((hm | hm) | hm) | hm) | hm
  · exact ho _ _ (by simp; omega) s hm
  · simp at hm; subst hm; omega
  · exact ho _ _ (by simp; omega) s hm
  · exact ho _ _ (by simp; omega) s hm
  · exact ho _ _ (by simp; omega) s hm

def TabP (w : World) : Prop := Lib.TabIs Tryd.prog w "internal/strconv.uint64pow10" .u64 Lib.pow10Tab
theorem TabP.ext {w w' : World} (h : TabP w) (hx : Ext w w') : TabP w' :=
  Joins.tab_stays (g := 3) (by kernel_rfl) h hx (Nat.le_refl _)
theorem itoa_any (n : Int) (h0 : -9223372036854775808 ≤ n) (h1 : n ≤ 9223372036854775807) (w : World) (hT : TabP w) :
    Calls Tryd.prog 58 #[.int .i64 n] w fun e w' => e = .returned (.string (numT n)) ∧ Ext w w' :=
  (Tryd.strconv_Itoa n h0 h1 w hT).mono fun e w' ⟨he, k, os, hw⟩ => ⟨he, by
    subst hw
    exact ((Ext.refl w).drewN k).trans ⟨rfl, rfl, rfl, by simp [Go.Sort.grow], fun i hi => by simp [Go.Sort.grow, Array.getElem?_append]; intro h; simp at hi; omega⟩⟩

def cfgV (c k pt : ByteArray) (n : Int) (ty : ByteArray) : Value := .agg #[.string c, .string k, .string pt, .int .i64 n, .string ty]
set_option maxRecDepth 100000 in
theorem defaults_any (c k pt : ByteArray) (n : Int) (ty : ByteArray) (w : World) :
    Calls Tryd.prog 49 #[cfgV c k pt n ty] w fun e w' => e = .returned (cfgV (if c.toList.isEmpty then sSCAN else c) k pt n ty) ∧ Ext w w' := by
  cases hE : c.toList.isEmpty with
  | true =>
    unfold cfgV
    go_enter Tryd.func49, Tryd.ntmps49
    go_wp2
    exact bodyPost_ret (v := .agg #[.string sSCAN, .string k, .string pt, .int .i64 n, .string ty]) (by simp [results, Tryd.results49, go_sem, sSCAN]) rfl ⟨rfl, ((Ext.refl w).alloc _).alloc _⟩
  | false =>
    unfold cfgV
    go_enter Tryd.func49, Tryd.ntmps49
    go_wp2
    exact bodyPost_ret (v := .agg #[.string c, .string k, .string pt, .int .i64 n, .string ty]) (by simp [results, Tryd.results49, go_sem]) rfl ⟨rfl, ((Ext.refl w).alloc _).alloc _⟩

/-- What the call has at a meeting. -/
def ScW (w w1 : World) (B : Nat) (c k pt : ByteArray) (n : Int) (ty : ByteArray) (v : Value) (L : List ByteArray) (wx : World) : Prop :=
  wx.ownsRow B 9 1 v L.length (ss L) ∧ Below B w1 wx ∧ (w1.cell? ⟨w.heap.size, 0, none⟩ = some (.string c) ∧ w1.cell? ⟨w.heap.size, 1, none⟩ = some (.string k) ∧ w1.cell? ⟨w.heap.size, 2, none⟩ = some (.string pt) ∧ w1.cell? ⟨w.heap.size, 3, none⟩ = some (.int .i64 n) ∧ w1.cell? ⟨w.heap.size, 4, none⟩ = some (.string ty)) ∧ B = w1.heap.size ∧ w.heap.size < B
section
variable {w w1 wx : World} {B : Nat} {c k pt : ByteArray} {n : Int} {ty : ByteArray} {v : Value} {L : List ByteArray}
theorem ScW.cells (h : ScW w w1 B c k pt n ty v L wx) : wx.cell? ⟨w.heap.size, 0, none⟩ = some (.string c) ∧ wx.cell? ⟨w.heap.size, 1, none⟩ = some (.string k) ∧ wx.cell? ⟨w.heap.size, 2, none⟩ = some (.string pt) ∧ wx.cell? ⟨w.heap.size, 3, none⟩ = some (.int .i64 n) ∧ wx.cell? ⟨w.heap.size, 4, none⟩ = some (.string ty) := by
  obtain ⟨_, h2, ⟨a0, a1, a2, a3, a4⟩, rfl, h5⟩ := h
  exact ⟨(h2.cell h5).trans a0, (h2.cell h5).trans a1, (h2.cell h5).trans a2, (h2.cell h5).trans a3, (h2.cell h5).trans a4⟩
theorem ScW.le (h : ScW w w1 B c k pt n ty v L wx) : B ≤ wx.heap.size := by
  obtain ⟨_, h2, _, rfl, _⟩ := h
  exact h2.size
theorem ScW.on {wy : World} (h : ScW w w1 B c k pt n ty v L wx) (hx : Ext wx wy) : ScW w w1 B c k pt n ty v L wy :=
  ⟨own_below h.1 hx, h.2.1.trans ⟨hx.os, hx.tape, hx.output, hx.size, fun i hi => hx.block i (by have := h.le; omega)⟩, h.2.2⟩
/-- One append. -/
theorem ScW.add (h : ScW w w1 B c k pt n ty v L wx) (m : List ByteArray) (hl : L.length + m.length ≤ 1000000) (N : Nat) (hN : wx.heap.size = N) :
    ∃ v' w', (Builtin.append_ #[22, 22] 22 #[v, .slice (some ⟨N, 0, none⟩) m.length m.length]).run Tryd.prog (wx.alloc (.cells (ss m).toArray 9)) = .ok v' w' ∧ ScW w w1 B c k pt n ty v' (L ++ m) w' := by
  obtain ⟨v', w', h1, h2, h3⟩ := append_strs B wx v L m h.1 h.le hl N hN
  exact ⟨v', w', h1, h2, h.2.1.trans h3, h.2.2⟩
end

set_option maxRecDepth 100000 in
theorem run_make8 (w : World) :
    (Instr.makeSlice 22 (.int .i64 0) (.int .i64 8)).run Tryd.prog w = .ok (.slice (some ⟨w.heap.size, 0, none⟩) 0 8) (w.alloc (.cells (ss (List.replicate 8 ⟨#[]⟩)).toArray 9)) := by
  obtain ⟨i0, hi, hz0, hz1, hz2⟩ := info_parts info_str
  have h := run_make_rowN (P := Tryd.prog) 22 9 i0 (.string ⟨#[]⟩) Tryd.underlying22 hi hz0 .i64 .i64 0 8 (by omega) (by rw [hz2]; omega) (by omega) w
  have h' : (Instr.makeSlice 22 (.int .i64 0) (.int .i64 8)).run Tryd.prog w = _ := h
  rw [h']
  congr 2
  congr 1
  apply Array.ext'
  rw [hz1, Nat.mul_one]
  have : (Value.string ⟨#[]⟩).cells = #[.string ⟨#[]⟩] := rfl
  rw [this, toList_madeCells_one]
  simp [ss]

set_option maxRecDepth 100000 in
set_option maxHeartbeats 4000000 in
theorem scanCmd_any (c k pt : ByteArray) (n : Int) (ty cur : ByteArray) (h0 : -9223372036854775808 ≤ n) (h1 : n ≤ 9223372036854775807) (hc : c.size ≤ 1000) (ha : asciiB c.data.toList = true) (hs : k.size ≤ 1000 ∧ cur.size ≤ 1000 ∧ pt.size ≤ 1000 ∧ ty.size ≤ 1000) (w : World) (hT : TabsU w) (hP : TabP w) :
    Calls Tryd.prog 50 #[.agg #[.string c, .string k, .string pt, .int .i64 n, .string ty], .nilIface, .string cur] w fun e w' => ∃ g A' cap A2 k2 c2 b1 b2 b3, e = .returned (.pointer (some ⟨g, 0, none⟩)) ∧ Blk w' g 128 (cmdCells (upT c) A' (l5 ((upT c).toList == [83, 67, 65, 78]) k cur pt n ty).length cap A2 k2 c2 b1 b2 b3) ∧ RS w' A' (l5 ((upT c).toList == [83, 67, 65, 78]) k cur pt n ty) ∧ Ext w w' ∧ ∀ ad, A' = some ad → w.heap.size ≤ ad.block := by
  have TU : Hid (∀ w1, Calls Tryd.prog 57 #[.string c] w1 fun e w' => e = .returned (.string (upT c)) ∧ Ext w1 w') := hide fun w1 => toUpper_any c w1 (by omega) ha
  have hU : (upT c).size ≤ 1000000 := by rw [upT_size]; omega
  generalize upT c = U at TU hU ⊢
  generalize hbS : (U.toList == [83, 67, 65, 78]) = bS
  have IT : Hid (∀ w1, Ext w w1 → Calls Tryd.prog 58 #[.int .i64 n] w1 fun e w' => e = .returned (.string (numT n)) ∧ Ext w1 w') := hide fun w1 hx => itoa_any n h0 h1 w1 (hP.ext hx)
  have HT := hide hT
  have HSZ := hide (fun b => l5_sizes b k cur pt n ty h0 h1 hs)
  have HUS : Hid (U.size ≤ 1000000) := hide hU
  clear hT hP hs h0 h1 hU
  go_enter Tryd.func50, Tryd.ntmps50
  go_wp2_with fail
  refine (TU.out _).mono ?_
  rintro e w1 ⟨rfl, hx⟩
  have hb := (Blk.new w 73 #[.string c, .string k, .string pt, .int .i64 n, .string ty]).chg (Chg.of_ext hx []) (by simp)
  have hmk := run_make8 w1
  have I0 : Hid (ScW w w1 w1.heap.size c k pt n ty (.slice (some ⟨w1.heap.size, 0, none⟩) 0 8) [] (w1.alloc (.cells (ss (List.replicate 8 ⟨#[]⟩)).toArray 9))) := hide (by
    have q0 := hb.cell 0
    have q1 := hb.cell 1
    have q2 := hb.cell 2
    have q3 := hb.cell 3
    have q4 := hb.cell 4
    simp at q0 q1 q2 q3 q4
    exact ⟨⟨rfl, .inr ⟨_, _, _, rfl, Nat.le_refl _, heap_alloc_new w1 _, by simp, by unfold maxLen; omega, by simp [ss], rfl⟩⟩, (Below.refl _ _).alloc (Nat.le_refl _) _, ⟨q0, q1, q2, q3, q4⟩, rfl, by have := hx.sizes; simp at this; omega⟩)
  generalize hA : w1.alloc (.cells (ss (List.replicate 8 ⟨#[]⟩)).toArray 9) = W at hmk I0
  have HXW : Hid (Ext w1 W) := hide (by rw [← hA]; exact (Ext.refl w1).alloc _)
  clear hA
  have HX1 : Hid (Ext w w1) := hide (((Ext.refl w).alloc _).trans hx)
  clear hb hx TU
  clear HXW
  go_upto_if 14 with fail
  go_cut [8] (fun s8 wx => Hid (ScW w w1 w1.heap.size c k pt n ty s8 (opt (!bS) [k]) wx))
  case first =>
    cases bS with
    | true =>
      go_wp2
      go_meet
      case rel => exact hide I0.out
    | false =>
      obtain ⟨v', w', hrun, H⟩ := I0.out.add [k] (by simp) _ rfl
      obtain ⟨-, q1, -⟩ := I0.out.cells
      have H2 := hide H
      clear H I0
      simp only [ss, List.map_cons, List.map_nil, List.length_cons, List.length_nil, Nat.zero_add, Nat.reduceAdd, sMATCH, sCOUNT, sTYPE] at hrun
      go_wp2_with (at_builtin; refine wpList_append_run rfl _ _ _ _ rfl _ _ _ rfl rfl hrun ?_)
      go_meet
      case rel => exact hide H2.out
  clear I0
  obtain ⟨v', w', hrun, H⟩ := hcut.out.add [cur] (by have := opt_length (!bS) [k]; simp at *; omega) _ rfl
  have H2 : Hid (ScW w w1 w1.heap.size c k pt n ty v' (l2 bS k cur) w') := hide H
  have H5 := hide (l2_length bS k cur)
  obtain ⟨q0, q1, q2, q3, q4⟩ := H.cells
  clear hcut H hbS
  simp only [ss, List.map_cons, List.map_nil, List.length_cons, List.length_nil, Nat.zero_add, Nat.reduceAdd, sMATCH, sCOUNT, sTYPE] at hrun
  go_upto_if 26 with (at_builtin; refine wpList_append_run rfl _ _ _ _ rfl _ _ _ rfl rfl hrun ?_)
  clear q0 q1 q2 q3 q4 hrun
  go_cut [8] (fun s8 wx => Hid (ScW w w1 w1.heap.size c k pt n ty s8 (l3 bS k cur pt) wx))
  case first =>
    obtain ⟨q0, q1, q2, q3, q4⟩ := H2.out.cells
    cases hE : pt.toList.isEmpty with
    | true =>
      have H3 : Hid (ScW w w1 w1.heap.size c k pt n ty v' (l3 bS k cur pt) w') := hide (by
        unfold l3; rw [hE]; simp only [opt, Bool.not_true, Bool.false_eq_true, if_false, List.append_nil]; exact H2.out)
      go_wp2
      go_meet
      case rel => exact H3
    | false =>
      obtain ⟨v2, w2, hrun, H⟩ := H2.out.add [sMATCH, pt] (by have := H5.out; simp; omega) _ rfl
      have H3 : Hid (ScW w w1 w1.heap.size c k pt n ty v2 (l3 bS k cur pt) w2) := hide (by
        unfold l3; rw [hE]; exact H)
      clear H H2
      simp only [ss, List.map_cons, List.map_nil, List.length_cons, List.length_nil, Nat.zero_add, Nat.reduceAdd, sMATCH, sCOUNT, sTYPE] at hrun
      go_wp2_with (at_builtin; refine wpList_append_run rfl _ _ _ _ rfl _ _ _ rfl rfl hrun ?_)
      go_meet
      case rel => exact H3
  clear H2 H5

  have H5 := hide (l3_length bS k cur pt)
  obtain ⟨q0, q1, q2, q3, q4⟩ := hcut.out.cells
  go_upto_if 34 with fail
  clear q0 q1 q2 q3 q4
  have H2 := hcut
  clear hcut
  go_cut [8] (fun s8 wx => Hid (ScW w w1 w1.heap.size c k pt n ty s8 (l4 bS k cur pt n) wx))
  case first =>
    obtain ⟨q0, q1, q2, q3, q4⟩ := H2.out.cells
    by_cases hE : 0 < n
    · have CALL := hide (IT.out _ (HX1.out.trans H2.out.2.1))
      go_wp2_with fail
      refine CALL.out.mono ?_
      rintro e w2 ⟨rfl, hx⟩
      obtain ⟨v2, w3, hrun, H⟩ := (H2.out.on hx).add [sCOUNT, numT n] (by have := H5.out; simp; omega) _ rfl
      have H3 : Hid (ScW w w1 w1.heap.size c k pt n ty v2 (l4 bS k cur pt n) w3) := hide (by
        unfold l4; rw [decide_eq_true hE]; exact H)
      clear H H2 hx CALL
      simp only [ss, List.map_cons, List.map_nil, List.length_cons, List.length_nil, Nat.zero_add, Nat.reduceAdd, sMATCH, sCOUNT, sTYPE] at hrun
      go_wp2_with (at_builtin; refine wpList_append_run rfl _ _ _ _ rfl _ _ _ rfl rfl hrun ?_)
      go_meet
      case rel => exact H3
    · have H3 : Hid (ScW w w1 w1.heap.size c k pt n ty _ (l4 bS k cur pt n) _) := hide (by
        unfold l4; rw [decide_eq_false hE]; simp only [opt, Bool.false_eq_true, if_false, List.append_nil]; exact H2.out)
      go_wp2
      go_meet
      case rel => exact H3
  clear H2 H5
  have H5 := hide (l4_length bS k cur pt n)
  obtain ⟨q0, q1, q2, q3, q4⟩ := hcut.out.cells
  go_upto_if 43 with fail
  clear q0 q1 q2 q3 q4
  have H2 := hcut
  clear hcut
  go_cut [8] (fun s8 wx => Hid (ScW w w1 w1.heap.size c k pt n ty s8 (l5 bS k cur pt n ty) wx))
  case first =>
    obtain ⟨q0, q1, q2, q3, q4⟩ := H2.out.cells
    cases hE : ty.toList.isEmpty with
    | true =>
      have H3 : Hid (ScW w w1 w1.heap.size c k pt n ty _ (l5 bS k cur pt n ty) _) := hide (by
        unfold l5; rw [hE]; simp only [opt, Bool.not_true, Bool.false_eq_true, if_false, List.append_nil]; exact H2.out)
      go_wp2
      go_meet
      case rel => exact H3
    | false =>
      obtain ⟨v2, w2, hrun, H⟩ := H2.out.add [sTYPE, ty] (by have := H5.out; simp; omega) _ rfl
      have H3 : Hid (ScW w w1 w1.heap.size c k pt n ty v2 (l5 bS k cur pt n ty) w2) := hide (by
        unfold l5; rw [hE]; exact H)
      clear H H2
      simp only [ss, List.map_cons, List.map_nil, List.length_cons, List.length_nil, Nat.zero_add, Nat.reduceAdd, sMATCH, sCOUNT, sTYPE] at hrun
      go_wp2_with (at_builtin; refine wpList_append_run rfl _ _ _ _ rfl _ _ _ rfl rfl hrun ?_)
      go_meet
      case rel => exact H3
  clear H2 H5
  obtain ⟨A, cap, hv, hcap1, hcap2, hA⟩ := own_slice hcut.out.1
  subst hv
  have hRS := rs_of_own hcut.out.1
  have hXC : Ext w wc := HX1.out.trans hcut.out.2.1
  have hl := l5_length bS k cur pt n ty
  have CALL := hide (cmd_any U A cap (fun i => ∃ ad, A = some ad ∧ i = ad.block) (l5 bS k cur pt n ty).length _ _ wc (fun i ⟨ad, h1, h2⟩ => by
      rcases hcut.out.1.2 with ⟨hn, _⟩ | ⟨g, _, _, hg, _, hgg, _⟩
      · injection hn with hn; rw [hn] at h1; cases h1
      · injection hg with hg
        rw [h1] at hg
        injection hg with hg
        rw [h2, hg]
        exact (Array.getElem?_eq_some_iff.1 hgg).1) fun w2 hx2 =>
      propsU_any U A cap _ (l5 bS k cur pt n ty).length (l5 bS k cur pt n ty) w2 rfl HUS.out (HT.out.ext (hXC.trans hx2)) (hRS.ext hx2) (by omega) hcap1 hcap2 (fun s hs => Nat.le_trans (HSZ.out bS s hs) (by omega)) (fun ad h => .inl ⟨ad, h, rfl⟩) (fun i hi => .inr hi))
  have HE := hide (And.intro hXC hRS)
  have HAF : Hid (∀ ad, A = some ad → w.heap.size ≤ ad.block) := hide fun ad had => Nat.le_trans HX1.out.sizes (hA ad had)
  clear hcut hRS hXC hA IT HT HSZ HUS
  generalize keysOfU (upU U).toList (bareK.contains (upU U).data.toList) (l5 bS k cur pt n ty) = K at CALL
  generalize (!blockK.contains (upU U).data.toList) = p at CALL
  go_wp2_with fail
  refine CALL.out.mono ?_
  rintro e w2 ⟨g, A', c2, rfl, hb, hg, hR2, hx2, hc2, hm2, -⟩
  have HF := hide (And.intro hb (And.intro (HE.out.2.ext hx2) (HE.out.1.trans hx2)))
  clear hb hR2 hx2 HE CALL hcap1 hcap2
  go_wp2
  go_ret
  exact ⟨g, A, cap, A', K.length, c2, true, p, p, rfl, HF.out.1, HF.out.2.1, HF.out.2.2, HAF.out⟩
end Go.Proofs.YtepeokoeempfgaaDoor
