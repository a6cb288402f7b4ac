/-
  blockingCmds, noKeyCmds, spec.word: what they compute.
-/
import Derived.Test.YtepeokoeempfgaaDoorKeys
import Derived.Deep.DeepCutAuto
import Derived.Deep.CutBlock
namespace Go.Proofs.YtepeokoeempfgaaDoor
open Go.RowKit
set_option linter.unusedVariables false
set_option linter.unusedSimpArgs false

section
variable {P : Program} {ops : Array Oper} {rest : List Oper} {o : Oper} {a : Act} {Q : Exit → Act → World → Prop} {w w' : World}
theorem wpList_val {v : Value} (hg : o.guard = none) (hr : (execOp a.eval o).run P w = .ok (.value v) w') (h : wpList P ops Q rest (a.put o.dst v) w') : wpList P ops Q (o :: rest) a w :=
  wpList_plain hg fun K hK => by unfold Oper.wp; rw [hr]; exact hK _ _ h
end
/-- A call that hands back a map of these keys, all true. -/
def RetMap (F : FuncId) (ks : List (List UInt8)) (w : World) : Prop := Calls Tryd.prog F #[] w fun e w' => ∃ m, e = .returned (.map (some m)) ∧ Ext w w' ∧ MapAt w' m ks

set_option maxRecDepth 100000 in
theorem blocking_any (w : World) : RetMap 70 blockK w := by
  unfold RetMap
  go_enter Tryd.func70, Tryd.ntmps70
  go_upto_region 1 with fail
  refine wp_region_lit ?_
  refine wpList_val rfl (w' := w.alloc (.map #[] 0)) (v := .map (some w.heap.size)) (by kernel_rfl) ?_
  have HX : Hid (Below w.heap.size w (w.alloc (.map #[] 0))) := hide ((Ext.refl w).alloc _)
  have HM : Hid (MapAt (w.alloc (.map #[] 0)) w.heap.size []) := hide (heap_alloc_new w _)
  generalize w.alloc (.map #[] 0) = W at HX HM
  generalize hm : w.heap.size = m at HX HM
  have HG := hide hm
  clear hm
  repeat
    refine wpList_insert (T := 163) Tryd.underlying163 Tryd.underlying9 rfl _ _ rfl m rfl _ rfl _ HM.out (by kernel_rfl) ?_
    intro w2 hM2 hB2
    have HX := hide (HX.out.trans hB2)
    have HM := hide hM2
    clear hM2 hB2
  go_wp2
  go_ret
  exact ⟨m, rfl, by rw [← HG.out] at HX; exact HX.out, HM.out⟩
set_option maxRecDepth 100000 in
theorem noKey_any (w : World) : RetMap 71 bareK w := by
  unfold RetMap
  go_enter Tryd.func71, Tryd.ntmps71
  go_upto_region 1 with fail
  refine wp_region_lit ?_
  refine wpList_val rfl (w' := w.alloc (.map #[] 0)) (v := .map (some w.heap.size)) (by kernel_rfl) ?_
  have HX : Hid (Below w.heap.size w (w.alloc (.map #[] 0))) := hide ((Ext.refl w).alloc _)
  have HM : Hid (MapAt (w.alloc (.map #[] 0)) w.heap.size []) := hide (heap_alloc_new w _)
  generalize w.alloc (.map #[] 0) = W at HX HM
  generalize hm : w.heap.size = m at HX HM
  have HG := hide hm
  clear hm
  repeat
    refine wpList_insert (T := 163) Tryd.underlying163 Tryd.underlying9 rfl _ _ rfl m rfl _ rfl _ HM.out (by kernel_rfl) ?_
    intro w2 hM2 hB2
    have HX := hide (HX.out.trans hB2)
    have HM := hide hM2
    clear hM2 hB2
  go_wp2
  go_ret
  exact ⟨m, rfl, by rw [← HG.out] at HX; exact HX.out, HM.out⟩

theorem hasAt_short (p : List UInt8) : ∀ l : List UInt8, l.length < p.length → hasAt p l = false
  | [], h => by
    cases p with
    | nil => simp at h
    | cons a p => rfl
  | c :: r, h => by
    have h1 : p.isPrefixOf (c :: r) = false := by
      rw [Bool.eq_false_iff]
      intro hp
      have := (List.isPrefixOf_iff_prefix.1 hp).length_le
      omega
    rw [hasAt, h1, hasAt_short p r (by simp at h; omega)]
    rfl
theorem take_pre (p l : List UInt8) : (l.take p.length == p) = p.isPrefixOf l := by
  rw [Bool.eq_iff_iff, List.isPrefixOf_iff_prefix, List.prefix_iff_eq_take, beq_iff_eq]
  exact eq_comm
theorem extract_list (t : ByteArray) (j n : Nat) : (t.extract j (j + n)).toList = (t.data.toList.drop j).take n := by
  rw [ByteArray.toList_eq, ByteArray.data_extract, Array.toList_extract, List.extract, Nat.add_sub_cancel_left]
theorem blank_list (s : ByteArray) : (({ data := #[32] } : ByteArray) ++ s ++ { data := #[32] }).toList = 32 :: (s.data.toList ++ [32]) := by
  rw [ByteArray.toList_eq]
  simp [ByteArray.data_append]
theorem snoc_at (s : ByteArray) (k : Nat) (h : k < s.size) : s.data.toList.take (k + 1) = s.data.toList.take k ++ [s[k]] := by
  rw [List.take_succ_eq_append_getElem (by simpa using h)]; rfl
theorem byte_is (c : UInt8) (n : Nat) (hn : n < 256) : ((c.toNat : Int) == (n : Int)) = decide (c = UInt8.ofNat n) := by
  rw [Bool.eq_iff_iff]
  simp only [beq_iff_eq, decide_eq_true_eq]
  constructor
  · intro h
    apply UInt8.toNat_inj.1
    simp
    omega
  · intro h
    subst h
    simp
    omega

set_option maxRecDepth 100000 in
theorem word_any (s t : ByteArray) (ks : List (List UInt8)) (w : World) (hs : s.size ≤ 1000000) (ht : t.data.toList = encK ks) (ht2 : t.size ≤ 1000000) (hks : ∀ k ∈ ks, (32 : UInt8) ∉ k ∧ k ≠ []) :
    Calls Tryd.prog 20 #[.string s, .string t] w fun e w' => e = .returned (.bool (ks.contains s.data.toList)) ∧ w = w' := by
  have HE := hide (fun (hn : (32 : UInt8) ∉ s.data.toList) => hasAt_enc s.data.toList hn ks (fun k hk => (hks k hk).1))
  generalize hV : ks.contains s.data.toList = V at HE
  have HV := hide hV
  have HKS := hide hks
  have HT := hide ht
  clear hV hks ht
  go_enter Tryd.func20, Tryd.ntmps20
  go_wp2
  go_loop [5] (fun s5 => ∃ k : Nat, k ≤ s.size ∧ s5 = .int .i64 k ∧ Hid ((32 : UInt8) ∉ s.data.toList.take k)) (fun s5 => s.size - (intOf s5).toNat)
  case atStart => exact ⟨0, by omega, rfl, hide (by simp)⟩
  case round =>
    obtain ⟨k, hk, rfl, HI⟩ := hrel
    by_cases hlt : k < s.size
    · have b32 : ((s[k].toNat : Int) == 32) = decide (s[k] = 32) := byte_is s[k] 32 (by omega)
      have HN : Hid (¬ s[k] = 32 → (32 : UInt8) ∉ s.data.toList.take (k + 1)) := hide fun h => by
        rw [snoc_at s k hlt]
        simp only [List.mem_append, List.mem_singleton, not_or]
        exact ⟨HI.out, fun e => h e.symm⟩
      have HF : Hid (s[k] = 32 → V = false) := hide fun h => by
        rw [← HV.out, Bool.eq_false_iff]
        intro hc
        refine (HKS.out _ (List.contains_iff_mem.1 hc)).1 ?_
        rw [← h]
        exact List.mem_iff_getElem.2 ⟨k, by rw [size_data]; exact hlt, rfl⟩
      by_cases h32 : s[k] = 32
      · rw [decide_eq_true h32] at b32
        have R := hide (HF.out h32)
        clear HF HN h32 HI
        go_wp2
        go_ret
        exact ⟨by rw [R.out]; rfl, rfl⟩
      · rw [decide_eq_false h32] at b32
        have R := hide (HN.out h32)
        clear HF HN h32 HI
        go_wp2
        go_round
        case rel => exact ⟨k + 1, by omega, by go_num, R⟩
        case measure => simp [intOf]; omega
    · obtain rfl : k = s.size := by omega
      have HN32 : Hid ((32 : UInt8) ∉ s.data.toList) := hide (by
        have h := HI.out
        rwa [List.take_of_length_le (by rw [size_data]; exact Nat.le_refl _)] at h)
      have HE2 := hide (HE.out HN32.out)
      clear HI HE
      go_wp2
      go_loop [6] (fun s6 => ∃ j : Nat, j ≤ t.size ∧ s6 = .int .i64 j ∧ Hid (hasAt (32 :: (s.data.toList ++ [32])) (t.data.toList.drop j) = V)) (fun s6 => t.size - (intOf s6).toNat)
      case atStart => exact ⟨0, by omega, rfl, hide (by rw [List.drop_zero, HT.out]; exact HE2.out)⟩
      case round =>
        obtain ⟨j, hj, rfl, HJ⟩ := hrel
        have hpl : (32 :: (s.data.toList ++ [32])).length = s.size + 2 := by simp
        by_cases hlt2 : j + s.size + 2 ≤ t.size
        · have EQ : ((t.extract j (j + s.size + 2)).toList == (({ data := #[32] } : ByteArray) ++ s ++ { data := #[32] }).toList) = (32 :: (s.data.toList ++ [32])).isPrefixOf (t.data.toList.drop j) := by
            rw [Nat.add_assoc, extract_list, blank_list, ← hpl, take_pre]
          have hd : t.data.toList.drop j = t[j] :: t.data.toList.drop (j + 1) := List.drop_eq_getElem_cons (by rw [size_data]; omega)
          have HS : Hid (((32 :: (s.data.toList ++ [32])).isPrefixOf (t.data.toList.drop j) || hasAt (32 :: (s.data.toList ++ [32])) (t.data.toList.drop (j + 1))) = V) := hide (by
            have := HJ.out
            rw [hd, hasAt] at this
            rw [hd]
            exact this)
          clear hd hpl HJ
          cases hP : (32 :: (s.data.toList ++ [32])).isPrefixOf (t.data.toList.drop j) with
          | true =>
            rw [hP] at EQ HS
            have R : Hid (V = true) := hide HS.out.symm
            have hne : s.toList.isEmpty = false := by
              rw [ByteArray.toList_eq]
              have h1 := R.out
              rw [← HV.out] at h1
              have := (HKS.out _ (List.contains_iff_mem.1 h1)).2
              cases hq : s.data.toList with
              | nil => exact absurd hq this
              | cons a l => rfl
            clear HS hP HE2
            go_wp2
            go_ret
            exact ⟨by rw [R.out]; rfl, rfl⟩
          | false =>
            rw [hP] at EQ HS
            have R : Hid (hasAt (32 :: (s.data.toList ++ [32])) (t.data.toList.drop (j + 1)) = V) := hide (by have := HS.out; rwa [Bool.false_or] at this)
            clear HS hP HE2
            go_wp2
            go_round
            case rel => exact ⟨j + 1, by omega, by go_num, R⟩
            case measure => simp [intOf]; omega
        · have R : Hid (V = false) := hide (by
            have := HJ.out
            rw [hasAt_short _ _ (by rw [hpl, List.length_drop, size_data]; omega)] at this
            exact this.symm)
          clear hpl HJ HE2
          go_wp2
          go_ret
          exact ⟨by rw [R.out]; rfl, rfl⟩
end Go.Proofs.YtepeokoeempfgaaDoor
