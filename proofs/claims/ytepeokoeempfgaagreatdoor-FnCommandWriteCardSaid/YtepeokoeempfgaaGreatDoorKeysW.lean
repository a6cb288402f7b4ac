/-
  blockingCmds, noKeyCmds, spec.word: what they compute.
-/
import Derived.Test.YtepeokoeempfgaaGreatDoorKeys
import Derived.Deep.DeepCutAuto
import Derived.Deep.CutBlock
namespace Go.Proofs.YtepeokoeempfgaaGreatDoor
open Go.RowKit
set_option linter.unusedVariables false
set_option linter.unusedSimpArgs false

section
variable {P : Program} {ops : Array Oper} {rest : List Oper} {o : Oper} {a : Act} {Q : Exit → Act → World → Prop} {w w' : World}
theorem wpList_val {v : Value} (hg : o.guard = none) (hr : (execOp a.eval o).run P w = .ok (.value v) w') (h : wpList P ops Q rest (a.put o.dst v) w') : wpList P ops Q (o :: rest) a w :=
  wpList_plain hg fun K hK => by unfold Oper.wp; rw [hr]; exact hK _ _ h
end
/-- A call that hands back a map of these keys, all true. -/
def RetMap (F : FuncId) (ks : List (List UInt8)) (w : World) : Prop := Calls Tryz.prog F #[] w fun e w' => ∃ m, e = .returned (.map (some m)) ∧ Ext w w' ∧ MapAt w' m ks

set_option maxRecDepth 100000 in
theorem blocking_any (w : World) : RetMap 36 blockK w := by
  unfold RetMap
  go_enter Tryz.func36, Tryz.ntmps36
  go_upto_region 1 with fail
  refine wp_region_lit ?_
  refine wpList_val rfl (w' := w.alloc (.map #[] 0)) (v := .map (some w.heap.size)) (by kernel_rfl) ?_
  have HX : Hid (Below w.heap.size w (w.alloc (.map #[] 0))) := hide ((Ext.refl w).alloc _)
  have HM : Hid (MapAt (w.alloc (.map #[] 0)) w.heap.size []) := hide (heap_alloc_new w _)
  generalize w.alloc (.map #[] 0) = W at HX HM
  generalize hm : w.heap.size = m at HX HM
  have HG := hide hm
  clear hm
  repeat
    refine wpList_insert (T := 111) Tryz.underlying111 Tryz.underlying9 rfl _ _ rfl m rfl _ rfl _ HM.out (by kernel_rfl) ?_
    intro w2 hM2 hB2
    have HX := hide (HX.out.trans hB2)
    have HM := hide hM2
    clear hM2 hB2
  go_wp2
  go_ret
  exact ⟨m, rfl, by rw [← HG.out] at HX; exact HX.out, HM.out⟩
set_option maxRecDepth 100000 in
theorem noKey_any (w : World) : RetMap 38 bareK w := by
  unfold RetMap
  go_enter Tryz.func38, Tryz.ntmps38
  go_upto_region 1 with fail
  refine wp_region_lit ?_
  refine wpList_val rfl (w' := w.alloc (.map #[] 0)) (v := .map (some w.heap.size)) (by kernel_rfl) ?_
  have HX : Hid (Below w.heap.size w (w.alloc (.map #[] 0))) := hide ((Ext.refl w).alloc _)
  have HM : Hid (MapAt (w.alloc (.map #[] 0)) w.heap.size []) := hide (heap_alloc_new w _)
  generalize w.alloc (.map #[] 0) = W at HX HM
  generalize hm : w.heap.size = m at HX HM
  have HG := hide hm
  clear hm
  repeat
    refine wpList_insert (T := 111) Tryz.underlying111 Tryz.underlying9 rfl _ _ rfl m rfl _ rfl _ HM.out (by kernel_rfl) ?_
    intro w2 hM2 hB2
    have HX := hide (HX.out.trans hB2)
    have HM := hide hM2
    clear hM2 hB2
  go_wp2
  go_ret
  exact ⟨m, rfl, by rw [← HG.out] at HX; exact HX.out, HM.out⟩

theorem hasAt_short (p : List UInt8) : ∀ l : List UInt8, l.length < p.length → hasAt p l = false
  | [], h => by
    cases p with
    | nil => simp at h
    | cons a p => rfl
  | c :: r, h => by
    have h1 : p.isPrefixOf (c :: r) = false := by
      rw [Bool.eq_false_iff]
      intro hp
      have := (List.isPrefixOf_iff_prefix.1 hp).length_le
      omega
    rw [hasAt, h1, hasAt_short p r (by simp at h; omega)]
    rfl
theorem take_pre (p l : List UInt8) : (l.take p.length == p) = p.isPrefixOf l := by
  rw [Bool.eq_iff_iff, List.isPrefixOf_iff_prefix, List.prefix_iff_eq_take, beq_iff_eq]
  exact eq_comm
theorem extract_list (t : ByteArray) (j n : Nat) : (t.extract j (j + n)).toList = (t.data.toList.drop j).take n := by
  rw [ByteArray.toList_eq, ByteArray.data_extract, Array.toList_extract, List.extract, Nat.add_sub_cancel_left]
theorem blank_list (s : ByteArray) : (({ data := #[32] } : ByteArray) ++ s ++ { data := #[32] }).toList = 32 :: (s.data.toList ++ [32]) := by
  rw [ByteArray.toList_eq]
  simp [ByteArray.data_append]
theorem snoc_at (s : ByteArray) (k : Nat) (h : k < s.size) : s.data.toList.take (k + 1) = s.data.toList.take k ++ [s[k]] := by
  rw [List.take_succ_eq_append_getElem (by simpa using h)]; rfl
theorem byte_is (c : UInt8) (n : Nat) (hn : n < 256) : ((c.toNat : Int) == (n : Int)) = decide (c = UInt8.ofNat n) := by
  rw [Bool.eq_iff_iff]
  simp only [beq_iff_eq, decide_eq_true_eq]
  constructor
  · intro h
    apply UInt8.toNat_inj.1
    simp
    omega
  · intro h
    subst h
    simp
    omega

end Go.Proofs.YtepeokoeempfgaaGreatDoor
