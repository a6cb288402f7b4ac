/-
  The decoder's sets of bytes: contracts.
-/
import Derived.Test.YtejngpbeogaapaaDoorOps
import Derived.Deep.DeepCutAuto
import Derived.Deep.WholeRow
import Derived.LoopTactic
namespace Go.Proofs.YtejngpbeogaapaaDoor
open Go.RowKit
set_option linter.unusedVariables false
set_option linter.unusedSimpArgs false

section
variable {P : Program} {ops : Array Oper} {rest : List Oper} {o : Oper} {a : Act} {Q : Exit → Act → World → Prop} {w w' : World}
theorem wpList_val {v : Value} (hg : o.guard = none) (hr : (execOp a.eval o).run P w = .ok (.value v) w') (h : wpList P ops Q rest (a.put o.dst v) w') : wpList P ops Q (o :: rest) a w :=
  wpList_plain hg fun K hK => by unfold Oper.wp; rw [hr]; exact hK _ _ h
theorem wpList_skip (hg : o.guard = none) (hr : (execOp a.eval o).run P w = .ok .skip w') (h : wpList P ops Q rest (a.put o.dst undef) w') : wpList P ops Q (o :: rest) a w :=
  wpList_plain hg fun K hK => by unfold Oper.wp; rw [hr]; exact hK _ _ h
end

/-- A set's cells. -/
def setArr (f : Nat → Bool) : Array Value := ((List.range 256).map fun i => Value.bool (f i)).toArray
theorem setArr_size (f : Nat → Bool) : (setArr f).size = 256 := by simp [setArr]
theorem setArr_get (f : Nat → Bool) {i : Nat} (hi : i < 256) : (setArr f)[i]? = some (.bool (f i)) := by simp [setArr, hi]
theorem setArr_ext {f g : Nat → Bool} (h : ∀ i, i < 256 → f i = g i) : setArr f = setArr g := by
  unfold setArr; congr 1; apply List.map_congr_left; intro i hi; rw [h i (List.mem_range.1 hi)]
def upd (f : Nat → Bool) (j : Nat) (b : Bool) : Nat → Bool := fun i => if i = j then b else f i
theorem setArr_upd (f : Nat → Bool) (j : Nat) (b : Bool) : (setArr f).setIfInBounds j (.bool b) = setArr (upd f j b) := by
  apply Array.ext_getElem?
  intro i
  rw [Array.getElem?_setIfInBounds]
  by_cases hi : i < 256
  · rw [setArr_get _ hi, setArr_get _ hi, setArr_size]
    by_cases hj : j = i
    · subst hj; simp [upd, hi]
    · have : ¬ i = j := fun h => hj h.symm
      simp [hj, upd, this]
  · rw [Array.getElem?_eq_none (by rw [setArr_size]; omega), Array.getElem?_eq_none (by rw [setArr_size]; omega), setArr_size]
    by_cases hj : j = i
    · subst hj; simp [hi]
    · simp [hj]

def SetAt (w : World) (g : Nat) (f : Nat → Bool) : Prop := Blk w g 129 (setArr f)
theorem SetAt.ext {w w' : World} {g : Nat} {f : Nat → Bool} (h : SetAt w g f) (hx : Ext w w') : SetAt w' g f := Blk.below h hx (Blk.lt h)
theorem SetAt.cell {w : World} {g : Nat} {f : Nat → Bool} (h : SetAt w g f) {i : Nat} (hi : i < 256) : w.cell? ⟨g, i, none⟩ = some (.bool (f i)) := by
  rw [Blk.cell h]; exact setArr_get f hi
theorem SetAt.frozen {w : World} {g : Nat} {f : Nat → Bool} (h : SetAt w g f) (i : Nat) : w.frozen? ⟨g, i, none⟩ = false := Blk.frozen h i
theorem SetAt.put {w : World} {g : Nat} {f : Nat → Bool} (h : SetAt w g f) (i : Nat) (b : Bool) : SetAt (w.setCell ⟨g, i, none⟩ (.bool b)) g (upd f i b) := by
  have := Blk.set_ h i (.bool b)
  rw [setArr_upd] at this
  exact this
theorem SetAt.far {w : World} {g g' : Nat} {f : Nat → Bool} (h : SetAt w g f) (hne : g ≠ g') (i : Nat) (u : Value) : SetAt (w.setCell ⟨g', i, none⟩ u) g f := Blk.far h hne u
theorem SetAt.congr {w : World} {g : Nat} {f f' : Nat → Bool} (h : SetAt w g f) (he : ∀ i, i < 256 → f i = f' i) : SetAt w g f' := by unfold SetAt; rw [← setArr_ext he]; exact h
theorem SetAt.lt {w : World} {g : Nat} {f : Nat → Bool} (h : SetAt w g f) : g < w.heap.size := Blk.lt h

/-- A call that hands back a set. -/
def RetSet (F : FuncId) (args : Array Value) (w : World) (f : Nat → Bool) : Prop :=
  Calls Tryd.prog F args w fun e w' => ∃ g, e = .returned (.pointer (some ⟨g, 0, none⟩)) ∧ Ext w w' ∧ SetAt w' g f ∧ w.heap.size ≤ g

theorem get_any (w : World) (g : Nat) (f : Nat → Bool) (x : UInt8) (h : SetAt w g f) :
    Calls Tryd.prog 50 #[.pointer (some ⟨g, 0, none⟩), .int .u8 x.toNat] w fun e w' => e = .returned (.bool (f x.toNat)) ∧ Ext w w' := by
  have hc := h.cell (i := x.toNat) (by have := x.toNat_lt; omega)
  have hx := x.toNat_lt
  have HX := hide h
  clear h
  go_enter Tryd.func50, Tryd.ntmps50
  go_wp2
  go_ret
  exact ⟨rfl, Ext.refl _⟩

theorem set_any (w : World) (g : Nat) (f : Nat → Bool) (n : Nat) (hn : n < 256) (h : SetAt w g f) :
    Calls Tryd.prog 91 #[.pointer (some ⟨g, 0, none⟩), .int .u8 n] w fun e w' => e = .returned (.tuple #[]) ∧ w' = w.setCell ⟨g, n, none⟩ (.bool true) := by
  have hc := h.cell (i := n) hn
  have hf := h.frozen n
  clear h
  go_enter Tryd.func91, Tryd.ntmps91
  go_wp2
  exact bodyPost_end (results_none rfl _ _ _) rfl ⟨rfl, rfl⟩

theorem take_snoc_s (s : ByteArray) (k : Nat) (h : k < s.size) : s.data.toList.take (k + 1) = s.data.toList.take k ++ [s[k]] := by
  rw [List.take_succ_eq_append_getElem (by simpa using h)]; rfl
def inText (l : List UInt8) (i : Nat) : Bool := l.any fun b => b.toNat == i
theorem inText_snoc (l : List UInt8) (b : UInt8) (i : Nat) : inText (l ++ [b]) i = upd (inText l) b.toNat true i := by
  unfold inText upd
  by_cases h : i = b.toNat
  · subst h; simp
  · have : ¬ b.toNat = i := fun e => h e.symm
    simp [h, this]

set_option maxRecDepth 100000 in
theorem newByteSet_any (w : World) (s : ByteArray) (hs : s.size ≤ 1000) : RetSet 81 #[.string s] w (inText s.data.toList) := by
  unfold RetSet
  go_enter Tryd.func81, Tryd.ntmps81
  go_upto_region 1 with fail
  refine wp_region_lit ?_
  refine wpList_val rfl (w' := w.alloc (.cells (setArr fun _ => false) 129)) (v := .pointer (some ⟨w.heap.size, 0, none⟩)) (by kernel_rfl) ?_
  have hx : Ext w (w.alloc (.cells (setArr fun _ => false) 129)) := (Ext.refl w).alloc _
  have hb : SetAt (w.alloc (.cells (setArr fun _ => false) 129)) w.heap.size (fun _ => false) := Blk.new _ _ _
  generalize w.alloc (.cells (setArr fun _ => false) 129) = W at hx hb
  have HX := hide hx
  have HB := hide hb
  clear hx hb
  generalize hg : w.heap.size = g at HB
  have HG := hide hg
  clear hg
  go_wp2_with fail
  go_loopw [4] (fun s4 wr => ∃ k : Nat, k ≤ s.size ∧ s4 = .int .i64 k ∧ Hid (Ext w wr) ∧ Hid (SetAt wr g (inText (s.data.toList.take k)))) (fun s4 _ => s.size - (intOf s4).toNat)
  case atStart => exact ⟨0, by omega, rfl, HX, hide (HB.out.congr fun i _ => by simp [inText])⟩
  case round =>
    obtain ⟨k, hk, rfl, HY, HS⟩ := hrel
    by_cases hlt : k < s.size
    · go_wp2_with fail
      refine (set_any _ g _ _ (by have := s[k].toNat_lt; omega) HS.out).mono ?_
      rintro e w1 ⟨rfl, hw1⟩
      have HY1 : Hid (Ext w w1) := hide (hw1 ▸ Ext.setCell HY.out (by rw [HG.out]; exact Nat.le_refl _) _)
      have HS1 : Hid (SetAt w1 g (inText (s.data.toList.take (k + 1)))) := hide (by
        rw [hw1]
        refine (HS.out.put _ true).congr fun i _ => ?_
        rw [take_snoc_s s k hlt, inText_snoc])
      clear hw1
      go_wp2
      go_roundw
      case rel => exact ⟨k + 1, by omega, by go_num, HY1, HS1⟩
      case measure => simp [intOf]; omega
    · have HS1 : Hid (SetAt wr g (inText s.data.toList)) := hide (by
        have h := HS.out
        rwa [List.take_of_length_le (by rw [size_data]; omega)] at h)
      go_wp2
      go_ret
      exact ⟨g, rfl, HY.out, HS1.out, Nat.le_of_eq HG.out⟩

set_option maxRecDepth 100000 in
theorem newByteSetRange_any (w : World) (i0 i1 : Nat) (h0 : i0 ≤ i1) (h1 : i1 < 255) : RetSet 84 #[.int .u8 i0, .int .u8 i1] w (fun i => decide (i0 ≤ i) && decide (i ≤ i1)) := by
  unfold RetSet
  go_enter Tryd.func84, Tryd.ntmps84
  go_upto_region 1 with fail
  refine wp_region_lit ?_
  refine wpList_val rfl (w' := w.alloc (.cells (setArr fun _ => false) 129)) (v := .pointer (some ⟨w.heap.size, 0, none⟩)) (by kernel_rfl) ?_
  have hx : Ext w (w.alloc (.cells (setArr fun _ => false) 129)) := (Ext.refl w).alloc _
  have hb : SetAt (w.alloc (.cells (setArr fun _ => false) 129)) w.heap.size (fun _ => false) := Blk.new _ _ _
  generalize w.alloc (.cells (setArr fun _ => false) 129) = W at hx hb
  have HX := hide hx
  have HB := hide hb
  clear hx hb
  generalize hg : w.heap.size = g at HB
  have HG := hide hg
  clear hg
  go_wp2_with fail
  go_loopw [6] (fun s6 wr => ∃ k : Nat, i0 ≤ k ∧ k ≤ i1 + 1 ∧ s6 = .int .u8 k ∧ Hid (Ext w wr) ∧ Hid (SetAt wr g (fun i => decide (i0 ≤ i) && decide (i < k)))) (fun s6 _ => i1 + 1 - (intOf s6).toNat)
  case atStart => exact ⟨i0, by omega, by omega, rfl, HX, hide (HB.out.congr fun i _ => by
    by_cases h : i0 ≤ i
    · have : ¬ i < i0 := by omega
      simp [this]
    · simp [h])⟩
  case round =>
    obtain ⟨k, hk0, hk, rfl, HY, HS⟩ := hrel
    by_cases hlt : k ≤ i1
    · go_wp2_with fail
      refine (set_any _ g _ _ (by omega) HS.out).mono ?_
      rintro e w1 ⟨rfl, hw1⟩
      have HY1 : Hid (Ext w w1) := hide (hw1 ▸ Ext.setCell HY.out (by rw [HG.out]; exact Nat.le_refl _) _)
      have HS1 : Hid (SetAt w1 g (fun i => decide (i0 ≤ i) && decide (i < k + 1))) := hide (by
        rw [hw1]
        refine (HS.out.put _ true).congr fun i _ => ?_
        unfold upd
        by_cases h : i = k
        · subst h; simp [hk0]
        · by_cases h2 : i < k
          · have : i < k + 1 := by omega
            simp [h, h2, this]
          · have : ¬ i < k + 1 := by omega
            simp [h, h2, this])
      clear hw1
      go_wp2
      go_roundw
      case rel => exact ⟨k + 1, by omega, by omega, by go_num, HY1, HS1⟩
      case measure => simp [intOf]; omega
    · have HS1 : Hid (SetAt wr g (fun i => decide (i0 ≤ i) && decide (i ≤ i1))) := hide (HS.out.congr fun i _ => by
        by_cases h : i ≤ i1
        · have : i < k := by omega
          simp [h, this]
        · have : ¬ i < k := by omega
          simp [h, this])
      go_wp2
      go_ret
      exact ⟨g, rfl, HY.out, HS1.out, Nat.le_of_eq HG.out⟩

theorem load_set {w : World} {g : Nat} {f : Nat → Bool} (h : SetAt w g f) : (Instr.loadAt 129 (.pointer (some ⟨g, 0, none⟩))).run Tryd.prog w = .ok (.agg (setArr f)) w := by
  simp only [Instr.loadAt, Instr.sureAddr, Sem.run_bind, Sem.run_pure, Result.andThen]
  exact run_loadVar_row w g 129 129 (setArr f) (0, 0) _ h Tryd.underlying129 rfl (by rw [setArr_size]; kernel_rfl)
theorem store_set (w : World) (f : Nat → Bool) : (Instr.storeAt 129 (.pointer (some ⟨w.heap.size, 0, none⟩)) (.agg (setArr f))).run Tryd.prog (w.alloc (.cells (setArr fun _ => false) 129)) = .ok () (w.alloc (.cells (setArr f) 129)) :=
  run_storeAt_new w 129 (setArr fun _ => false) (setArr f) (by rw [setArr_size]; kernel_rfl) (by rw [setArr_size, setArr_size]) (by simp [setArr, Value.oneCell'])

set_option maxRecDepth 100000 in
theorem union_any (w : World) (b b1 : Nat) (f f1 : Nat → Bool) (h : SetAt w b f) (h1 : SetAt w b1 f1) : RetSet 82 #[.pointer (some ⟨b, 0, none⟩), .pointer (some ⟨b1, 0, none⟩)] w (fun i => f i || f1 i) := by
  unfold RetSet
  have HL := hide (load_set h)
  have H1 := hide h1
  clear h h1
  go_enter Tryd.func82, Tryd.ntmps82
  go_upto_region 1 with fail
  refine wp_region_lit ?_
  refine wpList_val rfl (w' := w) (v := .pointer (some ⟨b, 0, none⟩)) rfl ?_
  refine wpList_val rfl (w' := w) (v := .pointer (some ⟨b, 0, none⟩)) rfl ?_
  refine wpList_val rfl (w' := w) (v := .agg (setArr f)) (by
    simp only [execOp, Act.eval, Act.put, Sem.run_bind]
    exact Eq.trans (congrArg (fun r => Result.andThen r _) HL.out) rfl) ?_
  refine wpList_val rfl (w' := w.alloc (.cells (setArr fun _ => false) 129)) (v := .pointer (some ⟨w.heap.size, 0, none⟩)) (by kernel_rfl) ?_
  refine wpList_skip rfl (w' := w.alloc (.cells (setArr f) 129)) (by
    simp only [execOp, Act.eval, Act.put, Sem.run_bind]
    exact Eq.trans (congrArg (fun r => Result.andThen r _) (store_set w f)) rfl) ?_
  have HX : Hid (Ext w (w.alloc (.cells (setArr f) 129))) := hide ((Ext.refl w).alloc _)
  have HB : Hid (SetAt (w.alloc (.cells (setArr f) 129)) w.heap.size f) := hide (Blk.new _ _ _)
  have HB1 : Hid (SetAt (w.alloc (.cells (setArr f) 129)) b1 f1) := hide (H1.out.ext HX.out)
  have HNE : Hid (b1 ≠ w.heap.size) := hide (Nat.ne_of_lt H1.out.lt)
  clear HL H1
  generalize w.alloc (.cells (setArr f) 129) = W at HX HB HB1
  generalize hg : w.heap.size = g at HB HNE
  have HG := hide hg
  clear hg
  simp only [Act.put]
  generalize Value.agg (setArr f) = vt
  go_wp2_with fail
  go_loopw [10] (fun s10 wr => ∃ k : Nat, k ≤ 256 ∧ s10 = .int .i64 k ∧ Hid (Ext w wr) ∧ Hid (SetAt wr g (fun i => if i < k then f i || f1 i else f i)) ∧ Hid (SetAt wr b1 f1)) (fun s10 _ => 256 - (intOf s10).toNat)
  case atStart => exact ⟨0, by omega, rfl, HX, hide (HB.out.congr fun i _ => by simp), HB1⟩
  case round =>
    obtain ⟨k, hk, rfl, HY, HS, HS1⟩ := hrel
    by_cases hlt : k < 256
    · have c1 := HS.out.cell hlt
      rw [if_neg (Nat.lt_irrefl k)] at c1
      have c2 := HS1.out.cell hlt
      have c3 := HS.out.frozen k
      have hnext : ∀ v : Bool, v = (f k || f1 k) → Hid (Ext w (wr.setCell ⟨g, k, none⟩ (.bool v)) ∧ SetAt (wr.setCell ⟨g, k, none⟩ (.bool v)) g (fun i => if i < k + 1 then f i || f1 i else f i) ∧ SetAt (wr.setCell ⟨g, k, none⟩ (.bool v)) b1 f1) := fun v hv => hide ⟨Ext.setCell HY.out (by rw [HG.out]; exact Nat.le_refl _) _,
        (HS.out.put k v).congr (fun i _ => by
          unfold upd
          by_cases h : i = k
          · subst h; simp [hv]
          · by_cases h2 : i < k
            · have : i < k + 1 := by omega
              simp [h, h2, this]
            · have : ¬ i < k + 1 := by omega
              simp [h, h2, this]), HS1.out.far HNE.out k _⟩
      have HN := hide hnext
      clear hnext
      cases hfk : f k
      all_goals
        rw [hfk] at c1
        cases hf1 : f1 k
        all_goals
          rw [hf1] at c2
          have HF := hide (And.intro hfk hf1)
          clear hfk hf1
          go_wp2
          go_roundw
          case rel => exact ⟨k + 1, by omega, by go_num, hide (HN.out _ (by rw [HF.out.1, HF.out.2]; rfl)).out.1, hide (HN.out _ (by rw [HF.out.1, HF.out.2]; rfl)).out.2.1, hide (HN.out _ (by rw [HF.out.1, HF.out.2]; rfl)).out.2.2⟩
          case measure => simp [intOf]; omega
    · have HS2 : Hid (SetAt wr g (fun i => f i || f1 i)) := hide (HS.out.congr fun i hi => by rw [if_pos (by omega)])
      go_wp2
      go_ret
      exact ⟨g, rfl, HY.out, HS2.out, Nat.le_of_eq HG.out⟩

set_option maxRecDepth 100000 in
theorem intersect_any (w : World) (b b1 : Nat) (f f1 : Nat → Bool) (h : SetAt w b f) (h1 : SetAt w b1 f1) : RetSet 92 #[.pointer (some ⟨b, 0, none⟩), .pointer (some ⟨b1, 0, none⟩)] w (fun i => f i && f1 i) := by
  unfold RetSet
  have HL := hide (load_set h)
  have H1 := hide h1
  clear h h1
  go_enter Tryd.func92, Tryd.ntmps92
  go_upto_region 1 with fail
  refine wp_region_lit ?_
  refine wpList_val rfl (w' := w) (v := .pointer (some ⟨b, 0, none⟩)) rfl ?_
  refine wpList_val rfl (w' := w) (v := .pointer (some ⟨b, 0, none⟩)) rfl ?_
  refine wpList_val rfl (w' := w) (v := .agg (setArr f)) (by
    simp only [execOp, Act.eval, Act.put, Sem.run_bind]
    exact Eq.trans (congrArg (fun r => Result.andThen r _) HL.out) rfl) ?_
  refine wpList_val rfl (w' := w.alloc (.cells (setArr fun _ => false) 129)) (v := .pointer (some ⟨w.heap.size, 0, none⟩)) (by kernel_rfl) ?_
  refine wpList_skip rfl (w' := w.alloc (.cells (setArr f) 129)) (by
    simp only [execOp, Act.eval, Act.put, Sem.run_bind]
    exact Eq.trans (congrArg (fun r => Result.andThen r _) (store_set w f)) rfl) ?_
  have HX : Hid (Ext w (w.alloc (.cells (setArr f) 129))) := hide ((Ext.refl w).alloc _)
  have HB : Hid (SetAt (w.alloc (.cells (setArr f) 129)) w.heap.size f) := hide (Blk.new _ _ _)
  have HB1 : Hid (SetAt (w.alloc (.cells (setArr f) 129)) b1 f1) := hide (H1.out.ext HX.out)
  have HNE : Hid (b1 ≠ w.heap.size) := hide (Nat.ne_of_lt H1.out.lt)
  clear HL H1
  generalize w.alloc (.cells (setArr f) 129) = W at HX HB HB1
  generalize hg : w.heap.size = g at HB HNE
  have HG := hide hg
  clear hg
  simp only [Act.put]
  generalize Value.agg (setArr f) = vt
  go_wp2_with fail
  go_loopw [10] (fun s10 wr => ∃ k : Nat, k ≤ 256 ∧ s10 = .int .i64 k ∧ Hid (Ext w wr) ∧ Hid (SetAt wr g (fun i => if i < k then f i && f1 i else f i)) ∧ Hid (SetAt wr b1 f1)) (fun s10 _ => 256 - (intOf s10).toNat)
  case atStart => exact ⟨0, by omega, rfl, HX, hide (HB.out.congr fun i _ => by simp), HB1⟩
  case round =>
    obtain ⟨k, hk, rfl, HY, HS, HS1⟩ := hrel
    by_cases hlt : k < 256
    · have c1 := HS.out.cell hlt
      rw [if_neg (Nat.lt_irrefl k)] at c1
      have c2 := HS1.out.cell hlt
      have c3 := HS.out.frozen k
      have hnext : ∀ v : Bool, v = (f k && f1 k) → Hid (Ext w (wr.setCell ⟨g, k, none⟩ (.bool v)) ∧ SetAt (wr.setCell ⟨g, k, none⟩ (.bool v)) g (fun i => if i < k + 1 then f i && f1 i else f i) ∧ SetAt (wr.setCell ⟨g, k, none⟩ (.bool v)) b1 f1) := fun v hv => hide ⟨Ext.setCell HY.out (by rw [HG.out]; exact Nat.le_refl _) _,
        (HS.out.put k v).congr (fun i _ => by
          unfold upd
          by_cases h : i = k
          · subst h; simp [hv]
          · by_cases h2 : i < k
            · have : i < k + 1 := by omega
              simp [h, h2, this]
            · have : ¬ i < k + 1 := by omega
              simp [h, h2, this]), HS1.out.far HNE.out k _⟩
      have HN := hide hnext
      clear hnext
      cases hfk : f k
      all_goals
        rw [hfk] at c1
        cases hf1 : f1 k
        all_goals
          rw [hf1] at c2
          have HF := hide (And.intro hfk hf1)
          clear hfk hf1
          go_wp2
          go_roundw
          case rel => exact ⟨k + 1, by omega, by go_num, hide (HN.out _ (by rw [HF.out.1, HF.out.2]; rfl)).out.1, hide (HN.out _ (by rw [HF.out.1, HF.out.2]; rfl)).out.2.1, hide (HN.out _ (by rw [HF.out.1, HF.out.2]; rfl)).out.2.2⟩
          case measure => simp [intOf]; omega
    · have HS2 : Hid (SetAt wr g (fun i => f i && f1 i)) := hide (HS.out.congr fun i hi => by rw [if_pos (by omega)])
      go_wp2
      go_ret
      exact ⟨g, rfl, HY.out, HS2.out, Nat.le_of_eq HG.out⟩

set_option maxRecDepth 100000 in
theorem invert_any (w : World) (b : Nat) (f : Nat → Bool) (h : SetAt w b f) : RetSet 83 #[.pointer (some ⟨b, 0, none⟩)] w (fun i => !f i) := by
  unfold RetSet
  have HL := hide (load_set h)
  clear h
  go_enter Tryd.func83, Tryd.ntmps83
  go_upto_region 1 with fail
  refine wp_region_lit ?_
  refine wpList_val rfl (w' := w) (v := .pointer (some ⟨b, 0, none⟩)) rfl ?_
  refine wpList_val rfl (w' := w) (v := .pointer (some ⟨b, 0, none⟩)) rfl ?_
  refine wpList_val rfl (w' := w) (v := .agg (setArr f)) (by
    simp only [execOp, Act.eval, Act.put, Sem.run_bind]
    exact Eq.trans (congrArg (fun r => Result.andThen r _) HL.out) rfl) ?_
  refine wpList_val rfl (w' := w.alloc (.cells (setArr fun _ => false) 129)) (v := .pointer (some ⟨w.heap.size, 0, none⟩)) (by kernel_rfl) ?_
  refine wpList_skip rfl (w' := w.alloc (.cells (setArr f) 129)) (by
    simp only [execOp, Act.eval, Act.put, Sem.run_bind]
    exact Eq.trans (congrArg (fun r => Result.andThen r _) (store_set w f)) rfl) ?_
  have HX : Hid (Ext w (w.alloc (.cells (setArr f) 129))) := hide ((Ext.refl w).alloc _)
  have HB : Hid (SetAt (w.alloc (.cells (setArr f) 129)) w.heap.size f) := hide (Blk.new _ _ _)
  clear HL
  generalize w.alloc (.cells (setArr f) 129) = W at HX HB
  generalize hg : w.heap.size = g at HB
  have HG := hide hg
  clear hg
  simp only [Act.put]
  generalize Value.agg (setArr f) = vt
  go_wp2_with fail
  go_loopw [8] (fun s8 wr => ∃ k : Nat, k ≤ 256 ∧ s8 = .int .i64 k ∧ Hid (Ext w wr) ∧ Hid (SetAt wr g (fun i => if i < k then !f i else f i))) (fun s8 _ => 256 - (intOf s8).toNat)
  case atStart => exact ⟨0, by omega, rfl, HX, hide (HB.out.congr fun i _ => by simp)⟩
  case round =>
    obtain ⟨k, hk, rfl, HY, HS⟩ := hrel
    by_cases hlt : k < 256
    · have c1 := HS.out.cell hlt
      rw [if_neg (Nat.lt_irrefl k)] at c1
      have c3 := HS.out.frozen k
      have HN : Hid (Ext w (wr.setCell ⟨g, k, none⟩ (.bool (!f k))) ∧ SetAt (wr.setCell ⟨g, k, none⟩ (.bool (!f k))) g (fun i => if i < k + 1 then !f i else f i)) := hide ⟨Ext.setCell HY.out (by rw [HG.out]; exact Nat.le_refl _) _,
        (HS.out.put k _).congr (fun i _ => by
          unfold upd
          by_cases h : i = k
          · subst h; simp
          · by_cases h2 : i < k
            · have : i < k + 1 := by omega
              simp [h, h2, this]
            · have : ¬ i < k + 1 := by omega
              simp [h, h2, this])⟩
      go_wp2
      go_roundw
      case rel => exact ⟨k + 1, by omega, by go_num, hide HN.out.1, hide HN.out.2⟩
      case measure => simp [intOf]; omega
    · have HS2 : Hid (SetAt wr g (fun i => !f i)) := hide (HS.out.congr fun i hi => by rw [if_pos (by omega)])
      go_wp2
      go_ret
      exact ⟨g, rfl, HY.out, HS2.out, Nat.le_of_eq HG.out⟩
end Go.Proofs.YtejngpbeogaapaaDoor
