/-
  The walk of laws.FnIDNext.
-/
import Derived.Test.YtlnidgkcgjlnaaaIdNext
import Derived.Test.YtlnidgkcgjlnaaaAny
import Derived.Deep.DeepCutAuto
namespace Go.Proofs.Ytlnidgkcgjlnaaa
open Go.RowKit
set_option linter.unusedVariables false
set_option linter.unusedSimpArgs false

def ptr (p : Nat) : Value := .pointer (some ⟨p, 0, none⟩)
def sid (t s : Int) : Value := .agg #[.int .u64 t, .int .u64 s]

/-- A variable of two numbers that has come up, and perhaps its store too. -/
def Made (W w : World) (v : Value) (stored : Bool) (x y : Int) : Prop :=
  ∃ p, v = ptr p ∧ W.heap.size ≤ p ∧ (stored = false → Two w p (.int .u64 0) (.int .u64 0)) ∧ (stored = true → Two w p (.int .u64 x) (.int .u64 y))

def inv1 (W : World) (g : Nat) (t s n1 n2 p1 p2 : Int) (d : Nat → Bool) (a : Act) (w : World) : Prop :=
  ∃ v3 v4 v5 v6 v7 v8 : Value, a = { tmps := #[.agg #[.int .u64 t, .int .u64 s], .pointer (some ⟨g, 0, none⟩), .bool false, v3, v4, v5, v6, v7, v8, undef, undef, undef, undef, undef, undef, undef, undef, undef, undef, undef, undef, undef, undef, undef, undef, undef, undef, undef, undef, undef, undef, undef, undef, undef, undef, undef, undef, undef, undef, undef, undef, undef, undef, undef, undef, undef, undef, undef, undef, undef, undef, undef, undef, undef, undef, undef, undef, undef, undef], defers := [] } ∧ Ext W w ∧
    (d 0 = true → v5 = sid t s) ∧ (d 1 = true → v6 = sid n1 n2) ∧ (d 2 = true → v7 = sid t s) ∧ (d 3 = true → v8 = sid p1 p2) ∧
    (d 4 = true → Made W w v3 (d 6) n1 n2) ∧ (d 5 = true → Made W w v4 (d 7) p1 p2) ∧ (d 4 = true → d 5 = true → v3 ≠ v4) ∧ (d 6 = true → d 4 = true) ∧ (d 7 = true → d 5 = true)

theorem Made.ext {W w w' : World} {v : Value} {b : Bool} {x y : Int} (h : Made W w v b x y) (hx : Ext w w') : Made W w' v b x y := by
  obtain ⟨p, h1, h2, h3, h4⟩ := h
  exact ⟨p, h1, h2, fun hb => (h3 hb).ext hx, fun hb => (h4 hb).ext hx⟩
theorem Made.new {W w : World} {b : Bool} {x y : Int} (hW : Ext W w) (T : TypeId) (hb : b = false) : Made W (w.alloc (.cells #[.int .u64 0, .int .u64 0] T)) (ptr w.heap.size) b x y :=
  ⟨w.heap.size, rfl, hW.sizes, fun _ => Two.new w _ _ T _ rfl, (fun h => by rw [hb] at h; cases h)⟩
theorem Made.lt {W w : World} {v : Value} {b : Bool} {x y : Int} (h : Made W w v b x y) : v ≠ ptr w.heap.size := by
  obtain ⟨p, rfl, h2, h3, h4⟩ := h
  have hp : p < w.heap.size := by
    cases b with
    | true => exact (h4 rfl).1
    | false => exact (h3 rfl).1
  intro h
  simp only [ptr, Value.pointer.injEq, Option.some.injEq, Addr.mk.injEq] at h
  omega
theorem Two.store {w : World} {p : Nat} {x y : Value} (h : Two w p x y) (x' y' : Value) : Two ((w.setCell ⟨p, 0, none⟩ x').setCell ⟨p, 1, none⟩ y') p x' y' := by
  obtain ⟨h1, h2, h3, h4, h5⟩ := h
  have e : (w.setCell ⟨p, 0, none⟩ x').cell? ⟨p, 1, none⟩ = some y := (World.cell?_setCell_other _ _ _ _ (by simp)).trans h3
  refine ⟨by simpa using h1, (World.cell?_setCell_other _ _ _ _ (by simp)).trans (World.cell?_setCell_same _ _ _ h2), World.cell?_setCell_same _ _ _ e, ?_, ?_⟩ <;> simp [World.frozen?_setCell, h4, h5]
theorem Two.apart {w : World} {p q : Nat} {x y : Value} (h : Two w p x y) (hne : q ≠ p) (x' y' : Value) : Two ((w.setCell ⟨q, 0, none⟩ x').setCell ⟨q, 1, none⟩ y') p x y := by
  obtain ⟨h1, h2, h3, h4, h5⟩ := h
  refine ⟨by simpa using h1, ?_, ?_, ?_, ?_⟩
  · exact (World.cell?_setCell_other _ _ _ _ (by simp [hne])).trans ((World.cell?_setCell_other _ _ _ _ (by simp [hne])).trans h2)
  · exact (World.cell?_setCell_other _ _ _ _ (by simp [hne])).trans ((World.cell?_setCell_other _ _ _ _ (by simp [hne])).trans h3)
  all_goals simp [World.frozen?_setCell, h4, h5]
theorem Made.store {W w : World} {p : Nat} {b b' : Bool} {x y : Int} (h : Made W w (ptr p) b x y) (hb : b = false) (hb' : b' = true) : Made W ((w.setCell ⟨p, 0, none⟩ (.int .u64 x)).setCell ⟨p, 1, none⟩ (.int .u64 y)) (ptr p) b' x y := by
  obtain ⟨q, h1, h2, h3, h4⟩ := h
  simp only [ptr, Value.pointer.injEq, Option.some.injEq, Addr.mk.injEq] at h1
  obtain ⟨rfl, -⟩ := h1
  exact ⟨p, rfl, h2, (fun h => by rw [hb'] at h; cases h), fun _ => (h3 hb).store _ _⟩
theorem Made.apart {W w : World} {v : Value} {q : Nat} {b : Bool} {x y : Int} (h : Made W w v b x y) (hne : v ≠ ptr q) (x' y' : Value) : Made W ((w.setCell ⟨q, 0, none⟩ x').setCell ⟨q, 1, none⟩ y') v b x y := by
  obtain ⟨p, rfl, h2, h3, h4⟩ := h
  have hne' : q ≠ p := fun h => hne (by rw [h])
  exact ⟨p, rfl, h2, fun hb => (h3 hb).apart hne' _ _, fun hb => (h4 hb).apart hne' _ _⟩
theorem ext_store {W w : World} {p : Nat} {x y : Value} (h : Ext W w) (hp : W.heap.size ≤ p) : Ext W ((w.setCell ⟨p, 0, none⟩ x).setCell ⟨p, 1, none⟩ y) :=
  Ext.setCell (Ext.setCell h hp _) hp _

theorem id_facts (t s : Int) (ht : U64 t) (hs : U64 s) :
    ((nextT t s = t ∧ nextS t s = s) ∨ (before t s (nextT t s) (nextS t s) = true ∧ prevT (nextT t s) (nextS t s) = t ∧ prevS (nextT t s) (nextS t s) = s)) ∧
    ((prevT t s = t ∧ prevS t s = s) ∨ (before (prevT t s) (prevS t s) t s = true ∧ nextT (prevT t s) (prevS t s) = t ∧ nextS (prevT t s) (prevS t s) = s)) ∧
    ((nextT t s = t ∧ nextS t s = s) → (prevT t s = t ∧ prevS t s = s) → False) := by
  obtain ⟨t0, t1⟩ := ht; obtain ⟨s0, s1⟩ := hs
  have hN : (s < 18446744073709551615 ∧ nextT t s = t ∧ nextS t s = s + 1) ∨ (s = 18446744073709551615 ∧ t < 18446744073709551615 ∧ nextT t s = t + 1 ∧ nextS t s = 0) ∨ (s = 18446744073709551615 ∧ t = 18446744073709551615 ∧ nextT t s = t ∧ nextS t s = s) := by
    unfold nextT nextS; (repeat' split) <;> omega
  have hP : (s > 0 ∧ prevT t s = t ∧ prevS t s = s - 1) ∨ (s = 0 ∧ t > 0 ∧ prevT t s = t - 1 ∧ prevS t s = 18446744073709551615) ∨ (s = 0 ∧ t = 0 ∧ prevT t s = t ∧ prevS t s = s) := by
    unfold prevT prevS; (repeat' split) <;> omega
  generalize nextT t s = n1 at *; generalize nextS t s = n2 at *; generalize prevT t s = p1 at *; generalize prevS t s = p2 at *
  refine ⟨?_, ?_, by omega⟩
  · rcases hN with h | h | h
    · right
      refine ⟨by simp [before]; omega, ?_, ?_⟩ <;> (first | unfold prevT | unfold prevS) <;> (repeat' split) <;> omega
    · right
      refine ⟨by simp [before]; omega, ?_, ?_⟩ <;> (first | unfold prevT | unfold prevS) <;> (repeat' split) <;> omega
    · exact .inl h.2.2
  · rcases hP with h | h | h
    · right
      refine ⟨by simp [before]; omega, ?_, ?_⟩ <;> (first | unfold nextT | unfold nextS) <;> (repeat' split) <;> omega
    · right
      refine ⟨by simp [before]; omega, ?_, ?_⟩ <;> (first | unfold nextT | unfold nextS) <;> (repeat' split) <;> omega
    · exact .inl h.2.2

theorem ite_two {α : Type} {p q : Prop} [Decidable p] [Decidable q] {a b : α} (h : ¬ (p ∧ q)) : (if p then (if q then a else b) else b) = b := by
  by_cases hp : p
  · rw [if_pos hp, if_neg fun hq => h ⟨hp, hq⟩]
  · rw [if_neg hp]

set_option maxRecDepth 100000 in
set_option maxHeartbeats 1000000 in
theorem fnIDNext_core (t s : Int) (ht : U64 t) (hs : U64 s) (w : World) :
    Calls Try.prog 5 #[.agg #[.int .u64 t, .int .u64 s]] w fun e w' => e = .returned (.bool true) ∧ Below w.heap.size w w' := by
  go_enter Try.func5, Try.ntmps5
  go_upto_region 1 with fail
  generalize hW : w.alloc (.cells #[.int .u64 t, .int .u64 s] 31) = W
  have hA : Two W w.heap.size (.int .u64 t) (.int .u64 s) := hW ▸ Two.new w _ _ _ _ rfl
  have hE : Ext w W := hW ▸ Ext.alloc (Ext.refl w) _
  clear hW
  generalize w.heap.size = g at hA
  have HN := hide (nextU ht hs)
  have HP := hide (prevU ht hs)
  have HE := hide hE
  clear hE
  generalize hn1 : nextT t s = n1 at *
  generalize hn2 : nextS t s = n2 at *
  generalize hp1 : prevT t s = p1 at *
  generalize hp2 : prevS t s = p2 at *
  have HC1 : Hid (∀ w, Calls Try.prog 12 #[.agg #[.int .u64 t, .int .u64 s]] w fun e w' => e = .returned (.agg #[.int .u64 n1, .int .u64 n2]) ∧ Ext w w') := hide fun w => by
    rw [← hn1, ← hn2]; exact implNext_any t s w ht hs
  have HC2 : Hid (∀ w, Calls Try.prog 13 #[.agg #[.int .u64 t, .int .u64 s]] w fun e w' => e = .returned (.agg #[.int .u64 p1, .int .u64 p2]) ∧ Ext w w') := hide fun w => by
    rw [← hp1, ← hp2]; exact implPrev_any t s w ht hs
  have HF := hide (And.intro hn1 (And.intro hn2 (And.intro hp1 hp2)))
  clear hn1 hn2 hp1 hp2
  have HA := hide hA
  clear hA
  go_cut [3, 4] (fun s3 s4 wx => ∃ p q : Nat, s3 = .pointer (some ⟨p, 0, none⟩) ∧ s4 = .pointer (some ⟨q, 0, none⟩) ∧ Hid (Two wx p (.int .u64 n1) (.int .u64 n2)) ∧ Hid (Two wx q (.int .u64 p1) (.int .u64 p2)) ∧ Hid (Ext W wx))
  case first =>
    refine wp_region_inv (inv1 W g t s n1 n2 p1 p2) (by kernel_rfl) (by kernel_rfl) ⟨undef, undef, undef, undef, undef, undef, rfl, Ext.drew (Ext.refl W), by simp, by simp, by simp, by simp, by simp, by simp, by simp, by simp, by simp⟩
      ⟨?_, ?_, ?_, ?_, ?_, ?_, ?_, ?_, trivial⟩ ?_
    case refine_9 =>
      rintro d a w hall ⟨v3, v4, v5, v6, v7, v8, rfl, hE, h0, h1, h2, h3, h4, h5, h6, h7, h8⟩
      obtain ⟨p, rfl, -, -, hp⟩ := h4 (hall 4 (by decide))
      obtain ⟨q, rfl, -, -, hq⟩ := h5 (hall 5 (by decide))
      have hp := hp (hall 6 (by decide))
      have hq := hq (hall 7 (by decide))
      clear h0 h1 h2 h3 h4 h5 h6 h7 h8
      unfold ptr
      go_wp2_with fail
      go_meet
      case rel => exact ⟨p, q, rfl, rfl, hide hp, hide hq, hide hE⟩
    all_goals
      rintro d a w hd hdep ⟨v3, v4, v5, v6, v7, v8, rfl, hE, h0, h1, h2, h3, h4, h5, h6, h7, h8⟩
      simp only [Region.binds, List.all_toArray, List.all_cons, List.all_nil, Bool.and_true, Bool.and_eq_true, Bool.not_true, Bool.false_or] at hdep
      refine step_of rfl fun K hK => ?_
    case refine_1 =>
      obtain ⟨_, c1, c2, _, _⟩ := HA.out.ext hE
      go_simp
      exact hK _ _ ⟨_, _, _, _, _, _, rfl, hE, fun _ => rfl, (fun h => by first | rfl | exact h1 h), (fun h => by first | rfl | exact h2 h), (fun h => by first | rfl | exact h3 h), h4, h5, h6, h7, h8⟩
    case refine_2 =>
      obtain rfl := h0 hdep
      go_simp
      refine (HC1.out _).mono ?_; rintro e w1 ⟨rfl, hx⟩
      exact hK _ _ ⟨_, _, _, _, _, _, rfl, hE.trans hx, (fun h => by first | rfl | exact h0 h), fun _ => rfl, (fun h => by first | rfl | exact h2 h), (fun h => by first | rfl | exact h3 h), fun h => (h4 h).ext hx, fun h => (h5 h).ext hx, h6, h7, h8⟩
    case refine_3 =>
      obtain ⟨_, c1, c2, _, _⟩ := HA.out.ext hE
      go_simp
      exact hK _ _ ⟨_, _, _, _, _, _, rfl, hE, (fun h => by first | rfl | exact h0 h), (fun h => by first | rfl | exact h1 h), fun _ => rfl, (fun h => by first | rfl | exact h3 h), h4, h5, h6, h7, h8⟩
    case refine_4 =>
      obtain rfl := h2 hdep.1
      go_simp
      refine (HC2.out _).mono ?_; rintro e w1 ⟨rfl, hx⟩
      exact hK _ _ ⟨_, _, _, _, _, _, rfl, hE.trans hx, (fun h => by first | rfl | exact h0 h), (fun h => by first | rfl | exact h1 h), (fun h => by first | rfl | exact h2 h), fun _ => rfl, fun h => (h4 h).ext hx, fun h => (h5 h).ext hx, h6, h7, h8⟩
    case refine_5 =>
      have hb : d 6 = false := by
        cases h : d 6 with
        | false => rfl
        | true => have := h7 h; rw [hd] at this; cases this
      go_simp
      exact hK _ _ ⟨_, _, _, _, _, _, rfl, hE.alloc _, (fun h => by first | rfl | exact h0 h), (fun h => by first | rfl | exact h1 h), (fun h => by first | rfl | exact h2 h), (fun h => by first | rfl | exact h3 h), fun _ => Made.new hE _ hb, fun h => (h5 h).ext (Ext.alloc (Ext.refl _) _), fun _ h => Ne.symm (h5 h).lt, fun _ => rfl, h8⟩
    case refine_6 =>
      have hb : d 7 = false := by
        cases h : d 7 with
        | false => rfl
        | true => have := h8 h; rw [hd] at this; cases this
      go_simp
      exact hK _ _ ⟨_, _, _, _, _, _, rfl, hE.alloc _, (fun h => by first | rfl | exact h0 h), (fun h => by first | rfl | exact h1 h), (fun h => by first | rfl | exact h2 h), (fun h => by first | rfl | exact h3 h), fun h => (h4 h).ext (Ext.alloc (Ext.refl _) _), fun _ => Made.new hE _ hb, fun h _ => (h4 h).lt, h7, fun _ => rfl⟩
    case refine_7 =>
      have hm := h4 hdep.1
      have hv := h1 hdep.2.1
      subst hv
      obtain ⟨p, hv, hp, hz, _⟩ := id hm
      subst hv
      obtain ⟨z1, z2, z3, z4, z5⟩ := hz hd
      have hne : d 5 = true → v4 ≠ ptr p := fun h => Ne.symm (h6 hdep.1 h)
      unfold ptr sid
      go_simp
      exact hK _ _ ⟨_, _, _, _, _, _, rfl, ext_store hE hp, (fun h => by first | rfl | exact h0 h), (fun h => by first | rfl | exact h1 h), (fun h => by first | rfl | exact h2 h), (fun h => by first | rfl | exact h3 h), fun _ => Made.store hm hd rfl, fun h => (h5 h).apart (hne h) _ _, h6, fun _ => hdep.1, h8⟩
    case refine_8 =>
      have hm := h5 hdep.1
      have hv := h3 hdep.2.1
      subst hv
      obtain ⟨p, hv, hp, hz, _⟩ := id hm
      subst hv
      obtain ⟨z1, z2, z3, z4, z5⟩ := hz hd
      have hne : d 4 = true → v3 ≠ ptr p := fun h => h6 h hdep.1
      unfold ptr sid
      go_simp
      exact hK _ _ ⟨_, _, _, _, _, _, rfl, ext_store hE hp, (fun h => by first | rfl | exact h0 h), (fun h => by first | rfl | exact h1 h), (fun h => by first | rfl | exact h2 h), (fun h => by first | rfl | exact h3 h), fun h => (h4 h).apart (hne h) _ _, fun _ => Made.store hm hd rfl, h6, h7, fun _ => hdep.1⟩
  case rest =>
    obtain ⟨p, q, rfl, rfl, HP2, HQ2, HE2⟩ := hcut
    go_upto_region 2 with fail
    have HA2 : Hid (Two wc g (.int .u64 t) (.int .u64 s)) := hide (HA.out.ext HE2.out)
    have HS1 : Hid (∀ w, Calls Try.prog 14 #[.agg #[.int .u64 t, .int .u64 s]] w fun e w' => e = .returned (.agg #[.int .u64 n1, .int .u64 n2]) ∧ Ext w w') := hide fun w => by
      rw [← HF.out.1, ← HF.out.2.1]; exact specNext_any t s w ht hs
    have HS2 : Hid (∀ w, Calls Try.prog 15 #[.agg #[.int .u64 t, .int .u64 s]] w fun e w' => e = .returned (.agg #[.int .u64 p1, .int .u64 p2]) ∧ Ext w w') := hide fun w => by
      rw [← HF.out.2.2.1, ← HF.out.2.2.2]; exact specPrev_any t s w ht hs
    refine wp_region_ext wc wc (by kernel_rfl) (by kernel_rfl) (Ext.refl wc) ?_
    refine wpQuiet_step (fun K hK => ?_)
    go_simp
    refine ⟨.agg #[.int .u64 n1, .int .u64 n2], fun w hw => by (obtain ⟨_, c1, c2, _, _⟩ := HP2.out.ext hw; simp [c1, c2, Result.andThen]), hK _ ?_⟩
    clear hK K
    refine wpQuiet_step (fun K hK => ?_)
    go_simp
    refine ⟨.agg #[.int .u64 t, .int .u64 s], fun w hw => by (obtain ⟨_, c1, c2, _, _⟩ := HA2.out.ext hw; simp [c1, c2, Result.andThen]), hK _ ?_⟩
    clear hK K
    refine wpQuiet_step (fun K hK => ?_)
    go_simp
    refine ⟨_, fun w hw => Calls.ext_of hw (HS1.out w), hK _ ?_⟩
    clear hK K
    refine wpQuiet_step (fun K hK => ?_)
    go_simp
    first | (refine hK _ ?_) | (refine ⟨_, fun _ _ => rfl, hK _ ?_⟩)
    clear hK K
    refine wpQuiet_step (fun K hK => ?_)
    go_simp
    first | (refine hK _ ?_) | (refine ⟨_, fun _ _ => rfl, hK _ ?_⟩)
    clear hK K
    refine wpQuiet_step (fun K hK => ?_)
    go_simp
    refine ⟨.agg #[.int .u64 p1, .int .u64 p2], fun w hw => by (obtain ⟨_, c1, c2, _, _⟩ := HQ2.out.ext hw; simp [c1, c2, Result.andThen]), hK _ ?_⟩
    clear hK K
    refine wpQuiet_step (fun K hK => ?_)
    go_simp
    refine ⟨.agg #[.int .u64 t, .int .u64 s], fun w hw => by (obtain ⟨_, c1, c2, _, _⟩ := HA2.out.ext hw; simp [c1, c2, Result.andThen]), hK _ ?_⟩
    clear hK K
    refine wpQuiet_step (fun K hK => ?_)
    go_simp
    refine ⟨_, fun w hw => Calls.ext_of hw (HS2.out w), hK _ ?_⟩
    clear hK K
    refine wpQuiet_step (fun K hK => ?_)
    go_simp
    first | (refine hK _ ?_) | (refine ⟨_, fun _ _ => rfl, hK _ ?_⟩)
    clear hK K
    refine wpQuiet_step (fun K hK => ?_)
    go_simp
    first | (refine hK _ ?_) | (refine ⟨_, fun _ _ => rfl, hK _ ?_⟩)
    clear hK K
    refine wpQuiet_nil ?_
    intro w2 hw2
    go_upto_region 4 with fail
    obtain ⟨f1, f2, f3⟩ := id_facts t s ht hs
    rw [HF.out.1, HF.out.2.1] at f1 f3
    rw [HF.out.2.2.1, HF.out.2.2.2] at f2 f3
    have HB1 : (before t s n1 n2 = true) → Hid (∀ w, Calls Try.prog 16 #[.agg #[.int .u64 t, .int .u64 s], .agg #[.int .u64 n1, .int .u64 n2]] w fun e w' => e = .returned (.bool true) ∧ Ext w w') := fun h => hide fun w => by
      have h2 := implBefore_any t s n1 n2 w
      rw [h] at h2; exact h2
    have HB2 : (prevT n1 n2 = t ∧ prevS n1 n2 = s) → Hid (∀ w, Calls Try.prog 13 #[.agg #[.int .u64 n1, .int .u64 n2]] w fun e w' => e = .returned (.agg #[.int .u64 t, .int .u64 s]) ∧ Ext w w') := fun h => hide fun w => by
      have h2 := implPrev_any n1 n2 w HN.out.1 HN.out.2
      rw [h.1, h.2] at h2; exact h2
    have HB3 : (before p1 p2 t s = true) → Hid (∀ w, Calls Try.prog 16 #[.agg #[.int .u64 p1, .int .u64 p2], .agg #[.int .u64 t, .int .u64 s]] w fun e w' => e = .returned (.bool true) ∧ Ext w w') := fun h => hide fun w => by
      have h2 := implBefore_any p1 p2 t s w
      rw [h] at h2; exact h2
    have HB4 : (nextT p1 p2 = t ∧ nextS p1 p2 = s) → Hid (∀ w, Calls Try.prog 12 #[.agg #[.int .u64 p1, .int .u64 p2]] w fun e w' => e = .returned (.agg #[.int .u64 t, .int .u64 s]) ∧ Ext w w') := fun h => hide fun w => by
      have h2 := implNext_any p1 p2 w HP.out.1 HP.out.2
      rw [h.1, h.2] at h2; exact h2
    rcases f1 with f1 | f1
    · rcases f2 with f2 | f2
      · exact (f3 f1 f2).elim
      · obtain ⟨rfl, rfl⟩ : t = n1 ∧ s = n2 := ⟨f1.1.symm, f1.2.symm⟩
        have hne2 : ¬ (p1 = t ∧ p2 = s) := fun h => f3 ⟨rfl, rfl⟩ h
        replace HB3 := HB3 f2.1
        replace HB4 := HB4 f2.2
        clear HB1 HB2 f1 f2 f3 HF HS1 HS2 HC1 HC2
        refine wp_region_ext wc w2 (by kernel_rfl) (by kernel_rfl) hw2 ?_
        first
        | go_big_quiet_skip
        | (go_big_quiet_want; go_big_quiet_op; first | go_big_quiet_on | (refine ⟨.agg #[.int .u64 t, .int .u64 s], fun w hw => by (obtain ⟨_, c1, c2, _, _⟩ := HP2.out.ext hw; simp [c1, c2, Result.andThen]), ?_⟩; go_big_quiet_on))
        first
        | go_big_quiet_skip
        | (go_big_quiet_want; go_big_quiet_op; first | go_big_quiet_on | (refine ⟨.agg #[.int .u64 t, .int .u64 s], fun w hw => by (obtain ⟨_, c1, c2, _, _⟩ := HA2.out.ext hw; simp [c1, c2, Result.andThen]), ?_⟩; go_big_quiet_on))
        first
        | go_big_quiet_skip
        | (go_big_quiet_want; go_big_quiet_op; first | go_big_quiet_on | (refine ⟨_, fun _ _ => rfl, ?_⟩; go_big_quiet_on) | (refine ⟨.bool false, fun w hw => by (rw [ite_two hne]; exact ⟨rfl, rfl⟩), ?_⟩; go_big_quiet_on))
        first
        | go_big_quiet_skip
        | (go_big_quiet_want; go_big_quiet_op; first | go_big_quiet_on | (refine ⟨_, fun _ _ => rfl, ?_⟩; go_big_quiet_on))
        first
        | go_big_quiet_skip
        | (go_big_quiet_want; go_big_quiet_op; first | go_big_quiet_on | (refine ⟨.agg #[.int .u64 t, .int .u64 s], fun w hw => by (obtain ⟨_, c1, c2, _, _⟩ := HA2.out.ext hw; simp [c1, c2, Result.andThen]), ?_⟩; go_big_quiet_on))
        first
        | go_big_quiet_skip
        | (go_big_quiet_want; go_big_quiet_op; first | go_big_quiet_on | (refine ⟨.agg #[.int .u64 t, .int .u64 s], fun w hw => by (obtain ⟨_, c1, c2, _, _⟩ := HP2.out.ext hw; simp [c1, c2, Result.andThen]), ?_⟩; go_big_quiet_on))
        first
        | go_big_quiet_skip
        | (go_big_quiet_want; go_big_quiet_op; first | go_big_quiet_on | (refine ⟨_, fun w hw => Calls.ext_of hw (HB1.out w), ?_⟩; go_big_quiet_on))
        first
        | go_big_quiet_skip
        | (go_big_quiet_want; go_big_quiet_op; first | go_big_quiet_on | (refine ⟨_, fun _ _ => rfl, ?_⟩; go_big_quiet_on))
        first
        | go_big_quiet_skip
        | (go_big_quiet_want; go_big_quiet_op; first | go_big_quiet_on | (refine ⟨.agg #[.int .u64 t, .int .u64 s], fun w hw => by (obtain ⟨_, c1, c2, _, _⟩ := HP2.out.ext hw; simp [c1, c2, Result.andThen]), ?_⟩; go_big_quiet_on))
        first
        | go_big_quiet_skip
        | (go_big_quiet_want; go_big_quiet_op; first | go_big_quiet_on | (refine ⟨_, fun w hw => Calls.ext_of hw (HB2.out w), ?_⟩; go_big_quiet_on))
        first
        | go_big_quiet_skip
        | (go_big_quiet_want; go_big_quiet_op; first | go_big_quiet_on | (refine ⟨.agg #[.int .u64 t, .int .u64 s], fun w hw => by (obtain ⟨_, c1, c2, _, _⟩ := HA2.out.ext hw; simp [c1, c2, Result.andThen]), ?_⟩; go_big_quiet_on))
        first
        | go_big_quiet_skip
        | (go_big_quiet_want; go_big_quiet_op; first | go_big_quiet_on | (refine ⟨_, fun _ _ => rfl, ?_⟩; go_big_quiet_on))
        first
        | go_big_quiet_skip
        | (go_big_quiet_want; go_big_quiet_op; first | go_big_quiet_on | (refine ⟨_, fun _ _ => rfl, ?_⟩; go_big_quiet_on))
        first
        | go_big_quiet_skip
        | (go_big_quiet_want; go_big_quiet_op; first | go_big_quiet_on | (refine ⟨_, fun _ _ => rfl, ?_⟩; go_big_quiet_on))
        first
        | go_big_quiet_skip
        | (go_big_quiet_want; go_big_quiet_op; first | go_big_quiet_on | (refine ⟨_, fun _ _ => rfl, ?_⟩; go_big_quiet_on))
        first
        | go_big_quiet_skip
        | (go_big_quiet_want; go_big_quiet_op; first | go_big_quiet_on | (refine ⟨.agg #[.int .u64 p1, .int .u64 p2], fun w hw => by (obtain ⟨_, c1, c2, _, _⟩ := HQ2.out.ext hw; simp [c1, c2, Result.andThen]), ?_⟩; go_big_quiet_on))
        first
        | go_big_quiet_skip
        | (go_big_quiet_want; go_big_quiet_op; first | go_big_quiet_on | (refine ⟨.agg #[.int .u64 t, .int .u64 s], fun w hw => by (obtain ⟨_, c1, c2, _, _⟩ := HA2.out.ext hw; simp [c1, c2, Result.andThen]), ?_⟩; go_big_quiet_on))
        first
        | go_big_quiet_skip
        | (go_big_quiet_want; go_big_quiet_op; first | go_big_quiet_on | (refine ⟨_, fun _ _ => rfl, ?_⟩; go_big_quiet_on) | (refine ⟨.bool false, fun w hw => by (rw [ite_two hne2]; exact ⟨rfl, rfl⟩), ?_⟩; go_big_quiet_on))
        first
        | go_big_quiet_skip
        | (go_big_quiet_want; go_big_quiet_op; first | go_big_quiet_on | (refine ⟨_, fun _ _ => rfl, ?_⟩; go_big_quiet_on))
        first
        | go_big_quiet_skip
        | (go_big_quiet_want; go_big_quiet_op; first | go_big_quiet_on | (refine ⟨.agg #[.int .u64 p1, .int .u64 p2], fun w hw => by (obtain ⟨_, c1, c2, _, _⟩ := HQ2.out.ext hw; simp [c1, c2, Result.andThen]), ?_⟩; go_big_quiet_on))
        first
        | go_big_quiet_skip
        | (go_big_quiet_want; go_big_quiet_op; first | go_big_quiet_on | (refine ⟨.agg #[.int .u64 t, .int .u64 s], fun w hw => by (obtain ⟨_, c1, c2, _, _⟩ := HA2.out.ext hw; simp [c1, c2, Result.andThen]), ?_⟩; go_big_quiet_on))
        first
        | go_big_quiet_skip
        | (go_big_quiet_want; go_big_quiet_op; first | go_big_quiet_on | (refine ⟨_, fun w hw => Calls.ext_of hw (HB3.out w), ?_⟩; go_big_quiet_on))
        first
        | go_big_quiet_skip
        | (go_big_quiet_want; go_big_quiet_op; first | go_big_quiet_on | (refine ⟨_, fun _ _ => rfl, ?_⟩; go_big_quiet_on))
        first
        | go_big_quiet_skip
        | (go_big_quiet_want; go_big_quiet_op; first | go_big_quiet_on | (refine ⟨.agg #[.int .u64 p1, .int .u64 p2], fun w hw => by (obtain ⟨_, c1, c2, _, _⟩ := HQ2.out.ext hw; simp [c1, c2, Result.andThen]), ?_⟩; go_big_quiet_on))
        first
        | go_big_quiet_skip
        | (go_big_quiet_want; go_big_quiet_op; first | go_big_quiet_on | (refine ⟨_, fun w hw => Calls.ext_of hw (HB4.out w), ?_⟩; go_big_quiet_on))
        first
        | go_big_quiet_skip
        | (go_big_quiet_want; go_big_quiet_op; first | go_big_quiet_on | (refine ⟨.agg #[.int .u64 t, .int .u64 s], fun w hw => by (obtain ⟨_, c1, c2, _, _⟩ := HA2.out.ext hw; simp [c1, c2, Result.andThen]), ?_⟩; go_big_quiet_on))
        first
        | go_big_quiet_skip
        | (go_big_quiet_want; go_big_quiet_op; first | go_big_quiet_on | (refine ⟨_, fun _ _ => rfl, ?_⟩; go_big_quiet_on))
        first
        | go_big_quiet_skip
        | (go_big_quiet_want; go_big_quiet_op; first | go_big_quiet_on | (refine ⟨_, fun _ _ => rfl, ?_⟩; go_big_quiet_on))
        first
        | go_big_quiet_skip
        | (go_big_quiet_want; go_big_quiet_op; first | go_big_quiet_on | (refine ⟨_, fun _ _ => rfl, ?_⟩; go_big_quiet_on))
        first
        | go_big_quiet_skip
        | (go_big_quiet_want; go_big_quiet_op; first | go_big_quiet_on | (refine ⟨_, fun _ _ => rfl, ?_⟩; go_big_quiet_on))
        first
        | go_big_quiet_skip
        | (go_big_quiet_want; go_big_quiet_op; first | go_big_quiet_on | (refine ⟨_, fun _ _ => rfl, ?_⟩; go_big_quiet_on))
        first
        | go_big_quiet_skip
        | (go_big_quiet_want; go_big_quiet_op; first | go_big_quiet_on | (refine ⟨.agg #[.int .u64 t, .int .u64 s], fun w hw => by (obtain ⟨_, c1, c2, _, _⟩ := HP2.out.ext hw; simp [c1, c2, Result.andThen]), ?_⟩; go_big_quiet_on))
        first
        | go_big_quiet_skip
        | (go_big_quiet_want; go_big_quiet_op; first | go_big_quiet_on | (refine ⟨.agg #[.int .u64 t, .int .u64 s], fun w hw => by (obtain ⟨_, c1, c2, _, _⟩ := HA2.out.ext hw; simp [c1, c2, Result.andThen]), ?_⟩; go_big_quiet_on))
        first
        | go_big_quiet_skip
        | (go_big_quiet_want; go_big_quiet_op; first | go_big_quiet_on | (refine ⟨_, fun _ _ => rfl, ?_⟩; go_big_quiet_on) | (refine ⟨.bool true, fun w hw => by (rw [ite_two hne]; exact ⟨rfl, rfl⟩), ?_⟩; go_big_quiet_on))
        first
        | go_big_quiet_skip
        | (go_big_quiet_want; go_big_quiet_op; first | go_big_quiet_on | (refine ⟨_, fun _ _ => rfl, ?_⟩; go_big_quiet_on))
        first
        | go_big_quiet_skip
        | (go_big_quiet_want; go_big_quiet_op; first | go_big_quiet_on | (refine ⟨.agg #[.int .u64 p1, .int .u64 p2], fun w hw => by (obtain ⟨_, c1, c2, _, _⟩ := HQ2.out.ext hw; simp [c1, c2, Result.andThen]), ?_⟩; go_big_quiet_on))
        first
        | go_big_quiet_skip
        | (go_big_quiet_want; go_big_quiet_op; first | go_big_quiet_on | (refine ⟨.agg #[.int .u64 t, .int .u64 s], fun w hw => by (obtain ⟨_, c1, c2, _, _⟩ := HA2.out.ext hw; simp [c1, c2, Result.andThen]), ?_⟩; go_big_quiet_on))
        first
        | go_big_quiet_skip
        | (go_big_quiet_want; go_big_quiet_op; first | go_big_quiet_on | (refine ⟨_, fun _ _ => rfl, ?_⟩; go_big_quiet_on) | (refine ⟨.bool true, fun w hw => by (rw [ite_two hne2]; exact ⟨rfl, rfl⟩), ?_⟩; go_big_quiet_on))
        first
        | go_big_quiet_skip
        | (go_big_quiet_want; go_big_quiet_op; first | go_big_quiet_on | (refine ⟨_, fun _ _ => rfl, ?_⟩; go_big_quiet_on))
        first
        | go_big_quiet_skip
        | (go_big_quiet_want; go_big_quiet_op; first | go_big_quiet_on | (refine ⟨_, fun _ _ => rfl, ?_⟩; go_big_quiet_on))
        first
        | go_big_quiet_skip
        | (go_big_quiet_want; go_big_quiet_op; first | go_big_quiet_on | (refine ⟨_, fun _ _ => rfl, ?_⟩; go_big_quiet_on))
        refine wpQuiet_nil ?_
        intro w3 hw3
        go_wp2
        go_ret
        exact ⟨rfl, (HE.out.trans HE2.out).trans hw3⟩
    · rcases f2 with f2 | f2
      · obtain ⟨rfl, rfl⟩ : t = p1 ∧ s = p2 := ⟨f2.1.symm, f2.2.symm⟩
        have hne : ¬ (n1 = t ∧ n2 = s) := fun h => f3 h ⟨rfl, rfl⟩
        replace HB1 := HB1 f1.1
        replace HB2 := HB2 f1.2
        clear HB3 HB4 f1 f2 f3 HF HS1 HS2 HC1 HC2
        refine wp_region_ext wc w2 (by kernel_rfl) (by kernel_rfl) hw2 ?_
        first
        | go_big_quiet_skip
        | (go_big_quiet_want; go_big_quiet_op; first | go_big_quiet_on | (refine ⟨.agg #[.int .u64 n1, .int .u64 n2], fun w hw => by (obtain ⟨_, c1, c2, _, _⟩ := HP2.out.ext hw; simp [c1, c2, Result.andThen]), ?_⟩; go_big_quiet_on))
        first
        | go_big_quiet_skip
        | (go_big_quiet_want; go_big_quiet_op; first | go_big_quiet_on | (refine ⟨.agg #[.int .u64 t, .int .u64 s], fun w hw => by (obtain ⟨_, c1, c2, _, _⟩ := HA2.out.ext hw; simp [c1, c2, Result.andThen]), ?_⟩; go_big_quiet_on))
        first
        | go_big_quiet_skip
        | (go_big_quiet_want; go_big_quiet_op; first | go_big_quiet_on | (refine ⟨_, fun _ _ => rfl, ?_⟩; go_big_quiet_on) | (refine ⟨.bool false, fun w hw => by (rw [ite_two hne]; exact ⟨rfl, rfl⟩), ?_⟩; go_big_quiet_on))
        first
        | go_big_quiet_skip
        | (go_big_quiet_want; go_big_quiet_op; first | go_big_quiet_on | (refine ⟨_, fun _ _ => rfl, ?_⟩; go_big_quiet_on))
        first
        | go_big_quiet_skip
        | (go_big_quiet_want; go_big_quiet_op; first | go_big_quiet_on | (refine ⟨.agg #[.int .u64 t, .int .u64 s], fun w hw => by (obtain ⟨_, c1, c2, _, _⟩ := HA2.out.ext hw; simp [c1, c2, Result.andThen]), ?_⟩; go_big_quiet_on))
        first
        | go_big_quiet_skip
        | (go_big_quiet_want; go_big_quiet_op; first | go_big_quiet_on | (refine ⟨.agg #[.int .u64 n1, .int .u64 n2], fun w hw => by (obtain ⟨_, c1, c2, _, _⟩ := HP2.out.ext hw; simp [c1, c2, Result.andThen]), ?_⟩; go_big_quiet_on))
        first
        | go_big_quiet_skip
        | (go_big_quiet_want; go_big_quiet_op; first | go_big_quiet_on | (refine ⟨_, fun w hw => Calls.ext_of hw (HB1.out w), ?_⟩; go_big_quiet_on))
        first
        | go_big_quiet_skip
        | (go_big_quiet_want; go_big_quiet_op; first | go_big_quiet_on | (refine ⟨_, fun _ _ => rfl, ?_⟩; go_big_quiet_on))
        first
        | go_big_quiet_skip
        | (go_big_quiet_want; go_big_quiet_op; first | go_big_quiet_on | (refine ⟨.agg #[.int .u64 n1, .int .u64 n2], fun w hw => by (obtain ⟨_, c1, c2, _, _⟩ := HP2.out.ext hw; simp [c1, c2, Result.andThen]), ?_⟩; go_big_quiet_on))
        first
        | go_big_quiet_skip
        | (go_big_quiet_want; go_big_quiet_op; first | go_big_quiet_on | (refine ⟨_, fun w hw => Calls.ext_of hw (HB2.out w), ?_⟩; go_big_quiet_on))
        first
        | go_big_quiet_skip
        | (go_big_quiet_want; go_big_quiet_op; first | go_big_quiet_on | (refine ⟨.agg #[.int .u64 t, .int .u64 s], fun w hw => by (obtain ⟨_, c1, c2, _, _⟩ := HA2.out.ext hw; simp [c1, c2, Result.andThen]), ?_⟩; go_big_quiet_on))
        first
        | go_big_quiet_skip
        | (go_big_quiet_want; go_big_quiet_op; first | go_big_quiet_on | (refine ⟨_, fun _ _ => rfl, ?_⟩; go_big_quiet_on))
        first
        | go_big_quiet_skip
        | (go_big_quiet_want; go_big_quiet_op; first | go_big_quiet_on | (refine ⟨_, fun _ _ => rfl, ?_⟩; go_big_quiet_on))
        first
        | go_big_quiet_skip
        | (go_big_quiet_want; go_big_quiet_op; first | go_big_quiet_on | (refine ⟨_, fun _ _ => rfl, ?_⟩; go_big_quiet_on))
        first
        | go_big_quiet_skip
        | (go_big_quiet_want; go_big_quiet_op; first | go_big_quiet_on | (refine ⟨_, fun _ _ => rfl, ?_⟩; go_big_quiet_on))
        first
        | go_big_quiet_skip
        | (go_big_quiet_want; go_big_quiet_op; first | go_big_quiet_on | (refine ⟨.agg #[.int .u64 t, .int .u64 s], fun w hw => by (obtain ⟨_, c1, c2, _, _⟩ := HQ2.out.ext hw; simp [c1, c2, Result.andThen]), ?_⟩; go_big_quiet_on))
        first
        | go_big_quiet_skip
        | (go_big_quiet_want; go_big_quiet_op; first | go_big_quiet_on | (refine ⟨.agg #[.int .u64 t, .int .u64 s], fun w hw => by (obtain ⟨_, c1, c2, _, _⟩ := HA2.out.ext hw; simp [c1, c2, Result.andThen]), ?_⟩; go_big_quiet_on))
        first
        | go_big_quiet_skip
        | (go_big_quiet_want; go_big_quiet_op; first | go_big_quiet_on | (refine ⟨_, fun _ _ => rfl, ?_⟩; go_big_quiet_on) | (refine ⟨.bool false, fun w hw => by (rw [ite_two hne2]; exact ⟨rfl, rfl⟩), ?_⟩; go_big_quiet_on))
        first
        | go_big_quiet_skip
        | (go_big_quiet_want; go_big_quiet_op; first | go_big_quiet_on | (refine ⟨_, fun _ _ => rfl, ?_⟩; go_big_quiet_on))
        first
        | go_big_quiet_skip
        | (go_big_quiet_want; go_big_quiet_op; first | go_big_quiet_on | (refine ⟨.agg #[.int .u64 t, .int .u64 s], fun w hw => by (obtain ⟨_, c1, c2, _, _⟩ := HQ2.out.ext hw; simp [c1, c2, Result.andThen]), ?_⟩; go_big_quiet_on))
        first
        | go_big_quiet_skip
        | (go_big_quiet_want; go_big_quiet_op; first | go_big_quiet_on | (refine ⟨.agg #[.int .u64 t, .int .u64 s], fun w hw => by (obtain ⟨_, c1, c2, _, _⟩ := HA2.out.ext hw; simp [c1, c2, Result.andThen]), ?_⟩; go_big_quiet_on))
        first
        | go_big_quiet_skip
        | (go_big_quiet_want; go_big_quiet_op; first | go_big_quiet_on | (refine ⟨_, fun w hw => Calls.ext_of hw (HB3.out w), ?_⟩; go_big_quiet_on))
        first
        | go_big_quiet_skip
        | (go_big_quiet_want; go_big_quiet_op; first | go_big_quiet_on | (refine ⟨_, fun _ _ => rfl, ?_⟩; go_big_quiet_on))
        first
        | go_big_quiet_skip
        | (go_big_quiet_want; go_big_quiet_op; first | go_big_quiet_on | (refine ⟨.agg #[.int .u64 t, .int .u64 s], fun w hw => by (obtain ⟨_, c1, c2, _, _⟩ := HQ2.out.ext hw; simp [c1, c2, Result.andThen]), ?_⟩; go_big_quiet_on))
        first
        | go_big_quiet_skip
        | (go_big_quiet_want; go_big_quiet_op; first | go_big_quiet_on | (refine ⟨_, fun w hw => Calls.ext_of hw (HB4.out w), ?_⟩; go_big_quiet_on))
        first
        | go_big_quiet_skip
        | (go_big_quiet_want; go_big_quiet_op; first | go_big_quiet_on | (refine ⟨.agg #[.int .u64 t, .int .u64 s], fun w hw => by (obtain ⟨_, c1, c2, _, _⟩ := HA2.out.ext hw; simp [c1, c2, Result.andThen]), ?_⟩; go_big_quiet_on))
        first
        | go_big_quiet_skip
        | (go_big_quiet_want; go_big_quiet_op; first | go_big_quiet_on | (refine ⟨_, fun _ _ => rfl, ?_⟩; go_big_quiet_on))
        first
        | go_big_quiet_skip
        | (go_big_quiet_want; go_big_quiet_op; first | go_big_quiet_on | (refine ⟨_, fun _ _ => rfl, ?_⟩; go_big_quiet_on))
        first
        | go_big_quiet_skip
        | (go_big_quiet_want; go_big_quiet_op; first | go_big_quiet_on | (refine ⟨_, fun _ _ => rfl, ?_⟩; go_big_quiet_on))
        first
        | go_big_quiet_skip
        | (go_big_quiet_want; go_big_quiet_op; first | go_big_quiet_on | (refine ⟨_, fun _ _ => rfl, ?_⟩; go_big_quiet_on))
        first
        | go_big_quiet_skip
        | (go_big_quiet_want; go_big_quiet_op; first | go_big_quiet_on | (refine ⟨_, fun _ _ => rfl, ?_⟩; go_big_quiet_on))
        first
        | go_big_quiet_skip
        | (go_big_quiet_want; go_big_quiet_op; first | go_big_quiet_on | (refine ⟨.agg #[.int .u64 n1, .int .u64 n2], fun w hw => by (obtain ⟨_, c1, c2, _, _⟩ := HP2.out.ext hw; simp [c1, c2, Result.andThen]), ?_⟩; go_big_quiet_on))
        first
        | go_big_quiet_skip
        | (go_big_quiet_want; go_big_quiet_op; first | go_big_quiet_on | (refine ⟨.agg #[.int .u64 t, .int .u64 s], fun w hw => by (obtain ⟨_, c1, c2, _, _⟩ := HA2.out.ext hw; simp [c1, c2, Result.andThen]), ?_⟩; go_big_quiet_on))
        first
        | go_big_quiet_skip
        | (go_big_quiet_want; go_big_quiet_op; first | go_big_quiet_on | (refine ⟨_, fun _ _ => rfl, ?_⟩; go_big_quiet_on) | (refine ⟨.bool true, fun w hw => by (rw [ite_two hne]; exact ⟨rfl, rfl⟩), ?_⟩; go_big_quiet_on))
        first
        | go_big_quiet_skip
        | (go_big_quiet_want; go_big_quiet_op; first | go_big_quiet_on | (refine ⟨_, fun _ _ => rfl, ?_⟩; go_big_quiet_on))
        first
        | go_big_quiet_skip
        | (go_big_quiet_want; go_big_quiet_op; first | go_big_quiet_on | (refine ⟨.agg #[.int .u64 t, .int .u64 s], fun w hw => by (obtain ⟨_, c1, c2, _, _⟩ := HQ2.out.ext hw; simp [c1, c2, Result.andThen]), ?_⟩; go_big_quiet_on))
        first
        | go_big_quiet_skip
        | (go_big_quiet_want; go_big_quiet_op; first | go_big_quiet_on | (refine ⟨.agg #[.int .u64 t, .int .u64 s], fun w hw => by (obtain ⟨_, c1, c2, _, _⟩ := HA2.out.ext hw; simp [c1, c2, Result.andThen]), ?_⟩; go_big_quiet_on))
        first
        | go_big_quiet_skip
        | (go_big_quiet_want; go_big_quiet_op; first | go_big_quiet_on | (refine ⟨_, fun _ _ => rfl, ?_⟩; go_big_quiet_on) | (refine ⟨.bool true, fun w hw => by (rw [ite_two hne2]; exact ⟨rfl, rfl⟩), ?_⟩; go_big_quiet_on))
        first
        | go_big_quiet_skip
        | (go_big_quiet_want; go_big_quiet_op; first | go_big_quiet_on | (refine ⟨_, fun _ _ => rfl, ?_⟩; go_big_quiet_on))
        first
        | go_big_quiet_skip
        | (go_big_quiet_want; go_big_quiet_op; first | go_big_quiet_on | (refine ⟨_, fun _ _ => rfl, ?_⟩; go_big_quiet_on))
        first
        | go_big_quiet_skip
        | (go_big_quiet_want; go_big_quiet_op; first | go_big_quiet_on | (refine ⟨_, fun _ _ => rfl, ?_⟩; go_big_quiet_on))
        refine wpQuiet_nil ?_
        intro w3 hw3
        go_wp2
        go_ret
        exact ⟨rfl, (HE.out.trans HE2.out).trans hw3⟩
      · replace HB1 := HB1 f1.1
        replace HB2 := HB2 f1.2
        replace HB3 := HB3 f2.1
        replace HB4 := HB4 f2.2
        have hne : ¬ (n1 = t ∧ n2 = s) := fun h => by
          have := f1.1; rw [h.1, h.2] at this; simp [before] at this
        have hne2 : ¬ (p1 = t ∧ p2 = s) := fun h => by
          have := f2.1; rw [h.1, h.2] at this; simp [before] at this
        clear f1 f2 f3 HF HS1 HS2 HC1 HC2
        refine wp_region_ext wc w2 (by kernel_rfl) (by kernel_rfl) hw2 ?_
        first
        | go_big_quiet_skip
        | (go_big_quiet_want; go_big_quiet_op; first | go_big_quiet_on | (refine ⟨.agg #[.int .u64 n1, .int .u64 n2], fun w hw => by (obtain ⟨_, c1, c2, _, _⟩ := HP2.out.ext hw; simp [c1, c2, Result.andThen]), ?_⟩; go_big_quiet_on))
        first
        | go_big_quiet_skip
        | (go_big_quiet_want; go_big_quiet_op; first | go_big_quiet_on | (refine ⟨.agg #[.int .u64 t, .int .u64 s], fun w hw => by (obtain ⟨_, c1, c2, _, _⟩ := HA2.out.ext hw; simp [c1, c2, Result.andThen]), ?_⟩; go_big_quiet_on))
        first
        | go_big_quiet_skip
        | (go_big_quiet_want; go_big_quiet_op; first | go_big_quiet_on | (refine ⟨_, fun _ _ => rfl, ?_⟩; go_big_quiet_on) | (refine ⟨.bool false, fun w hw => by (rw [ite_two hne]; exact ⟨rfl, rfl⟩), ?_⟩; go_big_quiet_on))
        first
        | go_big_quiet_skip
        | (go_big_quiet_want; go_big_quiet_op; first | go_big_quiet_on | (refine ⟨_, fun _ _ => rfl, ?_⟩; go_big_quiet_on))
        first
        | go_big_quiet_skip
        | (go_big_quiet_want; go_big_quiet_op; first | go_big_quiet_on | (refine ⟨.agg #[.int .u64 t, .int .u64 s], fun w hw => by (obtain ⟨_, c1, c2, _, _⟩ := HA2.out.ext hw; simp [c1, c2, Result.andThen]), ?_⟩; go_big_quiet_on))
        first
        | go_big_quiet_skip
        | (go_big_quiet_want; go_big_quiet_op; first | go_big_quiet_on | (refine ⟨.agg #[.int .u64 n1, .int .u64 n2], fun w hw => by (obtain ⟨_, c1, c2, _, _⟩ := HP2.out.ext hw; simp [c1, c2, Result.andThen]), ?_⟩; go_big_quiet_on))
        first
        | go_big_quiet_skip
        | (go_big_quiet_want; go_big_quiet_op; first | go_big_quiet_on | (refine ⟨_, fun w hw => Calls.ext_of hw (HB1.out w), ?_⟩; go_big_quiet_on))
        first
        | go_big_quiet_skip
        | (go_big_quiet_want; go_big_quiet_op; first | go_big_quiet_on | (refine ⟨_, fun _ _ => rfl, ?_⟩; go_big_quiet_on))
        first
        | go_big_quiet_skip
        | (go_big_quiet_want; go_big_quiet_op; first | go_big_quiet_on | (refine ⟨.agg #[.int .u64 n1, .int .u64 n2], fun w hw => by (obtain ⟨_, c1, c2, _, _⟩ := HP2.out.ext hw; simp [c1, c2, Result.andThen]), ?_⟩; go_big_quiet_on))
        first
        | go_big_quiet_skip
        | (go_big_quiet_want; go_big_quiet_op; first | go_big_quiet_on | (refine ⟨_, fun w hw => Calls.ext_of hw (HB2.out w), ?_⟩; go_big_quiet_on))
        first
        | go_big_quiet_skip
        | (go_big_quiet_want; go_big_quiet_op; first | go_big_quiet_on | (refine ⟨.agg #[.int .u64 t, .int .u64 s], fun w hw => by (obtain ⟨_, c1, c2, _, _⟩ := HA2.out.ext hw; simp [c1, c2, Result.andThen]), ?_⟩; go_big_quiet_on))
        first
        | go_big_quiet_skip
        | (go_big_quiet_want; go_big_quiet_op; first | go_big_quiet_on | (refine ⟨_, fun _ _ => rfl, ?_⟩; go_big_quiet_on))
        first
        | go_big_quiet_skip
        | (go_big_quiet_want; go_big_quiet_op; first | go_big_quiet_on | (refine ⟨_, fun _ _ => rfl, ?_⟩; go_big_quiet_on))
        first
        | go_big_quiet_skip
        | (go_big_quiet_want; go_big_quiet_op; first | go_big_quiet_on | (refine ⟨_, fun _ _ => rfl, ?_⟩; go_big_quiet_on))
        first
        | go_big_quiet_skip
        | (go_big_quiet_want; go_big_quiet_op; first | go_big_quiet_on | (refine ⟨_, fun _ _ => rfl, ?_⟩; go_big_quiet_on))
        first
        | go_big_quiet_skip
        | (go_big_quiet_want; go_big_quiet_op; first | go_big_quiet_on | (refine ⟨.agg #[.int .u64 p1, .int .u64 p2], fun w hw => by (obtain ⟨_, c1, c2, _, _⟩ := HQ2.out.ext hw; simp [c1, c2, Result.andThen]), ?_⟩; go_big_quiet_on))
        first
        | go_big_quiet_skip
        | (go_big_quiet_want; go_big_quiet_op; first | go_big_quiet_on | (refine ⟨.agg #[.int .u64 t, .int .u64 s], fun w hw => by (obtain ⟨_, c1, c2, _, _⟩ := HA2.out.ext hw; simp [c1, c2, Result.andThen]), ?_⟩; go_big_quiet_on))
        first
        | go_big_quiet_skip
        | (go_big_quiet_want; go_big_quiet_op; first | go_big_quiet_on | (refine ⟨_, fun _ _ => rfl, ?_⟩; go_big_quiet_on) | (refine ⟨.bool false, fun w hw => by (rw [ite_two hne2]; exact ⟨rfl, rfl⟩), ?_⟩; go_big_quiet_on))
        first
        | go_big_quiet_skip
        | (go_big_quiet_want; go_big_quiet_op; first | go_big_quiet_on | (refine ⟨_, fun _ _ => rfl, ?_⟩; go_big_quiet_on))
        first
        | go_big_quiet_skip
        | (go_big_quiet_want; go_big_quiet_op; first | go_big_quiet_on | (refine ⟨.agg #[.int .u64 p1, .int .u64 p2], fun w hw => by (obtain ⟨_, c1, c2, _, _⟩ := HQ2.out.ext hw; simp [c1, c2, Result.andThen]), ?_⟩; go_big_quiet_on))
        first
        | go_big_quiet_skip
        | (go_big_quiet_want; go_big_quiet_op; first | go_big_quiet_on | (refine ⟨.agg #[.int .u64 t, .int .u64 s], fun w hw => by (obtain ⟨_, c1, c2, _, _⟩ := HA2.out.ext hw; simp [c1, c2, Result.andThen]), ?_⟩; go_big_quiet_on))
        first
        | go_big_quiet_skip
        | (go_big_quiet_want; go_big_quiet_op; first | go_big_quiet_on | (refine ⟨_, fun w hw => Calls.ext_of hw (HB3.out w), ?_⟩; go_big_quiet_on))
        first
        | go_big_quiet_skip
        | (go_big_quiet_want; go_big_quiet_op; first | go_big_quiet_on | (refine ⟨_, fun _ _ => rfl, ?_⟩; go_big_quiet_on))
        first
        | go_big_quiet_skip
        | (go_big_quiet_want; go_big_quiet_op; first | go_big_quiet_on | (refine ⟨.agg #[.int .u64 p1, .int .u64 p2], fun w hw => by (obtain ⟨_, c1, c2, _, _⟩ := HQ2.out.ext hw; simp [c1, c2, Result.andThen]), ?_⟩; go_big_quiet_on))
        first
        | go_big_quiet_skip
        | (go_big_quiet_want; go_big_quiet_op; first | go_big_quiet_on | (refine ⟨_, fun w hw => Calls.ext_of hw (HB4.out w), ?_⟩; go_big_quiet_on))
        first
        | go_big_quiet_skip
        | (go_big_quiet_want; go_big_quiet_op; first | go_big_quiet_on | (refine ⟨.agg #[.int .u64 t, .int .u64 s], fun w hw => by (obtain ⟨_, c1, c2, _, _⟩ := HA2.out.ext hw; simp [c1, c2, Result.andThen]), ?_⟩; go_big_quiet_on))
        first
        | go_big_quiet_skip
        | (go_big_quiet_want; go_big_quiet_op; first | go_big_quiet_on | (refine ⟨_, fun _ _ => rfl, ?_⟩; go_big_quiet_on))
        first
        | go_big_quiet_skip
        | (go_big_quiet_want; go_big_quiet_op; first | go_big_quiet_on | (refine ⟨_, fun _ _ => rfl, ?_⟩; go_big_quiet_on))
        first
        | go_big_quiet_skip
        | (go_big_quiet_want; go_big_quiet_op; first | go_big_quiet_on | (refine ⟨_, fun _ _ => rfl, ?_⟩; go_big_quiet_on))
        first
        | go_big_quiet_skip
        | (go_big_quiet_want; go_big_quiet_op; first | go_big_quiet_on | (refine ⟨_, fun _ _ => rfl, ?_⟩; go_big_quiet_on))
        first
        | go_big_quiet_skip
        | (go_big_quiet_want; go_big_quiet_op; first | go_big_quiet_on | (refine ⟨_, fun _ _ => rfl, ?_⟩; go_big_quiet_on))
        first
        | go_big_quiet_skip
        | (go_big_quiet_want; go_big_quiet_op; first | go_big_quiet_on | (refine ⟨.agg #[.int .u64 n1, .int .u64 n2], fun w hw => by (obtain ⟨_, c1, c2, _, _⟩ := HP2.out.ext hw; simp [c1, c2, Result.andThen]), ?_⟩; go_big_quiet_on))
        first
        | go_big_quiet_skip
        | (go_big_quiet_want; go_big_quiet_op; first | go_big_quiet_on | (refine ⟨.agg #[.int .u64 t, .int .u64 s], fun w hw => by (obtain ⟨_, c1, c2, _, _⟩ := HA2.out.ext hw; simp [c1, c2, Result.andThen]), ?_⟩; go_big_quiet_on))
        first
        | go_big_quiet_skip
        | (go_big_quiet_want; go_big_quiet_op; first | go_big_quiet_on | (refine ⟨_, fun _ _ => rfl, ?_⟩; go_big_quiet_on) | (refine ⟨.bool true, fun w hw => by (rw [ite_two hne]; exact ⟨rfl, rfl⟩), ?_⟩; go_big_quiet_on))
        first
        | go_big_quiet_skip
        | (go_big_quiet_want; go_big_quiet_op; first | go_big_quiet_on | (refine ⟨_, fun _ _ => rfl, ?_⟩; go_big_quiet_on))
        first
        | go_big_quiet_skip
        | (go_big_quiet_want; go_big_quiet_op; first | go_big_quiet_on | (refine ⟨.agg #[.int .u64 p1, .int .u64 p2], fun w hw => by (obtain ⟨_, c1, c2, _, _⟩ := HQ2.out.ext hw; simp [c1, c2, Result.andThen]), ?_⟩; go_big_quiet_on))
        first
        | go_big_quiet_skip
        | (go_big_quiet_want; go_big_quiet_op; first | go_big_quiet_on | (refine ⟨.agg #[.int .u64 t, .int .u64 s], fun w hw => by (obtain ⟨_, c1, c2, _, _⟩ := HA2.out.ext hw; simp [c1, c2, Result.andThen]), ?_⟩; go_big_quiet_on))
        first
        | go_big_quiet_skip
        | (go_big_quiet_want; go_big_quiet_op; first | go_big_quiet_on | (refine ⟨_, fun _ _ => rfl, ?_⟩; go_big_quiet_on) | (refine ⟨.bool true, fun w hw => by (rw [ite_two hne2]; exact ⟨rfl, rfl⟩), ?_⟩; go_big_quiet_on))
        first
        | go_big_quiet_skip
        | (go_big_quiet_want; go_big_quiet_op; first | go_big_quiet_on | (refine ⟨_, fun _ _ => rfl, ?_⟩; go_big_quiet_on))
        first
        | go_big_quiet_skip
        | (go_big_quiet_want; go_big_quiet_op; first | go_big_quiet_on | (refine ⟨_, fun _ _ => rfl, ?_⟩; go_big_quiet_on))
        first
        | go_big_quiet_skip
        | (go_big_quiet_want; go_big_quiet_op; first | go_big_quiet_on | (refine ⟨_, fun _ _ => rfl, ?_⟩; go_big_quiet_on))
        refine wpQuiet_nil ?_
        intro w3 hw3
        go_wp2
        go_ret
        exact ⟨rfl, (HE.out.trans HE2.out).trans hw3⟩

theorem u64_of_wf {t : Int} (h : (Lit.int .u64 t).wf = true) : U64 t := by
  simp [Lit.wf, IntKind.min, IntKind.max, IntKind.bits, IntKind.signed] at h
  unfold U64
  omega
theorem fnIDNext_walk (t s : Int) (w1 : (Lit.int .u64 t).wf = true) (w2 : (Lit.int .u64 s).wf = true) (w : World) :
    Calls Try.prog 5 #[.agg #[.int .u64 t, .int .u64 s]] w fun e w' => e = .returned (.bool true) ∧ Below w.heap.size w w' :=
  fnIDNext_core t s (u64_of_wf w1) (u64_of_wf w2) w
end Go.Proofs.Ytlnidgkcgjlnaaa
