/-
  A region that draws its order: two operations may come up, the first only reads: it may be taken first.
-/
import Derived.Test.YtnenjkngimfdgaaDoorGrow
import Derived.RegionTactic
namespace Go.Proofs.YtnenjkngimfdgaaDoor
open Go.RowKit
set_option linter.unusedVariables false
set_option linter.unusedSimpArgs false

section
variable {P : Program} {ops : Array Oper} {Q : Exit → Act → World → Prop} {md : Region.Mode}
theorem wpOp_put_of {Y : Act → Prop} {j : Nat} {oi oj : Oper} {v : Value} (hj : ops[j]? = some oj) (hap : oi.apart ops oj = true) (hsj : ∀ cs b, oj.op ≠ .select cs b)
    (hQ : ∀ c a w, Q (.panic c) (a.put oi.dst v) w → Q (.panic c) a w) (keep : ∀ a u, Y a → Y (a.put oj.dst u)) (keepD : ∀ (a : Act) d, Y a → Y { a with defers := d :: a.defers }) {K : Act → World → Prop} {a : Act} {w : World}
    (hy : Y a) (h : wpOp P ops Q j K (a.put oi.dst v) w) : wpOp P ops Q j (fun a' w' => Y a' ∧ K (a'.put oi.dst v) w') a w := by
  obtain ⟨h1, h2, h3⟩ := Oper.apart_spec hap
  unfold wpOp at *
  simp only [hj] at *
  rw [wanted_put oj a oi.dst v h1] at h
  by_cases hw : Region.wanted oj (yielded ops a.tmps) = true
  · rw [if_pos hw] at h ⊢
    rcases h with h | ⟨hasks, hlets⟩
    · left
      unfold Oper.wp at *
      rw [execOp_put oj hsj a oi.dst v h1] at h
      generalize (execOp a.eval oj).run P w = r at *
      cases r with
      | ok n w' =>
        cases n <;> simp only [Oper.upon] at h ⊢
        case value u => exact ⟨keep a u hy, by rw [← Act.put_comm a v u h2]; exact h⟩
        case skip => exact ⟨keep a _ hy, by rw [← Act.put_comm a v undef h2]; exact h⟩
        case defer d =>
          refine ⟨keep _ _ (keepD a d hy), ?_⟩
          rw [← Act.put_comm _ v undef h2, ← Act.put_defers]
          exact h
        case enter f args =>
          refine Calls.mono h fun e w'' he => ?_
          cases e with
          | returned u => exact ⟨keep a u hy, by rw [← Act.put_comm a v u h2]; exact he⟩
          | panicked c => exact hQ _ _ _ he
          | outgrown => exact he
        case row row args => exact Rows.mono h fun u w'' he => ⟨keep a u hy, by rw [← Act.put_comm a v u h2]; exact he⟩
      | halt x w' =>
        cases x <;> simp only [Oper.upon] at h ⊢
        case panic u => exact hQ _ _ _ h
    · exact .inr ⟨by unfold Oper.asks at *; rw [execOp_put oj hsj a oi.dst v h1] at hasks; exact hasks, hlets⟩
  · rw [if_neg hw] at h ⊢
    exact ⟨keep a _ hy, by rw [← Act.put_comm a v undef h2]; exact h⟩

theorem wpAny_two {i j : Nat} {oi oj : Oper} {v : Value} (C : World → Prop) {fuel : Nat} {listed : Array Bool} {a : Act} {w : World} (hi : ops[i]? = some oi) (hj : ops[j]? = some oj) (hs : Region.noSelect ops = true)
    (hr : Region.ready md ops listed = [i, j]) (hri : Region.ready md ops (listed.setIfInBounds i true) = [j]) (hrj : Region.ready md ops (listed.setIfInBounds j true) = [i]) (hap : oi.apart ops oj = true)
    (hQ : ∀ c a w, Q (.panic c) (a.put oi.dst v) w → Q (.panic c) a w) (hw : C w)
    (hy : Region.wanted oi (yielded ops a.tmps) = true ∧ ∀ w', C w' → (execOp a.eval oi).run P w' = .ok (.value v) w')
    (h : ∀ K' : Act → World → Prop, (∀ a' w', C w' → wpAny P md ops Q fuel ((listed.setIfInBounds i true).setIfInBounds j true) a' w' → K' a' w') → if Region.wanted oj (yielded ops (a.put oi.dst v).tmps) = true then Oper.wp P oj (a.put oi.dst v) w K' Q else K' ((a.put oi.dst v).put oj.dst undef) w) :
    wpAny P md ops Q (fuel + 2) listed a w := by
  have h0 : wpOp P ops Q j (fun a' w' => C w' ∧ wpAny P md ops Q fuel ((listed.setIfInBounds i true).setIfInBounds j true) a' w') (a.put oi.dst v) w := wpOp_step hj fun K' hK => h K' fun a' w' h1 h2 => hK a' w' ⟨h1, h2⟩
  have hput : ∀ (a : Act) (w : World) (K : Act → World → Prop), (Region.wanted oi (yielded ops a.tmps) = true ∧ ∀ w', C w' → (execOp a.eval oi).run P w' = .ok (.value v) w') → C w → K (a.put oi.dst v) w → wpOp P ops Q i K a w := by
    intro a w K hy hw hk
    unfold wpOp
    simp only [hi, hy.1, if_true, Oper.wp, hy.2 w hw, Oper.upon]
    exact .inl hk
  obtain ⟨h1, h2, h3⟩ := Oper.apart_spec hap
  have hsi : ∀ cs b, oi.op ≠ .select cs b := fun cs b => Region.noSelect_spec hs i oi cs b hi
  have hsj : ∀ cs b, oj.op ≠ .select cs b := fun cs b => Region.noSelect_spec hs j oj cs b hj
  refine ⟨fun e => (by rw [hr] at e; cases e), fun k hk => ?_⟩
  rw [hr] at hk
  simp only [List.mem_cons, List.not_mem_nil, or_false] at hk
  rcases hk with rfl | rfl
  · refine hput a w _ hy hw ⟨fun e => (by rw [hri] at e; cases e), fun k hk => ?_⟩
    rw [hri] at hk
    simp only [List.mem_cons, List.not_mem_nil, or_false] at hk
    subst hk
    exact wpOp_mono (fun a' w' h => h.2) h0
  · have h4 := wpOp_put_of (Y := fun a => Region.wanted oi (yielded ops a.tmps) = true ∧ ∀ w', C w' → (execOp a.eval oi).run P w' = .ok (.value v) w') hj hap hsj hQ
      (fun a u hy => by rw [execOp_put oi hsi a oj.dst u h3, wanted_put oi a oj.dst u h3]; exact hy) (fun a d hy => hy) hy h0
    refine wpOp_mono (fun a' w' h5 => ⟨fun e => (by rw [hrj] at e; cases e), fun m hm => ?_⟩) h4
    rw [hrj] at hm
    simp only [List.mem_cons, List.not_mem_nil, or_false] at hm
    subst hm
    rw [Array.setIfInBounds_comm _ _ (by
      intro e
      subst e
      have := (mem_ready (md := md) (ops := ops)).1 (by rw [hri]; simp : k ∈ Region.ready md ops (listed.setIfInBounds k true))
      have h6 := this.1
      rcases Nat.lt_or_ge k listed.size with hl | hl
      · simp [hl] at h6
      · simp [Array.getElem?_eq_none hl] at h6)]
    exact hput a' w' _ h5.1 h5.2.1 h5.2.2
/-- Two loads: the first may be taken first, whatever it lets come up. -/
theorem wpAny_load_first {i j : Nat} {oi oj : Oper} {v u : Value} {fuel : Nat} {listed : Array Bool} {a : Act} {w : World} (hi : ops[i]? = some oi) (hj : ops[j]? = some oj) (hs : Region.noSelect ops = true)
    (hr : (Region.ready md ops listed).all (fun k => k == i || k == j) = true) (hri : (Region.ready md ops listed).contains i = true) (hrj : Region.ready md ops (listed.setIfInBounds j true) = [i]) (hap : oi.apart ops oj = true) (hij : i ≠ j)
    (hyi : Region.wanted oi (yielded ops a.tmps) = true ∧ (execOp a.eval oi).run P w = .ok (.value v) w)
    (hyj : Region.wanted oj (yielded ops a.tmps) = true ∧ (execOp a.eval oj).run P w = .ok (.value u) w)
    (H : wpAny P md ops Q (fuel + 1) (listed.setIfInBounds i true) (a.put oi.dst v) w) : wpAny P md ops Q (fuel + 2) listed a w := by
  have hput : ∀ (k : Nat) (o : Oper) (x : Value) (a : Act) (K : Act → World → Prop), ops[k]? = some o → (Region.wanted o (yielded ops a.tmps) = true ∧ (execOp a.eval o).run P w = .ok (.value x) w) → (wpOp P ops Q k K a w ↔ (K (a.put o.dst x) w ∨ (o.asks P a w ∧ LetsOut Q))) := by
    intro k o x a K hk hy
    unfold wpOp
    simp only [hk, hy.1, if_true, Oper.wp, hy.2, Oper.upon]
  obtain ⟨h1, h2, h3⟩ := Oper.apart_spec hap
  have hsi : ∀ cs b, oi.op ≠ .select cs b := fun cs b => Region.noSelect_spec hs i oi cs b hi
  have hsj : ∀ cs b, oj.op ≠ .select cs b := fun cs b => Region.noSelect_spec hs j oj cs b hj
  refine ⟨fun e => (by rw [e] at hri; simp at hri), fun k hk => ?_⟩
  have hk2 := List.all_eq_true.1 hr k hk
  simp only [Bool.or_eq_true, beq_iff_eq] at hk2
  rcases hk2 with rfl | rfl
  · exact (hput k oi v a _ hi hyi).2 (.inl H)
  · have hj2 := H.2 k (ready_mono hk (fun e => hij e.symm))
    have hyj2 : Region.wanted oj (yielded ops (a.put oi.dst v).tmps) = true ∧ (execOp (a.put oi.dst v).eval oj).run P w = .ok (.value u) w := by rw [execOp_put oj hsj a oi.dst v h1, wanted_put oj a oi.dst v h1]; exact hyj
    have hyi2 : Region.wanted oi (yielded ops (a.put oj.dst u).tmps) = true ∧ (execOp (a.put oj.dst u).eval oi).run P w = .ok (.value v) w := by rw [execOp_put oi hsi a oj.dst u h3, wanted_put oi a oj.dst u h3]; exact hyi
    have h4 := (hput k oj u _ _ hj hyj2).1 hj2
    refine (hput k oj u a _ hj hyj).2 ?_
    rcases h4 with h4 | ⟨h4, h5⟩
    · refine .inl ⟨fun e => (by rw [hrj] at e; cases e), fun m hm => ?_⟩
      rw [hrj] at hm
      simp only [List.mem_cons, List.not_mem_nil, or_false] at hm
      subst hm
      refine (hput m oi v _ _ hi hyi2).2 (.inl ?_)
      rw [Array.setIfInBounds_comm _ _ (fun e => hij e.symm), ← Act.put_comm a v u h2]
      exact h4
    · refine .inr ⟨?_, h5⟩
      unfold Oper.asks at *
      rw [execOp_put oj hsj a oi.dst v h1] at h4
      exact h4
end
end Go.Proofs.YtnenjkngimfdgaaDoor
