/-
  A region that draws its order, by an invariant over which operations have come up.
-/
import Derived.Test.YtlnidgkcgjlnaaaOps
import Derived.Orders
namespace Go.Proofs.Ytlnidgkcgjlnaaa
open Go.RowKit
set_option linter.unusedVariables false
set_option linter.unusedSimpArgs false

section
variable {P : Program} {md : Region.Mode} {ops : Array Oper} {Q : Exit → Act → World → Prop}

def markDone (d : Nat → Bool) (i : Nat) : Nat → Bool := fun j => j == i || d j
theorem markDone_self (d : Nat → Bool) (i : Nat) : markDone d i i = true := by simp [markDone]

def Fwd (md : Region.Mode) : List Oper → Nat → Bool
  | [], _ => true
  | o :: rest, k => (o.after.all fun e => !Region.binds md e || decide (e.on < k)) && Fwd md rest (k + 1)

theorem Fwd.at_ : ∀ {l : List Oper} {k i : Nat} {o : Oper}, Fwd md l k = true → l[i]? = some o → ∀ e ∈ o.after, Region.binds md e = true → e.on < k + i
  | [], _, _, _, _, h => by simp at h
  | o :: rest, k, 0, o', hF, h => by
    simp only [List.getElem?_cons_zero, Option.some.injEq] at h
    subst h
    simp only [Fwd, Bool.and_eq_true] at hF
    intro e he hb
    have := Array.all_eq_true'.1 hF.1 e he
    simpa [hb] using this
  | o :: rest, k, i + 1, o', hF, h => by
    simp only [List.getElem?_cons_succ] at h
    simp only [Fwd, Bool.and_eq_true] at hF
    intro e he hb
    have := Fwd.at_ hF.2 h e he hb
    omega

/-- What each operation does, from a state of the invariant. -/
def StepAll (P : Program) (md : Region.Mode) (ops : Array Oper) (Q : Exit → Act → World → Prop) (I : (Nat → Bool) → Act → World → Prop) : List Oper → Nat → Prop
  | [], _ => True
  | o :: rest, k => (∀ d a w, d k = false → (o.after.all fun e => !Region.binds md e || d e.on) = true → I d a w →
      if Region.wanted o (yielded ops a.tmps) then o.wp P a w (fun a' w' => I (markDone d k) a' w') Q else I (markDone d k) (a.put o.dst undef) w) ∧ StepAll P md ops Q I rest (k + 1)

theorem StepAll.at_ {I : (Nat → Bool) → Act → World → Prop} : ∀ {l : List Oper} {k i : Nat} {o : Oper}, StepAll P md ops Q I l k → l[i]? = some o →
    ∀ d a w, d (k + i) = false → (o.after.all fun e => !Region.binds md e || d e.on) = true → I d a w →
      if Region.wanted o (yielded ops a.tmps) then o.wp P a w (fun a' w' => I (markDone d (k + i)) a' w') Q else I (markDone d (k + i)) (a.put o.dst undef) w
  | [], _, _, _, _, h => by simp at h
  | o :: rest, k, 0, o', hS, h => by
    simp only [List.getElem?_cons_zero, Option.some.injEq] at h
    subst h
    exact hS.1
  | o :: rest, k, i + 1, o', hS, h => by
    simp only [List.getElem?_cons_succ] at h
    have := StepAll.at_ (I := I) hS.2 h
    rw [show k + (i + 1) = k + 1 + i by omega]
    exact this

theorem ready_nil {l : List Oper} (hF : Fwd md l 0 = true) {listed : Array Bool} (hr : Region.ready md l.toArray listed = []) : ∀ i, listed.getD i true = true ∨ l.length ≤ i := by
  intro i
  induction i using Nat.strongRecOn with
  | _ i ih =>
    by_cases hi : i < l.length
    · refine .inl ?_
      cases h : listed.getD i true with
      | true => rfl
      | false =>
        exfalso
        have : i ∈ Region.ready md l.toArray listed := mem_ready.2 ⟨h, l[i], by simp [hi], fun e he hb => by
          have hlt := Fwd.at_ hF (List.getElem?_eq_getElem hi) e he hb
          rcases ih e.on (by omega) with h' | h'
          · by_cases hs : e.on < listed.size
            · simpa [hs] using h'
            · have hs2 : i < listed.size := by
                by_cases hi2 : i < listed.size
                · exact hi2
                · simp [hi2] at h
              omega
          · omega⟩
        rw [hr] at this
        cases this
    · exact .inr (by omega)

theorem wpAny_inv {I : (Nat → Bool) → Act → World → Prop} {l : List Oper} (hF : Fwd md l 0 = true) (hS : StepAll P md l.toArray Q I l 0)
    (hend : ∀ d a w, (∀ i, i < l.length → d i = true) → I d a w → Q .normal a w) :
    ∀ (fuel : Nat) (listed : Array Bool) (a : Act) (w : World), listed.size = l.length → listed.toList.count false = fuel → I (fun i => listed.getD i true) a w → wpAny P md l.toArray Q fuel listed a w := by
  have hdone : ∀ (listed : Array Bool) (a : Act) (w : World), Region.ready md l.toArray listed = [] → I (fun i => listed.getD i true) a w → Q .normal a w := fun listed a w hr hI =>
    hend _ a w (fun i hi => (ready_nil hF hr i).resolve_right (by omega)) hI
  intro fuel
  induction fuel with
  | zero =>
    intro listed a w hsz hc hI
    have hr : Region.ready md l.toArray listed = [] := by
      refine List.eq_nil_iff_forall_not_mem.2 fun i hi => ?_
      have h := (mem_ready.1 hi).1
      by_cases hs : i < listed.size
      · have hm : false ∈ listed.toList := by
          have : listed[i] = false := by simpa [hs] using h
          rw [← this]; simp
        rw [List.count_eq_zero] at hc
        exact hc hm
      · simp [hs] at h
    exact ⟨hr, hdone _ _ _ hr hI⟩
  | succ fuel ih =>
    intro listed a w hsz hc hI
    refine ⟨fun hr => hdone _ _ _ hr hI, fun i hi => ?_⟩
    obtain ⟨hun, o, ho, hdep⟩ := mem_ready.1 hi
    have hs : i < listed.size := by
      by_cases hs : i < listed.size
      · exact hs
      · simp [hs] at hun
    have hof : listed[i] = false := by simpa [hs] using hun
    have ho' : l[i]? = some o := by simpa using ho
    have hda : (o.after.all fun e => !Region.binds md e || (fun i => listed.getD i true) e.on) = true := by
      refine Array.all_eq_true'.2 fun e he => ?_
      by_cases hb : Region.binds md e = true
      · have h := hdep e he hb
        have : listed.getD e.on true = true := by
          by_cases hs2 : e.on < listed.size
          · simpa [hs2] using h
          · simp [hs2]
        simp only [this, Bool.or_true]
      · simp [hb]
    have hstep := hS.at_ ho' (fun i => listed.getD i true) a w (by simpa using hun) hda hI
    rw [Nat.zero_add] at hstep
    have hmark : markDone (fun i => listed.getD i true) i = fun j => (listed.setIfInBounds i true).getD j true := by
      funext j
      unfold markDone
      by_cases hj : j = i
      · subst hj; simp [hs]
      · have hj' : ¬ i = j := fun h => hj h.symm
        simp [hj, Array.getD_eq_getD_getElem?, Array.getElem?_setIfInBounds, hj']
    rw [hmark] at hstep
    have hcount : (listed.setIfInBounds i true).toList.count false = fuel := by
      have hl : i < listed.toList.length := by simpa using hs
      rw [Array.toList_setIfInBounds, List.count_set hl]
      have : listed.toList[i] = false := by simpa using hof
      simp [this, hc]
    have next : ∀ a' w', I (fun j => (listed.setIfInBounds i true).getD j true) a' w' → wpAny P md l.toArray Q fuel (listed.setIfInBounds i true) a' w' := fun a' w' h =>
      ih _ a' w' (by simpa using hsz) hcount h
    unfold wpOp
    simp only [ho]
    split
    · rename_i hw
      rw [if_pos hw] at hstep
      exact .inl (Oper.wp_mono next hstep)
    · rename_i hw
      rw [if_neg hw] at hstep
      exact next _ _ hstep

theorem wp_region_inv {id : Nat} {a : Act} {w : World} {l : List Oper} (I : (Nat → Bool) → Act → World → Prop) (hm : P.follows .mixedOrders = true) (hF : Fwd .any l 0 = true)
    (h0 : I (fun i => !decide (i < l.length)) a w.drew) (hS : StepAll P .any l.toArray Q I l 0)
    (hend : ∀ d a w, (∀ i, i < l.length → d i = true) → I d a w → Q .normal a w) : (Code.region id l.toArray true).wp P Q a w := by
  refine wp_region_any hm (wpAny_inv hF hS hend _ _ _ _ (by simp) (by simp) ?_)
  have : (fun i => (Array.replicate l.toArray.size false).getD i true) = fun i => !decide (i < l.length) := by
    funext i
    by_cases h : i < l.length <;> simp [h, Array.getD_eq_getD_getElem?]
  rw [this]
  exact h0
theorem step_of {o : Oper} {a : Act} {w : World} {Kc : Act → World → Prop} {X : Prop} (hg : o.guard = none) (h : ∀ K : Act → World → Prop, (∀ a' w', Kc a' w' → K a' w') → o.wp P a w K Q) :
    if Region.wanted o (yielded ops a.tmps) then o.wp P a w Kc Q else X := by
  have : Region.wanted o (yielded ops a.tmps) = true := by unfold Region.wanted; rw [hg]
  rw [if_pos this]
  exact h Kc fun _ _ h => h
end
end Go.Proofs.Ytlnidgkcgjlnaaa
