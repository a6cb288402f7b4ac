/-
  A region that draws its order: its first operations only read or call what only reads (and may draw), and a tail in a forced order writes. One walk of the lexical order serves every order. Over any program. Nothing is assumed.
-/
import Derived.Test.YtlnidgkcgjlnaaaChg
import Derived.Deep.Quiet
namespace Go.Proofs.Ytlnidgkcgjlnaaa
set_option linter.unusedVariables false
set_option linter.unusedSimpArgs false

section
variable {P : Program} {ops : Array Oper} {md : Region.Mode} {C : World → Prop}
/-- So many operations come up, whichever they are, each quiet in the class; then L. -/
def Heads (P : Program) (md : Region.Mode) (ops : Array Oper) (C : World → Prop) (L : Array Bool → Act → Prop) : Nat → Array Bool → Act → Prop
  | 0, listed, a => L listed a
  | f + 1, listed, a => Region.ready md ops listed ≠ [] ∧ ∀ i ∈ Region.ready md ops listed, qOp P ops C i (Heads P md ops C L f (listed.setIfInBounds i true)) a
theorem Heads.any {g : Nat} {L : Array Bool → Act → Prop} {Q : Exit → Act → World → Prop} (hL : ∀ listed a w, C w → L listed a → wpAny P md ops Q g listed a w) :
    ∀ (f : Nat) (listed : Array Bool) (a : Act) (w : World), C w → Heads P md ops C L f listed a → wpAny P md ops Q (f + g) listed a w := by
  intro f
  induction f with
  | zero => intro listed a w hw h; rw [Nat.zero_add]; exact hL _ _ _ hw h
  | succ f ih =>
    intro listed a w hw h
    rw [Nat.add_right_comm]
    exact ⟨fun e => absurd e h.1, fun i hi => wpOp_of_qOp hw (fun a' w' hw' hh => ih _ a' w' hw' hh) (h.2 i hi)⟩
theorem Heads.first {n i : Nat} {oi : Oper} {v : Value} {L : Array Bool → Act → Prop} (hi : ops[i]? = some oi) (hs : Region.noSelect ops = true)
    (hwait : ∀ listed, HeadInv md ops n listed → listed.getD i true = false → ∀ t ∈ Region.ready md ops listed, t < n)
    (hdone : ∀ listed a, L listed a → ∀ t ∈ Region.ready md ops listed, n ≤ t) :
    ∀ (f : Nat) (listed : Array Bool) (a : Act), HeadInv md ops n listed →
      (∀ j oj, ops[j]? = some oj → j ≠ i → listed.getD j true = false → (∀ e ∈ oj.after, Region.binds md e = true → e.on ≠ i) → oi.apart ops oj = true) →
      i ∈ Region.ready md ops listed → YieldsIn P ops C oi v a →
      Heads P md ops C L f (listed.setIfInBounds i true) (a.put oi.dst v) → Heads P md ops C L (f + 1) listed a := by
  have hsel := Region.noSelect_spec hs
  intro f
  induction f with
  | zero =>
    intro listed a inv _ hr hy H
    refine ⟨List.ne_nil_of_mem hr, fun j hj => ?_⟩
    rcases Decidable.em (j = i) with rfl | hji
    · exact hy.qOp hi H
    · have h1 := hdone _ _ H j (ready_mono hj hji)
      have h2 := hwait _ inv (mem_ready.1 hr).1 j hj
      omega
  | succ f ih =>
    intro listed a inv hfree hr hy H
    refine ⟨List.ne_nil_of_mem hr, fun j hj => ?_⟩
    rcases Decidable.em (j = i) with rfl | hji
    · exact hy.qOp hi H
    · have hjn := hwait _ inv (mem_ready.1 hr).1 j hj
      obtain ⟨hjun, oj, hoj, hall⟩ := mem_ready.1 hj
      have hno : ∀ e ∈ oj.after, Region.binds md e = true → e.on ≠ i := fun e he hb heq => by
        have h1 := hall e he hb
        rw [heq, getD_both (mem_ready.1 hr).1] at h1
        cases h1
      have hq := qOp_put hoj (hfree j oj hoj hji hjun hno) (fun cs b => hsel i oi cs b hi) (fun cs b => hsel j oj cs b hoj) hy (H.2 j (ready_mono hj hji))
      refine qOp_mono (fun a' h3 => ih _ a' (inv.set hj hjn) (fun k ok hk hki hun hn => hfree k ok hk hki ?_ hn) (ready_mono hr (Ne.symm hji)) h3.1 ?_) hq
      · rcases Decidable.em (j = k) with rfl | hjk
        · exact hjun
        · rwa [getD_set_ne true hjk] at hun
      · rw [Array.setIfInBounds_comm _ _ hji]
        exact h3.2
theorem Heads.lex {n g : Nat} {Lq : Act → Prop} (hsel : Region.noSelect ops = true) (hs : Region.sinkB md ops n = true) (hc : Region.chainB md ops n = true) (hn : n < ops.size) :
    ∀ (l : List Oper) (k : Nat) (listed : Array Bool) (a : Act), (∀ j, j < l.length → l[j]? = ops[k + j]?) → k + l.length = n → HeadInv md ops n listed →
    Region.lexHead md ops g l.length k listed = true → wpQuiet P ops C Lq l a → Heads P md ops C (fun listed' a' => Region.seqB md ops g n listed' = true ∧ Lq a') l.length listed a := by
  intro l
  induction l with
  | nil =>
    intro k listed a _ hk _ hB h
    have e : k = n := by simpa using hk
    subst e
    exact ⟨by simpa [Region.lexHead] using hB, h⟩
  | cons o l ih =>
    intro k listed a hl hk inv hB h
    have h0 : ops[k]? = some o := by simpa using (hl 0 (by simp)).symm
    simp only [List.length_cons, Region.lexHead, Bool.and_eq_true] at hB
    simp only [List.length_cons] at hk
    obtain ⟨⟨hr, hf⟩, hB'⟩ := hB
    have hr' : k ∈ Region.ready md ops listed := by simpa using hr
    have hq : qOp P ops C k (wpQuiet P ops C Lq l) a := by unfold qOp; simp only [h0]; exact h
    obtain ⟨v, hy, hK⟩ := yieldsIn_of_qOp h0 hq
    refine Heads.first (n := n) h0 hsel (fun listed' inv' hun t ht => ?_) (fun listed' a' hL => seqB_ready hL.1) l.length listed a inv (Region.free_spec h0 hf) hr' hy
      (ih (k + 1) _ _ (fun j hj => ?_) (by omega) (inv.set hr' (by omega)) hB' hK)
    · rcases Nat.lt_or_ge t n with h1 | h1
      · exact h1
      · exact absurd ht (tail_waits hs hc hn inv' _ k rfl (by omega) hun t h1)
    · have h2 := hl (j + 1) (by simp only [List.length_cons]; omega)
      simpa [Nat.add_assoc, Nat.add_comm 1 j] using h2
theorem wp_region_tailC {id : Nat} {Q : Exit → Act → World → Prop} {a : Act} {w : World} {l : List Oper} (n : Nat) (hm : P.follows .mixedOrders = true) (hB : Region.lexTailB .any l.toArray n = true)
    (h : wpQuiet P l.toArray (fun w' => ∃ n, w' = w.drewN n) (fun a' => ∀ w', (∃ n, w' = w.drewN n) → wpList P l.toArray Q (l.drop n) a' w') (l.take n) a) : (Code.region id l.toArray true).wp P Q a w := by
  simp only [Region.lexTailB, Bool.and_eq_true, decide_eq_true_eq] at hB
  obtain ⟨⟨⟨⟨hsel, hn⟩, hs⟩, hc⟩, hlex⟩ := hB
  have hn' : n < l.length := by simpa using hn
  have htl : (l.take n).length = n := by simp; omega
  have hdl : (l.drop n).length = l.toArray.size - n := by simp
  have inv0 : HeadInv .any l.toArray n (Array.replicate l.toArray.size false) :=
    ⟨by simp, fun j oj _ hl => (by rw [getD_replicate_false] at hl; cases hl), fun t _ ht => getD_in (by simpa using ht) (getD_replicate_false _ _)⟩
  have H := Heads.lex (md := .any) (g := l.toArray.size - n) hsel hs hc hn (l.take n) 0 _ a (fun j hj => by
    have hj' : j < n := by omega
    simp [hj']) (by omega) inv0 (by rw [htl]; exact hlex) h
  refine wp_region_any hm ?_
  have H2 := Heads.any (Q := Q) (g := l.toArray.size - n) (C := fun w' => ∃ n, w' = w.drewN n) (fun listed a' w' hw' hL => by
    have h2 := wpAny_of_seq (md := .any) (Q' := Q) (l.drop n) n listed a' w' (fun j => by simp [List.getElem?_drop]) (by rw [hdl]; exact hL.1) (hL.2 w' hw')
    rwa [hdl] at h2) _ _ _ { w with drawn := w.drawn + 1 } ⟨1, rfl⟩ H
  rwa [htl, show n + (l.toArray.size - n) = l.toArray.size by omega] at H2
end
end Go.Proofs.Ytlnidgkcgjlnaaa
