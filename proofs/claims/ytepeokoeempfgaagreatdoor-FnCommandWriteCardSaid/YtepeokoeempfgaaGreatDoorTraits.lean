/-
  spec.TraitsOf.
-/
import Derived.Test.YtepeokoeempfgaaGreatDoorKeysOf
namespace Go.Proofs.YtepeokoeempfgaaGreatDoor
open Go.RowKit
set_option linter.unusedVariables false
set_option linter.unusedSimpArgs false

def noStr (u : Value) : Bool := match u with | .string _ => false | _ => true
/-- What reads as texts does not lie in a block without texts. -/
theorem RS.chg1 {w wx : World} {A : Option Addr} {l : List ByteArray} {g : Nat} {t : TypeId} {cs : Array Value} (h : RS w A l) (hb : Blk w g t cs) (hns : cs.all noStr = true) (hc : Chg [g] w wx) : RS wx A l := by
  by_cases hl : 0 < l.length
  · obtain ⟨ad, rfl, hab, hcell⟩ := h.addr hl
    refine h.chg hc fun ad2 h2 hm => ?_
    injection h2 with h2
    subst h2
    have hg : ad.block = g := by simpa using hm
    have h0 := hcell 0 hl
    have e : ad.add 0 = ad := by unfold Addr.add; simp
    rw [e] at h0
    unfold Blk at hb
    unfold World.cell? at h0
    rw [hg, hb] at h0
    simp only at h0
    split at h0
    · cases h0
    · have hmem := Array.mem_of_getElem? h0
      have := Array.all_eq_true'.1 hns _ hmem
      simp [noStr] at this
  · have : l = [] := List.eq_nil_of_length_eq_zero (by omega)
    subst this
    exact RS.nil _ _
/-- A value of four: a list of texts and three truths. -/
def traits (A : Option Addr) (n c : Nat) (r p s : Bool) : Value := .agg #[.slice A n c, .bool r, .bool p, .bool s]
def RetT (w : World) (B : Nat → Prop) (K : List ByteArray) (free : Bool) (e : Ending) (w' : World) : Prop := ∃ A' c, e = .returned (traits A' K.length c true free free) ∧ RS w' A' K ∧ Ext w w' ∧ K.length ≤ c ∧ c ≤ maxLen ∧ ∀ ad, A' = some ad → B ad.block

end Go.Proofs.YtepeokoeempfgaaGreatDoor
