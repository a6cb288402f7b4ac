/-
  The row of laws.FnIDNext: for every input the call returns true and each argument reads behind the call as it read before. No condition.
-/
import Derived.Test.YtlnidgkcgjlnaaaFnIDNext
import Derived.ProofKit
import Derived.OpenShut
import Derived.Lib.SmallJoins
namespace Go.Proofs.Ytlnidgkcgjlnaaa.fnIDNext
open Go.ChangeShapes Go.WideShapes Go.ChangeAt Go.RowKit
open Go.ChangeMaps (open_string shut_string)
set_option linter.unusedVariables false

theorem cells31 : Try.prog.cellsOf 31 = 2 := by kernel_rfl
theorem own : ownKnob Try.prog.godebug = none := by kernel_rfl

set_option maxRecDepth 100000 in
theorem lifted (os : Os) (started : os.Started) (H : Type) (enc : TypeId × Value → H) :
    ReturnsInHanded {} Try.checked os 5 .any (Rows.fnIDNextSpec.pre6 enc Try.prog Try.f5 Rows.fnIDNextRow.domain false) (Rows.fnIDNextSpec.post enc Try.prog Try.f5 false true false false) := by
  refine returnsInHanded_of_change (C := Try.checked) own started (by kernel_rfl) Try.func5
    (ChangeSpec.witness6 (enc := enc) (C := Try.checked) false ⟨#[], #[.agg #[.int .u64 0, .int .u64 0]], []⟩ 8 (by kernel_rfl) (by kernel_rfl) (by kernel_rfl) (by kernel_rfl)) ?_
  intro W base args ds gs before hval0 hW hcnd _
  have hval : ∀ (j : Nat) t v, Try.f5.params[j]? = some t → args[j]? = some v → Value.okWide Try.prog W .any base t v := hval0
  have hW' := hW
  obtain ⟨p, q, hA0, hV, rfl, hfz, hnd⟩ := hW
  have hA : DataW.TrodAll enc Try.prog W 0 (fun _ => true) true Try.f5.params.toList args.toList ds p := hA0
  rw [Try.params5] at hA hval
  obtain ⟨v0, vs0, d0, ds0, p0, q0, hargs, rfl, rfl, h0, r0⟩ := trodAll_cons hA
  obtain ⟨rfl, rfl, rfl⟩ := trodAll_nil r0
  obtain rfl : args = #[v0] := by cases args; simp_all
  obtain ⟨rfl, rfl⟩ := trodVars_none hV
  obtain ⟨c0a, c0b, y0a, y0b, m0, rfl, rfl, rfl, hy0a, hy0b⟩ := Joins.open_agg2 Try.underlying31 (by kernel_rfl) cells31 (hval 0 31 v0 rfl rfl) h0
  obtain ⟨a0, e0a, rfl, w0⟩ := DataW.trod_int Try.underlying29 hy0a
  obtain ⟨b0, e0b, rfl, x0⟩ := DataW.trod_int Try.underlying29 hy0b
  simp at e0a e0b
  subst e0a e0b
  clear hA0 hval0
  simp only [List.append_nil] at hW'
  refine (fnIDNext_walk a0 b0 w0 x0 W).mono fun e W' ⟨he, hg⟩ => ?_
  subst he
  exact ⟨_, rfl, post_of_below (pa := []) (pv := []) hW' (fun _ _ _ => (trodAll_cons_mk (shut_bool Try.underlying4 _) trodAll_mk0)) (fun sp _ => (trodAll_cons_mk (Joins.shut_agg2 (y0 := (.lit (.int .u64 a0), [])) (y1 := (.lit (.int .u64 b0), [])) Try.underlying31 (by kernel_rfl) cells31 ⟨1, by simp [DataW.trod, Try.underlying29, w0]⟩ ⟨1, by simp [DataW.trod, Try.underlying29, x0]⟩) trodAll_mk0)) (fun _ _ => rfl) rfl
    hg (ok_one (by kernel_rfl) rfl (okWide_bool_mk Try.underlying4 _))⟩

theorem proved : Rows.FnIDNextSaid :=
  OpenClaim.holds_of_wide 5 Try.f5 rfl rfl rfl rfl rfl rfl rfl ⟨rfl, rfl, rfl, rfl, rfl⟩ rfl rfl rfl rfl rfl (by kernel_rfl) Try.func5 (by kernel_rfl)
    (of_decide_eq_true (by kernel_rfl)) (by unfold Func.isWrapper; first | (rw [if_pos (by decide +kernel)]; kernel_rfl) | (rw [if_neg (by decide +kernel)]; exact ⟨rfl, rfl⟩))
    (fun os started H enc _ => lifted os started H enc)
#print axioms proved
end Go.Proofs.Ytlnidgkcgjlnaaa.fnIDNext
