/-
  sha1.blockGeneric: whole blocks of bytes, taken up into the five words of a digest.
-/
import Derived.Test.YtlnidgkcgjlnaaaShaD
import Derived.Deep.DeepCutAuto
import Derived.LoopTactic
import Derived.IntWalk
namespace Go.Proofs.Ytlnidgkcgjlnaaa
open Go.RowKit
set_option linter.unusedVariables false
set_option linter.unusedSimpArgs false

/-- The loops in a piece of code, in the order of the text. -/
def loopsOf : Code → List Code
  | .loop c => c :: loopsOf c
  | .seq a b => loopsOf a ++ loopsOf b
  | .block _ c => loopsOf c
  | .scope c => loopsOf c
  | .cond _ a b => loopsOf a ++ loopsOf b
  | _ => []
/-- The bodies of blockGeneric's loops. -/
noncomputable def lp (k : Nat) : Code := ((Try.f55.body.map loopsOf).getD []).getD k .skip
theorem round_cho {i : Nat} (h : i < 20) (a b c d e w : Int) : (rot5 a + bits .or .u32 (bits .and .u32 b c) (bits .and .u32 (bits .xor .u32 4294967295 b) d) + e + w + 1518500249) % 4294967296 = (W5.round i w ⟨a, b, c, d, e⟩).a := by
  show _ = (rot5 a + shaF i b c d + e + shaK i + w) % 4294967296
  have e1 : shaF i b c d = bits .xor .u32 (bits .and .u32 b c) (bits .and .u32 (bits .xor .u32 4294967295 b) d) := by unfold shaF; rw [if_pos h]
  have e2 : shaK i = 1518500249 := by unfold shaK; rw [if_pos h]
  rw [e1, e2, sha_cho]
  generalize bits .xor .u32 (bits .and .u32 b c) (bits .and .u32 (bits .xor .u32 4294967295 b) d) = F
  omega
theorem round_par {i : Nat} (h : 20 ≤ i) (h2 : i < 40) (a b c d e w : Int) : (rot5 a + bits .xor .u32 (bits .xor .u32 b c) d + e + w + 1859775393) % 4294967296 = (W5.round i w ⟨a, b, c, d, e⟩).a := by
  show _ = (rot5 a + shaF i b c d + e + shaK i + w) % 4294967296
  have e1 : shaF i b c d = bits .xor .u32 (bits .xor .u32 b c) d := by unfold shaF; rw [if_neg (by omega), if_pos h2]
  have e2 : shaK i = 1859775393 := by unfold shaK; rw [if_neg (by omega), if_pos h2]
  rw [e1, e2]
  generalize bits .xor .u32 (bits .xor .u32 b c) d = F
  omega
theorem round_maj {i : Nat} (h : 40 ≤ i) (h2 : i < 60) (a b c d e w : Int) : (rot5 a + bits .or .u32 (bits .and .u32 (bits .or .u32 b c) d) (bits .and .u32 b c) + e + w + 2400959708) % 4294967296 = (W5.round i w ⟨a, b, c, d, e⟩).a := by
  show _ = (rot5 a + shaF i b c d + e + shaK i + w) % 4294967296
  have e1 : shaF i b c d = bits .xor .u32 (bits .xor .u32 (bits .and .u32 b c) (bits .and .u32 b d)) (bits .and .u32 c d) := by unfold shaF; rw [if_neg (by omega), if_neg (by omega), if_pos h2]
  have e2 : shaK i = 2400959708 := by unfold shaK; rw [if_neg (by omega), if_neg (by omega), if_pos h2]
  rw [e1, e2, sha_maj]
  generalize bits .xor .u32 (bits .xor .u32 (bits .and .u32 b c) (bits .and .u32 b d)) (bits .and .u32 c d) = F
  omega
theorem round_last {i : Nat} (h : 60 ≤ i) (a b c d e w : Int) : (rot5 a + bits .xor .u32 (bits .xor .u32 b c) d + e + w + 3395469782) % 4294967296 = (W5.round i w ⟨a, b, c, d, e⟩).a := by
  show _ = (rot5 a + shaF i b c d + e + shaK i + w) % 4294967296
  have e1 : shaF i b c d = bits .xor .u32 (bits .xor .u32 b c) d := by unfold shaF; rw [if_neg (by omega), if_neg (by omega), if_neg (by omega)]
  have e2 : shaK i = 3395469782 := by unfold shaK; rw [if_neg (by omega), if_neg (by omega), if_neg (by omega)]
  rw [e1, e2]
  generalize bits .xor .u32 (bits .xor .u32 b c) d = F
  omega
theorem round_rest (i : Nat) (a b c d e w x : Int) (h : x = (W5.round i w ⟨a, b, c, d, e⟩).a) : (⟨x, a, rot30 b, c, d⟩ : W5) = W5.round i w ⟨a, b, c, d, e⟩ := by rw [h]; rfl
/-- How many elements a slice value has. -/
def sliceLen : Value → Nat
  | .slice _ n _ => n
  | _ => 0
theorem slice_cells_g {w : World} {A : Option Addr} {l : List UInt8} (h : RBytes w A l) (hl : 0 < l.length) : ∃ ad, A = some ad ∧ ad.block < w.heap.size ∧ ∀ j, j < l.length → w.cell? (ad.add j) = some (.int .u8 (lb l j)) := by
  obtain ⟨ad, e, hb, hc⟩ := h.addr hl
  exact ⟨ad, e, hb, fun j hj => by rw [hc j hj, lb_at hj]⟩

end Go.Proofs.Ytlnidgkcgjlnaaa
