/-
  The keys among pairs, and behind STREAMS: the program's and the specification's.
-/
import Derived.Test.YtepeokoeempfgaaDoorTexts
namespace Go.Proofs.YtepeokoeempfgaaDoor
open Go.RowKit
set_option linter.unusedVariables false
set_option linter.unusedSimpArgs false

def pairsOf (l : List ByteArray) : List ByteArray := (List.range (l.length / 2)).map fun k => l.getD (2 * k) ⟨#[]⟩
theorem pairsOf_length (l : List ByteArray) : (pairsOf l).length = l.length / 2 := by simp [pairsOf]
theorem pairsOf_get (l : List ByteArray) (k : Nat) (h : k < (pairsOf l).length) : ∃ h2 : 2 * k < l.length, (pairsOf l)[k] = l[2 * k] := by
  rw [pairsOf_length] at h
  have h2 : 2 * k < l.length := by omega
  refine ⟨h2, ?_⟩
  simp [pairsOf, h2]
theorem take_snoc1 {α : Type} (l : List α) (k : Nat) (h : k < l.length) : l.take (k + 1) = l.take k ++ [l[k]] := List.take_succ_eq_append_getElem h

theorem below_of_grown {w w' : World} {base : Nat} {e : TypeId} {size n : Nat} {v : Value} {xs : List Value} (hown : w.ownsRow base e size v n xs) (hg : w.grownBy w' v.ownBlock) (hb : base ≤ w.heap.size) : Below base w w' :=
  ⟨hg.os, hg.tape, hg.output, hg.size, fun i hi => hg.block i (by omega) (fun hne => by
    rcases hown.2 with ⟨rfl, _⟩ | ⟨g, cap, cur, rfl, hbg, _⟩
    · simp [Value.ownBlock] at hne
    · simp [Value.ownBlock] at hne
      omega)⟩
theorem own_slice {w : World} {base : Nat} {e : TypeId} {size n : Nat} {v : Value} {xs : List Value} (hown : w.ownsRow base e size v n xs) : ∃ A c, v = .slice A n c ∧ n ≤ c ∧ c ≤ maxLen ∧ ∀ ad, A = some ad → base ≤ ad.block := by
  rcases hown.2 with ⟨rfl, h⟩ | ⟨g, cap, cur, rfl, hbg, _, h1, h2, _⟩
  · have : n = 0 := h
    subst this
    exact ⟨none, 0, rfl, Nat.le_refl _, Nat.zero_le _, by simp⟩
  · exact ⟨_, cap, rfl, h1, h2, fun ad had => by injection had with had; subst had; exact hbg⟩
theorem rs_of_own {w : World} {base : Nat} {A : Option Addr} {c : Nat} {l : List ByteArray} (h : w.ownsRow base 9 1 (.slice A l.length c) l.length (ss l)) : RS w A l := Reads.of_own h

/-- 'append(v, s)' onto a slice of the call's own. -/
theorem append1_str (base : Nat) (w : World) (v : Value) (l : List ByteArray) (s : ByteArray) (hown : w.ownsRow base 9 1 v l.length (ss l)) (hb : base ≤ w.heap.size) (hl : l.length ≤ 1000000) (n : Nat) (hn : w.heap.size = n) :
    ∃ v' w', (Builtin.append_ #[22, 22] 22 #[v, .slice (some ⟨n, 0, none⟩) 1 1]).run Tryd.prog (w.alloc (.cells #[.string s] 9)) = .ok v' w' ∧ w'.ownsRow base 9 1 v' (l ++ [s]).length (ss (l ++ [s])) ∧ Below base w w' := by
  subst hn
  obtain ⟨i0, hi, hz0, hz1, hz2⟩ := info_parts info_str
  obtain ⟨v', w', h1, h2, h3, -⟩ := run_append_own (P := Tryd.prog) (w.alloc (.cells #[.string s] 9)) base 22 22 9 i0 _ 1 16 Tryd.underlying22 hi hz0 hz1 hz2 rfl (by omega) v l.length (ss l) (hown.alloc _)
    ⟨w.heap.size, 0, none⟩ 1 1 [.string s] rfl (fun j u hu => by
      have : j = 0 := by
        have := (List.getElem?_eq_some_iff.1 hu).1
        simp at this; omega
      subst this
      simp at hu
      subst hu
      have ha : (⟨w.heap.size, 0, none⟩ : Addr).add 0 = ⟨w.heap.size, 0, none⟩ := by unfold Addr.add; simp
      rw [ha, (Blk.new w _ _).cell]; rfl) (by simp [Value.oneCell']) (by unfold maxLen; omega) (by omega) (by simp; omega)
  refine ⟨v', w', h1, ?_, ?_⟩
  · rw [List.length_append, ss_append]
    exact h2
  · exact ((Below.refl base w).alloc hb _).trans (below_of_grown (hown.alloc _) h3 (by simp; omega))

set_option maxRecDepth 100000 in
set_option maxHeartbeats 1000000 in
theorem specPairs_any (A : Option Addr) (cap : Nat) (l : List ByteArray) (w : World) (hR : RS w A l) (hl : l.length ≤ 1000) :
    Calls Tryd.prog 35 #[.slice A l.length cap] w fun e w' => ∃ A' c, e = .returned (.slice A' (pairsOf l).length c) ∧ RS w' A' (pairsOf l) ∧ Ext w w' ∧ (pairsOf l).length ≤ c ∧ c ≤ maxLen ∧ ∀ ad, A' = some ad → w.heap.size ≤ ad.block := by
  have HR := hide hR
  have hpl := pairsOf_length l
  have HG := hide (pairsOf_get l)
  have HT := hide (fun k => take_snoc1 (pairsOf l) k)
  generalize hK : pairsOf l = K at hpl HG HT ⊢
  have HKL := hide hpl
  clear hK hR hpl
  generalize hB : w.heap.size = B
  have HB := hide hB
  clear hB
  go_enter Tryd.func35, Tryd.ntmps35
  go_wp2
  go_loopw [3, 4] (fun s3 s4 wr => ∃ k i : Nat, k ≤ K.length ∧ i = 2 * k ∧ s4 = .int .i64 i ∧ Hid (wr.ownsRow B 9 1 s3 (K.take k).length (ss (K.take k)) ∧ Below B w wr)) (fun _ s4 _ => l.length + 1 - (intOf s4).toNat)
  case atStart => exact ⟨0, 0, by omega, rfl, rfl, hide ⟨World.ownsRow_nil _ _ _ _, Below.refl _ _⟩⟩
  case round =>
    obtain ⟨k, i, hk, hi, rfl, HI⟩ := hrel
    have HIK := hide hi
    have hib : i ≤ 1002 := by have := HKL.out; omega
    by_cases hlt : i + 1 < l.length
    · have hkK : k < K.length := by have := HKL.out; omega
      obtain ⟨h2, hget⟩ := HG.out k hkK
      have hix : i < l.length := by omega
      obtain ⟨ad, rfl, hab, hcell⟩ := HR.out.addr (by omega)
      have hc0 : wr.cell? (ad.add i) = some (.string l[i]) := by
        rw [HI.out.2.cell (p := ad.add i) (by rw [block_of_add, ← HB.out]; exact hab)]
        exact hcell i hix
      have hs : l[i] = K[k] := by
        rw [hget]; congr 1
      rw [hs] at hc0
      have HT2 := hide (HT.out k hkK)
      have hBw : B ≤ wr.heap.size := by rw [← HB.out]; exact HI.out.2.size
      obtain ⟨v', w', hrun, hown, hbel⟩ := append1_str B wr u3 (K.take k) K[k] HI.out.1 hBw (by rw [List.length_take]; omega) _ rfl
      rw [← HT2.out] at hown
      have R : Hid (w'.ownsRow B 9 1 v' (K.take (k + 1)).length (ss (K.take (k + 1))) ∧ Below B w w') := hide ⟨hown, HI.out.2.trans hbel⟩
      generalize K[k] = s at hc0 hrun
      clear hown hbel HI hcell hs hget HT2 hi h2
      go_wp2_with (at_builtin; refine wpList_append_run rfl _ _ _ _ rfl _ _ _ rfl rfl hrun ?_)
      go_roundw
      case rel => exact ⟨k + 1, i + 2, by omega, by have := HIK.out; omega, by go_num, R⟩
      case measure => simp [intOf]; omega
    · have hkK : k = K.length := by have := HKL.out; have := HIK.out; omega
      have R : Hid (wr.ownsRow B 9 1 u3 K.length (ss K) ∧ Below B w wr) := hide (by
        have := HI.out
        rwa [List.take_of_length_le (by omega)] at this)
      obtain ⟨A', c, hv, hc1, hc2, hc3⟩ := own_slice R.out.1
      subst hv
      clear HI hi hkK
      go_wp2
      go_ret
      exact ⟨A', c, rfl, rs_of_own R.out.1, by rw [← HB.out] at R; exact R.out.2, hc1, hc2, hc3⟩
end Go.Proofs.YtepeokoeempfgaaDoor
