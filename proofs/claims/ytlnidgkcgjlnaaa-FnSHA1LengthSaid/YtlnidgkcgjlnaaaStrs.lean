/-
  Slices of strings: what they read as; one that came in; a copy by append.
-/
import Derived.Test.YtlnidgkcgjlnaaaChg
import Derived.ProofKit
import Derived.OpenShut
import Derived.Carry
import Derived.SliceStrings
import Derived.Deep.AppendSrc
namespace Go.Proofs.Ytlnidgkcgjlnaaa
open Go.RowKit Go.ChangeShapes Go.WideShapes
set_option linter.unusedVariables false
set_option linter.unusedSimpArgs false

def ss (l : List ByteArray) : List Value := l.map .string
theorem ss_length (l : List ByteArray) : (ss l).length = l.length := by simp [ss]
theorem ss_getElem? (l : List ByteArray) (i : Nat) : (ss l)[i]? = l[i]?.map Value.string := by simp [ss]
theorem ss_drop (l : List ByteArray) (k : Nat) : ss (l.drop k) = (ss l).drop k := by simp [ss]
theorem ss_take (l : List ByteArray) (k : Nat) : ss (l.take k) = (ss l).take k := by simp [ss]
theorem ss_append (l m : List ByteArray) : ss (l ++ m) = ss l ++ ss m := by simp [ss]
theorem ss_one (l : List ByteArray) : ∀ u ∈ ss l, u.oneCell' = true := by
  intro u hu
  simp only [ss, List.mem_map] at hu
  obtain ⟨b, _, rfl⟩ := hu
  rfl

/-- A slice value that reads as strings. -/
def RS (w : World) (A : Option Addr) (l : List ByteArray) : Prop := Reads w w.heap.size 1 A l.length (ss l)
theorem RS.nil (w : World) (A : Option Addr) : RS w A [] := ⟨by simp [ss], fun h => absurd h (by simp)⟩
theorem RS.ext {w w' : World} {A : Option Addr} {l : List ByteArray} (h : RS w A l) (hx : Ext w w') : RS w' A l := (Reads.below h hx).more hx.sizes
theorem RS.chg {w w' : World} {A : Option Addr} {l : List ByteArray} {S : List Nat} (h : RS w A l) (hc : Chg S w w') (hS : ∀ ad, A = some ad → ad.block ∉ S) : RS w' A l :=
  ⟨h.1, fun hn => by
    obtain ⟨ad, e, hb, hcell⟩ := h.2 hn
    exact ⟨ad, e, Nat.lt_of_lt_of_le hb hc.size, fun j u hu => (World.cell?_of_block (a := ad.add j) (by rw [block_of_add]; exact hc.block _ hb (hS ad e))).trans (hcell j u hu)⟩⟩
theorem RS.addr {w : World} {A : Option Addr} {l : List ByteArray} (h : RS w A l) (hl : 0 < l.length) : ∃ ad, A = some ad ∧ ad.block < w.heap.size ∧ ∀ k (hk : k < l.length), w.cell? (ad.add k) = some (.string l[k]) := by
  obtain ⟨ad, e, hb, hc⟩ := h.2 hl
  refine ⟨ad, e, hb, fun k hk => hc k _ ?_⟩
  rw [ss_getElem?, List.getElem?_eq_getElem hk]; rfl
theorem RS.cut {w : World} {A : Option Addr} {l : List ByteArray} {k cap : Nat} (h : RS w A l) (hk : k ≤ l.length) (hc : l.length ≤ cap) : RS w (if cap = k then A else A.map (·.add k)) (l.drop k) := by
  have := Reads.cut h (k := k) (cap := cap) hk hc
  unfold RS
  rw [ss_drop]
  simpa using this
theorem RS.take {w : World} {A : Option Addr} {l : List ByteArray} (h : RS w A l) (k : Nat) : RS w A (l.take k) := by
  refine ⟨by simp [ss], fun hn => ?_⟩
  have hl : 0 < l.length := by simp at hn; omega
  obtain ⟨ad, e, hb, hc⟩ := h.2 hl
  refine ⟨ad, e, hb, fun j u hu => hc j u ?_⟩
  rw [ss_take, List.getElem?_take] at hu
  split at hu
  · exact hu
  · cases hu

set_option maxRecDepth 100000 in
theorem strsOf {H : Type} {enc : TypeId × Value → H} {W : World} {v : Value} {d : DataW H} {ps : List MemPlace} {base : Nat} (h : DataW.Trod enc Try.prog W 0 (fun _ => true) true 47 v d ps) (hok : Value.okWide Try.prog W .any base 47 v) :
    ∃ A cap l, v = .slice A l.length cap ∧ RS W A l ∧ l.length ≤ cap ∧ cap ≤ maxLen ∧ ∀ s ∈ l, s.size ≤ maxLen := by
  obtain ⟨a, len, cap, rfl⟩ := okWide_slice Try.underlying47 hok
  obtain ⟨fuel, hf⟩ := h
  rcases open_strings Try.underlying47 Try.underlying9 (by kernel_rfl) hf with ⟨hcs, hx⟩ | ⟨ad, len', cap', zs, hcs, _, hl, hm, hz, hx, hcell, hwz⟩
  · have e : Value.slice a len cap = .slice none 0 0 := by simpa [Value.cells] using hcs
    injection e with e1 e2 e3
    subst e1 e2 e3
    exact ⟨none, 0, [], rfl, RS.nil _ _, Nat.le_refl _, Nat.zero_le _, by simp⟩
  · have e : Value.slice a len cap = .slice (some ad) len' cap' := by simpa [Value.cells] using hcs
    injection e with e1 e2 e3
    subst e1 e2 e3
    have hzl : len ≤ zs.length := by rw [hz]; split <;> omega
    have hlen : (zs.take len).length = len := by rw [List.length_take]; omega
    refine ⟨some ad, cap, zs.take len, by rw [hlen], ⟨by simp [ss], fun hn => ⟨ad, rfl, ?_, fun j u hu => ?_⟩⟩, by rw [hlen]; exact hl, hm, fun x hx => hwz x (List.mem_of_mem_take hx)⟩
    · have h0 := hcell 0 (by rw [hlen] at hn; omega)
      rcases Nat.lt_or_ge ad.block W.heap.size with h1 | h1
      · exact h1
      · have : (ad.add 0).block = ad.block := block_of_add _ _
        simp [World.cell?, this, Array.getElem?_eq_none h1] at h0
    · have hj : j < len := by
        have := (List.getElem?_eq_some_iff.1 hu).1
        simp [ss] at this
        omega
      rw [hcell j (by omega)]
      simp [ss, List.getElem?_take, hj] at hu
      obtain ⟨z, hz1, hz2⟩ := hu
      rw [List.getD_eq_getElem?_getD, hz1]
      exact congrArg some hz2

theorem info_str : (Try.prog.info? 9).map (fun i => (i.zero, i.size, i.bytes)) = some (some (.string ⟨#[]⟩), 1, 16) := by kernel_rfl
/-- 'append([]string{}, l...)': a copy. -/
theorem run_copy_strs (w : World) (b : Nat) (A : Option Addr) (cap : Nat) (l : List ByteArray) (hR : RS w A l) (hb : b < w.heap.size) (hl : l.length ≤ 1000000) :
    ∃ A' cap' w', (Builtin.append_ #[47, 47] 47 #[.slice (some ⟨b, 0, none⟩) 0 0, .slice A l.length cap]).run Try.prog w = .ok (.slice (some A') l.length cap') w' ∧ RS w' (some A') l ∧ Ext w w' ∧ l.length ≤ cap' ∧ cap' ≤ maxLen ∧ (A'.block = b ∨ w.heap.size ≤ A'.block) ∧ A'.block < w'.heap.size := by
  obtain ⟨i0, hi, hz0, hz1, hz2⟩ := info_parts info_str
  by_cases h0 : l.length = 0
  · have : l = [] := List.eq_nil_of_length_eq_zero h0
    subst this
    have hs : Src Try.prog i0.size 47 (.slice A 0 cap) 0 [] w := by
      rcases A with _ | ad
      · exact Src.ofNil w Try.underlying47 cap
      · exact Src.ofSlice w Try.underlying47 ad 0 cap [] (by simp) (by simp) (by simp)
    have h := run_append_room_src w 47 47 47 9 i0 Try.underlying47 hi b 0 0 0 _ 0 [] hs (by omega) (by simp) (by simp)
    refine ⟨_, _, _, h, RS.nil _ _, ?_, Nat.le_refl _, Nat.zero_le _, .inl rfl, ?_⟩
    · simp [World.setCells]
      exact Ext.refl w
    · simpa [World.setCells] using hb
  · obtain ⟨ad, rfl, hab, hac⟩ := hR.addr (by omega)
    have hs : Src Try.prog i0.size 47 (.slice (some ad) l.length cap) l.length (ss l) w := Src.ofSlice w Try.underlying47 ad l.length cap (ss l) (by rw [hz1, ss_length]; omega) (fun j u hu => by
      have hj : j < l.length := by
        have := (List.getElem?_eq_some_iff.1 hu).1
        rwa [ss_length] at this
      rw [ss_getElem?, List.getElem?_eq_getElem hj] at hu
      simp at hu
      rw [hac j hj, hu]) (ss_one l)
    have hg := grownCap_ge w (0 + l.length) 0 9
    have h := run_append_grow_src w 47 47 47 9 i0 _ Try.underlying47 hi hz0 (some ⟨b, 0, none⟩) 0 0 [] (by
      rw [hz1]
      exact run_firstCells_some w.drew 1 0 ⟨b, 0, none⟩ 0 0 [] (by simp) (by simp)) _ l.length (ss l) hs (by omega) (by omega) (by
      rw [hz2]
      have : Builtin.nextslicecap (0 + l.length) 0 = l.length := by
        unfold Builtin.nextslicecap
        rw [if_pos (by omega)]
        omega
      rw [this]
      omega)
    rw [Nat.zero_add] at h hg
    refine ⟨_, _, _, h, ⟨by simp [ss], fun _ => ⟨_, rfl, by simp, fun j u hu => ?_⟩⟩, ((Ext.refl w).drew).alloc _, hg, ?_, .inr (Nat.le_refl _), by simp⟩
    · have hj : j < l.length := by
        have := (List.getElem?_eq_some_iff.1 hu).1
        rwa [ss_length] at this
      have ha : (⟨w.heap.size, 0, none⟩ : Addr).add j = ⟨w.heap.size, j, none⟩ := by unfold Addr.add; split <;> simp_all
      rw [ha, (Blk.new_at _ _ _ (by simp)).cell]
      simp only [List.nil_append]
      rw [Array.getElem?_append_left (by simp [ss]; omega)]
      simpa using hu
    · exact grownCap_le_maxLen w l.length 0 9 (by unfold maxLen; omega)
end Go.Proofs.Ytlnidgkcgjlnaaa
