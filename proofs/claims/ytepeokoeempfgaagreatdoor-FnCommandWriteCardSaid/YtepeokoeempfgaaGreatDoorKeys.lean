/-
  The commands without a key, and those that block: the program's maps, and the specification's words in a text.
-/
import Derived.Test.YtepeokoeempfgaaGreatDoorUpper
import Derived.MapKept
namespace Go.Proofs.YtepeokoeempfgaaGreatDoor
open Go.RowKit
set_option linter.unusedVariables false
set_option linter.unusedSimpArgs false

/-! ### Maps whose values are all true -/

def ents : List (List UInt8) → Nat → List MapEntry
  | [], _ => []
  | k :: ks, i => { key := .string ⟨k.toArray⟩, val := .bool true, born := i } :: ents ks (i + 1)
theorem ents_snoc (ks : List (List UInt8)) (k : List UInt8) (i : Nat) : ents (ks ++ [k]) i = ents ks i ++ [{ key := .string ⟨k.toArray⟩, val := .bool true, born := i + ks.length }] := by
  induction ks generalizing i with
  | nil => simp [ents]
  | cons a ks ih => simp [ents, ih]; omega
theorem ents_mem {ks : List (List UInt8)} {i : Nat} {x : MapEntry} (h : x ∈ ents ks i) : ∃ k ∈ ks, x.key = .string ⟨k.toArray⟩ ∧ x.val = .bool true := by
  induction ks generalizing i with
  | nil => simp [ents] at h
  | cons a ks ih =>
    simp only [ents, List.mem_cons] at h
    rcases h with rfl | h
    · exact ⟨a, by simp, rfl, rfl⟩
    · obtain ⟨k, hk, h1⟩ := ih h
      exact ⟨k, by simp [hk], h1⟩
theorem ents_of {ks : List (List UInt8)} {k : List UInt8} (h : k ∈ ks) (i : Nat) : ∃ x ∈ ents ks i, x.key = .string ⟨k.toArray⟩ := by
  induction ks generalizing i with
  | nil => simp at h
  | cons a ks ih =>
    simp only [List.mem_cons] at h
    rcases h with rfl | h
    · exact ⟨_, List.mem_cons_self, rfl⟩
    · obtain ⟨x, hx, h1⟩ := ih h (i + 1)
      exact ⟨x, by simp [ents, hx], h1⟩
/-- Block m is a map of these keys, all true. -/
def MapAt (w : World) (m : Nat) (ks : List (List UInt8)) : Prop := w.heap[m]? = some (.map (ents ks 0).toArray ks.length)
theorem MapAt.lt {w : World} {m : Nat} {ks : List (List UInt8)} (h : MapAt w m ks) : m < w.heap.size := by
  rcases Nat.lt_or_ge m w.heap.size with hlt | hge
  · exact hlt
  · unfold MapAt at h; rw [Array.getElem?_eq_none hge] at h; cases h
theorem MapAt.ext {w w' : World} {m : Nat} {ks : List (List UInt8)} (h : MapAt w m ks) (hx : Ext w w') : MapAt w' m ks := (hx.block m h.lt).trans h
theorem findIn (ks : List (List UInt8)) (s : List UInt8) : (ks.contains s = false → Instr.findNow .string (.string ⟨s.toArray⟩) (ents ks 0) 0 = some none) ∧
    (ks.contains s = true → ∃ n, Instr.findNow .string (.string ⟨s.toArray⟩) (ents ks 0) 0 = some (some (n, .bool true))) := by
  have hk : MapKept.IsKey .string (.string ⟨s.toArray⟩) := trivial
  have hl : ∀ x ∈ ents ks 0, MapKept.IsKey .string x.key := fun x hx => by
    obtain ⟨k, _, h1, _⟩ := ents_mem hx
    rw [h1]; trivial
  rcases MapKept.findNow_spec hk (ents ks 0) 0 hl with ⟨h1, h2⟩ | ⟨j, e, h1, h2, h3⟩
  · refine ⟨fun _ => h1, fun hc => ?_⟩
    obtain ⟨x, hx, h3⟩ := ents_of (List.contains_iff_mem.1 hc) 0
    exact absurd h3 (h2 x hx)
  · refine ⟨fun hc => ?_, fun _ => ?_⟩
    · obtain ⟨k, hk2, h4, _⟩ := ents_mem (List.mem_of_getElem? h2)
      rw [h3] at h4
      injection h4 with h4
      injection h4 with h4
      have h5 : s = k := by
        have := congrArg Array.toList h4
        simpa using this
      subst h5
      rw [List.contains_iff_mem.2 hk2] at hc
      cases hc
    · obtain ⟨k, hk2, h4, h5⟩ := ents_mem (List.mem_of_getElem? h2)
      exact ⟨_, by rw [h1, h5]⟩
section
variable {P : Program}
theorem run_lookup_set {T K E : TypeId} (hT : P.underlying T = some (.map K E)) (hK : P.underlying K = some .string) (hz : ∀ w, (zeroValue E).run P w = .ok (.bool false) w) (w : World) (m : Nat) (ks : List (List UInt8)) (hM : MapAt w m ks) (s : ByteArray) :
    (Instr.lookup T (.map (some m)) (.string s) false).run P w = .ok (.bool (ks.contains s.data.toList)) w := by
  have hs : s = ⟨s.data.toList.toArray⟩ := by cases s; simp
  have h := findIn ks s.data.toList
  rw [← hs] at h
  cases hc : ks.contains s.data.toList with
  | false =>
    simp [Instr.lookup, run_underlying hT, MapKept.run_getObj_map hM, MapKept.run_checkKey hK (show MapKept.IsKey .string (.string s) from trivial), MapKept.run_findKey hK (h.1 hc), hz, Result.andThen]
  | true =>
    obtain ⟨n, h2⟩ := h.2 hc
    simp [Instr.lookup, run_underlying hT, MapKept.run_getObj_map hM, MapKept.run_checkKey hK (show MapKept.IsKey .string (.string s) from trivial), MapKept.run_findKey hK h2, Result.andThen]
theorem run_insert {T K E : TypeId} (hT : P.underlying T = some (.map K E)) (hK : P.underlying K = some .string) (w : World) (m : Nat) (ks : List (List UInt8)) (hM : MapAt w m ks) (k : List UInt8) (hn : ks.contains k = false) :
    ∃ w', (Instr.mapUpdate T (.map (some m)) (.string ⟨k.toArray⟩) (.bool true)).run P w = .ok () w' ∧ MapAt w' m (ks ++ [k]) ∧ Below m w w' := by
  refine ⟨_, by simp [Instr.mapUpdate, run_underlying hT, MapKept.run_getObj_map hM, MapKept.run_checkKey hK (show MapKept.IsKey .string (.string ⟨k.toArray⟩) from trivial), MapKept.run_findKey hK ((findIn ks k).1 hn), MapKept.run_setObj_map _ hM, Result.andThen]; rfl, ?_, ?_⟩
  · unfold MapAt
    rw [(MapKept.heap_set hM).1, ents_snoc]
    simp
  · exact ⟨rfl, rfl, rfl, by simp, fun i hi => by
      have : ¬ m = i := by omega
      simp [Array.getElem?_setIfInBounds, this]⟩
theorem wpList_insert {ops : Array Oper} {rest : List Oper} {o : Oper} {a : Act} {Q : Exit → Act → World → Prop} {w : World} {T K E : TypeId} (hT : P.underlying T = some (.map K E)) (hK : P.underlying K = some .string) (hgd : o.guard = none) (mo ko : Operand)
    (ho : o.op = .insert T mo ko (.const (.bool true))) (m : Nat) (hm : a.eval mo = .map (some m)) (k : List UInt8) (hk : a.eval ko = .string ⟨k.toArray⟩) (ks : List (List UInt8)) (hM : MapAt w m ks) (hn : ks.contains k = false)
    (h : ∀ w', MapAt w' m (ks ++ [k]) → Below m w w' → wpList P ops Q rest (a.put o.dst undef) w') : wpList P ops Q (o :: rest) a w := by
  obtain ⟨w', h1, h2, h3⟩ := run_insert hT hK w m ks hM k hn
  have h4 := h w' h2 h3
  refine wpList_plain hgd fun Kc hKc => ?_
  have hr : (execOp a.eval o).run P w = .ok .skip w' := by
    simp only [execOp, ho, Sem.run_bind, hm, hk]
    have : (a.eval (.const (.bool true))) = .bool true := rfl
    rw [this, h1]
    rfl
  unfold Oper.wp
  rw [hr]
  exact hKc _ _ h4
end

/-! ### Words in a text -/

/-- Does p begin anywhere? -/
def hasAt (p : List UInt8) : List UInt8 → Bool
  | [] => p.isPrefixOf []
  | c :: r => p.isPrefixOf (c :: r) || hasAt p r
def encK : List (List UInt8) → List UInt8
  | [] => [32]
  | k :: ks => 32 :: (k ++ encK ks)
theorem encK_head (ks : List (List UInt8)) : ∃ r, encK ks = 32 :: r := by cases ks <;> exact ⟨_, rfl⟩
theorem pre_word (n k r : List UInt8) (hn : (32 : UInt8) ∉ n) (hk : (32 : UInt8) ∉ k) : (n ++ [32]).isPrefixOf (k ++ 32 :: r) = decide (n = k) := by
  induction n generalizing k with
  | nil =>
    cases k with
    | nil => simp
    | cons a k =>
      have : ¬ (32 : UInt8) = a := fun h => hk (by rw [h]; simp)
      show [32].isPrefixOf (a :: (k ++ 32 :: r)) = _
      rw [List.isPrefixOf_cons_cons]
      simp [this]
  | cons b n ih =>
    cases k with
    | nil =>
      have : ¬ b = (32 : UInt8) := fun h => hn (by rw [h]; simp)
      show (b :: (n ++ [32])).isPrefixOf (32 :: r) = _
      rw [List.isPrefixOf_cons_cons]
      simp [this]
    | cons a k =>
      have h1 := ih k (fun h => hn (by simp [h])) (fun h => hk (by simp [h]))
      simp only [List.cons_append, List.isPrefixOf_cons_cons, h1]
      by_cases hab : b = a
      · subst hab; simp
      · simp [hab]
theorem hasAt_inside (n k r : List UInt8) (hk : (32 : UInt8) ∉ k) : hasAt (32 :: (n ++ [32])) (k ++ 32 :: r) = hasAt (32 :: (n ++ [32])) (32 :: r) := by
  induction k with
  | nil => rfl
  | cons a k ih =>
    have : ¬ (32 : UInt8) = a := fun h => hk (by rw [h]; simp)
    rw [List.cons_append, hasAt, ih (fun h => hk (by simp [h]))]
    simp [this]
theorem hasAt_enc (n : List UInt8) (hn : (32 : UInt8) ∉ n) (ks : List (List UInt8)) (hks : ∀ k ∈ ks, (32 : UInt8) ∉ k) : hasAt (32 :: (n ++ [32])) (encK ks) = ks.contains n := by
  induction ks with
  | nil => simp [encK, hasAt]
  | cons k ks ih =>
    obtain ⟨r, hr⟩ := encK_head ks
    have hk := hks k (by simp)
    have h1 := ih (fun k hk => hks k (by simp [hk]))
    rw [encK, hasAt, List.isPrefixOf_cons_cons, hr, pre_word n k r hn hk, hasAt_inside n k r hk, ← hr, h1, List.contains_cons]
    simp only [beq_self_eq_true, Bool.true_and]
    congr 1
    by_cases h : n = k <;> simp [h]

def bareK : List (List UInt8) := [[83, 69, 78, 84, 73, 78, 69, 76],
  [67, 76, 85, 83, 84, 69, 82],
  [82, 69, 65, 68, 79, 78, 76, 89],
  [82, 69, 65, 68, 87, 82, 73, 84, 69],
  [65, 83, 75, 73, 78, 71],
  [65, 85, 84, 72],
  [69, 67, 72, 79],
  [80, 73, 78, 71],
  [81, 85, 73, 84],
  [83, 69, 76, 69, 67, 84],
  [83, 87, 65, 80, 68, 66],
  [75, 69, 89, 83],
  [77, 73, 71, 82, 65, 84, 69],
  [79, 66, 74, 69, 67, 84],
  [82, 65, 78, 68, 79, 77, 75, 69, 89],
  [87, 65, 73, 84],
  [83, 67, 65, 78],
  [69, 86, 65, 76],
  [69, 86, 65, 76, 83, 72, 65],
  [83, 67, 82, 73, 80, 84],
  [66, 71, 82, 69, 87, 82, 73, 84, 69, 65, 79, 70],
  [66, 71, 83, 65, 86, 69],
  [67, 76, 73, 69, 78, 84],
  [67, 79, 77, 77, 65, 78, 68],
  [67, 79, 78, 70, 73, 71],
  [68, 66, 83, 73, 90, 69],
  [68, 69, 66, 85, 71],
  [70, 76, 85, 83, 72, 65, 76, 76],
  [70, 76, 85, 83, 72, 68, 66],
  [73, 78, 70, 79],
  [76, 65, 83, 84, 83, 65, 86, 69],
  [77, 79, 78, 73, 84, 79, 82],
  [82, 79, 76, 69],
  [83, 65, 86, 69],
  [83, 72, 85, 84, 68, 79, 87, 78],
  [83, 76, 65, 86, 69, 79, 70],
  [83, 76, 79, 87, 76, 79, 71],
  [83, 89, 78, 67],
  [84, 73, 77, 69],
  [68, 73, 83, 67, 65, 82, 68],
  [69, 88, 69, 67],
  [77, 85, 76, 84, 73],
  [85, 78, 87, 65, 84, 67, 72],
  [87, 65, 84, 67, 72]]
def blockK : List (List UInt8) := [[87, 65, 73, 84],
  [66, 76, 80, 79, 80],
  [66, 82, 80, 79, 80],
  [66, 82, 80, 79, 80, 76, 80, 85, 83, 72],
  [66, 90, 80, 79, 80, 77, 73, 78],
  [66, 90, 80, 79, 80, 77, 65, 88],
  [88, 82, 69, 65, 68],
  [88, 82, 69, 65, 68, 71, 82, 79, 85, 80],
  [83, 65, 86, 69]]
def bareT : ByteArray := ⟨(encK bareK).toArray⟩
def blockT : ByteArray := ⟨(encK blockK).toArray⟩
end Go.Proofs.YtepeokoeempfgaaGreatDoor
