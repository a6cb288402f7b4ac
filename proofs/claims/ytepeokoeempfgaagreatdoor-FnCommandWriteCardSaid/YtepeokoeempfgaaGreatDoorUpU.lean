/-
  strings.ToUpper at every text, over Go's tables; the keys of a command, with it.
-/
import Derived.Test.YtepeokoeempfgaaGreatDoorKeysOf
import Derived.Test.YtepeokoeempfgaaGreatDoorShelf
namespace Go.Proofs.YtepeokoeempfgaaGreatDoor
open Go.RowKit
set_option linter.unusedVariables false
set_option linter.unusedSimpArgs false

def TabsU (w : World) : Prop := Lib.CaseVar 0 Lib.caseA w ∧ Lib.Utf8Tabs 2 3 w
theorem TabsU.ext {w w' : World} (h : TabsU w) (hx : Ext w w') : TabsU w' := by
  obtain ⟨⟨R, oR, cap, h1, h2⟩, h3, h4⟩ := h
  refine ⟨⟨R, oR, cap, hx.cellOf h1, fun i hi => ?_⟩, fun c hc => hx.cellOf (h3 c hc), fun i hi => ⟨hx.cellOf (h4 i hi).1, hx.cellOf (h4 i hi).2⟩⟩
  obtain ⟨c0, c1, c2, c3, c4⟩ := h2 i hi
  exact ⟨hx.cellOf c0, hx.cellOf c1, hx.cellOf c2, hx.cellOf c3, hx.cellOf c4⟩
def upU (s : ByteArray) : ByteArray := ⟨(Lib.toUpperD s.data.toList).toArray⟩
theorem toUpperU_any (s : ByteArray) (w : World) (hs : s.size ≤ 1000000) (hT : TabsU w) :
    Calls Tryz.prog 37 #[.string s] w fun e w' => e = .returned (.string (upU s)) ∧ Ext w w' := Tryz.strings_ToUpper_any s w (by omega) hT.1 hT.2

def isStreamsU (s : ByteArray) : Bool := (upU s).toList == [83, 84, 82, 69, 65, 77, 83]
def streamsOfU : List ByteArray → List ByteArray
  | [] => []
  | a :: r => if isStreamsU a then r.take ((r.length + 1) / 2) else streamsOfU r
theorem streams_atU (l : List ByteArray) (k : Nat) (hk : k < l.length) (K : List ByteArray) (h : streamsOfU (l.drop k) = K) :
    (isStreamsU l[k] = true → K = (l.drop (k + 1)).take ((l.length - (k + 1) + 1) / 2)) ∧ (isStreamsU l[k] = false → streamsOfU (l.drop (k + 1)) = K) := by
  rw [List.drop_eq_getElem_cons hk, streamsOfU] at h
  refine ⟨fun hs => ?_, fun hs => ?_⟩
  · rw [if_pos hs] at h
    rw [← h, List.length_drop]
  · rw [if_neg (by simp [hs])] at h
    exact h

def isUsageU (s : ByteArray) : Bool := (upU s).toList == [85, 83, 65, 71, 69]
/-- The keys of a command, its name in capitals. -/
def keysOfU (u : List UInt8) (bare : Bool) (l : List ByteArray) : List ByteArray :=
  if l.length = 0 then [] else if bare then [] else
  match kindOf u with
  | 1 => if 1 < l.length then l.drop 1 else l.take 1
  | 2 => if 1 < l.length then (if isUsageU (l.getD 0 ⟨#[]⟩) then (l.drop 1).take 1 else l.take 1) else l.take 1
  | 3 => pairsOf l
  | 4 => (l.drop 1).take 1
  | 5 => if 1 < l.length then (l.drop 1).take 1 else l.take 1
  | 6 => streamsOfU l
  | 7 => streamsOfU l
  | _ => l.take 1
theorem keys_nilU {u : List UInt8} {b : Bool} {l : List ByteArray} (h : l.length = 0) : keysOfU u b l = [] := by unfold keysOfU; rw [if_pos h]
theorem keys_bareU {u : List UInt8} {l : List ByteArray} : keysOfU u true l = [] := by
  unfold keysOfU
  split <;> rfl
theorem keys_kindU {u : List UInt8} {l : List ByteArray} (h : ¬ l.length = 0) : keysOfU u false l = (match kindOf u with
  | 1 => if 1 < l.length then l.drop 1 else l.take 1
  | 2 => if 1 < l.length then (if isUsageU (l.getD 0 ⟨#[]⟩) then (l.drop 1).take 1 else l.take 1) else l.take 1
  | 3 => pairsOf l
  | 4 => (l.drop 1).take 1
  | 5 => if 1 < l.length then (l.drop 1).take 1 else l.take 1
  | 6 => streamsOfU l
  | 7 => streamsOfU l
  | _ => l.take 1) := by
  unfold keysOfU
  rw [if_neg h]
  rfl
end Go.Proofs.YtepeokoeempfgaaGreatDoor
