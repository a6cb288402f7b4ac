/-
  keysFromKeyValuePairs; the keys behind STREAMS, the program's and the specification's.
-/
import Derived.Test.YtepeokoeempfgaaGreatDoorPairs
namespace Go.Proofs.YtepeokoeempfgaaGreatDoor
open Go.RowKit
set_option linter.unusedVariables false
set_option linter.unusedSimpArgs false

/-- What a call hands back: texts, in a slice of the call's own or within one that came in. -/
def RetS (w : World) (B : Nat → Prop) (K : List ByteArray) (e : Ending) (w' : World) : Prop := ∃ A' c, e = .returned (.slice A' K.length c) ∧ RS w' A' K ∧ Ext w w' ∧ K.length ≤ c ∧ c ≤ maxLen ∧ ∀ ad, A' = some ad → B ad.block

set_option maxRecDepth 100000 in
theorem run_make_strs (n : Nat) (hn : n ≤ 1000000) (w : World) :
    (Instr.makeSlice 22 (.int .i64 n) (.int .i64 n)).run Tryz.prog w = .ok (.slice (some ⟨w.heap.size, 0, none⟩) n n) (w.alloc (.cells (ss (List.replicate n ⟨#[]⟩)).toArray 9)) := by
  obtain ⟨i0, hi, hz0, hz1, hz2⟩ := info_parts info_str
  have h := run_make_rowN (P := Tryz.prog) 22 9 i0 (.string ⟨#[]⟩) Tryz.underlying22 hi hz0 .i64 .i64 n n (Nat.le_refl _) (by rw [hz2]; omega) (by omega) w
  rw [h]
  congr 2
  congr 1
  apply Array.ext'
  rw [hz1, Nat.mul_one]
  have : (Value.string ⟨#[]⟩).cells = #[.string ⟨#[]⟩] := rfl
  rw [this, toList_madeCells_one]
  simp [ss]
theorem set_row (K : List ByteArray) (k : Nat) (hk : k < K.length) (s : ByteArray) (hs : s = K[k]) :
    ((K.take k ++ List.replicate (K.length - k) (⟨#[]⟩ : ByteArray)).set k s) = K.take (k + 1) ++ List.replicate (K.length - (k + 1)) ⟨#[]⟩ := by
  have h1 : (K.take k).length = k := by simp; omega
  rw [List.set_append_right _ _ (by omega), h1, Nat.sub_self, List.take_succ_eq_append_getElem hk, show K.length - k = (K.length - (k + 1)) + 1 by omega, List.replicate_succ, List.set_cons_zero, hs, List.append_assoc]
  rfl
def RowS (w : World) (b : Nat) (L : List ByteArray) : Prop := Blk w b 9 (ss L).toArray
theorem RowS.set_ {w : World} {b : Nat} {L : List ByteArray} (h : RowS w b L) (k : Nat) (s : ByteArray) : RowS (w.setCell ⟨b, k, none⟩ (.string s)) b (L.set k s) := by
  have := Blk.set_ h k (.string s)
  unfold RowS
  have e : (ss L).toArray.setIfInBounds k (.string s) = (ss (L.set k s)).toArray := by
    apply Array.ext'
    simp [ss, List.map_set]
  rw [← e]; exact this
theorem RowS.rs {w : World} {b : Nat} {L : List ByteArray} (h : RowS w b L) : RS w (some ⟨b, 0, none⟩) L := by
  refine ⟨by simp [ss], fun _ => ⟨_, rfl, Blk.lt h, fun j u hu => ?_⟩⟩
  have ha : (⟨b, 0, none⟩ : Addr).add j = ⟨b, j, none⟩ := by unfold Addr.add; split <;> simp_all
  rw [ha, Blk.cell h]
  simpa using hu

set_option maxRecDepth 100000 in
set_option maxHeartbeats 1000000 in
theorem implPairs_any (A : Option Addr) (cap : Nat) (l : List ByteArray) (w : World) (hR : RS w A l) (hl : l.length ≤ 1000) :
    Calls Tryz.prog 39 #[.slice A l.length cap] w (RetS w (w.heap.size ≤ ·) (pairsOf l)) := by
  have HR := hide hR
  have hpl := pairsOf_length l
  have HG := hide (pairsOf_get l)
  have HS := hide (fun k => set_row (pairsOf l) k)
  generalize hK : pairsOf l = K at hpl HG HS ⊢
  have HKL := hide hpl
  have hmk := run_make_strs K.length (by omega)
  have hkl : K.length ≤ 500 := by omega
  have hdiv2 : (l.length : Int) / 2 = (K.length : Int) := by rw [hpl]; omega
  have HX : Hid (Ext w (w.alloc (.cells (ss (List.replicate K.length ⟨#[]⟩)).toArray 9))) := hide ((Ext.refl w).alloc _)
  have HW : Hid (RowS (w.alloc (.cells (ss (List.replicate K.length ⟨#[]⟩)).toArray 9)) w.heap.size (List.replicate K.length ⟨#[]⟩)) := hide (Blk.new w _ _)
  have hmk2 := hmk w
  generalize w.alloc (.cells (ss (List.replicate K.length ⟨#[]⟩)).toArray 9) = W at hmk2 HX HW
  generalize hb : w.heap.size = b at hmk2 HW
  have HB := hide hb
  clear hK hR hpl hmk hb
  generalize hn : K.length = n at hmk2 hkl hdiv2
  have HNK := hide hn
  clear hn
  go_enter Tryz.func39, Tryz.ntmps39
  go_wp2
  go_loopw [4, 11] (fun s4 s11 wr => ∃ k : Nat, k ≤ n ∧ s11 = .int .i64 k ∧ Hid (RowS wr b (K.take k ++ List.replicate (K.length - k) ⟨#[]⟩) ∧ Ext w wr)) (fun _ s11 _ => n - (intOf s11).toNat)
  case atStart => exact ⟨0, by omega, rfl, hide ⟨by simpa using HW.out, HX.out⟩⟩
  case round =>
    clear HW HX hmk2
    obtain ⟨k, hk, rfl, HI⟩ := hrel
    by_cases hlt : k < n
    · have hkK : k < K.length := by have := HNK.out; omega
      obtain ⟨h2, hget⟩ := HG.out k hkK
      obtain ⟨ad, rfl, hab, hcell⟩ := HR.out.addr (by omega)
      have hc0 : wr.cell? (ad.add (2 * k)) = some (.string l[2 * k]) := by
        rw [HI.out.2.cell (p := ad.add (2 * k)) (by rw [block_of_add]; exact hab)]
        exact hcell _ h2
      rw [← hget] at hc0
      have hL : (K.take k ++ List.replicate (K.length - k) (⟨#[]⟩ : ByteArray)).length = K.length := by simp; omega
      have hc1 : ∃ u, wr.cell? ⟨b, k, none⟩ = some u := by
        rw [Blk.cell HI.out.1]
        exact ⟨_, Array.getElem?_eq_getElem (by simp [ss_length, hL]; exact hkK)⟩
      obtain ⟨u, hc1⟩ := hc1
      have hf1 := Blk.frozen HI.out.1 k
      have R : Hid (RowS (wr.setCell ⟨b, k, none⟩ (.string K[k])) b (K.take (k + 1) ++ List.replicate (K.length - (k + 1)) ⟨#[]⟩) ∧ Ext w (wr.setCell ⟨b, k, none⟩ (.string K[k]))) := hide (by
        refine ⟨?_, HI.out.2.setCell (Nat.le_of_eq HB.out) _⟩
        rw [← HS.out k hkK K[k] rfl]
        exact HI.out.1.set_ k K[k])
      have HJ : Hid (∃ j, j = 2 * k) := hide ⟨_, rfl⟩
      obtain ⟨j, hj⟩ := HJ.out
      have hmul : (k : Int) * 2 = (j : Int) := by omega
      have hjl : j < l.length := by omega
      rw [← hj] at hc0
      generalize K[k] = s at hc0 R
      clear HI hcell hget hL hj h2 HJ
      go_wp2
      go_roundw
      case rel => exact ⟨k + 1, by omega, by go_num, R⟩
      case measure => simp [intOf]; omega
    · have hkK : k = K.length := by have := HNK.out; omega
      have R : Hid (RowS wr b K ∧ Ext w wr) := hide (by
        have := HI.out
        rw [hkK, List.take_length, Nat.sub_self, List.replicate_zero, List.append_nil] at this
        exact this)
      clear HI hkK
      go_wp2
      go_ret
      refine ⟨some ⟨b, 0, none⟩, n, by rw [HNK.out]; rfl, R.out.1.rs, R.out.2, Nat.le_of_eq HNK.out, by unfold maxLen; omega, fun ad had => ?_⟩
      injection had with had
      subst had
      first | exact Nat.le_of_eq HB.out | exact Nat.le_refl _

def isStreams (s : ByteArray) : Bool := (upT s).toList == [83, 84, 82, 69, 65, 77, 83]
def streamsOf : List ByteArray → List ByteArray
  | [] => []
  | a :: r => if isStreams a then r.take ((r.length + 1) / 2) else streamsOf r
theorem streams_at (l : List ByteArray) (k : Nat) (hk : k < l.length) (K : List ByteArray) (h : streamsOf (l.drop k) = K) :
    (isStreams l[k] = true → K = (l.drop (k + 1)).take ((l.length - (k + 1) + 1) / 2)) ∧ (isStreams l[k] = false → streamsOf (l.drop (k + 1)) = K) := by
  rw [List.drop_eq_getElem_cons hk, streamsOf] at h
  refine ⟨fun hs => ?_, fun hs => ?_⟩
  · rw [if_pos hs] at h
    rw [← h, List.length_drop]
  · rw [if_neg (by simp [hs])] at h
    exact h

theorem streams_K (l K : List ByteArray) (k r : Nat) (hl : l.length = k + 1 + r) (h : K = (l.drop (k + 1)).take ((l.length - (k + 1) + 1) / 2)) : K.length = (r + 1) / 2 ∧ K = (l.drop (k + 1)).take ((r + 1) / 2) := by
  have e : l.length - (k + 1) + 1 = r + 1 := by omega
  rw [e] at h
  refine ⟨?_, h⟩
  rw [h, List.length_take, List.length_drop]
  omega

end Go.Proofs.YtepeokoeempfgaaGreatDoor
