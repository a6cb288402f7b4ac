/-
  spec.Upper, spec.ASCII, strings.ToUpper: capitals.
-/
import Derived.Test.YtepeokoeempfgaaDoorStrs
import Derived.Test.YtepeokoeempfgaaDoorShelf
import Derived.Lib.Case
namespace Go.Proofs.YtepeokoeempfgaaDoor
open Go.RowKit
set_option linter.unusedVariables false
set_option linter.unusedSimpArgs false

theorem Row.unfrozen {w : World} {g : Nat} {t : TypeId} {cs : Array Value} (h : Row w g t cs) {i : Nat} (hi : i < cs.size) : w.frozen? ⟨g, i, none⟩ = false := by
  obtain ⟨⟨lo, hi'⟩, hf, h⟩ := h
  simp only [World.frozen?, h, Bool.and_eq_false_iff, decide_eq_false_iff_not]
  rcases hf with hf | hf
  · injection hf with e1 e2
    right; omega
  · left; simp only at hf; omega
/-- A row of bytes. -/
def RowB (w : World) (b : Nat) (L : List UInt8) : Prop := Row w b 5 (bs L).toArray
theorem bs_size (L : List UInt8) : (bs L).toArray.size = L.length := by simp [bs]
theorem RowB.rbytes {w : World} {b : Nat} {L : List UInt8} (h : RowB w b L) (n : Nat) : RBytes w (some ⟨b, 0, none⟩) (L.take n) :=
  (rbytes_of_row h (fun j hj => by simp [bs, hj])).take n
theorem RowB.cell {w : World} {b : Nat} {L : List UInt8} (h : RowB w b L) {k : Nat} (hk : k < L.length) : w.cell? ⟨b, k, none⟩ = some (.int .u8 (L[k].toNat)) := by
  rw [Row.cell h]
  simp [bs, hk]
theorem RowB.unfrozen {w : World} {b : Nat} {L : List UInt8} (h : RowB w b L) {k : Nat} (hk : k < L.length) : w.frozen? ⟨b, k, none⟩ = false := Row.unfrozen h (by rw [bs_size]; exact hk)
theorem RowB.set_ {w : World} {b : Nat} {L : List UInt8} (h : RowB w b L) (k : Nat) (c : UInt8) : RowB (w.setCell ⟨b, k, none⟩ (.int .u8 c.toNat)) b (L.set k c) := by
  obtain ⟨fz, hf, h⟩ := h
  refine ⟨fz, ?_, ?_⟩
  · rw [bs_size] at hf ⊢
    rwa [List.length_set]
  · simp only [World.setCell]
    rw [Array.getElem?_modify]
    simp only [if_pos, h, Option.map_some]
    congr 2
    apply Array.ext'
    simp [bs, List.map_set]
/-- '[]byte(s)': its row. -/
theorem rowB_bytesWorld (w : World) (s : ByteArray) : ∃ L, RowB (Lib.bytesWorld w 5 s) w.heap.size L ∧ L.take s.size = s.data.toList ∧ s.size ≤ L.length := by
  refine ⟨s.data.toList ++ List.replicate (grownCap w s.size 0 5 - s.size) 0, ⟨((Lib.bytesCells w 5 s).size, (Lib.bytesCells w 5 s).size + 1), ?_, ?_⟩, ?_, ?_⟩
  · right
    have e : (bs (s.data.toList ++ List.replicate (grownCap w s.size 0 5 - s.size) 0)).toArray.size = (Lib.bytesCells w 5 s).size := by simp [bs, Lib.bytesCells]
    rw [e]; exact Nat.le_refl _
  · rw [Lib.bytesWorld_at_new]
    congr 2
    apply Array.ext'
    simp [bs, Lib.bytesCells]
  · rw [List.take_append_of_le_length (by rw [size_data]; exact Nat.le_refl _), List.take_of_length_le (by rw [size_data]; exact Nat.le_refl _)]
  · simp only [List.length_append, List.length_replicate, size_data]
    omega

/-- A text in capitals. -/
def upT (s : ByteArray) : ByteArray := ⟨(Lib.toUpperA s.data.toList).toArray⟩
theorem upT_size (s : ByteArray) : (upT s).size = s.size := by
  show (Lib.toUpperA s.data.toList).toArray.size = _
  simp [Lib.toUpperA]
theorem low_iff (c : UInt8) : Lib.isLowerB c = decide (97 ≤ (c.toNat : Int) ∧ (c.toNat : Int) ≤ 122) := by
  unfold Lib.isLowerB
  rw [Bool.eq_iff_iff]
  simp [UInt8.le_iff_toNat_le]
  omega
theorem up_step (L0 l : List UInt8) (k : Nat) (hk : k < l.length) (hL : l.length ≤ L0.length) (hp : L0.take l.length = l) :
    (((l.map Lib.upperB).take k ++ L0.drop k).set k (Lib.upperB l[k])) = (l.map Lib.upperB).take (k + 1) ++ L0.drop (k + 1) := by
  have h1 : ((l.map Lib.upperB).take k).length = k := by simp; omega
  have h2 : L0.drop k = l[k] :: L0.drop (k + 1) := by
    rw [List.drop_eq_getElem_cons (by omega)]
    congr 1
    have : (L0.take l.length)[k]'(by simp; omega) = l[k] := by simp [hp]
    rw [← this]; simp
  rw [h2, List.set_append_right _ _ (by omega), h1, Nat.sub_self, List.set_cons_zero, List.take_succ_eq_append_getElem (by simpa using hk), List.append_assoc]
  simp
theorem up_same (L0 l : List UInt8) (k : Nat) (hk : k < l.length) (hL : l.length ≤ L0.length) (hp : L0.take l.length = l) (h : Lib.isLowerB l[k] = false) :
    (l.map Lib.upperB).take k ++ L0.drop k = (l.map Lib.upperB).take (k + 1) ++ L0.drop (k + 1) := by
  rw [← up_step L0 l k hk hL hp, Lib.upperB_of_not _ h]
  have h2 : L0.drop k = l[k] :: L0.drop (k + 1) := by
    rw [List.drop_eq_getElem_cons (by omega)]
    congr 1
    have : (L0.take l.length)[k]'(by simp; omega) = l[k] := by simp [hp]
    rw [← this]; simp
  have h1 : ((l.map Lib.upperB).take k).length = k := by simp; omega
  rw [h2, List.set_append_right _ _ (by omega), h1, Nat.sub_self, List.set_cons_zero]
theorem up_get (L0 l : List UInt8) (k : Nat) (hk : k < l.length) (hL : l.length ≤ L0.length) (hp : L0.take l.length = l) :
    ∃ h : k < ((l.map Lib.upperB).take k ++ L0.drop k).length, ((l.map Lib.upperB).take k ++ L0.drop k)[k] = l[k] := by
  have h2 : L0.drop k = l[k] :: L0.drop (k + 1) := by
    rw [List.drop_eq_getElem_cons (by omega)]
    congr 1
    have : (L0.take l.length)[k]'(by simp; omega) = l[k] := by simp [hp]
    rw [← this]; simp
  have h1 : ((l.map Lib.upperB).take k).length = k := by simp; omega
  refine ⟨by rw [List.length_append, h1, h2]; simp, ?_⟩
  rw [List.getElem_append_right (by omega)]
  simp [h1, h2]

set_option maxRecDepth 100000 in
set_option maxHeartbeats 1000000 in
theorem upper_any (s : ByteArray) (w : World) (hs : s.size ≤ 1000000) :
    Calls Tryd.prog 21 #[.string s] w fun e w' => e = .returned (.string (upT s)) ∧ Ext w w' := by
  have hcv := Lib.run_convert_string_bytes (P := Tryd.prog) w 9 50 5 s Tryd.underlying9 Tryd.underlying50 Tryd.underlying5
  obtain ⟨L0, hL, hLt, hLl⟩ := rowB_bytesWorld w s
  have HX : Hid (Ext w (Lib.bytesWorld w 5 s)) := hide (ext_bytesWorld (Ext.refl w) _ _)
  have HR : Hid (RowB (Lib.bytesWorld w 5 s) w.heap.size ((s.data.toList.map Lib.upperB).take 0 ++ L0.drop 0)) := hide (by simpa using hL)
  have HL : Hid (L0.take s.data.toList.length = s.data.toList ∧ s.data.toList.length ≤ L0.length) := hide (by rw [size_data]; exact ⟨hLt, hLl⟩)
  have hcap := grownCap_ge w s.size 0 5
  generalize grownCap w s.size 0 5 = cap at hcv hcap
  generalize Lib.bytesWorld w 5 s = W at hcv HX HR
  generalize hb : w.heap.size = b at hcv HR
  have HB := hide hb
  have HW : Hid (w.heap.size ≤ b) := hide (by omega)
  clear hL hLt hLl hb
  go_enter Tryd.func21, Tryd.ntmps21
  go_wp2
  go_loopw [10] (fun s10 wr => ∃ k : Nat, k ≤ s.size ∧ s10 = .int .i64 k ∧ Hid (Ext w wr ∧ RowB wr b ((s.data.toList.map Lib.upperB).take k ++ L0.drop k))) (fun s10 _ => s.size - (intOf s10).toNat)
  case atStart => exact ⟨0, by omega, rfl, hide ⟨HX.out, HR.out⟩⟩
  case round =>
    clear HX HR hcv
    obtain ⟨k, hk, rfl, HI⟩ := hrel
    by_cases hlt : k < s.size
    · have hk2 : k < s.data.toList.length := by rw [size_data]; exact hlt
      obtain ⟨hkL, hget⟩ := up_get L0 s.data.toList k hk2 HL.out.2 HL.out.1
      have hc := HI.out.2.cell hkL
      have hf := HI.out.2.unfrozen hkL
      rw [hget] at hc
      have US := hide (up_step L0 s.data.toList k hk2 HL.out.2 HL.out.1)
      have UM := hide (up_same L0 s.data.toList k hk2 HL.out.2 HL.out.1)
      have LI := low_iff s.data.toList[k]
      have UI := hide (Lib.upperB_int s.data.toList[k])
      generalize s.data.toList[k] = c at hc US UM LI UI
      have hc255 : (c.toNat : Int) ≤ 255 := by have := c.toNat_lt; omega
      have hc0 : (0 : Int) ≤ (c.toNat : Int) := by omega
      cases hV : Lib.isLowerB c with
      | true =>
        rw [hV] at LI
        have hbd := of_decide_eq_true LI.symm
        obtain ⟨b1, b2⟩ := hbd
        have R : Hid (∀ x : Int, x = (c.toNat : Int) → Ext w (wr.setCell ⟨b, k, none⟩ (.int .u8 (x - 97 + 65))) ∧ RowB (wr.setCell ⟨b, k, none⟩ (.int .u8 (x - 97 + 65))) b ((s.data.toList.map Lib.upperB).take (k + 1) ++ L0.drop (k + 1))) := hide fun x hx => by
          have e : x - 97 + 65 = ((Lib.upperB c).toNat : Int) := by rw [UI.out hV, hx]; omega
          rw [e]
          refine ⟨Ext.setCell HI.out.1 HW.out _, ?_⟩
          rw [← US.out]
          exact HI.out.2.set_ k _
        generalize hx : (c.toNat : Int) = x at hc hc255 hc0 b1 b2
        have R2 := hide (R.out x hx.symm)
        clear R hx LI US UM UI HI hget hkL hk2 hV
        go_wp2
        go_roundw
        case rel => exact ⟨k + 1, by omega, by go_num, hide R2.out⟩
        case measure => simp [intOf]; omega
      | false =>
        rw [hV] at LI
        have hbd := of_decide_eq_false LI.symm
        have R2 : Hid (Ext w wr ∧ RowB wr b ((s.data.toList.map Lib.upperB).take (k + 1) ++ L0.drop (k + 1))) := hide (by
          rw [← UM.out hV]
          exact HI.out)
        by_cases b1 : 97 ≤ (c.toNat : Int)
        · have b2 : ¬ (c.toNat : Int) ≤ 122 := fun h => hbd ⟨b1, h⟩
          clear LI US UM UI HI hget hkL hk2 hV hbd hf
          generalize (c.toNat : Int) = x at hc hc255 hc0 b1 b2
          go_wp2
          go_roundw
          case rel => exact ⟨k + 1, by omega, by go_num, hide R2.out⟩
          case measure => simp [intOf]; omega
        · clear LI US UM UI HI hget hkL hk2 hV hbd hf
          generalize (c.toNat : Int) = x at hc hc255 hc0 b1
          go_wp2
          go_roundw
          case rel => exact ⟨k + 1, by omega, by go_num, hide R2.out⟩
          case measure => simp [intOf]; omega
    · obtain rfl : k = s.size := by omega
      have hcv2 : (convert 50 9 (.slice (some ⟨b, 0, none⟩) s.size cap)).run Tryd.prog wr = .ok (.string (upT s)) wr := by
        have hl : ((s.data.toList.map Lib.upperB).take s.size ++ L0.drop s.size).take s.size = Lib.toUpperA s.data.toList := by
          have h1 : (s.data.toList.map Lib.upperB).take s.size = Lib.toUpperA s.data.toList := List.take_of_length_le (by simp)
          have h2 : (Lib.toUpperA s.data.toList).length = s.size := by simp [Lib.toUpperA]
          rw [h1, List.take_append_of_le_length (by rw [h2]; exact Nat.le_refl _), List.take_of_length_le (by rw [h2]; exact Nat.le_refl _)]
        have hrb := HI.out.2.rbytes s.size
        rw [hl] at hrb
        exact run_string_n wr _ _ _ Tryd.underlying50 Tryd.underlying5 Tryd.underlying9 s.size cap (by simp [Lib.toUpperA]) hrb
      have HE := hide HI.out.1
      clear HI
      go_wp2
      go_ret
      exact ⟨rfl, HE.out⟩

def asciiB (l : List UInt8) : Bool := l.all fun c => decide (c.toNat < 128)
set_option maxRecDepth 100000 in
theorem ascii_any (s : ByteArray) (w : World) (hs : s.size ≤ 2147483647) :
    Calls Tryd.prog 15 #[.string s] w fun e w' => e = .returned (.bool (asciiB s.data.toList)) ∧ w = w' := by
  generalize hV : asciiB s.data.toList = V
  have HV := hide hV
  clear hV
  go_enter Tryd.func15, Tryd.ntmps15
  go_wp2
  go_loop [3] (fun s3 => ∃ k : Nat, k ≤ s.size ∧ s3 = .int .i64 k ∧ Hid (asciiB (s.data.toList.take k) = true)) (fun s3 => s.size - (intOf s3).toNat)
  case atStart => exact ⟨0, by omega, rfl, hide rfl⟩
  case round =>
    obtain ⟨k, hk, rfl, HI⟩ := hrel
    by_cases hlt : k < s.size
    · have hsn : s.data.toList.take (k + 1) = s.data.toList.take k ++ [s[k]] := by
        rw [List.take_succ_eq_append_getElem (by simpa using hlt)]; rfl
      have HN : Hid (asciiB (s.data.toList.take (k + 1)) = decide (s[k].toNat < 128)) := hide (by
        have := HI.out
        unfold asciiB at this ⊢
        rw [hsn, List.all_append, this]
        simp)
      have HF : Hid (¬ s[k].toNat < 128 → V = false) := hide fun h => by
        rw [← HV.out]
        unfold asciiB
        rw [List.all_eq_false]
        exact ⟨s[k], List.mem_iff_getElem.2 ⟨k, by rw [size_data]; exact hlt, rfl⟩, by simpa using h⟩
      clear hsn
      by_cases h128 : s[k].toNat < 128
      · have b1 : ¬ (127 : Int) < (s[k].toNat : Int) := by omega
        have HN2 : Hid (asciiB (s.data.toList.take (k + 1)) = true) := hide (by rw [HN.out]; exact decide_eq_true h128)
        clear HN HF h128 HI
        go_wp2
        go_round
        case rel => exact ⟨k + 1, by omega, by go_num, HN2⟩
        case measure => simp [intOf]; omega
      · have b1 : (127 : Int) < (s[k].toNat : Int) := by omega
        have HF2 := hide (HF.out h128)
        clear HN HF h128 HI
        go_wp2
        go_ret
        exact ⟨by rw [HF2.out]; rfl, rfl⟩
    · have HE : Hid (V = true) := hide (by
        have h := HI.out
        rw [List.take_of_length_le (by rw [size_data]; omega)] at h
        rw [← HV.out, h])
      clear HI
      go_wp2
      go_ret
      exact ⟨by rw [HE.out]; rfl, rfl⟩
theorem toUpper_any (s : ByteArray) (w : World) (hs : s.size ≤ 1000000) (ha : asciiB s.data.toList = true) :
    Calls Tryd.prog 57 #[.string s] w fun e w' => e = .returned (.string (upT s)) ∧ Ext w w' :=
  Tryd.strings_ToUpper_ascii s w (by omega) (fun j b hb => by
    have := List.all_eq_true.1 ha b (List.mem_of_getElem? hb)
    simpa using this)
end Go.Proofs.YtepeokoeempfgaaDoor
