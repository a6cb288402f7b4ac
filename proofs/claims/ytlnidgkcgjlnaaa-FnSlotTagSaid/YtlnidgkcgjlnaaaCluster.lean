/-
  radix.ClusterSlot: its contract, and what it computes.
-/
import Derived.Test.YtlnidgkcgjlnaaaSlot
import Derived.Lib.IndexLaws
namespace Go.Proofs.Ytlnidgkcgjlnaaa
open Go.RowKit
set_option linter.unusedVariables false
set_option linter.unusedSimpArgs false

theorem bytesOf_map (l : List UInt8) : Lib.bytesOf (l.map fun b => (b.toNat : Int)) = l := by
  induction l with
  | nil => rfl
  | cons b l ih => simp [Lib.bytesOf] at ih ⊢; exact ih

set_option maxRecDepth 100000 in
theorem indexByte_any (w : World) (ad : Addr) (n cap : Nat) (l : List UInt8) (c : UInt8) (hn : l.length = n) (h : RBytes w (some ad) l) :
    Calls Try.prog 42 #[.slice (some ad) n cap, .int .u8 c.toNat] w fun e w' => e = .returned (.int .i64 (Lib.indexByte l c)) ∧ Ext w w' := by
  have hx : (l.map fun b => (b.toNat : Int)).length = n := by simp [hn]
  have hc : ∀ i, i < n → w.cell? (ad.add i) = some (.int .u8 ((l.map fun b => (b.toNat : Int)).getD i 0)) := by
    intro i hi
    obtain ⟨ad', he, _, hc⟩ := h.at_ (k := i) (by omega)
    cases he
    rw [hc]
    have : i < l.length := by omega
    simp [this]
  have hr := Lib.run_indexByteAt (P := Try.prog) w ad n cap _ hx hc (c.toNat : Int)
  rw [bytesOf_map, show ((c.toNat : Int).toNat.toUInt8) = c by simp] at hr
  clear hx hc
  go_enter Try.func42, Try.ntmps42
  go_wp2
  rw [run_callFunc_extern Try.func51 (by kernel_rfl) (by kernel_rfl) (by kernel_rfl) (e := Extern.BytealgIndexByte.indexByte) (by kernel_rfl), hr]
  simp only [Result.andThen]
  rw [Oper.upon_value]
  go_wp2
  go_ret
  exact ⟨rfl, Ext.refl _⟩

/-- The part of a key that counts. -/
def slotKey (l : List UInt8) : List UInt8 :=
  if 0 ≤ Lib.indexByte l 123 then
    if 0 < Lib.indexByte (l.drop ((Lib.indexByte l 123).toNat + 1)) 125 then (l.drop ((Lib.indexByte l 123).toNat + 1)).take (Lib.indexByte (l.drop ((Lib.indexByte l 123).toNat + 1)) 125).toNat else l
  else l
noncomputable def slotOf (l : List UInt8) : Int := crcOf (slotKey l) % 16384

theorem indexByte_lt {l : List UInt8} {c : UInt8} {o : Nat} (h : Lib.indexByte l c = o) : o < l.length := by
  have := (Lib.indexByte_some h).1
  rcases Nat.lt_or_ge o l.length with h | h
  · exact h
  · simp [h] at this

theorem crc_n (w : World) (A : Option Addr) (n cap : Nat) (l : List UInt8) (hn : l.length = n) (hl : l.length ≤ 5000) (h : RBytes w A l) :
    Calls Try.prog 43 #[.slice A n cap] w fun e w' => e = .returned (.int .u16 (crcOf l)) ∧ Ext w w' := by
  subst hn; exact crc_any w A cap l hl h

set_option maxRecDepth 100000 in
set_option maxHeartbeats 1000000 in
theorem radixSlot_any (w : World) (ad : Addr) (n cap : Nat) (l : List UInt8) (hl : l.length ≤ 5000) (hn : l.length = n) (hcap : n ≤ cap) (h : RBytes w (some ad) l) :
    Calls Try.prog 31 #[.slice (some ad) n cap] w fun e w' => e = .returned (.int .u16 (slotOf l)) ∧ Ext w w' := by
  have HR := hide h
  have HN := hide hn
  have HL := hide hl
  have HG : Hid (CrcRange (crcOf (slotKey l))) := hide (crcOf_range _)
  rcases (by omega : Lib.indexByte l 123 < 0 ∨ 0 ≤ Lib.indexByte l 123) with h0 | h0
  · have HK : Hid (slotKey l = l) := hide (by unfold slotKey; rw [if_neg (by omega)])
    have HI := hide (indexByte_any w ad n cap l 123 hn h)
    generalize Lib.indexByte l 123 = j at h0 HI
    clear h hn hl
    go_enter Try.func31, Try.ntmps31
    go_wp2_with fail
    refine HI.out.mono ?_; rintro e w1 ⟨rfl, hx1⟩
    have HX := hide hx1
    clear hx1
    go_wp2_with fail
    refine (crc_n _ _ _ _ l HN.out HL.out (HR.out.ext HX.out)).mono ?_; rintro e w2 ⟨rfl, hx2⟩
    have HX2 := hide hx2
    clear hx2
    obtain ⟨g0, g1⟩ : 0 ≤ crcOf l ∧ crcOf l ≤ 65535 := crcOf_range l
    have HS : Hid (slotOf l = crcOf l % 16384) := hide (by unfold slotOf; rw [HK.out])
    generalize crcOf l = c at g0 g1 HS
    go_wp2
    go_ret
    refine ⟨?_, HX.out.trans HX2.out⟩
    rw [HS.out]
    rfl
  · obtain ⟨i, hi⟩ := Int.eq_ofNat_of_zero_le h0
    have hlt := indexByte_lt hi
    rw [hn] at hlt
    have hn5 : n ≤ 5000 := by omega
    have HJ := hide hi
    have HI := hide (indexByte_any w ad n cap l 123 hn h)
    rw [hi] at HI
    clear hi h0 h hn hl
    have hdl : Hid ((l.drop (i + 1)).length = n - (i + 1)) := hide (by rw [List.length_drop, HN.out])
    have HC : Hid (∀ w2, Ext w w2 → Calls Try.prog 43 #[.slice (some ad) n cap] w2 fun e w' => e = .returned (.int .u16 (crcOf l)) ∧ Ext w2 w') := hide fun w2 hx => crc_n w2 _ n cap l HN.out HL.out (HR.out.ext hx)
    obtain ⟨g0, g1⟩ : 0 ≤ crcOf (slotKey l) ∧ crcOf (slotKey l) ≤ 65535 := HG.out
    clear HG
    have HS : Hid (slotOf l = crcOf (slotKey l) % 16384) := hide rfl
    have HD := hide (fun (w2 : World) (a2 : Addr) => indexByte_any w2 a2 (n - (i + 1)) (cap - (i + 1)) (l.drop (i + 1)) 125 hdl.out)
    have hge := Lib.indexByte_ge (l.drop (i + 1)) 125
    by_cases hc : cap = i + 1
    · have HE : Hid (Lib.indexByte (l.drop (i + 1)) 125 = -1) := hide (by
        have : l.drop (i + 1) = [] := List.eq_nil_of_length_eq_zero (by rw [hdl.out]; omega)
        rw [this]; rfl)
      have HK : Hid (slotKey l = l) := hide (by unfold slotKey; rw [HJ.out, if_pos (by omega), if_neg (by simp [HE.out])])
      rw [HK.out] at g0 g1 HS
      generalize crcOf l = c at g0 g1 HS HC
      have hcc := hide hc
      obtain rfl := hc
      go_enter Try.func31, Try.ntmps31
      go_wp2_with fail
      refine HI.out.mono ?_; rintro e w1 ⟨rfl, hx1⟩
      have HX := hide hx1
      clear hx1
      go_wp2_with fail
      have h2 := HD.out w1 ad (((HR.out.ext HX.out).cut (k := i + 1) (cap := i + 1) (by rw [HN.out]; omega) (by rw [HN.out]; exact hcap)) |> fun h => by rw [if_pos rfl] at h; exact h)
      rw [HE.out, show n - (i + 1) = 0 by omega, Nat.sub_self] at h2
      refine h2.mono ?_; rintro e w2 ⟨rfl, hx2⟩
      have HX2 := hide hx2
      clear hx2 h2
      go_wp2_with fail
      refine (HC.out w2 (HX.out.trans HX2.out)).mono ?_; rintro e w3 ⟨rfl, hx3⟩
      have HX3 := hide hx3
      clear hx3
      go_wp2
      go_ret
      refine ⟨?_, (HX.out.trans HX2.out).trans HX3.out⟩
      rw [HS.out]
      rfl
    · have had : Hid (ad.add (i + 1) = ⟨ad.block, ad.off + (i + 1), none⟩) := hide (by simp [Addr.add])
      have HRD : Hid (∀ w2, Ext w w2 → RBytes w2 (some ⟨ad.block, ad.off + (i + 1), none⟩) (l.drop (i + 1))) := hide fun w2 hx => by
        have h := (HR.out.ext hx).cut (k := i + 1) (cap := cap) (by rw [HN.out]; omega) (by rw [HN.out]; exact hcap)
        rw [if_neg hc] at h
        simpa [had.out] using h
      rcases (by omega : Lib.indexByte (l.drop (i + 1)) 125 ≤ 0 ∨ 0 < Lib.indexByte (l.drop (i + 1)) 125) with he | he
      · have HK : Hid (slotKey l = l) := hide (by unfold slotKey; rw [HJ.out, if_pos (by omega), if_neg (by simpa using he)])
        rw [HK.out] at g0 g1 HS
        generalize crcOf l = c at g0 g1 HS HC
        generalize Lib.indexByte (l.drop (i + 1)) 125 = e at he hge HD
        go_enter Try.func31, Try.ntmps31
        go_wp2_with fail
        refine HI.out.mono ?_; rintro e w1 ⟨rfl, hx1⟩
        have HX := hide hx1
        clear hx1
        go_wp2_with fail
        refine (HD.out w1 _ (HRD.out w1 HX.out)).mono ?_; rintro e w2 ⟨rfl, hx2⟩
        have HX2 := hide hx2
        clear hx2
        go_wp2_with fail
        refine (HC.out w2 (HX.out.trans HX2.out)).mono ?_; rintro e w3 ⟨rfl, hx3⟩
        have HX3 := hide hx3
        clear hx3
        go_wp2
        go_ret
        refine ⟨?_, (HX.out.trans HX2.out).trans HX3.out⟩
        rw [HS.out]
        rfl
      · obtain ⟨m, hm⟩ := Int.eq_ofNat_of_zero_le (Int.le_of_lt he)
        have hml := indexByte_lt hm
        rw [hdl.out] at hml
        rw [hm] at HD he
        have HK : Hid (slotKey l = (l.drop (i + 1)).take m) := hide (by unfold slotKey; rw [HJ.out, if_pos (by omega)]; simp only [Int.toNat_natCast]; rw [hm, if_pos (by omega)]; simp)
        have HC2 : Hid (∀ w2 cap, Ext w w2 → Calls Try.prog 43 #[.slice (some ⟨ad.block, ad.off + (i + 1), none⟩) m cap] w2 fun e w' => e = .returned (.int .u16 (crcOf (slotKey l))) ∧ Ext w2 w') := hide fun w2 cap hx => by
          rw [HK.out]
          exact crc_n w2 _ m cap _ (by rw [List.length_take, hdl.out]; omega) (by rw [List.length_take, hdl.out]; have := HL.out; have := HN.out; omega) ((HRD.out w2 hx).take m)
        generalize crcOf (slotKey l) = c at g0 g1 HS HC2
        clear hge hm HC
        go_enter Try.func31, Try.ntmps31
        go_wp2_with fail
        refine HI.out.mono ?_; rintro e w1 ⟨rfl, hx1⟩
        have HX := hide hx1
        clear hx1
        go_wp2_with fail
        refine (HD.out w1 _ (HRD.out w1 HX.out)).mono ?_; rintro e w2 ⟨rfl, hx2⟩
        have HX2 := hide hx2
        clear hx2
        go_wp2_with fail
        refine (HC2.out w2 _ (HX.out.trans HX2.out)).mono ?_; rintro e w3 ⟨rfl, hx3⟩
        have HX3 := hide hx3
        clear hx3
        go_wp2
        go_ret
        refine ⟨?_, (HX.out.trans HX2.out).trans HX3.out⟩
        rw [HS.out]
        rfl
end Go.Proofs.Ytlnidgkcgjlnaaa
