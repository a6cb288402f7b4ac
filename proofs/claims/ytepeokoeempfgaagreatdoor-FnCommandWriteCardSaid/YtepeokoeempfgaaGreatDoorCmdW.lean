/-
  A command is written: (*radix.cmdAction).MarshalRESP, radix.DoorCommand.
-/
import Derived.Test.YtepeokoeempfgaaGreatDoorAgg
import Derived.Test.YtepeokoeempfgaaGreatDoorPropsU
import Derived.Test.YtepeokoeempfgaaGreatDoorCmd
namespace Go.Proofs.YtepeokoeempfgaaGreatDoor
open Go.RowKit
set_option linter.unusedVariables false
set_option linter.unusedSimpArgs false

/-- Strings in a block that is told. -/
def RSB (w : World) (A : Option Addr) (l : List ByteArray) : Prop := RS w A l ∧ ∀ ad, A = some ad → 0 < l.length → ∃ cs, Blk w ad.block 9 cs
theorem RSB.fr {B : Nat} {w w' : World} {A : Option Addr} {l : List ByteArray} (h : RSB w A l) (hf : Fr B w w') : RSB w' A l := by
  refine ⟨⟨h.1.1, fun hn => ?_⟩, fun ad e hl => ?_⟩
  · obtain ⟨ad, e, hb, hc⟩ := h.1.2 hn
    obtain ⟨cs, hk⟩ := h.2 ad e hn
    have hk' := hf.blk hk (by unfold TT; decide)
    exact ⟨ad, e, Nat.lt_of_lt_of_le hb hf.size, fun j u hu => (World.cell?_of_block (w := w) (w' := w') (a := ad.add j) (by rw [block_of_add]; exact (show w'.heap[ad.block]? = _ from hk').trans (show w.heap[ad.block]? = _ from hk).symm)).trans (hc j u hu)⟩
  · obtain ⟨cs, hk⟩ := h.2 ad e hl
    exact ⟨cs, hf.blk hk (by unfold TT; decide)⟩
theorem RSB.ext {w w' : World} {A : Option Addr} {l : List ByteArray} (h : RSB w A l) (hx : Ext w w') : RSB w' A l :=
  h.fr (Fr.of_ext (B := 0) hx (Nat.zero_le _))

theorem wireL_list_snoc (l : List ByteArray) (k : Nat) (hk : k < l.length) : (wireL (l.take (k + 1))).data.toList = (wireL (l.take k)).data.toList ++ (blobW l[k]).data.toList := by
  rw [List.take_succ_eq_append_getElem hk, wireL_snoc]
  simp [ByteArray.data_append]
theorem texts_list (s : ByteArray) (l : List ByteArray) : (textsW (s :: l)).data.toList = ((⟨#[42]⟩ : ByteArray) ++ decT (l.length + 1) ++ crlf).data.toList ++ (blobW s).data.toList ++ (wireL l).data.toList := by
  simp [textsW, wireL, ByteArray.data_append]
theorem list_size (a : ByteArray) : a.data.toList.length = a.size := by rw [Array.length_toList]; rfl

set_option maxRecDepth 100000 in
set_option maxHeartbeats 2000000 in
theorem cmdMarshal_any (c : Nat) (s : ByteArray) (A : Option Addr) (cap : Nat) (A2 : Option Addr) (k2 c2 : Nat) (a1 b1 d1 : Bool) (n : Nat) (l : List ByteArray) (B o p r b : Nat) (w : World) (hS : St B w o p r b []) (hb : Blk w c 84 (cmdCells s A n cap A2 k2 c2 a1 b1 d1)) (hR : RSB w A l)
    (hn : l.length = n) (hl : n ≤ 1000) (hs : s.size ≤ 1000) (hls : ∀ x ∈ l, x.size ≤ 1000) :
    Calls Tryz.prog 17 #[.pointer (some ⟨c, 0, none⟩), .iface 37 (.pointer (some ⟨b, 0, none⟩)), .pointer (some ⟨o, 0, none⟩)] w fun e w' => e = .returned .nilIface ∧ MsgP B o p r b [] (textsW (s :: l)).data.toList w w' := by
  have q1 := hb.cell 1
  have q2 := hb.cell 2
  have q7 := hb.cell 7
  simp [cmdCells] at q1 q2 q7
  have hn1 : (n : Int) ≤ 1000 := by omega
  have AH := hide (arrayHeader_any (n + 1) (by omega) B o p r b [] (by simp) w hS)
  have BL := hide (fun (s : ByteArray) (hs : s.size ≤ 1000) (l : List UInt8) (hl : l.length ≤ 50000000) w hS => marshalBlob_any s (by omega) B o p r b l hl w hS)
  have HB := hide hb
  have HR := hide hR
  have HLS := hide hls
  have HT := hide (texts_list s l)
  have h1 : ((⟨#[42]⟩ : ByteArray) ++ decT (n + 1) ++ crlf).data.toList.length ≤ 100 := by
    rw [list_size]
    have := decT_size (n + 1) (by omega)
    have h1 : (⟨#[42]⟩ : ByteArray).size = 1 := rfl
    have h2 : crlf.size = 2 := rfl
    simp only [ByteArray.size_append]
    omega
  rw [hn] at HT
  generalize ((⟨#[42]⟩ : ByteArray) ++ decT (n + 1) ++ crlf).data.toList = HD at AH HT h1
  have h2 : (blobW s).data.toList.length ≤ 1100 := by rw [list_size]; have := blobW_size s (by omega); omega
  have HW : Hid (∀ k, (wireL (l.take k)).data.toList.length ≤ 1100 * 1000) := hide fun k => by
    rw [list_size]
    have h1 := wireL_size (l.take k) (fun s hm => hls s (List.mem_of_mem_take hm))
    have : (l.take k).length ≤ 1000 := by rw [List.length_take]; omega
    omega
  clear hS hb hR hls
  go_enter Tryz.func17, Tryz.ntmps17
  go_wp2_with fail
  refine AH.out.mono ?_
  rintro e w1 ⟨rfl, hM⟩
  have p1 := (hM.2.blk HB.out (by unfold TT; decide)).cell 1
  simp [cmdCells] at p1
  have BS := hide (BL.out s hs ([] ++ HD) (by simp; omega) w1 hM.1)
  have HF1 := hide hM.2
  clear hM AH q1 q2 q7
  go_wp2_with fail
  refine BS.out.mono ?_
  rintro e w2 ⟨rfl, hM⟩
  have HM := hide (And.intro hM.1 (HF1.out.trans hM.2))
  have q2 := ((HF1.out.trans hM.2).blk HB.out (by unfold TT; decide)).cell 2
  simp [cmdCells] at q2
  clear hM BS HF1 p1
  go_wp2
  go_loopw [7, 8, 41] (fun s7 s8 s41 wr => ∃ (k : Nat), k ≤ n ∧ s41 = .int .i64 k ∧ s7 = .nilIface ∧ Hid (St B wr o p r b ([] ++ HD ++ (blobW s).data.toList ++ (wireL (l.take k)).data.toList) ∧ Fr B w wr)) (fun _ _ s41 _ => n - (intOf s41).toNat)
  case atStart => exact ⟨0, by omega, rfl, rfl, hide ⟨by rw [List.take_zero, wireL, List.append_nil]; exact HM.out.1, HM.out.2⟩⟩
  case round =>
    obtain ⟨k, hk, rfl, rfl, HX⟩ := hrel
    by_cases hlt : k < n
    · have hkl : k < l.length := by rw [hn]; exact hlt
      obtain ⟨ad, rfl, hab, hcell⟩ := (HR.out.fr HX.out.2).1.addr (by omega)
      have hc0 := hcell k hkl
      have x2 := (HX.out.2.blk HB.out (by unfold TT; decide)).cell 2
      simp [cmdCells] at x2
      have hw := HW.out k
      have B1 := hide (BL.out l[k] (HLS.out _ (List.getElem_mem hkl)) _ (by simp only [List.length_append, List.length_nil]; omega) wr HX.out.1)
      have E1 : Hid ((wireL (l.take (k + 1))).data.toList = (wireL (l.take k)).data.toList ++ (blobW l[k]).data.toList) := hide (wireL_list_snoc l k hkl)
      have HF := hide HX.out.2
      generalize l[k] = sk at hc0 B1 E1
      clear hcell hab hkl HX hw q2
      go_wp2_with fail
      refine B1.out.mono ?_
      rintro e w3 ⟨rfl, hM⟩
      have HX2 := hide (And.intro hM.1 (HF.out.trans hM.2))
      clear hM HF B1
      go_wp2
      exact ⟨⟨k + 1, by omega, rfl, rfl, hide ⟨by rw [E1.out, ← List.append_assoc]; exact HX2.out.1, HX2.out.2⟩⟩, by simp [intOf]; omega⟩
    · have hkn : k = n := by omega
      subst hkn
      go_wp2
      go_ret
      have h := HX.out
      rw [← hn, List.take_length] at h
      exact ⟨rfl, by rw [HT.out]; simpa [List.append_assoc] using h.1, h.2⟩
end Go.Proofs.YtepeokoeempfgaaGreatDoor
