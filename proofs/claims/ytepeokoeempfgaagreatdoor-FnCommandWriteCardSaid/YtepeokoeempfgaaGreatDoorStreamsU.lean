/-
  findStreamsKeys: the keys behind STREAMS, the program's.
-/
import Derived.Test.YtepeokoeempfgaaGreatDoorUpU
namespace Go.Proofs.YtepeokoeempfgaaGreatDoor
open Go.RowKit
set_option linter.unusedVariables false
set_option linter.unusedSimpArgs false

set_option maxRecDepth 100000 in
set_option maxHeartbeats 1000000 in
theorem implStreamsU_any (A : Option Addr) (cap : Nat) (B : Nat → Prop) (n : Nat) (l : List ByteArray) (w : World) (hn : l.length = n) (hR : RS w A l) (hl : n ≤ 1000) (hc : n ≤ cap) (hm : cap ≤ maxLen) (hs : ∀ s ∈ l, s.size ≤ 1000000) (hT : TabsU w) (hB : ∀ ad, A = some ad → B ad.block) :
    Calls Tryz.prog 40 #[.slice A n cap] w (RetS w B (streamsOfU l)) := by
  generalize hK : streamsOfU l = K
  have HK := hide hK
  have HR := hide hR
  have HS := hide hs
  have HBB := hide hB
  have HN := hide hn
  have HM := hide hm
  have HT := hide hT
  unfold maxLen at hm
  clear hK hR hs hB hn hT
  go_enter Tryz.func40, Tryz.ntmps40
  go_wp2
  go_loopw [3, 4, 5, 8] (fun s3 s4 s5 s8 wr => ∃ k : Nat, k ≤ n ∧ s8 = .int .i64 k ∧ Hid (streamsOfU (l.drop k) = K) ∧ Hid (Ext w wr)) (fun _ _ _ s8 _ => n - (intOf s8).toNat)
  case atStart => exact ⟨0, by omega, rfl, hide (by rw [List.drop_zero]; exact HK.out), hide (Ext.refl w)⟩
  case round =>
    obtain ⟨k, hk, rfl, HI, HX⟩ := hrel
    by_cases hlt : k < n
    · have hkl : k < l.length := by rw [HN.out]; exact hlt
      obtain ⟨ad, rfl, hab, hcell⟩ := HR.out.addr (by omega)
      have hc0 : wr.cell? (ad.add k) = some (.string l[k]) := by
        rw [HX.out.cell (p := ad.add k) (by rw [block_of_add]; exact hab)]
        exact hcell k hkl
      have UP := hide (toUpperU_any l[k] wr (HS.out _ (List.getElem_mem hkl)) (HT.out.ext HX.out))
      have ST := hide (streams_atU l k hkl K HI.out)
      have hbs : ((upU l[k]).toList == [83, 84, 82, 69, 65, 77, 83]) = isStreamsU l[k] := rfl
      generalize l[k] = s at hc0 UP ST hbs
      clear HI hcell hkl
      cases hV : isStreamsU s with
      | true =>
        rw [hV] at hbs
        obtain ⟨r, rfl⟩ : ∃ r, n = k + 1 + r := ⟨n - (k + 1), by omega⟩
        have R := hide (streams_K l K k r HN.out (ST.out.1 hV))
        have CUT := hide ((HR.out.cut (k := k + 1) (cap := cap) (by rw [HN.out]; omega) (by rw [HN.out]; exact hc)).take ((r + 1) / 2))
        have hr2 : (r + 1) / 2 ≤ r := by omega
        have hr3 : r + 1 ≤ 1000 := by omega
        clear ST hV
        go_wp2_with fail
        refine UP.out.mono ?_
        rintro e w1 ⟨rfl, hx⟩
        have HX1 := hide (HX.out.trans hx)
        clear hx UP HX
        by_cases hcap : cap = k + 1
        · have hr0 : r = 0 := by omega
          subst hr0
          subst hcap
          have RS0 : Hid (K.length = 0 ∧ K = []) := hide (by
            have h := R.out.1
            exact ⟨h, List.eq_nil_of_length_eq_zero h⟩)
          clear R CUT hr2 hr3 hc
          go_wp2
          go_ret
          refine ⟨some ad, 0, by rw [RS0.out.1]; simp, by rw [RS0.out.2]; exact RS.nil _ _, HX1.out, by rw [RS0.out.1]; exact Nat.le_refl _, Nat.zero_le _, HBB.out⟩
        · go_wp2
          go_ret
          have h := CUT.out
          rw [if_neg hcap, ← R.out.2] at h
          refine ⟨some (ad.add (k + 1)), cap - (k + 1), by rw [R.out.1]; simp [Addr.add]; omega, h.ext HX1.out, HX1.out, by rw [R.out.1]; omega, by have := HM.out; omega, fun ad2 h2 => ?_⟩
          injection h2 with h2
          rw [← h2, block_of_add]
          exact HBB.out ad rfl
      | false =>
        rw [hV] at hbs
        have R := hide (ST.out.2 hV)
        clear ST hV
        go_wp2_with fail
        refine UP.out.mono ?_
        rintro e w1 ⟨rfl, hx⟩
        have HX1 := hide (HX.out.trans hx)
        clear hx UP HX
        go_wp2
        go_roundw
        case rel => exact ⟨k + 1, by omega, by go_num, R, HX1⟩
        case measure => simp [intOf]; omega
    · have R : Hid (K = []) := hide (by
        have := HI.out
        rw [List.drop_eq_nil_of_le (by rw [HN.out]; omega)] at this
        exact this.symm)
      clear HI
      go_wp2
      go_ret
      exact ⟨none, 0, by rw [R.out]; rfl, by rw [R.out]; exact RS.nil _ _, HX.out, by rw [R.out]; exact Nat.le_refl _, Nat.zero_le _, by simp⟩
end Go.Proofs.YtepeokoeempfgaaGreatDoor
