/-
  (*bytes.Buffer).Write.
-/
import Derived.Test.YtepeokoeempfgaaDoorBufW
namespace Go.Proofs.YtepeokoeempfgaaDoor
open Go.RowKit
set_option linter.unusedVariables false
set_option linter.unusedSimpArgs false

def WritePost (w w' : World) (b : Nat) (bv : Value) (l m : List UInt8) : Prop := ∃ bv' lr', BufB w' b bv' lr' ∧ OwnB w' bv' (l ++ m) ∧ bv'.ownBlock ≠ none ∧ SameOrNew w bv bv' ∧ Chg (b :: bv.ownBlock.toList) w w'
theorem info_1 : (Tryd.prog.info? 5).map (·.size) = some 1 := by
  obtain ⟨i0, hi, hz0, hz1, hz2⟩ := info_parts info_u8g
  rw [hi]; simp [hz1]
/-- What is left when m lies behind l. -/
theorem write_end {w W1 : World} {b k L n cap2 : Nat} {lr : Int} {bv : Value} {cells : Array Value} {l m : List UInt8} (hb : BufB W1 b (.slice (some ⟨k, 0, none⟩) (L + n) cap2) lr) (hg : Blk W1 k 5 cells) (hcs : cells.size = cap2) (htk : cells.toList.take L = bs l) (hL : l.length = L) (hm : m.length = n) (hcap : L + n ≤ cap2) (hmax : cap2 ≤ maxLen)
    (hsn : SameOrNew w bv (.slice (some ⟨k, 0, none⟩) (L + n) cap2)) (hc : Chg (b :: bv.ownBlock.toList) w W1) : WritePost w (W1.setRow k (cells.toList.take L ++ bs m ++ cells.toList.drop (L + (bs m).length)).toArray) b bv l m := by
  have hkb : k ≠ b := Blk.ne_ hg hb (by decide)
  refine ⟨_, lr, Blk.setRow_far hb (fun e => hkb e.symm) _, ?_, by simp [Value.ownBlock], hsn, hc.setRow ?_ _⟩
  · have e : (l ++ m).length = L + n := by simp [hL, hm]
    have e2 : bs (l ++ m) = bs l ++ bs m := by simp [bs]
    unfold OwnB
    rw [e, e2, htk]
    refine ⟨by simp [bs, hL, hm], .inr ⟨k, cap2, _, rfl, Nat.zero_le _, Blk.setRow_ hg _, hcap, hmax, ?_, ?_⟩⟩
    · have h1 : (bs l).length = L := by rw [bs_length, hL]
      have h2 : (bs m).length = n := by rw [bs_length, hm]
      simp [h1, h2]
      omega
    · have h1 : (bs l ++ bs m).length = L + n := by simp [bs, hL, hm]
      rw [Nat.mul_one, ← h1]
      exact List.take_left
  · rcases hsn with e | ⟨j, e, hj⟩
    · left
      rw [← e]
      simp [Value.ownBlock]
    · right
      simp [Value.ownBlock] at e
      subst e
      exact hj

set_option maxRecDepth 100000 in
set_option maxHeartbeats 4000000 in
theorem write_any (b n c : Nat) (bv : Value) (lr : Int) (l m : List UInt8) (a : Addr) (w : World) (hb : BufB w b bv lr) (ho : OwnB w bv l) (hz : bv.ownBlock ≠ none → 1 ≤ l.length) (hn : m.length = n) (h1 : 1 ≤ n) (hlim : l.length + n ≤ 100000000)
    (hab : a.block ≠ b) (hav : bv.ownBlock ≠ some a.block) (hsrc : ∀ j (hj : j < m.length), w.cell? (a.add j) = some (.int .u8 (m[j].toNat))) (hlt : a.block < w.heap.size) :
    Calls Tryd.prog 122 #[.pointer (some ⟨b, 0, none⟩), .slice (some a) n c] w fun e w' => e = .returned (.tuple #[.int .i64 n, .nilIface]) ∧ WritePost w w' b bv l m := by
  have hsrc' : ∀ w', Chg (b :: bv.ownBlock.toList) w w' → ∀ j v, (bs m)[j]? = some v → w'.cell? (a.add j) = some v := fun w' hc j v hj => by
    have hjl : j < m.length := by
      have := (List.getElem?_eq_some_iff.1 hj).1
      rwa [bs_length] at this
    rw [bs_getElem?, List.getElem?_eq_getElem hjl] at hj
    simp at hj
    refine (World.cell?_of_block (w := w) (w' := w') (a := a.add j) (by rw [block_of_add]; exact hc.block a.block hlt (by
      simp only [List.mem_cons, not_or]
      refine ⟨hab, fun hm => hav ?_⟩
      cases hq : bv.ownBlock with
      | none => rw [hq] at hm; simp at hm
      | some k => rw [hq] at hm; simp at hm; rw [hm]))).trans ?_
    rw [hsrc j hjl, hj]
  have hb0 : BufB (w.setCell ⟨b, 2, none⟩ (.int .i8 0)) b bv 0 := by unfold BufB; simpa using (show Blk w b _ _ from hb).set_ 2 (.int .i8 0)
  have hc0 : Chg [b] w (w.setCell ⟨b, 2, none⟩ (.int .i8 0)) := (Chg.refl _ _).setCell (.inl (by simp)) _
  have c2 := Blk.cell hb 2
  have f2 := Blk.frozen hb 2
  simp at c2
  have HS := hide hsrc'
  have hmb : (bs m).length = n := by rw [bs_length, hn]
  have i1 : (1 : Int) ≤ n := by omega
  have i2 : (n : Int) ≤ 100000000 := by omega
  have HM : Hid (∀ u ∈ bs m, u.oneCell' = true) := hide (bs_one_g m)
  rcases ho.2 with ⟨rfl, hl0⟩ | ⟨g, cap, cur, rfl, _, hg, hle, hcm, hcs, htk⟩
  · have hl : l = [] := List.eq_nil_of_length_eq_zero hl0
    subst hl
    have c00 := Blk.cell hb0 0
    simp at c00
    have TG := hide (Tryd.Buffer_tryGrow_none b none 0 0 n _ c00 (Nat.le_refl _) (Nat.zero_le _) (by omega))
    have GR : Hid (Calls Tryd.prog 125 #[.pointer (some ⟨b, 0, none⟩), .int .i64 n] (w.setCell ⟨b, 2, none⟩ (.int .i8 0)) fun e w' => e = .returned (.int .i64 0) ∧ GrowPost (w.setCell ⟨b, 2, none⟩ (.int .i8 0)) w' b n 0 []) := hide (by
      by_cases h64 : n ≤ 64
      · exact grow_small b n 0 _ hb0 h1 h64
      · exact grow_big b n 0 _ hb0 (by omega) (by omega))
    have HC0 := hide hc0
    clear hb0 c00 hb ho hz hsrc hsrc' hc0 hav
    go_enter Tryd.func122, Tryd.ntmps122
    go_wp2_with (go_at_call 126; refine TG.out.mono ?_; rintro e W1 ⟨rfl, rfl⟩)
    refine GR.out.mono ?_
    rintro e W1 ⟨rfl, k, cap2, cells, hk, hb2, hg2, hcs2, htk2, hcap2, hmax2, hch2⟩
    have hC : Chg (b :: (Value.slice none 0 0).ownBlock.toList) w W1 := HC0.out.trans hch2
    have hcp := run_copy_row (P := Tryd.prog) W1 50 50 3 5 k 0 n cap2 a n c cells 5 (bs m) Tryd.underlying50 info_1 hg2 (by rw [hmb]; exact (Nat.min_self n).symm) (HS.out W1 hC) (by rw [hmb]; simp at hcap2; omega) HM.out
    rw [hmb] at hcp
    have hE := write_end (w := w) (bv := .slice none 0 0) (l := []) (m := m) (L := 0) (n := n) hb2 hg2 hcs2 (by simp [bs]) rfl hn (by simpa using hcap2) hmax2 (.inr ⟨k, rfl, by simpa [World.setCell] using hk⟩) hC
    rw [hmb] at hE
    have HE := hide hE
    have d0 := Blk.cell hb2 0
    simp at d0
    simp at hcap2
    have i3 : (n : Int) ≤ cap2 := by omega
    have i4 : (cap2 : Int) ≤ 9223372036854775807 := by unfold maxLen at hmax2; omega
    clear hE hb2 hg2 hC hch2 TG GR HC0
    go_wp2
    go_ret2
    exact ⟨rfl, by simpa using HE.out⟩
  · have hgb : Blk w g 5 cur := hg
    have hgne : g ≠ b := Blk.ne_ hgb hb (by decide)
    have hg0 : Blk (w.setCell ⟨b, 2, none⟩ (.int .i8 0)) g 5 cur := hgb.far (by simpa using hgne) _
    have hl1 : 1 ≤ l.length := hz (by simp [Value.ownBlock])
    have hcs' : cur.size = cap := by omega
    have htk' : cur.toList.take l.length = bs l := by simpa using htk
    have c00 := Blk.cell hb0 0
    have f00 := Blk.frozen hb0 0
    simp at c00
    have HC0 := hide hc0
    have HL := hide hl1
    have i5 : (l.length : Int) ≤ 100000000 := by omega
    have i6 : (1 : Int) ≤ (l.length : Int) := by omega
    have i7 : (l.length : Int) + n ≤ 100000000 := by omega
    by_cases hroom : n ≤ cap - l.length
    · have TG := hide (Tryd.Buffer_tryGrow_room b (some ⟨g, 0, none⟩) l.length cap n _ c00 f00 hle hcm hroom)
      have hb2 : BufB ((w.setCell ⟨b, 2, none⟩ (.int .i8 0)).setCell ⟨b, 0, none⟩ (.slice (some ⟨g, 0, none⟩) (l.length + n) cap)) b (.slice (some ⟨g, 0, none⟩) (l.length + n) cap) 0 := by unfold BufB; simpa using (show Blk (w.setCell ⟨b, 2, none⟩ (.int .i8 0)) b _ _ from hb0).set_ 0 (.slice (some ⟨g, 0, none⟩) (l.length + n) cap)
      have hg2 : Blk ((w.setCell ⟨b, 2, none⟩ (.int .i8 0)).setCell ⟨b, 0, none⟩ (.slice (some ⟨g, 0, none⟩) (l.length + n) cap)) g 5 cur := hg0.far (by simpa using hgne) _
      have hC : Chg (b :: (Value.slice (some ⟨g, 0, none⟩) l.length cap).ownBlock.toList) w ((w.setCell ⟨b, 2, none⟩ (.int .i8 0)).setCell ⟨b, 0, none⟩ (.slice (some ⟨g, 0, none⟩) (l.length + n) cap)) := ((Chg.refl _ _).setCell (.inl (by simp)) _).setCell (.inl (by simp)) _
      go_enter Tryd.func122, Tryd.ntmps122
      go_wp2_with fail
      refine TG.out.mono ?_
      rintro e W1 ⟨rfl, hW1⟩
      rw [← hW1] at hb2 hg2 hC
      have hcp := run_copy_row (P := Tryd.prog) W1 50 50 3 5 g l.length n (cap - l.length) a n c cur 5 (bs m) Tryd.underlying50 info_1 hg2 (by rw [hmb]; exact (Nat.min_self n).symm) (HS.out W1 hC) (by rw [hmb]; omega) HM.out
      rw [hmb] at hcp
      have hE := write_end (w := w) (bv := .slice (some ⟨g, 0, none⟩) l.length cap) (l := l) (m := m) (L := l.length) (n := n) hb2 hg2 hcs' htk' rfl hn (by omega) hcm (.inl rfl) hC
      rw [hmb] at hE
      have HE := hide hE
      have d0 := Blk.cell hb2 0
      simp at d0
      have i3 : (l.length : Int) + n ≤ cap := by omega
      have i4 : (cap : Int) ≤ 9223372036854775807 := by unfold maxLen at hcm; omega
      have i8 : ¬ cap = l.length := by omega
      have i9 : ¬ (cap : Int) = l.length := by omega
      clear hE hb2 hg2 hC TG HC0 hW1 hb0 hg0 hb ho hg hgb hsrc hsrc' hc0 hav hz htk htk' hl1
      go_wp2
      go_ret2
      exact ⟨rfl, by have h := HE.out; rw [List.append_assoc] at h; exact h⟩
    · have TG := hide (Tryd.Buffer_tryGrow_none b (some ⟨g, 0, none⟩) l.length cap n _ c00 hle hcm (by omega))
      have GR := hide (grow_row b g l.length cap n 0 cur _ hb0 hg0 hl1 hle hcs' (by rw [htk']; exact bs_one_g l) h1 (by omega) (by omega))
      rw [htk'] at GR
      clear hb0 c00 hb ho hz hsrc hsrc' hc0 hav hg0 hg htk
      go_enter Tryd.func122, Tryd.ntmps122
      go_wp2_with (go_at_call 126; refine TG.out.mono ?_; rintro e W1 ⟨rfl, rfl⟩)
      refine GR.out.mono ?_
      rintro e W1 ⟨rfl, k, cap2, cells, hk, hb2, hg2, hcs2, htk2, hcap2, hmax2, hch2⟩
      rw [bs_length] at hb2 htk2 hcap2
      have hC : Chg (b :: (Value.slice (some ⟨g, 0, none⟩) l.length cap).ownBlock.toList) w W1 := (HC0.out.trans hch2).more (fun i hi => .inl (by simp at hi; simp [hi]))
      have hcp := run_copy_row (P := Tryd.prog) W1 50 50 3 5 k l.length n (cap2 - l.length) a n c cells 5 (bs m) Tryd.underlying50 info_1 hg2 (by rw [hmb]; exact (Nat.min_self n).symm) (HS.out W1 hC) (by rw [hmb]; omega) HM.out
      rw [hmb] at hcp
      have hE := write_end (w := w) (bv := .slice (some ⟨g, 0, none⟩) l.length cap) (l := l) (m := m) (L := l.length) (n := n) hb2 hg2 hcs2 htk2 rfl hn (by omega) hmax2 (.inr ⟨k, rfl, by simpa [World.setCell] using hk⟩) hC
      rw [hmb] at hE
      have HE := hide hE
      have d0 := Blk.cell hb2 0
      simp at d0
      have i3 : (l.length : Int) + n ≤ cap2 := by omega
      have i4 : (cap2 : Int) ≤ 9223372036854775807 := by unfold maxLen at hmax2; omega
      have i8 : ¬ cap2 = l.length := by omega
      have i9 : ¬ (cap2 : Int) = l.length := by omega
      clear hE hb2 hg2 hC hch2 TG GR HC0 hgb htk' hl1
      go_wp2
      go_ret2
      exact ⟨rfl, by have h := HE.out; rw [htk2, List.append_assoc] at h; exact h⟩
end Go.Proofs.YtepeokoeempfgaaDoor
