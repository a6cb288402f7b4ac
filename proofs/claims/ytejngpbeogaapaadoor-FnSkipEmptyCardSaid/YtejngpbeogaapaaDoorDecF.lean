/-
  readMore where there is no buffer yet.
-/
import Derived.Test.YtejngpbeogaapaaDoorDecG
namespace Go.Proofs.YtejngpbeogaapaaDoor
open Go.RowKit
set_option linter.unusedVariables false
set_option linter.unusedSimpArgs false

def buf0 : List UInt8 := List.replicate 8192 0
theorem buf0_len : buf0.length = 8192 := List.length_replicate
def GrownF (B d g : Nat) (S : List Nat) (sec : Int) (sk : Bool) (esc : Value) (line : Int) (er : Value) (rest : List UInt8) (f : Nat) (k : Nat) (W : World) : Prop :=
  DecAt W B d (k :: S) (.iface 71 (.pointer (some ⟨g, 0, none⟩))) (some ⟨k, 0, none⟩) 8192 0 0 false sec sk esc line er [] rest f ∧ Rdr W B g rest f ∧ RowB W k buf0

set_option maxRecDepth 100000 in
set_option maxHeartbeats 8000000 in
theorem readMore_first_some (B d g : Nat) (S : List Nat) (sec : Int) (sk : Bool) (esc : Value) (line : Int) (er : Value) (rest : List UInt8) (c : UInt8) (f : Nat) (w : World)
    (h : DecAt w B d S (.iface 71 (.pointer (some ⟨g, 0, none⟩))) none 0 0 0 false sec sk esc line er [] (c :: rest) f) (hR : Rdr w B g (c :: rest) f) (hgS : g ∈ S) (hgd : g ≠ d) :
    Calls Tryd.prog 90 #[.pointer (some ⟨d, 0, none⟩)] w (MoreP w B d S 0 0 sec sk esc line er [] (c :: rest) f) := by
  have hblk := h.blk
  simp only [List.length_nil] at hblk
  have c0 := hblk.cell 0
  have c1 := hblk.cell 1
  have c2 := hblk.cell 2
  have c3 := hblk.cell 3
  have c4 := hblk.cell 4
  simp at c0 c1 c2 c3 c4
  have hdlt := h.lt d h.dS
  have hnil := method_rd g
  obtain ⟨q, hq⟩ : ∃ q, q = w.heap.size := ⟨_, rfl⟩
  have hqd : q ≠ d := by omega
  have hgq : g ≠ q := by have := hR.lt; omega
  obtain ⟨Z, hZ⟩ : ∃ Z, Z = (bs (List.replicate 8192 0)).toArray := ⟨_, rfl⟩
  have hmk : ∀ W : World, W.heap.size = q → (Instr.makeSlice 43 (.int .i64 0) (.int .i64 8192)).run Tryd.prog W = .ok (.slice (some ⟨q, 0, none⟩) 0 8192) (W.alloc (.cells Z 5)) := fun W hW => by
    have := run_make_bytes 0 8192 (by omega) (by omega) W
    rw [hZ, ← hW]
    exact this
  have hsz : ∀ x, (w.drewN x).heap.size = q := fun x => hq.symm
  have hZrow : ∀ x, Row ((w.drewN x).alloc (.cells Z 5)) q 5 Z := fun x => (Blk.new_at (w.drewN x) 5 Z (hsz x)).row
  have hcp := run_copy_nil (some ⟨q, 0, none⟩) 0 8192
  have GROWN : Hid (∀ x y, GrownF B d g S sec sk esc line er (c :: rest) f q (((((((w.drewN x).alloc (.cells Z 5)).drewN y).setCell ⟨d, 1, none⟩ (.slice (some ⟨q, 0, none⟩) 0 8192)).setCell ⟨d, 3, none⟩ (.int .i64 0)).setCell ⟨d, 2, none⟩ (.int .i64 0)).drew) ∧ Chg S w (((((((w.drewN x).alloc (.cells Z 5)).drewN y).setCell ⟨d, 1, none⟩ (.slice (some ⟨q, 0, none⟩) 0 8192)).setCell ⟨d, 3, none⟩ (.int .i64 0)).setCell ⟨d, 2, none⟩ (.int .i64 0)).drew)) := hide fun x y => by
    have hA : Chg S w (((((((w.drewN x).alloc (.cells Z 5)).drewN y).setCell ⟨d, 1, none⟩ (.slice (some ⟨q, 0, none⟩) 0 8192)).setCell ⟨d, 3, none⟩ (.int .i64 0)).setCell ⟨d, 2, none⟩ (.int .i64 0)).drew) := ((((((Chg.refl S w).drewN x).alloc _).drewN y).setCell (.inl (by simpa using h.dS)) _).setCell (.inl (by simpa using h.dS)) _).setCell (.inl (by simpa using h.dS)) _ |>.drew
    have hB : Chg [d] w (((((((w.drewN x).alloc (.cells Z 5)).drewN y).setCell ⟨d, 1, none⟩ (.slice (some ⟨q, 0, none⟩) 0 8192)).setCell ⟨d, 3, none⟩ (.int .i64 0)).setCell ⟨d, 2, none⟩ (.int .i64 0)).drew) := ((((((Chg.refl [d] w).drewN x).alloc _).drewN y).setCell (.inl (by simp)) _).setCell (.inl (by simp)) _).setCell (.inl (by simp)) _ |>.drew
    have hrow : Row (((((((w.drewN x).alloc (.cells Z 5)).drewN y).setCell ⟨d, 1, none⟩ (.slice (some ⟨q, 0, none⟩) 0 8192)).setCell ⟨d, 3, none⟩ (.int .i64 0)).setCell ⟨d, 2, none⟩ (.int .i64 0)).drew) q 5 Z := (((((hZrow x).drewN y).far (by simpa using hqd) _).far (by simpa using hqd) _).far (by simpa using hqd) _).drew
    have hrow2 : RowB (((((((w.drewN x).alloc (.cells Z 5)).drewN y).setCell ⟨d, 1, none⟩ (.slice (some ⟨q, 0, none⟩) 0 8192)).setCell ⟨d, 3, none⟩ (.int .i64 0)).setCell ⟨d, 2, none⟩ (.int .i64 0)).drew) q buf0 := by unfold RowB buf0; rw [← hZ]; exact hrow
    refine ⟨⟨⟨?_, by simp, by simp, by simp, RBytes.empty _ _, fun a ha => ⟨q, by injection ha with ha; exact ha.symm, hqd, by simp⟩, by simp [h.dS], ?_, ?_, h.tot, .inr ⟨rfl, g, rfl, hR.chg hB (by simpa using hgd) (by simpa using h.bS d h.dS), by simp [hgS], hgd, by omega, .inr ⟨q, buf0, rfl, hrow2, buf0_len, rfl, by simp, hqd, Ne.symm hgq⟩⟩⟩, hR.chg hB (by simpa using hgd) (by simpa using h.bS d h.dS), hrow2⟩, hA⟩
    · have hb := (((((hblk.drewN x).alloc (.cells Z 5)).drewN y).set_ 1 (.slice (some ⟨q, 0, none⟩) 0 8192)).set_ 3 (.int .i64 0)).set_ 2 (.int .i64 0) |>.drew
      simpa using hb
    · intro i hi
      rcases List.mem_cons.1 hi with rfl | hi
      · have := hR.le; have := hR.lt; omega
      · exact h.bS i hi
    · intro i hi
      rcases List.mem_cons.1 hi with rfl | hi
      · exact hrow.lt
      · exact Nat.lt_of_lt_of_le (h.lt i hi) hA.size
  have CALL : Hid (∀ Wg, GrownF B d g S sec sk esc line er (c :: rest) f q Wg → ∀ W, W = Wg.drew → Calls Tryd.prog 123 #[.pointer (some ⟨g, 0, none⟩), .slice (some ⟨q, 0, none⟩) 8192 8192] W (GotD B d g q [] buf0 (c :: rest) f (dcs g q 0 8192 0 0 sec sk esc line er) (.slice (some ⟨q, 0, none⟩) 0 8192) W)) := hide fun Wg hG W hW => by
    obtain ⟨a1, a2, a3⟩ := hG
    subst hW
    exact tail_call B d g q (q :: S) 8192 0 0 sec sk esc line er [] buf0 rest c f Wg a1 a2 (by simp [hgS]) hgd (by omega) a3 buf0_len rfl (by simp) hqd (Ne.symm hgq) (by show 4096 ≤ 8192 - 0; omega) 0 rfl
  have END : Hid (∀ Wg, GrownF B d g S sec sk esc line er (c :: rest) f q Wg → Chg S w Wg → ∀ w' m f', m ≤ 8192 - 0 → m ≤ (c :: rest).length → f' < f → Hid (Rdr w' B g ((c :: rest).drop m) f' ∧ RowB w' q ([] ++ (c :: rest).take m ++ buf0.drop (([] : List UInt8).length + m)) ∧ Chg [q, g] Wg.drew w' ∧ Blk w' d 77 (dcs g q 0 8192 0 0 sec sk esc line er)) → ∀ tot, tot = 0 + m →
      MoreP w B d S 0 0 sec sk esc line er [] (c :: rest) f (.returned (.tuple #[])) ((w'.setCell ⟨d, 1, none⟩ (.slice (some ⟨q, 0, none⟩) tot 8192)).drew)) := hide fun Wg hG hC w' m f' h1 h2 h3 h4 tot ht => by
    obtain ⟨a1, a2, a3⟩ := hG
    have hM := tail_end B d g q (q :: S) 8192 0 0 sec sk esc line er [] buf0 (c :: rest) f Wg a1 a2 (by simp [hgS]) hgd (by omega) a3 buf0_len rfl (by simp) hqd (Ne.symm hgq) (by show 4096 ≤ 8192 - 0; omega) 0 rfl w' m f' h1 h2 h3 h4 tot ht
    exact hM.of_grown (r0 := 0) (r1 := 0) (L := []) hC (by omega)
  have HB := hide hblk
  clear h hR hblk hZ hZrow hq
  go_enter Tryd.func90, Tryd.ntmps90
  go_wp2
  go_quiet (fail)
  generalize nq = nq1
  go_wp2
  go_quiet (fail)
  rw [World.drewN_drewN]
  generalize nq1 + nq = x
  have GX := hide (GROWN.out x)
  have hmkx := hmk (w.drewN x) (hsz x)
  have HBx := hide (HB.out.drewN x)
  have hsx := hsz x
  clear GROWN HB hmk hsz
  generalize w.drewN x = W0 at *
  have q0 := HBx.out.cell 0
  have q1 := HBx.out.cell 1
  have q2 := HBx.out.cell 2
  have q3 := HBx.out.cell 3
  have q4 := HBx.out.cell 4
  have HA := hide (HBx.out.alloc (.cells Z 5))
  have a0 := HA.out.cell 0
  have a1 := HA.out.cell 1
  have a2 := HA.out.cell 2
  have a3 := HA.out.cell 3
  have o1 := HA.out.frozen 1
  have o2 := HA.out.frozen 2
  have o3 := HA.out.frozen 3
  simp at q0 q1 q2 q3 q4 a0 a1 a2 a3
  clear c0 c1 c2 c3 c4 HBx HA
  go_wp2
  go_quiet (fail)
  go_wp2
  refine wp_region_quiet_tail 11 (by kernel_rfl) (by kernel_rfl) ?_
  simp only [List.take_succ_cons, List.take_zero, List.drop_succ_cons, List.drop_zero]
  repeat go_big_quiet_step (fail)
  refine wpQuiet_nil ?_
  go_wp2
  obtain ⟨hG, hCg⟩ := GX.out nq
  have CALL2 := hide (fun W hW => CALL.out _ hG W hW)
  have END2 := hide (END.out _ hG hCg)
  have d0 := hG.1.blk.cell 0
  have d1 := hG.1.blk.cell 1
  simp only [List.length_nil, List.getElem?_toArray, List.getElem?_cons_zero, List.getElem?_cons_succ] at d0 d1
  clear CALL END GX hG hCg
  generalize ((((((W0).alloc (.cells Z 5)).drewN nq).setCell ⟨d, 1, none⟩ (.slice (some ⟨q, 0, none⟩) 0 8192)).setCell ⟨d, 3, none⟩ (.int .i64 0)).setCell ⟨d, 2, none⟩ (.int .i64 0)).drew = Wg at *
  go_region_held3 (fun w' => w'.cell? ⟨d, 0, none⟩ = some (.iface 71 (.pointer (some ⟨g, 0, none⟩))) ∧ w'.cell? ⟨d, 1, none⟩ = some (.slice (some ⟨q, 0, none⟩) 0 8192)) (first | exact ⟨d0, d1⟩ | exact ⟨b0, b1⟩) (first | (go_at_call 123; refine (CALL2.out _ rfl).mono ?_; rintro e w1 ⟨m, f', hm1, hm2, hf, rfl, b0, b1, g1, hX⟩))
  clear CALL2
  have hm3 : m ≤ 8192 - 0 := by rw [buf0_len] at hm1; exact hm1
  have E3 := hide (END2.out w1 m f' hm3 hm2 hf hX m (by omega))
  have j2 : (m : Int) ≤ 8192 := by omega
  have j3 : m ≤ 8192 := by omega
  clear END2 hX hm1 hm2 hm3 hf
  go_wp2
  refine wp_region_quiet_tail 15 (by kernel_rfl) (by kernel_rfl) ?_
  simp only [List.take_succ_cons, List.take_zero, List.drop_succ_cons, List.drop_zero]
  repeat go_big_quiet_step (fail)
  refine wpQuiet_nil ?_
  go_wp2
  go_end0
  exact E3.out

set_option maxRecDepth 100000 in
set_option maxHeartbeats 8000000 in
theorem readMore_first_end (B d g : Nat) (S : List Nat) (sec : Int) (sk : Bool) (esc : Value) (line : Int) (er : Value) (ad : Addr) (f : Nat) (w : World)
    (h : DecAt w B d S (.iface 71 (.pointer (some ⟨g, 0, none⟩))) none 0 0 0 false sec sk esc line er [] [] f) (hR : Rdr w B g [] f) (hgS : g ∈ S) (hgd : g ≠ d) (hE : EofAt w B ad) :
    Calls Tryd.prog 90 #[.pointer (some ⟨d, 0, none⟩)] w (MoreP w B d S 0 0 sec sk esc line er [] [] f) := by
  have hblk := h.blk
  simp only [List.length_nil] at hblk
  have c0 := hblk.cell 0
  have c1 := hblk.cell 1
  have c2 := hblk.cell 2
  have c3 := hblk.cell 3
  have c4 := hblk.cell 4
  simp at c0 c1 c2 c3 c4
  have hdlt := h.lt d h.dS
  have hnil := method_rd g
  have hneq := run_neq_err ad
  obtain ⟨q, hq⟩ : ∃ q, q = w.heap.size := ⟨_, rfl⟩
  have hqd : q ≠ d := by omega
  have hgq : g ≠ q := by have := hR.lt; omega
  obtain ⟨Z, hZ⟩ : ∃ Z, Z = (bs (List.replicate 8192 0)).toArray := ⟨_, rfl⟩
  have hmk : ∀ W : World, W.heap.size = q → (Instr.makeSlice 43 (.int .i64 0) (.int .i64 8192)).run Tryd.prog W = .ok (.slice (some ⟨q, 0, none⟩) 0 8192) (W.alloc (.cells Z 5)) := fun W hW => by
    have := run_make_bytes 0 8192 (by omega) (by omega) W
    rw [hZ, ← hW]
    exact this
  have hsz : ∀ x, (w.drewN x).heap.size = q := fun x => hq.symm
  have hZrow : ∀ x, Row ((w.drewN x).alloc (.cells Z 5)) q 5 Z := fun x => (Blk.new_at (w.drewN x) 5 Z (hsz x)).row
  have hcp := run_copy_nil (some ⟨q, 0, none⟩) 0 8192
  have GROWN : Hid (∀ x y, GrownF B d g S sec sk esc line er [] f q (((((((w.drewN x).alloc (.cells Z 5)).drewN y).setCell ⟨d, 1, none⟩ (.slice (some ⟨q, 0, none⟩) 0 8192)).setCell ⟨d, 3, none⟩ (.int .i64 0)).setCell ⟨d, 2, none⟩ (.int .i64 0)).drew) ∧ Chg S w (((((((w.drewN x).alloc (.cells Z 5)).drewN y).setCell ⟨d, 1, none⟩ (.slice (some ⟨q, 0, none⟩) 0 8192)).setCell ⟨d, 3, none⟩ (.int .i64 0)).setCell ⟨d, 2, none⟩ (.int .i64 0)).drew)) := hide fun x y => by
    have hA : Chg S w (((((((w.drewN x).alloc (.cells Z 5)).drewN y).setCell ⟨d, 1, none⟩ (.slice (some ⟨q, 0, none⟩) 0 8192)).setCell ⟨d, 3, none⟩ (.int .i64 0)).setCell ⟨d, 2, none⟩ (.int .i64 0)).drew) := ((((((Chg.refl S w).drewN x).alloc _).drewN y).setCell (.inl (by simpa using h.dS)) _).setCell (.inl (by simpa using h.dS)) _).setCell (.inl (by simpa using h.dS)) _ |>.drew
    have hB : Chg [d] w (((((((w.drewN x).alloc (.cells Z 5)).drewN y).setCell ⟨d, 1, none⟩ (.slice (some ⟨q, 0, none⟩) 0 8192)).setCell ⟨d, 3, none⟩ (.int .i64 0)).setCell ⟨d, 2, none⟩ (.int .i64 0)).drew) := ((((((Chg.refl [d] w).drewN x).alloc _).drewN y).setCell (.inl (by simp)) _).setCell (.inl (by simp)) _).setCell (.inl (by simp)) _ |>.drew
    have hrow : Row (((((((w.drewN x).alloc (.cells Z 5)).drewN y).setCell ⟨d, 1, none⟩ (.slice (some ⟨q, 0, none⟩) 0 8192)).setCell ⟨d, 3, none⟩ (.int .i64 0)).setCell ⟨d, 2, none⟩ (.int .i64 0)).drew) q 5 Z := (((((hZrow x).drewN y).far (by simpa using hqd) _).far (by simpa using hqd) _).far (by simpa using hqd) _).drew
    have hrow2 : RowB (((((((w.drewN x).alloc (.cells Z 5)).drewN y).setCell ⟨d, 1, none⟩ (.slice (some ⟨q, 0, none⟩) 0 8192)).setCell ⟨d, 3, none⟩ (.int .i64 0)).setCell ⟨d, 2, none⟩ (.int .i64 0)).drew) q buf0 := by unfold RowB buf0; rw [← hZ]; exact hrow
    refine ⟨⟨⟨?_, by simp, by simp, by simp, RBytes.empty _ _, fun a ha => ⟨q, by injection ha with ha; exact ha.symm, hqd, by simp⟩, by simp [h.dS], ?_, ?_, h.tot, .inr ⟨rfl, g, rfl, hR.chg hB (by simpa using hgd) (by simpa using h.bS d h.dS), by simp [hgS], hgd, by omega, .inr ⟨q, buf0, rfl, hrow2, buf0_len, rfl, by simp, hqd, Ne.symm hgq⟩⟩⟩, hR.chg hB (by simpa using hgd) (by simpa using h.bS d h.dS), hrow2⟩, hA⟩
    · have hb := (((((hblk.drewN x).alloc (.cells Z 5)).drewN y).set_ 1 (.slice (some ⟨q, 0, none⟩) 0 8192)).set_ 3 (.int .i64 0)).set_ 2 (.int .i64 0) |>.drew
      simpa using hb
    · intro i hi
      rcases List.mem_cons.1 hi with rfl | hi
      · have := hR.le; have := hR.lt; omega
      · exact h.bS i hi
    · intro i hi
      rcases List.mem_cons.1 hi with rfl | hi
      · exact hrow.lt
      · exact Nat.lt_of_lt_of_le (h.lt i hi) hA.size
  have CALL : Hid (∀ Wg, GrownF B d g S sec sk esc line er [] f q Wg ∧ Chg S w Wg → ∀ W, W = Wg.drew → Calls Tryd.prog 123 #[.pointer (some ⟨g, 0, none⟩), .slice (some ⟨q, 0, none⟩) 8192 8192] W (EndD d (dcs g q 0 8192 0 0 sec sk esc line er) (.iface 71 (.pointer (some ⟨g, 0, none⟩))) (.slice (some ⟨q, 0, none⟩) 0 8192) ad W)) := hide fun Wg hG W hW => by
    obtain ⟨⟨a1, a2, a3⟩, hC⟩ := hG
    subst hW
    exact tail_callE B d g q (q :: S) 8192 0 0 sec sk esc line er [] [] f Wg ad a1 a2 (by simp [hgS]) hgd hqd (by simp) (by omega) (by show 4096 ≤ 8192 - 0; omega) (hE.chg hC h.bS) 0 rfl _ _ _
  have END : Hid (∀ Wg, GrownF B d g S sec sk esc line er [] f q Wg → Chg S w Wg → ∀ w', Hid (Chg [] Wg.drew w' ∧ Blk w' d 77 (dcs g q 0 8192 0 0 sec sk esc line er)) →
      MoreP w B d S 0 0 sec sk esc line er [] [] f (.returned (.tuple #[])) (((w'.setCell ⟨d, 1, none⟩ (.slice (some ⟨q, 0, none⟩) 0 8192)).setCell ⟨d, 4, none⟩ (.bool true)).drew)) := hide fun Wg hG hC w' h4 => by
    obtain ⟨a1, a2, a3⟩ := hG
    have hM := tail_endE B d g q (q :: S) 8192 0 0 sec sk esc line er [] [] f Wg ad a1 a2 (by simp [hgS]) hgd hqd (by simp) (by omega) (by show 4096 ≤ 8192 - 0; omega) (hE.chg hC h.bS) 0 rfl w' h4
    exact hM.of_grown (r0 := 0) (r1 := 0) (L := []) hC (by omega)
  have HB := hide hblk
  clear h hR hblk hZ hZrow hq hE
  go_enter Tryd.func90, Tryd.ntmps90
  go_wp2
  go_quiet (fail)
  generalize nq = nq1
  go_wp2
  go_quiet (fail)
  rw [World.drewN_drewN]
  generalize nq1 + nq = x
  have GX := hide (GROWN.out x)
  have hmkx := hmk (w.drewN x) (hsz x)
  have HBx := hide (HB.out.drewN x)
  have hsx := hsz x
  clear GROWN HB hmk hsz
  generalize w.drewN x = W0 at *
  have q0 := HBx.out.cell 0
  have q1 := HBx.out.cell 1
  have q2 := HBx.out.cell 2
  have q3 := HBx.out.cell 3
  have q4 := HBx.out.cell 4
  have HA := hide (HBx.out.alloc (.cells Z 5))
  have a0 := HA.out.cell 0
  have a1 := HA.out.cell 1
  have a2 := HA.out.cell 2
  have a3 := HA.out.cell 3
  have o1 := HA.out.frozen 1
  have o2 := HA.out.frozen 2
  have o3 := HA.out.frozen 3
  simp at q0 q1 q2 q3 q4 a0 a1 a2 a3
  clear c0 c1 c2 c3 c4 HBx HA
  go_wp2
  go_quiet (fail)
  go_wp2
  refine wp_region_quiet_tail 11 (by kernel_rfl) (by kernel_rfl) ?_
  simp only [List.take_succ_cons, List.take_zero, List.drop_succ_cons, List.drop_zero]
  repeat go_big_quiet_step (fail)
  refine wpQuiet_nil ?_
  go_wp2
  obtain ⟨hG, hCg⟩ := GX.out nq
  have CALL2 := hide (fun W hW => CALL.out _ ⟨hG, hCg⟩ W hW)
  have END2 := hide (END.out _ hG hCg)
  have d0 := hG.1.blk.cell 0
  have d1 := hG.1.blk.cell 1
  simp only [List.length_nil, List.getElem?_toArray, List.getElem?_cons_zero, List.getElem?_cons_succ] at d0 d1
  clear CALL END GX hG hCg
  generalize ((((((W0).alloc (.cells Z 5)).drewN nq).setCell ⟨d, 1, none⟩ (.slice (some ⟨q, 0, none⟩) 0 8192)).setCell ⟨d, 3, none⟩ (.int .i64 0)).setCell ⟨d, 2, none⟩ (.int .i64 0)).drew = Wg at *
  go_region_held3 (fun w' => w'.cell? ⟨d, 0, none⟩ = some (.iface 71 (.pointer (some ⟨g, 0, none⟩))) ∧ w'.cell? ⟨d, 1, none⟩ = some (.slice (some ⟨q, 0, none⟩) 0 8192)) (first | exact ⟨d0, d1⟩ | exact ⟨b0, b1⟩) (first | (go_at_call 123; refine (CALL2.out _ rfl).mono ?_; rintro e w1 ⟨rfl, b0, b1, g1, b4, g4, bE, hX⟩))
  clear CALL2
  have E3 := hide (END2.out w1 hX)
  clear END2 hX
  go_wp2
  refine wp_region_quiet_tail 15 (by kernel_rfl) (by kernel_rfl) ?_
  simp only [List.take_succ_cons, List.take_zero, List.drop_succ_cons, List.drop_zero]
  repeat go_big_quiet_step (fail)
  refine wpQuiet_nil ?_
  go_wp2
  go_end0
  exact E3.out

end Go.Proofs.YtejngpbeogaapaaDoor
