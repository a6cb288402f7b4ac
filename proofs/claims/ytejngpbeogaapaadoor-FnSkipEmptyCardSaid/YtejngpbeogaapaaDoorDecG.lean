/-
  readMore where the buffer grows.
-/
import Derived.Test.YtejngpbeogaapaaDoorDec
namespace Go.Proofs.YtejngpbeogaapaaDoor
open Go.RowKit
set_option linter.unusedVariables false
set_option linter.unusedSimpArgs false

/-- The decoder with its buffer grown. -/
def Grown_ (B d g : Nat) (S : List Nat) (N1 r0 r1 : Nat) (sec : Int) (sk : Bool) (esc : Value) (line : Int) (er : Value) (L rest : List UInt8) (f : Nat) (k : Nat) (W : World) : Prop :=
  DecAt W B d (k :: S) (.iface 71 (.pointer (some ⟨g, 0, none⟩))) (some ⟨k, 0, none⟩) N1 0 (r1 - r0) false sec sk esc line er (L.drop r0) rest f ∧ Rdr W B g rest f ∧
    RowB W k (L.drop r0 ++ List.replicate (N1 - (L.drop r0).length) 0)

theorem MoreP.of_grown {w W : World} {B d k : Nat} {S : List Nat} {r0 r1 : Nat} {sec : Int} {sk : Bool} {esc : Value} {line : Int} {er : Value} {L rest : List UInt8} {f : Nat} {e : Ending} {w' : World}
    (h : MoreP W B d (k :: S) 0 (r1 - r0) sec sk esc line er (L.drop r0) rest f e w') (hc : Chg S w W) (hk : w.heap.size ≤ k) : MoreP w B d S r0 r1 sec sk esc line er L rest f e w' := by
  obtain ⟨h1, S', rd, A', cap', r0', r1', cp', L', rest', f', h2, h3, h4, h5, h6, h7, h8⟩ := h
  refine ⟨h1, S', rd, A', cap', r0', r1', cp', L', rest', f', h2, by omega, by simpa using h4, by simpa using h5, h6, hc.then h7 ?_, fun i hi => ?_⟩
  · intro i hi
    rcases List.mem_cons.1 hi with rfl | hi
    · exact .inr hk
    · exact .inl hi
  · rcases h8 i hi with h9 | h9
    · rcases List.mem_cons.1 h9 with rfl | h9
      · exact .inr hk
      · exact .inl h9
    · exact .inr (Nat.le_trans hc.size h9)

theorem ovr_nil' (cur : Array Value) (o : Nat) : ovr cur o (bs []) = cur := by simp [ovr, bs]
theorem World.cell?_drew' (w : World) (a : Addr) : w.drew.cell? a = w.cell? a := rfl

set_option maxRecDepth 100000 in
set_option maxHeartbeats 8000000 in
theorem readMore_grow_some (B d g k : Nat) (S : List Nat) (cap r0 r1 : Nat) (sec : Int) (sk : Bool) (esc : Value) (line : Int) (er : Value) (L rest : List UInt8) (c : UInt8) (f : Nat) (w : World)
    (h : DecAt w B d S (.iface 71 (.pointer (some ⟨g, 0, none⟩))) (some ⟨k, 0, none⟩) cap r0 r1 false sec sk esc line er L (c :: rest) f) (hR : Rdr w B g (c :: rest) f) (hgS : g ∈ S) (hgd : g ≠ d) (hcap : cap ≤ 4194304)
    (hkS : k ∈ S) (hkd : k ≠ d) (hkg : k ≠ g) (hroom : cap - L.length < 4096) :
    Calls Tryd.prog 90 #[.pointer (some ⟨d, 0, none⟩)] w (MoreP w B d S r0 r1 sec sk esc line er L (c :: rest) f) := by
  obtain ⟨n, hn⟩ : ∃ n, n = L.length := ⟨_, rfl⟩
  have hblk := h.blk
  rw [← hn] at hblk
  have c0 := hblk.cell 0
  have c1 := hblk.cell 1
  have c2 := hblk.cell 2
  have c3 := hblk.cell 3
  have c4 := hblk.cell 4
  simp at c0 c1 c2 c3 c4
  have h0 := h.le0
  have h1 := h.le1
  have h2 := h.lec
  have h3 := h.tot
  have hdlt := h.lt d h.dS
  have hnil := method_rd g
  obtain ⟨u, hu⟩ : ∃ u, u = n - r0 := ⟨_, rfl⟩
  obtain ⟨r2, hr2⟩ : ∃ r2, r2 = r1 - r0 := ⟨_, rfl⟩
  obtain ⟨N1, hN1⟩ : ∃ N1, N1 = if (cap : Int) * 2 - u < 8192 then u + 8192 else 2 * cap := ⟨_, rfl⟩
  obtain ⟨q, hq⟩ : ∃ q, q = w.heap.size := ⟨_, rfl⟩
  have i1 : (cap : Int) - (n : Int) < 4096 := by omega
  have e1 : (n : Int) - (r0 : Int) = (u : Int) := by omega
  have e2 : n - r0 = u := hu.symm
  have e3 : (r1 : Int) - (r0 : Int) = (r2 : Int) := by omega
  have i2 : u + 4096 ≤ N1 := by rw [hN1]; split <;> omega
  have i3 : N1 ≤ 4194304 := by rw [hN1]; split <;> omega
  have hmk0 := run_make_bytes u N1 (by omega) (by omega)
  have i4 : r0 ≤ n := by omega
  have i5 : (r0 : Int) ≤ (n : Int) := by omega
  have i6 : (n : Int) ≤ (cap : Int) := by omega
  have i7 : r0 ≤ cap := by omega
  have i8 : u ≤ N1 := by omega
  have i9 : (u : Int) ≤ (N1 : Int) := by omega
  have i10 : ¬ N1 = u := by omega
  have i11 : (r2 : Int) ≤ 1048576 := by omega
  have i12 : (0 : Int) ≤ (r2 : Int) := by omega
  have hqd : q ≠ d := by omega
  have hgq : g ≠ q := by have := hR.lt; omega
  have hul : (L.drop r0).length = u := by rw [List.length_drop, ← hn]; exact hu.symm
  have HU := hide hul
  have HLEN : Hid ((L.drop r0 ++ List.replicate (N1 - u) 0).length = N1) := hide (by rw [List.length_append, hul, List.length_replicate]; omega)
  have HQ := hide hq
  obtain ⟨Z, hZ⟩ : ∃ Z, Z = (bs (List.replicate N1 0)).toArray := ⟨_, rfl⟩
  have hmk : ∀ W : World, W.heap.size = q → (Instr.makeSlice 43 (.int .i64 u) (.int .i64 N1)).run Tryd.prog W = .ok (.slice (some ⟨q, 0, none⟩) u N1) (W.alloc (.cells Z 5)) := fun W hW => by rw [hmk0, hZ, hW]
  have hsz : ∀ x, (w.drewN x).heap.size = q := fun x => hq.symm
  -- the row behind the copy
  obtain ⟨RW, hRW⟩ : ∃ RW, RW = (bs (L.drop r0 ++ List.replicate (N1 - u) 0)).toArray := ⟨_, rfl⟩
  have hZrow : ∀ x, Row ((w.drewN x).alloc (.cells Z 5)).drew q 5 Z := fun x => (Blk.new_at (w.drewN x) 5 Z (hsz x)).row
  have hovr : ovr Z 0 (bs (L.drop r0)) = RW := by
    rw [hZ, ovr_bs _ _ _ (by rw [hul]; simp; omega), hRW, hul]
    simp
  have COPY : Hid (∀ x, (¬ cap = r0 → (Builtin.copy_ #[43, 43] 3 #[.slice (some ⟨q, 0, none⟩) u N1, .slice (some ⟨k, r0, none⟩) u (cap - r0)]).run Tryd.prog ((w.drewN x).alloc (.cells Z 5)).drew = .ok (goInt u) (((w.drewN x).alloc (.cells Z 5)).drew.setRow q RW)) ∧
      (cap = r0 → (Builtin.copy_ #[43, 43] 3 #[.slice (some ⟨q, 0, none⟩) u N1, .slice (some ⟨k, 0, none⟩) u 0]).run Tryd.prog ((w.drewN x).alloc (.cells Z 5)).drew = .ok (goInt u) (((w.drewN x).alloc (.cells Z 5)).drew.setRow q RW))) := hide fun x => by
    have hkl := h.lt k hkS
    constructor
    · intro _
      have hc := run_copy_sl ((w.drewN x).alloc (.cells Z 5)).drew q 0 u N1 u (cap - r0) u ⟨k, r0, none⟩ (L.drop r0) Z 5 (hZrow x) (fun j hj => by
        have hj2 : r0 + j < L.length := by rw [List.length_drop] at hj; omega
        have := h.bytes.at_ hj2
        obtain ⟨a, ha, _, hcl⟩ := this
        injection ha with ha
        subst ha
        have hadd : (⟨k, r0, none⟩ : Addr).add j = (⟨k, 0, none⟩ : Addr).add (r0 + j) := by
          unfold Addr.add; split <;> split <;> simp_all
        rw [hadd, World.cell?_drew', World.cell?_alloc_lt _ _ _ (by rw [block_of_add]; exact hkl)]
        simpa using hcl) hul (by show u = min u u; omega) (by rw [hZ, bs_size]; simp; omega)
      rw [List.take_of_length_le (by omega), hovr] at hc
      exact hc
    · intro hcr
      have hL0 : L.drop r0 = [] := List.eq_nil_of_length_eq_zero (by omega)
      have hc := run_copy_sl ((w.drewN x).alloc (.cells Z 5)).drew q 0 u N1 u 0 u ⟨k, 0, none⟩ (L.drop r0) Z 5 (hZrow x) (fun j hj => by rw [hL0] at hj; simp at hj) hul (by show u = min u u; omega) (by rw [hZ, bs_size]; simp; omega)
      rw [List.take_of_length_le (by omega), hovr] at hc
      exact hc
  have GROWN : Hid (∀ x, Grown_ B d g S N1 r0 r1 sec sk esc line er L (c :: rest) f q (((((((w.drewN x).alloc (.cells Z 5)).drew.setRow q RW).setCell ⟨d, 1, none⟩ (.slice (some ⟨q, 0, none⟩) u N1)).setCell ⟨d, 3, none⟩ (.int .i64 (r2 : Nat))).setCell ⟨d, 2, none⟩ (.int .i64 0)).drew) ∧ Chg S w (((((((w.drewN x).alloc (.cells Z 5)).drew.setRow q RW).setCell ⟨d, 1, none⟩ (.slice (some ⟨q, 0, none⟩) u N1)).setCell ⟨d, 3, none⟩ (.int .i64 (r2 : Nat))).setCell ⟨d, 2, none⟩ (.int .i64 0)).drew)) := hide fun x => by
    have hA : Chg S w (((((((w.drewN x).alloc (.cells Z 5)).drew.setRow q RW).setCell ⟨d, 1, none⟩ (.slice (some ⟨q, 0, none⟩) u N1)).setCell ⟨d, 3, none⟩ (.int .i64 (r2 : Nat))).setCell ⟨d, 2, none⟩ (.int .i64 0)).drew) := ((((((Chg.refl S w).drewN x).alloc _).drew.setRow (.inr (by omega)) _).setCell (.inl (by simpa using h.dS)) _).setCell (.inl (by simpa using h.dS)) _).setCell (.inl (by simpa using h.dS)) _ |>.drew
    have hB : Chg [d] w (((((((w.drewN x).alloc (.cells Z 5)).drew.setRow q RW).setCell ⟨d, 1, none⟩ (.slice (some ⟨q, 0, none⟩) u N1)).setCell ⟨d, 3, none⟩ (.int .i64 (r2 : Nat))).setCell ⟨d, 2, none⟩ (.int .i64 0)).drew) := ((((((Chg.refl [d] w).drewN x).alloc _).drew.setRow (.inr (by omega)) _).setCell (.inl (by simp)) _).setCell (.inl (by simp)) _).setCell (.inl (by simp)) _ |>.drew
    have hrow : Row (((((((w.drewN x).alloc (.cells Z 5)).drew.setRow q RW).setCell ⟨d, 1, none⟩ (.slice (some ⟨q, 0, none⟩) u N1)).setCell ⟨d, 3, none⟩ (.int .i64 (r2 : Nat))).setCell ⟨d, 2, none⟩ (.int .i64 0)).drew) q 5 RW := (((((hZrow x).setRow_ RW (by rw [hRW, hZ, bs_size, bs_size, HLEN.out]; simp)).far (by simpa using hqd) _).far (by simpa using hqd) _).far (by simpa using hqd) _).drew
    have hrow2 : RowB (((((((w.drewN x).alloc (.cells Z 5)).drew.setRow q RW).setCell ⟨d, 1, none⟩ (.slice (some ⟨q, 0, none⟩) u N1)).setCell ⟨d, 3, none⟩ (.int .i64 (r2 : Nat))).setCell ⟨d, 2, none⟩ (.int .i64 0)).drew) q (L.drop r0 ++ List.replicate (N1 - u) 0) := by unfold RowB; rw [← hRW]; exact hrow
    have hlenR := HLEN.out
    refine ⟨⟨⟨?_, by omega, by rw [hul]; omega, by rw [hul]; omega, ?_, fun a ha => ⟨q, by injection ha with ha; exact ha.symm, hqd, by simp⟩, by simp [h.dS], ?_, ?_, by rw [hul]; omega, .inr ⟨rfl, g, rfl, hR.chg hB (by simpa using hgd) (by simpa using h.bS d h.dS), by simp [hgS], hgd, i3, .inr ⟨q, _, rfl, hrow2, hlenR, ?_, by simp, hqd, Ne.symm hgq⟩⟩⟩, hR.chg hB (by simpa using hgd) (by simpa using h.bS d h.dS), by rw [hul]; exact hrow2⟩, hA⟩
    · have hb := ((((((hblk.drewN x).alloc (.cells Z 5)).drew.setRow_far (Ne.symm hqd) RW).set_ 1 (.slice (some ⟨q, 0, none⟩) u N1)).set_ 3 (.int .i64 (r2 : Nat))).set_ 2 (.int .i64 0)).drew
      rw [hul, ← hr2]
      simpa using hb
    · have := hrow2.rbytes (L.drop r0).length
      rwa [List.take_append_of_le_length (Nat.le_refl _), List.take_length] at this
    · intro i hi
      rcases List.mem_cons.1 hi with rfl | hi
      · have := hR.le; have := hR.lt; have := h.bS d h.dS; omega
      · exact h.bS i hi
    · intro i hi
      rcases List.mem_cons.1 hi with rfl | hi
      · exact hrow.lt
      · exact Nat.lt_of_lt_of_le (h.lt i hi) hA.size
    · rw [List.take_append_of_le_length (Nat.le_refl _), List.take_length]
  have CALL : Hid (∀ x Wg, Grown_ B d g S N1 r0 r1 sec sk esc line er L (c :: rest) f q Wg → ∀ W, W = Wg.drew → x = 0 → Calls Tryd.prog 123 #[.pointer (some ⟨g, 0, none⟩), .slice (some ⟨q, u, none⟩) (N1 - u) (N1 - u)] W (GotD B d g q (L.drop r0) (L.drop r0 ++ List.replicate (N1 - u) 0) (c :: rest) f (dcs g q u N1 0 r2 sec sk esc line er) (.slice (some ⟨q, 0, none⟩) u N1) W)) := hide fun x Wg hG W hW _ => by
    obtain ⟨a1, a2, a3⟩ := hG
    rw [hul] at a3
    rw [← hr2] at a1
    subst hW
    exact tail_call B d g q (q :: S) N1 0 r2 sec sk esc line er (L.drop r0) _ rest c f Wg a1 a2 (by simp [hgS]) hgd i3 a3 HLEN.out (by rw [List.take_append_of_le_length (Nat.le_refl _), List.take_length]) (by simp) hqd (Ne.symm hgq) (by rw [hul]; omega) u hul.symm
  have END : Hid (∀ Wg, Grown_ B d g S N1 r0 r1 sec sk esc line er L (c :: rest) f q Wg → Chg S w Wg → ∀ w' m f', m ≤ N1 - u → m ≤ (c :: rest).length → f' < f → Hid (Rdr w' B g ((c :: rest).drop m) f' ∧ RowB w' q (L.drop r0 ++ (c :: rest).take m ++ (L.drop r0 ++ List.replicate (N1 - u) 0).drop ((L.drop r0).length + m)) ∧ Chg [q, g] Wg.drew w' ∧ Blk w' d 77 (dcs g q u N1 0 r2 sec sk esc line er)) → ∀ tot, tot = u + m →
      MoreP w B d S r0 r1 sec sk esc line er L (c :: rest) f (.returned (.tuple #[])) ((w'.setCell ⟨d, 1, none⟩ (.slice (some ⟨q, 0, none⟩) tot N1)).drew)) := hide fun Wg hG hC w' m f' h1 h2 h3 h4 tot ht => by
    obtain ⟨a1, a2, a3⟩ := hG
    rw [hul] at a3
    rw [← hr2] at a1
    have hM := tail_end B d g q (q :: S) N1 0 r2 sec sk esc line er (L.drop r0) _ (c :: rest) f Wg a1 a2 (by simp [hgS]) hgd i3 a3 HLEN.out (by rw [List.take_append_of_le_length (Nat.le_refl _), List.take_length]) (by simp) hqd (Ne.symm hgq) (by rw [hul]; omega) u hul.symm w' m f' h1 h2 h3 h4 tot ht
    rw [hr2] at hM
    exact hM.of_grown hC (by omega)
  have HB := hide hblk
  have hNa : (cap : Int) * 2 - (u : Int) < 8192 → (u : Int) + 8192 = (N1 : Int) := fun ht => by rw [hN1, if_pos ht]; omega
  have hNb : ¬ (cap : Int) * 2 - (u : Int) < 8192 → (cap : Int) * 2 = (N1 : Int) := fun ht => by rw [hN1, if_neg ht]; omega
  have hcases : (cap : Int) * 2 - (u : Int) < 8192 ∨ ¬ (cap : Int) * 2 - (u : Int) < 8192 := Classical.em _
  rcases hcases with ht | ht
  · have hNe := hNa ht
    clear hNa hNb h hR hblk hn hN1 hu hul h0 h1 h2 h3 hr2 hq hRW hZ hZrow hovr i2 i3 hmk0
    by_cases hcr : cap = r0
    · obtain rfl : r0 = cap := hcr.symm
      clear hcr
      go_enter Tryd.func90, Tryd.ntmps90
      go_wp2
      go_quiet (fail)
      generalize nq = nq1
      go_wp2
      go_quiet (fail)
      rw [World.drewN_drewN]
      generalize nq1 + nq = x
      have GX := hide (GROWN.out x)
      have CPX := hide (COPY.out x)
      have hmkx := hmk (w.drewN x) (hsz x)
      have HBx := hide (HB.out.drewN x)
      have hsx := hsz x
      clear COPY GROWN HB hmk hsz
      generalize w.drewN x = W0 at *
      have hcp := CPX.out.2 (by trivial)
      clear CPX
      have QB := hide ((HBx.out.alloc (.cells Z 5)).drew.setRow_far (Ne.symm hqd) RW)
      have q0 := HBx.out.cell 0
      have q1 := HBx.out.cell 1
      have q2 := HBx.out.cell 2
      have q3 := HBx.out.cell 3
      have q4 := HBx.out.cell 4
      simp only [List.getElem?_toArray, List.getElem?_cons_zero, List.getElem?_cons_succ] at q0 q1 q2 q3 q4
      have p0 := QB.out.cell 0
      have p1 := QB.out.cell 1
      have p2 := QB.out.cell 2
      have p3 := QB.out.cell 3
      simp only [List.getElem?_toArray, List.getElem?_cons_zero, List.getElem?_cons_succ] at p0 p1 p2 p3
      have o1 := QB.out.frozen 1
      have o2 := QB.out.frozen 2
      have o3 := QB.out.frozen 3
      have a0 := (HBx.out.alloc (.cells Z 5)).cell 0
      have a1 := (HBx.out.alloc (.cells Z 5)).cell 1
      have a2 := (HBx.out.alloc (.cells Z 5)).cell 2
      simp only [List.getElem?_toArray, List.getElem?_cons_zero, List.getElem?_cons_succ] at a0 a1 a2
      clear c0 c1 c2 c3 c4
      clear HBx QB
      go_wp2
      refine wp_region_quiet_tail 10 (by kernel_rfl) (by kernel_rfl) ?_
      simp only [List.take_succ_cons, List.take_zero, List.drop_succ_cons, List.drop_zero]
      repeat go_big_quiet_step (fail)
      refine wpQuiet_nil ?_
      go_wp2
      refine wp_region_quiet_tail 11 (by kernel_rfl) (by kernel_rfl) ?_
      simp only [List.take_succ_cons, List.take_zero, List.drop_succ_cons, List.drop_zero]
      repeat go_big_quiet_step (fail)
      refine wpQuiet_nil ?_
      go_wp2
      obtain ⟨hG, hCg⟩ := GX.out
      have CALL2 := hide (fun W hW => CALL.out 0 _ hG W hW rfl)
      have END2 := hide (END.out _ hG hCg)
      have d0 := hG.1.blk.cell 0
      have d1 := hG.1.blk.cell 1
      rw [HU.out] at d1
      simp only [List.getElem?_toArray, List.getElem?_cons_zero, List.getElem?_cons_succ] at d0 d1
      clear CALL END GX hG hCg
      generalize (((((W0.alloc (.cells Z 5)).drew.setRow q RW).setCell ⟨d, 1, none⟩ (.slice (some ⟨q, 0, none⟩) u N1)).setCell ⟨d, 3, none⟩ (.int .i64 (r2 : Nat))).setCell ⟨d, 2, none⟩ (.int .i64 0)).drew = Wg at *
      go_region_held3 (fun w' => w'.cell? ⟨d, 0, none⟩ = some (.iface 71 (.pointer (some ⟨g, 0, none⟩))) ∧ w'.cell? ⟨d, 1, none⟩ = some (.slice (some ⟨q, 0, none⟩) u N1)) (first | exact ⟨d0, d1⟩ | exact ⟨b0, b1⟩) (first | (go_at_call 123; refine (CALL2.out _ rfl).mono ?_; rintro e w1 ⟨m, f', hm1, hm2, hf, rfl, b0, b1, g1, hX⟩))
      clear CALL2
      obtain ⟨tot, htot⟩ : ∃ tot, tot = u + m := ⟨_, rfl⟩
      have hm3 : m ≤ N1 - u := by have := HLEN.out; have := HU.out; omega
      have E3 := hide (END2.out w1 m f' hm3 hm2 hf hX tot htot)
      have j1 : (u : Int) + (m : Int) = (tot : Int) := by omega
      have j2 : (tot : Int) ≤ (N1 : Int) := by omega
      have j3 : tot ≤ N1 := by omega
      clear END2 hX hm1 hm2 hm3 htot hf
      go_wp2
      refine wp_region_quiet_tail 15 (by kernel_rfl) (by kernel_rfl) ?_
      simp only [List.take_succ_cons, List.take_zero, List.drop_succ_cons, List.drop_zero]
      repeat go_big_quiet_step (fail)
      refine wpQuiet_nil ?_
      go_wp2
      go_end0
      exact E3.out
    · go_enter Tryd.func90, Tryd.ntmps90
      go_wp2
      go_quiet (fail)
      generalize nq = nq1
      go_wp2
      go_quiet (fail)
      rw [World.drewN_drewN]
      generalize nq1 + nq = x
      have GX := hide (GROWN.out x)
      have CPX := hide (COPY.out x)
      have hmkx := hmk (w.drewN x) (hsz x)
      have HBx := hide (HB.out.drewN x)
      have hsx := hsz x
      clear COPY GROWN HB hmk hsz
      generalize w.drewN x = W0 at *
      have hcp := CPX.out.1 hcr
      clear CPX
      have QB := hide ((HBx.out.alloc (.cells Z 5)).drew.setRow_far (Ne.symm hqd) RW)
      have q0 := HBx.out.cell 0
      have q1 := HBx.out.cell 1
      have q2 := HBx.out.cell 2
      have q3 := HBx.out.cell 3
      have q4 := HBx.out.cell 4
      simp only [List.getElem?_toArray, List.getElem?_cons_zero, List.getElem?_cons_succ] at q0 q1 q2 q3 q4
      have p0 := QB.out.cell 0
      have p1 := QB.out.cell 1
      have p2 := QB.out.cell 2
      have p3 := QB.out.cell 3
      simp only [List.getElem?_toArray, List.getElem?_cons_zero, List.getElem?_cons_succ] at p0 p1 p2 p3
      have o1 := QB.out.frozen 1
      have o2 := QB.out.frozen 2
      have o3 := QB.out.frozen 3
      have a0 := (HBx.out.alloc (.cells Z 5)).cell 0
      have a1 := (HBx.out.alloc (.cells Z 5)).cell 1
      have a2 := (HBx.out.alloc (.cells Z 5)).cell 2
      simp only [List.getElem?_toArray, List.getElem?_cons_zero, List.getElem?_cons_succ] at a0 a1 a2
      clear c0 c1 c2 c3 c4
      clear HBx QB
      go_wp2
      refine wp_region_quiet_tail 10 (by kernel_rfl) (by kernel_rfl) ?_
      simp only [List.take_succ_cons, List.take_zero, List.drop_succ_cons, List.drop_zero]
      repeat go_big_quiet_step (fail)
      refine wpQuiet_nil ?_
      go_wp2
      refine wp_region_quiet_tail 11 (by kernel_rfl) (by kernel_rfl) ?_
      simp only [List.take_succ_cons, List.take_zero, List.drop_succ_cons, List.drop_zero]
      repeat go_big_quiet_step (fail)
      refine wpQuiet_nil ?_
      go_wp2
      obtain ⟨hG, hCg⟩ := GX.out
      have CALL2 := hide (fun W hW => CALL.out 0 _ hG W hW rfl)
      have END2 := hide (END.out _ hG hCg)
      have d0 := hG.1.blk.cell 0
      have d1 := hG.1.blk.cell 1
      rw [HU.out] at d1
      simp only [List.getElem?_toArray, List.getElem?_cons_zero, List.getElem?_cons_succ] at d0 d1
      clear CALL END GX hG hCg
      generalize (((((W0.alloc (.cells Z 5)).drew.setRow q RW).setCell ⟨d, 1, none⟩ (.slice (some ⟨q, 0, none⟩) u N1)).setCell ⟨d, 3, none⟩ (.int .i64 (r2 : Nat))).setCell ⟨d, 2, none⟩ (.int .i64 0)).drew = Wg at *
      go_region_held3 (fun w' => w'.cell? ⟨d, 0, none⟩ = some (.iface 71 (.pointer (some ⟨g, 0, none⟩))) ∧ w'.cell? ⟨d, 1, none⟩ = some (.slice (some ⟨q, 0, none⟩) u N1)) (first | exact ⟨d0, d1⟩ | exact ⟨b0, b1⟩) (first | (go_at_call 123; refine (CALL2.out _ rfl).mono ?_; rintro e w1 ⟨m, f', hm1, hm2, hf, rfl, b0, b1, g1, hX⟩))
      clear CALL2
      obtain ⟨tot, htot⟩ : ∃ tot, tot = u + m := ⟨_, rfl⟩
      have hm3 : m ≤ N1 - u := by have := HLEN.out; have := HU.out; omega
      have E3 := hide (END2.out w1 m f' hm3 hm2 hf hX tot htot)
      have j1 : (u : Int) + (m : Int) = (tot : Int) := by omega
      have j2 : (tot : Int) ≤ (N1 : Int) := by omega
      have j3 : tot ≤ N1 := by omega
      clear END2 hX hm1 hm2 hm3 htot hf
      go_wp2
      refine wp_region_quiet_tail 15 (by kernel_rfl) (by kernel_rfl) ?_
      simp only [List.take_succ_cons, List.take_zero, List.drop_succ_cons, List.drop_zero]
      repeat go_big_quiet_step (fail)
      refine wpQuiet_nil ?_
      go_wp2
      go_end0
      exact E3.out
  · have hNe := hNb ht
    clear hNa hNb h hR hblk hn hN1 hu hul h0 h1 h2 h3 hr2 hq hRW hZ hZrow hovr i2 i3 hmk0
    by_cases hcr : cap = r0
    · obtain rfl : r0 = cap := hcr.symm
      clear hcr
      go_enter Tryd.func90, Tryd.ntmps90
      go_wp2
      go_quiet (fail)
      generalize nq = nq1
      go_wp2
      go_quiet (fail)
      rw [World.drewN_drewN]
      generalize nq1 + nq = x
      have GX := hide (GROWN.out x)
      have CPX := hide (COPY.out x)
      have hmkx := hmk (w.drewN x) (hsz x)
      have HBx := hide (HB.out.drewN x)
      have hsx := hsz x
      clear COPY GROWN HB hmk hsz
      generalize w.drewN x = W0 at *
      have hcp := CPX.out.2 (by trivial)
      clear CPX
      have QB := hide ((HBx.out.alloc (.cells Z 5)).drew.setRow_far (Ne.symm hqd) RW)
      have q0 := HBx.out.cell 0
      have q1 := HBx.out.cell 1
      have q2 := HBx.out.cell 2
      have q3 := HBx.out.cell 3
      have q4 := HBx.out.cell 4
      simp only [List.getElem?_toArray, List.getElem?_cons_zero, List.getElem?_cons_succ] at q0 q1 q2 q3 q4
      have p0 := QB.out.cell 0
      have p1 := QB.out.cell 1
      have p2 := QB.out.cell 2
      have p3 := QB.out.cell 3
      simp only [List.getElem?_toArray, List.getElem?_cons_zero, List.getElem?_cons_succ] at p0 p1 p2 p3
      have o1 := QB.out.frozen 1
      have o2 := QB.out.frozen 2
      have o3 := QB.out.frozen 3
      have a0 := (HBx.out.alloc (.cells Z 5)).cell 0
      have a1 := (HBx.out.alloc (.cells Z 5)).cell 1
      have a2 := (HBx.out.alloc (.cells Z 5)).cell 2
      simp only [List.getElem?_toArray, List.getElem?_cons_zero, List.getElem?_cons_succ] at a0 a1 a2
      clear c0 c1 c2 c3 c4
      clear HBx QB
      go_wp2
      refine wp_region_quiet_tail 10 (by kernel_rfl) (by kernel_rfl) ?_
      simp only [List.take_succ_cons, List.take_zero, List.drop_succ_cons, List.drop_zero]
      repeat go_big_quiet_step (fail)
      refine wpQuiet_nil ?_
      go_wp2
      refine wp_region_quiet_tail 11 (by kernel_rfl) (by kernel_rfl) ?_
      simp only [List.take_succ_cons, List.take_zero, List.drop_succ_cons, List.drop_zero]
      repeat go_big_quiet_step (fail)
      refine wpQuiet_nil ?_
      go_wp2
      obtain ⟨hG, hCg⟩ := GX.out
      have CALL2 := hide (fun W hW => CALL.out 0 _ hG W hW rfl)
      have END2 := hide (END.out _ hG hCg)
      have d0 := hG.1.blk.cell 0
      have d1 := hG.1.blk.cell 1
      rw [HU.out] at d1
      simp only [List.getElem?_toArray, List.getElem?_cons_zero, List.getElem?_cons_succ] at d0 d1
      clear CALL END GX hG hCg
      generalize (((((W0.alloc (.cells Z 5)).drew.setRow q RW).setCell ⟨d, 1, none⟩ (.slice (some ⟨q, 0, none⟩) u N1)).setCell ⟨d, 3, none⟩ (.int .i64 (r2 : Nat))).setCell ⟨d, 2, none⟩ (.int .i64 0)).drew = Wg at *
      go_region_held3 (fun w' => w'.cell? ⟨d, 0, none⟩ = some (.iface 71 (.pointer (some ⟨g, 0, none⟩))) ∧ w'.cell? ⟨d, 1, none⟩ = some (.slice (some ⟨q, 0, none⟩) u N1)) (first | exact ⟨d0, d1⟩ | exact ⟨b0, b1⟩) (first | (go_at_call 123; refine (CALL2.out _ rfl).mono ?_; rintro e w1 ⟨m, f', hm1, hm2, hf, rfl, b0, b1, g1, hX⟩))
      clear CALL2
      obtain ⟨tot, htot⟩ : ∃ tot, tot = u + m := ⟨_, rfl⟩
      have hm3 : m ≤ N1 - u := by have := HLEN.out; have := HU.out; omega
      have E3 := hide (END2.out w1 m f' hm3 hm2 hf hX tot htot)
      have j1 : (u : Int) + (m : Int) = (tot : Int) := by omega
      have j2 : (tot : Int) ≤ (N1 : Int) := by omega
      have j3 : tot ≤ N1 := by omega
      clear END2 hX hm1 hm2 hm3 htot hf
      go_wp2
      refine wp_region_quiet_tail 15 (by kernel_rfl) (by kernel_rfl) ?_
      simp only [List.take_succ_cons, List.take_zero, List.drop_succ_cons, List.drop_zero]
      repeat go_big_quiet_step (fail)
      refine wpQuiet_nil ?_
      go_wp2
      go_end0
      exact E3.out
    · go_enter Tryd.func90, Tryd.ntmps90
      go_wp2
      go_quiet (fail)
      generalize nq = nq1
      go_wp2
      go_quiet (fail)
      rw [World.drewN_drewN]
      generalize nq1 + nq = x
      have GX := hide (GROWN.out x)
      have CPX := hide (COPY.out x)
      have hmkx := hmk (w.drewN x) (hsz x)
      have HBx := hide (HB.out.drewN x)
      have hsx := hsz x
      clear COPY GROWN HB hmk hsz
      generalize w.drewN x = W0 at *
      have hcp := CPX.out.1 hcr
      clear CPX
      have QB := hide ((HBx.out.alloc (.cells Z 5)).drew.setRow_far (Ne.symm hqd) RW)
      have q0 := HBx.out.cell 0
      have q1 := HBx.out.cell 1
      have q2 := HBx.out.cell 2
      have q3 := HBx.out.cell 3
      have q4 := HBx.out.cell 4
      simp only [List.getElem?_toArray, List.getElem?_cons_zero, List.getElem?_cons_succ] at q0 q1 q2 q3 q4
      have p0 := QB.out.cell 0
      have p1 := QB.out.cell 1
      have p2 := QB.out.cell 2
      have p3 := QB.out.cell 3
      simp only [List.getElem?_toArray, List.getElem?_cons_zero, List.getElem?_cons_succ] at p0 p1 p2 p3
      have o1 := QB.out.frozen 1
      have o2 := QB.out.frozen 2
      have o3 := QB.out.frozen 3
      have a0 := (HBx.out.alloc (.cells Z 5)).cell 0
      have a1 := (HBx.out.alloc (.cells Z 5)).cell 1
      have a2 := (HBx.out.alloc (.cells Z 5)).cell 2
      simp only [List.getElem?_toArray, List.getElem?_cons_zero, List.getElem?_cons_succ] at a0 a1 a2
      clear c0 c1 c2 c3 c4
      clear HBx QB
      go_wp2
      refine wp_region_quiet_tail 10 (by kernel_rfl) (by kernel_rfl) ?_
      simp only [List.take_succ_cons, List.take_zero, List.drop_succ_cons, List.drop_zero]
      repeat go_big_quiet_step (fail)
      refine wpQuiet_nil ?_
      go_wp2
      refine wp_region_quiet_tail 11 (by kernel_rfl) (by kernel_rfl) ?_
      simp only [List.take_succ_cons, List.take_zero, List.drop_succ_cons, List.drop_zero]
      repeat go_big_quiet_step (fail)
      refine wpQuiet_nil ?_
      go_wp2
      obtain ⟨hG, hCg⟩ := GX.out
      have CALL2 := hide (fun W hW => CALL.out 0 _ hG W hW rfl)
      have END2 := hide (END.out _ hG hCg)
      have d0 := hG.1.blk.cell 0
      have d1 := hG.1.blk.cell 1
      rw [HU.out] at d1
      simp only [List.getElem?_toArray, List.getElem?_cons_zero, List.getElem?_cons_succ] at d0 d1
      clear CALL END GX hG hCg
      generalize (((((W0.alloc (.cells Z 5)).drew.setRow q RW).setCell ⟨d, 1, none⟩ (.slice (some ⟨q, 0, none⟩) u N1)).setCell ⟨d, 3, none⟩ (.int .i64 (r2 : Nat))).setCell ⟨d, 2, none⟩ (.int .i64 0)).drew = Wg at *
      go_region_held3 (fun w' => w'.cell? ⟨d, 0, none⟩ = some (.iface 71 (.pointer (some ⟨g, 0, none⟩))) ∧ w'.cell? ⟨d, 1, none⟩ = some (.slice (some ⟨q, 0, none⟩) u N1)) (first | exact ⟨d0, d1⟩ | exact ⟨b0, b1⟩) (first | (go_at_call 123; refine (CALL2.out _ rfl).mono ?_; rintro e w1 ⟨m, f', hm1, hm2, hf, rfl, b0, b1, g1, hX⟩))
      clear CALL2
      obtain ⟨tot, htot⟩ : ∃ tot, tot = u + m := ⟨_, rfl⟩
      have hm3 : m ≤ N1 - u := by have := HLEN.out; have := HU.out; omega
      have E3 := hide (END2.out w1 m f' hm3 hm2 hf hX tot htot)
      have j1 : (u : Int) + (m : Int) = (tot : Int) := by omega
      have j2 : (tot : Int) ≤ (N1 : Int) := by omega
      have j3 : tot ≤ N1 := by omega
      clear END2 hX hm1 hm2 hm3 htot hf
      go_wp2
      refine wp_region_quiet_tail 15 (by kernel_rfl) (by kernel_rfl) ?_
      simp only [List.take_succ_cons, List.take_zero, List.drop_succ_cons, List.drop_zero]
      repeat go_big_quiet_step (fail)
      refine wpQuiet_nil ?_
      go_wp2
      go_end0
      exact E3.out

set_option maxRecDepth 100000 in
set_option maxHeartbeats 8000000 in
theorem readMore_grow_end (B d g k : Nat) (S : List Nat) (cap r0 r1 : Nat) (sec : Int) (sk : Bool) (esc : Value) (line : Int) (er : Value) (L : List UInt8) (f : Nat) (w : World) (ad : Addr)
    (h : DecAt w B d S (.iface 71 (.pointer (some ⟨g, 0, none⟩))) (some ⟨k, 0, none⟩) cap r0 r1 false sec sk esc line er L [] f) (hR : Rdr w B g [] f) (hgS : g ∈ S) (hgd : g ≠ d) (hcap : cap ≤ 4194304)
    (hkS : k ∈ S) (hkd : k ≠ d) (hkg : k ≠ g) (hroom : cap - L.length < 4096) (hE : EofAt w B ad) :
    Calls Tryd.prog 90 #[.pointer (some ⟨d, 0, none⟩)] w (MoreP w B d S r0 r1 sec sk esc line er L [] f) := by
  obtain ⟨n, hn⟩ : ∃ n, n = L.length := ⟨_, rfl⟩
  have hblk := h.blk
  rw [← hn] at hblk
  have c0 := hblk.cell 0
  have c1 := hblk.cell 1
  have c2 := hblk.cell 2
  have c3 := hblk.cell 3
  have c4 := hblk.cell 4
  simp at c0 c1 c2 c3 c4
  have h0 := h.le0
  have h1 := h.le1
  have h2 := h.lec
  have h3 := h.tot
  have hdlt := h.lt d h.dS
  have hnil := method_rd g
  have hneq := run_neq_err ad
  obtain ⟨u, hu⟩ : ∃ u, u = n - r0 := ⟨_, rfl⟩
  obtain ⟨r2, hr2⟩ : ∃ r2, r2 = r1 - r0 := ⟨_, rfl⟩
  obtain ⟨N1, hN1⟩ : ∃ N1, N1 = if (cap : Int) * 2 - u < 8192 then u + 8192 else 2 * cap := ⟨_, rfl⟩
  obtain ⟨q, hq⟩ : ∃ q, q = w.heap.size := ⟨_, rfl⟩
  have i1 : (cap : Int) - (n : Int) < 4096 := by omega
  have e1 : (n : Int) - (r0 : Int) = (u : Int) := by omega
  have e2 : n - r0 = u := hu.symm
  have e3 : (r1 : Int) - (r0 : Int) = (r2 : Int) := by omega
  have i2 : u + 4096 ≤ N1 := by rw [hN1]; split <;> omega
  have i3 : N1 ≤ 4194304 := by rw [hN1]; split <;> omega
  have hmk0 := run_make_bytes u N1 (by omega) (by omega)
  have i4 : r0 ≤ n := by omega
  have i5 : (r0 : Int) ≤ (n : Int) := by omega
  have i6 : (n : Int) ≤ (cap : Int) := by omega
  have i7 : r0 ≤ cap := by omega
  have i8 : u ≤ N1 := by omega
  have i9 : (u : Int) ≤ (N1 : Int) := by omega
  have i10 : ¬ N1 = u := by omega
  have i11 : (r2 : Int) ≤ 1048576 := by omega
  have i12 : (0 : Int) ≤ (r2 : Int) := by omega
  have hqd : q ≠ d := by omega
  have hgq : g ≠ q := by have := hR.lt; omega
  have hul : (L.drop r0).length = u := by rw [List.length_drop, ← hn]; exact hu.symm
  have HU := hide hul
  have HLEN : Hid ((L.drop r0 ++ List.replicate (N1 - u) 0).length = N1) := hide (by rw [List.length_append, hul, List.length_replicate]; omega)
  have HQ := hide hq
  obtain ⟨Z, hZ⟩ : ∃ Z, Z = (bs (List.replicate N1 0)).toArray := ⟨_, rfl⟩
  have hmk : ∀ W : World, W.heap.size = q → (Instr.makeSlice 43 (.int .i64 u) (.int .i64 N1)).run Tryd.prog W = .ok (.slice (some ⟨q, 0, none⟩) u N1) (W.alloc (.cells Z 5)) := fun W hW => by rw [hmk0, hZ, hW]
  have hsz : ∀ x, (w.drewN x).heap.size = q := fun x => hq.symm
  -- the row behind the copy
  obtain ⟨RW, hRW⟩ : ∃ RW, RW = (bs (L.drop r0 ++ List.replicate (N1 - u) 0)).toArray := ⟨_, rfl⟩
  have hZrow : ∀ x, Row ((w.drewN x).alloc (.cells Z 5)).drew q 5 Z := fun x => (Blk.new_at (w.drewN x) 5 Z (hsz x)).row
  have hovr : ovr Z 0 (bs (L.drop r0)) = RW := by
    rw [hZ, ovr_bs _ _ _ (by rw [hul]; simp; omega), hRW, hul]
    simp
  have COPY : Hid (∀ x, (¬ cap = r0 → (Builtin.copy_ #[43, 43] 3 #[.slice (some ⟨q, 0, none⟩) u N1, .slice (some ⟨k, r0, none⟩) u (cap - r0)]).run Tryd.prog ((w.drewN x).alloc (.cells Z 5)).drew = .ok (goInt u) (((w.drewN x).alloc (.cells Z 5)).drew.setRow q RW)) ∧
      (cap = r0 → (Builtin.copy_ #[43, 43] 3 #[.slice (some ⟨q, 0, none⟩) u N1, .slice (some ⟨k, 0, none⟩) u 0]).run Tryd.prog ((w.drewN x).alloc (.cells Z 5)).drew = .ok (goInt u) (((w.drewN x).alloc (.cells Z 5)).drew.setRow q RW))) := hide fun x => by
    have hkl := h.lt k hkS
    constructor
    · intro _
      have hc := run_copy_sl ((w.drewN x).alloc (.cells Z 5)).drew q 0 u N1 u (cap - r0) u ⟨k, r0, none⟩ (L.drop r0) Z 5 (hZrow x) (fun j hj => by
        have hj2 : r0 + j < L.length := by rw [List.length_drop] at hj; omega
        have := h.bytes.at_ hj2
        obtain ⟨a, ha, _, hcl⟩ := this
        injection ha with ha
        subst ha
        have hadd : (⟨k, r0, none⟩ : Addr).add j = (⟨k, 0, none⟩ : Addr).add (r0 + j) := by
          unfold Addr.add; split <;> split <;> simp_all
        rw [hadd, World.cell?_drew', World.cell?_alloc_lt _ _ _ (by rw [block_of_add]; exact hkl)]
        simpa using hcl) hul (by show u = min u u; omega) (by rw [hZ, bs_size]; simp; omega)
      rw [List.take_of_length_le (by omega), hovr] at hc
      exact hc
    · intro hcr
      have hL0 : L.drop r0 = [] := List.eq_nil_of_length_eq_zero (by omega)
      have hc := run_copy_sl ((w.drewN x).alloc (.cells Z 5)).drew q 0 u N1 u 0 u ⟨k, 0, none⟩ (L.drop r0) Z 5 (hZrow x) (fun j hj => by rw [hL0] at hj; simp at hj) hul (by show u = min u u; omega) (by rw [hZ, bs_size]; simp; omega)
      rw [List.take_of_length_le (by omega), hovr] at hc
      exact hc
  have GROWN : Hid (∀ x, Grown_ B d g S N1 r0 r1 sec sk esc line er L [] f q (((((((w.drewN x).alloc (.cells Z 5)).drew.setRow q RW).setCell ⟨d, 1, none⟩ (.slice (some ⟨q, 0, none⟩) u N1)).setCell ⟨d, 3, none⟩ (.int .i64 (r2 : Nat))).setCell ⟨d, 2, none⟩ (.int .i64 0)).drew) ∧ Chg S w (((((((w.drewN x).alloc (.cells Z 5)).drew.setRow q RW).setCell ⟨d, 1, none⟩ (.slice (some ⟨q, 0, none⟩) u N1)).setCell ⟨d, 3, none⟩ (.int .i64 (r2 : Nat))).setCell ⟨d, 2, none⟩ (.int .i64 0)).drew)) := hide fun x => by
    have hA : Chg S w (((((((w.drewN x).alloc (.cells Z 5)).drew.setRow q RW).setCell ⟨d, 1, none⟩ (.slice (some ⟨q, 0, none⟩) u N1)).setCell ⟨d, 3, none⟩ (.int .i64 (r2 : Nat))).setCell ⟨d, 2, none⟩ (.int .i64 0)).drew) := ((((((Chg.refl S w).drewN x).alloc _).drew.setRow (.inr (by omega)) _).setCell (.inl (by simpa using h.dS)) _).setCell (.inl (by simpa using h.dS)) _).setCell (.inl (by simpa using h.dS)) _ |>.drew
    have hB : Chg [d] w (((((((w.drewN x).alloc (.cells Z 5)).drew.setRow q RW).setCell ⟨d, 1, none⟩ (.slice (some ⟨q, 0, none⟩) u N1)).setCell ⟨d, 3, none⟩ (.int .i64 (r2 : Nat))).setCell ⟨d, 2, none⟩ (.int .i64 0)).drew) := ((((((Chg.refl [d] w).drewN x).alloc _).drew.setRow (.inr (by omega)) _).setCell (.inl (by simp)) _).setCell (.inl (by simp)) _).setCell (.inl (by simp)) _ |>.drew
    have hrow : Row (((((((w.drewN x).alloc (.cells Z 5)).drew.setRow q RW).setCell ⟨d, 1, none⟩ (.slice (some ⟨q, 0, none⟩) u N1)).setCell ⟨d, 3, none⟩ (.int .i64 (r2 : Nat))).setCell ⟨d, 2, none⟩ (.int .i64 0)).drew) q 5 RW := (((((hZrow x).setRow_ RW (by rw [hRW, hZ, bs_size, bs_size, HLEN.out]; simp)).far (by simpa using hqd) _).far (by simpa using hqd) _).far (by simpa using hqd) _).drew
    have hrow2 : RowB (((((((w.drewN x).alloc (.cells Z 5)).drew.setRow q RW).setCell ⟨d, 1, none⟩ (.slice (some ⟨q, 0, none⟩) u N1)).setCell ⟨d, 3, none⟩ (.int .i64 (r2 : Nat))).setCell ⟨d, 2, none⟩ (.int .i64 0)).drew) q (L.drop r0 ++ List.replicate (N1 - u) 0) := by unfold RowB; rw [← hRW]; exact hrow
    have hlenR := HLEN.out
    refine ⟨⟨⟨?_, by omega, by rw [hul]; omega, by rw [hul]; omega, ?_, fun a ha => ⟨q, by injection ha with ha; exact ha.symm, hqd, by simp⟩, by simp [h.dS], ?_, ?_, by rw [hul]; omega, .inr ⟨rfl, g, rfl, hR.chg hB (by simpa using hgd) (by simpa using h.bS d h.dS), by simp [hgS], hgd, i3, .inr ⟨q, _, rfl, hrow2, hlenR, ?_, by simp, hqd, Ne.symm hgq⟩⟩⟩, hR.chg hB (by simpa using hgd) (by simpa using h.bS d h.dS), by rw [hul]; exact hrow2⟩, hA⟩
    · have hb := ((((((hblk.drewN x).alloc (.cells Z 5)).drew.setRow_far (Ne.symm hqd) RW).set_ 1 (.slice (some ⟨q, 0, none⟩) u N1)).set_ 3 (.int .i64 (r2 : Nat))).set_ 2 (.int .i64 0)).drew
      rw [hul, ← hr2]
      simpa using hb
    · have := hrow2.rbytes (L.drop r0).length
      rwa [List.take_append_of_le_length (Nat.le_refl _), List.take_length] at this
    · intro i hi
      rcases List.mem_cons.1 hi with rfl | hi
      · have := hR.le; have := hR.lt; have := h.bS d h.dS; omega
      · exact h.bS i hi
    · intro i hi
      rcases List.mem_cons.1 hi with rfl | hi
      · exact hrow.lt
      · exact Nat.lt_of_lt_of_le (h.lt i hi) hA.size
    · rw [List.take_append_of_le_length (Nat.le_refl _), List.take_length]
  have CALL : Hid (∀ x Wg, Grown_ B d g S N1 r0 r1 sec sk esc line er L [] f q Wg ∧ Chg S w Wg → ∀ W, W = Wg.drew → x = 0 → Calls Tryd.prog 123 #[.pointer (some ⟨g, 0, none⟩), .slice (some ⟨q, u, none⟩) (N1 - u) (N1 - u)] W (EndD d (dcs g q u N1 0 r2 sec sk esc line er) (.iface 71 (.pointer (some ⟨g, 0, none⟩))) (.slice (some ⟨q, 0, none⟩) u N1) ad W)) := hide fun x Wg hG W hW _ => by
    obtain ⟨⟨a1, a2, a3⟩, hC⟩ := hG
    rw [← hr2] at a1
    subst hW
    exact tail_callE B d g q (q :: S) N1 0 r2 sec sk esc line er (L.drop r0) [] f Wg ad a1 a2 (by simp [hgS]) hgd hqd (by simp) i3 (by rw [hul]; omega) (hE.chg hC h.bS) u hul.symm _ _ _
  have END : Hid (∀ Wg, Grown_ B d g S N1 r0 r1 sec sk esc line er L [] f q Wg → Chg S w Wg → ∀ w', Hid (Chg [] Wg.drew w' ∧ Blk w' d 77 (dcs g q u N1 0 r2 sec sk esc line er)) →
      MoreP w B d S r0 r1 sec sk esc line er L [] f (.returned (.tuple #[])) (((w'.setCell ⟨d, 1, none⟩ (.slice (some ⟨q, 0, none⟩) u N1)).setCell ⟨d, 4, none⟩ (.bool true)).drew)) := hide fun Wg hG hC w' h4 => by
    obtain ⟨a1, a2, a3⟩ := hG
    rw [← hr2] at a1
    have hM := tail_endE B d g q (q :: S) N1 0 r2 sec sk esc line er (L.drop r0) [] f Wg ad a1 a2 (by simp [hgS]) hgd hqd (by simp) i3 (by rw [hul]; omega) (hE.chg hC h.bS) u hul.symm w' h4
    rw [hr2] at hM
    exact hM.of_grown hC (by omega)
  have HB := hide hblk
  have hNa : (cap : Int) * 2 - (u : Int) < 8192 → (u : Int) + 8192 = (N1 : Int) := fun ht => by rw [hN1, if_pos ht]; omega
  have hNb : ¬ (cap : Int) * 2 - (u : Int) < 8192 → (cap : Int) * 2 = (N1 : Int) := fun ht => by rw [hN1, if_neg ht]; omega
  have hcases : (cap : Int) * 2 - (u : Int) < 8192 ∨ ¬ (cap : Int) * 2 - (u : Int) < 8192 := Classical.em _
  rcases hcases with ht | ht
  · have hNe := hNa ht
    clear hNa hNb h hR hblk hn hN1 hu hul h0 h1 h2 h3 hr2 hq hRW hZ hZrow hovr i2 i3 hmk0 hE
    by_cases hcr : cap = r0
    · obtain rfl : r0 = cap := hcr.symm
      clear hcr
      go_enter Tryd.func90, Tryd.ntmps90
      go_wp2
      go_quiet (fail)
      generalize nq = nq1
      go_wp2
      go_quiet (fail)
      rw [World.drewN_drewN]
      generalize nq1 + nq = x
      have GX := hide (GROWN.out x)
      have CPX := hide (COPY.out x)
      have hmkx := hmk (w.drewN x) (hsz x)
      have HBx := hide (HB.out.drewN x)
      have hsx := hsz x
      clear COPY GROWN HB hmk hsz
      generalize w.drewN x = W0 at *
      have hcp := CPX.out.2 (by trivial)
      clear CPX
      have QB := hide ((HBx.out.alloc (.cells Z 5)).drew.setRow_far (Ne.symm hqd) RW)
      have q0 := HBx.out.cell 0
      have q1 := HBx.out.cell 1
      have q2 := HBx.out.cell 2
      have q3 := HBx.out.cell 3
      have q4 := HBx.out.cell 4
      simp only [List.getElem?_toArray, List.getElem?_cons_zero, List.getElem?_cons_succ] at q0 q1 q2 q3 q4
      have p0 := QB.out.cell 0
      have p1 := QB.out.cell 1
      have p2 := QB.out.cell 2
      have p3 := QB.out.cell 3
      simp only [List.getElem?_toArray, List.getElem?_cons_zero, List.getElem?_cons_succ] at p0 p1 p2 p3
      have o1 := QB.out.frozen 1
      have o2 := QB.out.frozen 2
      have o3 := QB.out.frozen 3
      have a0 := (HBx.out.alloc (.cells Z 5)).cell 0
      have a1 := (HBx.out.alloc (.cells Z 5)).cell 1
      have a2 := (HBx.out.alloc (.cells Z 5)).cell 2
      simp only [List.getElem?_toArray, List.getElem?_cons_zero, List.getElem?_cons_succ] at a0 a1 a2
      clear c0 c1 c2 c3 c4
      clear HBx QB
      go_wp2
      refine wp_region_quiet_tail 10 (by kernel_rfl) (by kernel_rfl) ?_
      simp only [List.take_succ_cons, List.take_zero, List.drop_succ_cons, List.drop_zero]
      repeat go_big_quiet_step (fail)
      refine wpQuiet_nil ?_
      go_wp2
      refine wp_region_quiet_tail 11 (by kernel_rfl) (by kernel_rfl) ?_
      simp only [List.take_succ_cons, List.take_zero, List.drop_succ_cons, List.drop_zero]
      repeat go_big_quiet_step (fail)
      refine wpQuiet_nil ?_
      go_wp2
      obtain ⟨hG, hCg⟩ := GX.out
      have CALL2 := hide (fun W hW => CALL.out 0 _ ⟨hG, hCg⟩ W hW rfl)
      have END2 := hide (END.out _ hG hCg)
      have d0 := hG.1.blk.cell 0
      have d1 := hG.1.blk.cell 1
      rw [HU.out] at d1
      simp only [List.getElem?_toArray, List.getElem?_cons_zero, List.getElem?_cons_succ] at d0 d1
      clear CALL END GX hG hCg
      generalize (((((W0.alloc (.cells Z 5)).drew.setRow q RW).setCell ⟨d, 1, none⟩ (.slice (some ⟨q, 0, none⟩) u N1)).setCell ⟨d, 3, none⟩ (.int .i64 (r2 : Nat))).setCell ⟨d, 2, none⟩ (.int .i64 0)).drew = Wg at *
      go_region_held3 (fun w' => w'.cell? ⟨d, 0, none⟩ = some (.iface 71 (.pointer (some ⟨g, 0, none⟩))) ∧ w'.cell? ⟨d, 1, none⟩ = some (.slice (some ⟨q, 0, none⟩) u N1)) (first | exact ⟨d0, d1⟩ | exact ⟨b0, b1⟩) (first | (go_at_call 123; refine (CALL2.out _ rfl).mono ?_; rintro e w1 ⟨rfl, b0, b1, g1, b4, g4, bE, hX⟩))
      clear CALL2
      have E3 := hide (END2.out w1 hX)
      clear END2 hX
      go_wp2
      refine wp_region_quiet_tail 15 (by kernel_rfl) (by kernel_rfl) ?_
      simp only [List.take_succ_cons, List.take_zero, List.drop_succ_cons, List.drop_zero]
      repeat go_big_quiet_step (fail)
      refine wpQuiet_nil ?_
      go_wp2
      go_end0
      exact E3.out
    · go_enter Tryd.func90, Tryd.ntmps90
      go_wp2
      go_quiet (fail)
      generalize nq = nq1
      go_wp2
      go_quiet (fail)
      rw [World.drewN_drewN]
      generalize nq1 + nq = x
      have GX := hide (GROWN.out x)
      have CPX := hide (COPY.out x)
      have hmkx := hmk (w.drewN x) (hsz x)
      have HBx := hide (HB.out.drewN x)
      have hsx := hsz x
      clear COPY GROWN HB hmk hsz
      generalize w.drewN x = W0 at *
      have hcp := CPX.out.1 hcr
      clear CPX
      have QB := hide ((HBx.out.alloc (.cells Z 5)).drew.setRow_far (Ne.symm hqd) RW)
      have q0 := HBx.out.cell 0
      have q1 := HBx.out.cell 1
      have q2 := HBx.out.cell 2
      have q3 := HBx.out.cell 3
      have q4 := HBx.out.cell 4
      simp only [List.getElem?_toArray, List.getElem?_cons_zero, List.getElem?_cons_succ] at q0 q1 q2 q3 q4
      have p0 := QB.out.cell 0
      have p1 := QB.out.cell 1
      have p2 := QB.out.cell 2
      have p3 := QB.out.cell 3
      simp only [List.getElem?_toArray, List.getElem?_cons_zero, List.getElem?_cons_succ] at p0 p1 p2 p3
      have o1 := QB.out.frozen 1
      have o2 := QB.out.frozen 2
      have o3 := QB.out.frozen 3
      have a0 := (HBx.out.alloc (.cells Z 5)).cell 0
      have a1 := (HBx.out.alloc (.cells Z 5)).cell 1
      have a2 := (HBx.out.alloc (.cells Z 5)).cell 2
      simp only [List.getElem?_toArray, List.getElem?_cons_zero, List.getElem?_cons_succ] at a0 a1 a2
      clear c0 c1 c2 c3 c4
      clear HBx QB
      go_wp2
      refine wp_region_quiet_tail 10 (by kernel_rfl) (by kernel_rfl) ?_
      simp only [List.take_succ_cons, List.take_zero, List.drop_succ_cons, List.drop_zero]
      repeat go_big_quiet_step (fail)
      refine wpQuiet_nil ?_
      go_wp2
      refine wp_region_quiet_tail 11 (by kernel_rfl) (by kernel_rfl) ?_
      simp only [List.take_succ_cons, List.take_zero, List.drop_succ_cons, List.drop_zero]
      repeat go_big_quiet_step (fail)
      refine wpQuiet_nil ?_
      go_wp2
      obtain ⟨hG, hCg⟩ := GX.out
      have CALL2 := hide (fun W hW => CALL.out 0 _ ⟨hG, hCg⟩ W hW rfl)
      have END2 := hide (END.out _ hG hCg)
      have d0 := hG.1.blk.cell 0
      have d1 := hG.1.blk.cell 1
      rw [HU.out] at d1
      simp only [List.getElem?_toArray, List.getElem?_cons_zero, List.getElem?_cons_succ] at d0 d1
      clear CALL END GX hG hCg
      generalize (((((W0.alloc (.cells Z 5)).drew.setRow q RW).setCell ⟨d, 1, none⟩ (.slice (some ⟨q, 0, none⟩) u N1)).setCell ⟨d, 3, none⟩ (.int .i64 (r2 : Nat))).setCell ⟨d, 2, none⟩ (.int .i64 0)).drew = Wg at *
      go_region_held3 (fun w' => w'.cell? ⟨d, 0, none⟩ = some (.iface 71 (.pointer (some ⟨g, 0, none⟩))) ∧ w'.cell? ⟨d, 1, none⟩ = some (.slice (some ⟨q, 0, none⟩) u N1)) (first | exact ⟨d0, d1⟩ | exact ⟨b0, b1⟩) (first | (go_at_call 123; refine (CALL2.out _ rfl).mono ?_; rintro e w1 ⟨rfl, b0, b1, g1, b4, g4, bE, hX⟩))
      clear CALL2
      have E3 := hide (END2.out w1 hX)
      clear END2 hX
      go_wp2
      refine wp_region_quiet_tail 15 (by kernel_rfl) (by kernel_rfl) ?_
      simp only [List.take_succ_cons, List.take_zero, List.drop_succ_cons, List.drop_zero]
      repeat go_big_quiet_step (fail)
      refine wpQuiet_nil ?_
      go_wp2
      go_end0
      exact E3.out
  · have hNe := hNb ht
    clear hNa hNb h hR hblk hn hN1 hu hul h0 h1 h2 h3 hr2 hq hRW hZ hZrow hovr i2 i3 hmk0 hE
    by_cases hcr : cap = r0
    · obtain rfl : r0 = cap := hcr.symm
      clear hcr
      go_enter Tryd.func90, Tryd.ntmps90
      go_wp2
      go_quiet (fail)
      generalize nq = nq1
      go_wp2
      go_quiet (fail)
      rw [World.drewN_drewN]
      generalize nq1 + nq = x
      have GX := hide (GROWN.out x)
      have CPX := hide (COPY.out x)
      have hmkx := hmk (w.drewN x) (hsz x)
      have HBx := hide (HB.out.drewN x)
      have hsx := hsz x
      clear COPY GROWN HB hmk hsz
      generalize w.drewN x = W0 at *
      have hcp := CPX.out.2 (by trivial)
      clear CPX
      have QB := hide ((HBx.out.alloc (.cells Z 5)).drew.setRow_far (Ne.symm hqd) RW)
      have q0 := HBx.out.cell 0
      have q1 := HBx.out.cell 1
      have q2 := HBx.out.cell 2
      have q3 := HBx.out.cell 3
      have q4 := HBx.out.cell 4
      simp only [List.getElem?_toArray, List.getElem?_cons_zero, List.getElem?_cons_succ] at q0 q1 q2 q3 q4
      have p0 := QB.out.cell 0
      have p1 := QB.out.cell 1
      have p2 := QB.out.cell 2
      have p3 := QB.out.cell 3
      simp only [List.getElem?_toArray, List.getElem?_cons_zero, List.getElem?_cons_succ] at p0 p1 p2 p3
      have o1 := QB.out.frozen 1
      have o2 := QB.out.frozen 2
      have o3 := QB.out.frozen 3
      have a0 := (HBx.out.alloc (.cells Z 5)).cell 0
      have a1 := (HBx.out.alloc (.cells Z 5)).cell 1
      have a2 := (HBx.out.alloc (.cells Z 5)).cell 2
      simp only [List.getElem?_toArray, List.getElem?_cons_zero, List.getElem?_cons_succ] at a0 a1 a2
      clear c0 c1 c2 c3 c4
      clear HBx QB
      go_wp2
      refine wp_region_quiet_tail 10 (by kernel_rfl) (by kernel_rfl) ?_
      simp only [List.take_succ_cons, List.take_zero, List.drop_succ_cons, List.drop_zero]
      repeat go_big_quiet_step (fail)
      refine wpQuiet_nil ?_
      go_wp2
      refine wp_region_quiet_tail 11 (by kernel_rfl) (by kernel_rfl) ?_
      simp only [List.take_succ_cons, List.take_zero, List.drop_succ_cons, List.drop_zero]
      repeat go_big_quiet_step (fail)
      refine wpQuiet_nil ?_
      go_wp2
      obtain ⟨hG, hCg⟩ := GX.out
      have CALL2 := hide (fun W hW => CALL.out 0 _ ⟨hG, hCg⟩ W hW rfl)
      have END2 := hide (END.out _ hG hCg)
      have d0 := hG.1.blk.cell 0
      have d1 := hG.1.blk.cell 1
      rw [HU.out] at d1
      simp only [List.getElem?_toArray, List.getElem?_cons_zero, List.getElem?_cons_succ] at d0 d1
      clear CALL END GX hG hCg
      generalize (((((W0.alloc (.cells Z 5)).drew.setRow q RW).setCell ⟨d, 1, none⟩ (.slice (some ⟨q, 0, none⟩) u N1)).setCell ⟨d, 3, none⟩ (.int .i64 (r2 : Nat))).setCell ⟨d, 2, none⟩ (.int .i64 0)).drew = Wg at *
      go_region_held3 (fun w' => w'.cell? ⟨d, 0, none⟩ = some (.iface 71 (.pointer (some ⟨g, 0, none⟩))) ∧ w'.cell? ⟨d, 1, none⟩ = some (.slice (some ⟨q, 0, none⟩) u N1)) (first | exact ⟨d0, d1⟩ | exact ⟨b0, b1⟩) (first | (go_at_call 123; refine (CALL2.out _ rfl).mono ?_; rintro e w1 ⟨rfl, b0, b1, g1, b4, g4, bE, hX⟩))
      clear CALL2
      have E3 := hide (END2.out w1 hX)
      clear END2 hX
      go_wp2
      refine wp_region_quiet_tail 15 (by kernel_rfl) (by kernel_rfl) ?_
      simp only [List.take_succ_cons, List.take_zero, List.drop_succ_cons, List.drop_zero]
      repeat go_big_quiet_step (fail)
      refine wpQuiet_nil ?_
      go_wp2
      go_end0
      exact E3.out
    · go_enter Tryd.func90, Tryd.ntmps90
      go_wp2
      go_quiet (fail)
      generalize nq = nq1
      go_wp2
      go_quiet (fail)
      rw [World.drewN_drewN]
      generalize nq1 + nq = x
      have GX := hide (GROWN.out x)
      have CPX := hide (COPY.out x)
      have hmkx := hmk (w.drewN x) (hsz x)
      have HBx := hide (HB.out.drewN x)
      have hsx := hsz x
      clear COPY GROWN HB hmk hsz
      generalize w.drewN x = W0 at *
      have hcp := CPX.out.1 hcr
      clear CPX
      have QB := hide ((HBx.out.alloc (.cells Z 5)).drew.setRow_far (Ne.symm hqd) RW)
      have q0 := HBx.out.cell 0
      have q1 := HBx.out.cell 1
      have q2 := HBx.out.cell 2
      have q3 := HBx.out.cell 3
      have q4 := HBx.out.cell 4
      simp only [List.getElem?_toArray, List.getElem?_cons_zero, List.getElem?_cons_succ] at q0 q1 q2 q3 q4
      have p0 := QB.out.cell 0
      have p1 := QB.out.cell 1
      have p2 := QB.out.cell 2
      have p3 := QB.out.cell 3
      simp only [List.getElem?_toArray, List.getElem?_cons_zero, List.getElem?_cons_succ] at p0 p1 p2 p3
      have o1 := QB.out.frozen 1
      have o2 := QB.out.frozen 2
      have o3 := QB.out.frozen 3
      have a0 := (HBx.out.alloc (.cells Z 5)).cell 0
      have a1 := (HBx.out.alloc (.cells Z 5)).cell 1
      have a2 := (HBx.out.alloc (.cells Z 5)).cell 2
      simp only [List.getElem?_toArray, List.getElem?_cons_zero, List.getElem?_cons_succ] at a0 a1 a2
      clear c0 c1 c2 c3 c4
      clear HBx QB
      go_wp2
      refine wp_region_quiet_tail 10 (by kernel_rfl) (by kernel_rfl) ?_
      simp only [List.take_succ_cons, List.take_zero, List.drop_succ_cons, List.drop_zero]
      repeat go_big_quiet_step (fail)
      refine wpQuiet_nil ?_
      go_wp2
      refine wp_region_quiet_tail 11 (by kernel_rfl) (by kernel_rfl) ?_
      simp only [List.take_succ_cons, List.take_zero, List.drop_succ_cons, List.drop_zero]
      repeat go_big_quiet_step (fail)
      refine wpQuiet_nil ?_
      go_wp2
      obtain ⟨hG, hCg⟩ := GX.out
      have CALL2 := hide (fun W hW => CALL.out 0 _ ⟨hG, hCg⟩ W hW rfl)
      have END2 := hide (END.out _ hG hCg)
      have d0 := hG.1.blk.cell 0
      have d1 := hG.1.blk.cell 1
      rw [HU.out] at d1
      simp only [List.getElem?_toArray, List.getElem?_cons_zero, List.getElem?_cons_succ] at d0 d1
      clear CALL END GX hG hCg
      generalize (((((W0.alloc (.cells Z 5)).drew.setRow q RW).setCell ⟨d, 1, none⟩ (.slice (some ⟨q, 0, none⟩) u N1)).setCell ⟨d, 3, none⟩ (.int .i64 (r2 : Nat))).setCell ⟨d, 2, none⟩ (.int .i64 0)).drew = Wg at *
      go_region_held3 (fun w' => w'.cell? ⟨d, 0, none⟩ = some (.iface 71 (.pointer (some ⟨g, 0, none⟩))) ∧ w'.cell? ⟨d, 1, none⟩ = some (.slice (some ⟨q, 0, none⟩) u N1)) (first | exact ⟨d0, d1⟩ | exact ⟨b0, b1⟩) (first | (go_at_call 123; refine (CALL2.out _ rfl).mono ?_; rintro e w1 ⟨rfl, b0, b1, g1, b4, g4, bE, hX⟩))
      clear CALL2
      have E3 := hide (END2.out w1 hX)
      clear END2 hX
      go_wp2
      refine wp_region_quiet_tail 15 (by kernel_rfl) (by kernel_rfl) ?_
      simp only [List.take_succ_cons, List.take_zero, List.drop_succ_cons, List.drop_zero]
      repeat go_big_quiet_step (fail)
      refine wpQuiet_nil ?_
      go_wp2
      go_end0
      exact E3.out

end Go.Proofs.YtejngpbeogaapaaDoor
