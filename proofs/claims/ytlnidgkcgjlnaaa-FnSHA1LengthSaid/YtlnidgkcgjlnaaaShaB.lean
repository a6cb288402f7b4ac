/-
  spec.block: a block of 64 bytes, taken up into five words.
-/
import Derived.Test.YtlnidgkcgjlnaaaShaF
import Derived.Deep.DeepCutAuto
import Derived.LoopTactic
import Derived.IntWalk
namespace Go.Proofs.Ytlnidgkcgjlnaaa
open Go.RowKit
set_option linter.unusedVariables false
set_option linter.unusedSimpArgs false

/-- Five words as an array. -/
def w5A (s : W5) : Array Value := #[.int .u32 s.a, .int .u32 s.b, .int .u32 s.c, .int .u32 s.d, .int .u32 s.e]
theorem slice_cells {w : World} {A : Option Addr} {l : List UInt8} (h : RBytes w A l) (hl : 0 < l.length) : ∃ ad, A = some ad ∧ ad.block < w.heap.size ∧ ∀ j, j < l.length → w.cell? (ad.add j) = some (.int .u8 (lb l j)) := by
  obtain ⟨ad, e, hb, hc⟩ := h.addr hl
  exact ⟨ad, e, hb, fun j hj => by rw [hc j hj, lb_at hj]⟩

theorem run_index_k {P : Program} {t e : TypeId} {n : Nat} {k : IntKind} {f : Nat → Int} (kd : IntKind) (h : P.underlying t = some (.array n e)) (hz : ∀ w, (sizeOf e).run P w = .ok 1 w) (ha : ∀ w, (isAgg e).run P w = .ok false w) {i : Nat} (hi : i < n) (w : World) : (Instr.index t (.agg (kArr k n f)) (.int kd i)).run P w = .ok (.int k (f i)) w := by
  have h1 : 0 ≤ (i : Int) ∧ (i : Int) < (n : Int) := ⟨by omega, by omega⟩
  have h2 : (kArr k n f)[i]? = some (.int k (f i)) := kArr_get hi
  simp [Instr.index, run_underlying h, asIntOf, h1, h2, go_sem, hi, hz, ha]
/-- The words by their numbers. -/
def w5f (s : W5) : Nat → Int
  | 0 => s.a
  | 1 => s.b
  | 2 => s.c
  | 3 => s.d
  | _ => s.e
theorem w5A_k (s : W5) : w5A s = kArr .u32 5 (w5f s) := rfl
theorem w5f_ok {s : W5} (h : s.ok) (i : Nat) : W32 (w5f s i) := by
  unfold w5f
  split
  · exact h.a
  · exact h.b
  · exact h.c
  · exact h.d
  · exact h.e
set_option maxRecDepth 100000 in
set_option maxHeartbeats 2000000 in
theorem specBlock_any (w : World) (s : W5) (ad : Addr) (cap : Nat) (G : Nat → Int) (hs : s.ok) (hb : ad.block < w.heap.size) (hcell : ∀ j, j < 64 → w.cell? (ad.add j) = some (.int .u8 (G j))) (hG : ∀ j, 0 ≤ G j ∧ G j ≤ 255) (hcap : 64 ≤ cap) (hm : cap ≤ maxLen) :
    Calls Try.prog 39 #[.agg #[.int .u32 s.a, .int .u32 s.b, .int .u32 s.c, .int .u32 s.d, .int .u32 s.e], .slice (some ad) 64 cap] w fun e w' => e = .returned (.agg (w5A (W5.blockN nR G 0 s))) ∧ Ext w w' := by
  have HG := hide hG
  have HS := hide hs
  have HC : Hid (∀ wr, Ext w wr → ∀ j, j < 64 → wr.cell? (ad.add j) = some (.int .u8 (G j))) := hide fun wr hx j hj => hx.cellOf (hcell j hj)
  clear hcell hb hG hs
  unfold maxLen at hm
  obtain ⟨a0, b0, c0, d0, e0⟩ := s
  go_enter Try.func39, Try.ntmps39
  go_wp2_with fail
  have hZ : Try.zeroCells82 = kArr .u32 80 (fun _ => 0) := by kernel_rfl
  have HI : Hid (Ext w (((w.alloc (.cells #[.int .u32 a0, .int .u32 b0, .int .u32 c0, .int .u32 d0, .int .u32 e0] 69)).alloc (.cells #[.int .u32 0, .int .u32 0, .int .u32 0, .int .u32 0, .int .u32 0] 69)).alloc (.cells Try.zeroCells82 82)) ∧ KAt (((w.alloc (.cells #[.int .u32 a0, .int .u32 b0, .int .u32 c0, .int .u32 d0, .int .u32 e0] 69)).alloc (.cells #[.int .u32 0, .int .u32 0, .int .u32 0, .int .u32 0, .int .u32 0] 69)).alloc (.cells Try.zeroCells82 82)) (w.heap.size + 1 + 1) 82 .u32 80 (fun _ => 0) ∧ Blk (((w.alloc (.cells #[.int .u32 a0, .int .u32 b0, .int .u32 c0, .int .u32 d0, .int .u32 e0] 69)).alloc (.cells #[.int .u32 0, .int .u32 0, .int .u32 0, .int .u32 0, .int .u32 0] 69)).alloc (.cells Try.zeroCells82 82)) w.heap.size 69 #[.int .u32 a0, .int .u32 b0, .int .u32 c0, .int .u32 d0, .int .u32 e0] ∧ Blk (((w.alloc (.cells #[.int .u32 a0, .int .u32 b0, .int .u32 c0, .int .u32 d0, .int .u32 e0] 69)).alloc (.cells #[.int .u32 0, .int .u32 0, .int .u32 0, .int .u32 0, .int .u32 0] 69)).alloc (.cells Try.zeroCells82 82)) (w.heap.size + 1) 69 #[.int .u32 0, .int .u32 0, .int .u32 0, .int .u32 0, .int .u32 0] ∧ (((w.alloc (.cells #[.int .u32 a0, .int .u32 b0, .int .u32 c0, .int .u32 d0, .int .u32 e0] 69)).alloc (.cells #[.int .u32 0, .int .u32 0, .int .u32 0, .int .u32 0, .int .u32 0] 69)).alloc (.cells Try.zeroCells82 82)).heap.size = w.heap.size + 3) := hide ⟨(((Ext.refl w).alloc _).alloc _).alloc _, hZ ▸ Blk.new_at _ _ Try.zeroCells82 (by simp), ((Blk.new w _ _).alloc _).alloc _, (Blk.new_at _ _ _ (by simp)).alloc _, by simp⟩
  generalize (((w.alloc (.cells #[.int .u32 a0, .int .u32 b0, .int .u32 c0, .int .u32 d0, .int .u32 e0] 69)).alloc (.cells #[.int .u32 0, .int .u32 0, .int .u32 0, .int .u32 0, .int .u32 0] 69)).alloc (.cells Try.zeroCells82 82)) = W at HI ⊢
  obtain ⟨g, hg⟩ : ∃ g, g = w.heap.size := ⟨_, rfl⟩
  obtain ⟨g1, hg1⟩ : ∃ g1, g1 = w.heap.size + 1 := ⟨_, rfl⟩
  obtain ⟨g2, hg2⟩ : ∃ g2, g2 = w.heap.size + 1 + 1 := ⟨_, rfl⟩
  rw [← hg2, ← hg1, ← hg] at HI
  rw [← hg2, ← hg1, ← hg]
  have HGG : Hid (w.heap.size = g ∧ g1 = g + 1 ∧ g2 = g + 2) := hide ⟨hg.symm, by omega, by omega⟩
  clear hg hg1 hg2
  obtain ⟨M, hM⟩ : ∃ M : Nat → Int, M = fun t => word4 G (0 + 4 * t) := ⟨_, rfl⟩
  have HM := hide hM
  clear hM
  go_loopw [14] (fun s14 wr => ∃ (i : Nat) (r : Nat → Int), i ≤ 80 ∧ s14 = .int .i64 i ∧ Hid (Ext w wr ∧ KAt wr g2 82 .u32 80 r ∧ Blk wr g 69 #[.int .u32 a0, .int .u32 b0, .int .u32 c0, .int .u32 d0, .int .u32 e0] ∧ Blk wr g1 69 #[.int .u32 0, .int .u32 0, .int .u32 0, .int .u32 0, .int .u32 0] ∧ wr.heap.size = g + 3) ∧ Hid (∀ t, t < i → r t = sched M t)) (fun s14 _ => 80 - (intOf s14).toNat)
  case atStart => exact ⟨0, _, by omega, rfl, HI, hide fun t ht => absurd ht (by omega)⟩
  case round =>
    clear HI
    obtain ⟨i, r, hi, rfl, HI, HR⟩ := hrel
    by_cases hlt : i < 80
    · have hl2 : ((i : Int) < 80) := by omega
      by_cases h16 : i < 16
      · have q0 := HC.out wr HI.out.1 (4 * i) (by omega)
        have q1 := HC.out wr HI.out.1 (4 * i + 1) (by omega)
        rw [add_succ] at q1
        have q2 := HC.out wr HI.out.1 (4 * i + 2) (by omega)
        rw [add_succ] at q2
        have q3 := HC.out wr HI.out.1 (4 * i + 3) (by omega)
        rw [add_succ] at q3
        have ci := HI.out.2.1.cell hlt
        have fi := HI.out.2.1.frozen i
        obtain ⟨b0, hb0⟩ : ∃ b0, b0 = G (4 * i) := ⟨_, rfl⟩
        obtain ⟨b1, hb1⟩ : ∃ b1, b1 = G (4 * i + 1) := ⟨_, rfl⟩
        obtain ⟨b2, hb2⟩ : ∃ b2, b2 = G (4 * i + 2) := ⟨_, rfl⟩
        obtain ⟨b3, hb3⟩ : ∃ b3, b3 = G (4 * i + 3) := ⟨_, rfl⟩
        rw [← hb0] at q0
        rw [← hb1] at q1
        rw [← hb2] at q2
        rw [← hb3] at q3
        obtain ⟨l0, u0⟩ : 0 ≤ b0 ∧ b0 ≤ 255 := by rw [hb0]; exact HG.out _
        obtain ⟨l1, u1⟩ : 0 ≤ b1 ∧ b1 ≤ 255 := by rw [hb1]; exact HG.out _
        obtain ⟨l2, u2⟩ : 0 ≤ b2 ∧ b2 ≤ 255 := by rw [hb2]; exact HG.out _
        obtain ⟨l3, u3⟩ : 0 ≤ b3 ∧ b3 ≤ 255 := by rw [hb3]; exact HG.out _
        have HB := hide (And.intro hb0 (And.intro hb1 (And.intro hb2 hb3)))
        clear hb0 hb1 hb2 hb3
        have n1 : 4 * (i : Int) + 3 < 64 := by omega
        have n2 : 4 * (i : Int) + 2 < 64 := by omega
        have n3 : 4 * (i : Int) + 1 < 64 := by omega
        have n4 : 4 * (i : Int) < 64 := by omega
        go_wp2
        have p0 : IntKind.i64.wrap (4 * (i : Int)) = 4 * (i : Int) := IntWalk.i64_in _ (by omega)
        have p1 : IntKind.i64.wrap (4 * (i : Int) + 1) = 4 * (i : Int) + 1 := IntWalk.i64_in _ (by omega)
        have p2 : IntKind.i64.wrap (4 * (i : Int) + 2) = 4 * (i : Int) + 2 := IntWalk.i64_in _ (by omega)
        have p3 : IntKind.i64.wrap (4 * (i : Int) + 3) = 4 * (i : Int) + 3 := IntWalk.i64_in _ (by omega)
        have g0 : 0 ≤ 4 * (i : Int) := by omega
        have g1 : 0 ≤ 4 * (i : Int) + 1 := by omega
        have g2 : 0 ≤ 4 * (i : Int) + 2 := by omega
        have g3 : 0 ≤ 4 * (i : Int) + 3 := by omega
        have t0 : (4 * (i : Int)).toNat = 4 * i := by omega
        have t1 : (4 * (i : Int) + 1).toNat = 4 * i + 1 := by omega
        have t2 : (4 * (i : Int) + 2).toNat = 4 * i + 2 := by omega
        have t3 : (4 * (i : Int) + 3).toNat = 4 * i + 3 := by omega
        refine wp_region_quiet_tail 35 (by kernel_rfl) (by kernel_rfl) ?_
        simp only [List.take_succ_cons, List.take_zero, List.drop_succ_cons, List.drop_zero]
        repeat go_big_quiet_step (fail)
        refine wpQuiet_nil ?_
        clear p0 p1 p2 p3 g0 g1 g2 g3 t0 t1 t2 t3
        go_wp2
        go_roundw
        case rel =>
          refine ⟨i + 1, updI r i (sched M i), by omega, by go_num, hide ⟨(HI.out.1.setCell (by have := HGG.out; show w.heap.size ≤ g2; omega) _).drew, ?_, HI.out.2.2.1.far (by have := HGG.out; show g ≠ g2; omega) _, HI.out.2.2.2.1.far (by have := HGG.out; show g1 ≠ g2; omega) _, (by simpa [World.setCell] using HI.out.2.2.2.2)⟩, hide fun t ht => ?_⟩
          · have e : bits .or .u32 (bits .or .u32 (bits .or .u32 (b0 * 16777216) (b1 * 65536)) (b2 * 256)) b3 = sched M i := by
              rw [sched_lo M h16, HM.out, HB.out.1, HB.out.2.1, HB.out.2.2.1, HB.out.2.2.2]
              show _ = word4 G (0 + 4 * i)
              rw [Nat.zero_add]
              rfl
            rw [e]
            exact HI.out.2.1.put i _
          · by_cases e : t = i
            · subst e; exact updI_at _ _ _
            · rw [updI_ne _ _ e]; exact HR.out t (by omega)
        case measure => simp [intOf]; omega
      · have h16' : 16 ≤ i := by omega
        have c3 := HI.out.2.1.cell (i := i - 3) (by omega)
        have c8 := HI.out.2.1.cell (i := i - 8) (by omega)
        have c14 := HI.out.2.1.cell (i := i - 14) (by omega)
        have c16 := HI.out.2.1.cell (i := i - 16) (by omega)
        have ci := HI.out.2.1.cell hlt
        have fi := HI.out.2.1.frozen i
        rw [HR.out (i - 3) (by omega)] at c3
        rw [HR.out (i - 8) (by omega)] at c8
        rw [HR.out (i - 14) (by omega)] at c14
        rw [HR.out (i - 16) (by omega)] at c16
        have HT : Hid (rot1 (bits .xor .u32 (bits .xor .u32 (bits .xor .u32 (sched M (i - 3)) (sched M (i - 8))) (sched M (i - 14))) (sched M (i - 16))) = sched M i) := hide (sched_hi M h16').symm
        generalize sched M (i - 3) = x3 at c3 HT
        generalize sched M (i - 8) = x8 at c8 HT
        generalize sched M (i - 14) = x14 at c14 HT
        generalize sched M (i - 16) = x16 at c16 HT
        have n3 : (i : Int) - 3 < 80 := by omega
        have n8 : (i : Int) - 8 < 80 := by omega
        have n14 : (i : Int) - 14 < 80 := by omega
        have n16 : (i : Int) - 16 < 80 := by omega
        go_wp2
        have p0 : IntKind.i64.wrap ((i : Int) - 3) = (i : Int) - 3 := IntWalk.i64_in _ (by omega)
        have p1 : IntKind.i64.wrap ((i : Int) - 8) = (i : Int) - 8 := IntWalk.i64_in _ (by omega)
        have p2 : IntKind.i64.wrap ((i : Int) - 14) = (i : Int) - 14 := IntWalk.i64_in _ (by omega)
        have p3 : IntKind.i64.wrap ((i : Int) - 16) = (i : Int) - 16 := IntWalk.i64_in _ (by omega)
        have g0 : 0 ≤ (i : Int) - 3 := by omega
        have g1 : 0 ≤ (i : Int) - 8 := by omega
        have g2 : 0 ≤ (i : Int) - 14 := by omega
        have g3 : 0 ≤ (i : Int) - 16 := by omega
        have t0 : ((i : Int) - 3).toNat = i - 3 := by omega
        have t1 : ((i : Int) - 8).toNat = i - 8 := by omega
        have t2 : ((i : Int) - 14).toNat = i - 14 := by omega
        have t3 : ((i : Int) - 16).toNat = i - 16 := by omega
        refine wp_region_tailC 22 (by kernel_rfl) (by kernel_rfl) ?_
        simp only [List.take_succ_cons, List.take_zero, List.drop_succ_cons, List.drop_zero]
        repeat go_big_quiet_step ((go_at_call 48; exact Calls.quiet_of (turned1_any _ _ (bits32_lt _ _ _))))
        refine wpQuiet_nil ?_
        intro _ hw'
        obtain ⟨nq, hw''⟩ := hw'
        subst hw''
        clear p0 p1 p2 p3 g0 g1 g2 g3 t0 t1 t2 t3
        go_wp2
        go_roundw
        case rel =>
          rw [HT.out]
          refine ⟨i + 1, updI r i (sched M i), by omega, by go_num, hide ⟨(HI.out.1.drewN _).setCell (by have := HGG.out; show w.heap.size ≤ g2; omega) _, (HI.out.2.1.drewN nq).put i _, (HI.out.2.2.1.drewN nq).far (by have := HGG.out; show g ≠ g2; omega) _, (HI.out.2.2.2.1.drewN nq).far (by have := HGG.out; show g1 ≠ g2; omega) _, (by simpa [World.setCell] using HI.out.2.2.2.2)⟩, hide fun t ht => ?_⟩
          by_cases e : t = i
          · subst e; exact updI_at _ _ _
          · rw [updI_ne _ _ e]; exact HR.out t (by omega)
        case measure => simp [intOf]; omega
    · obtain rfl : i = 80 := by omega
      have HK : Hid (KAt wr g2 82 .u32 80 (sched M)) := hide (HI.out.2.1.congr HR.out)
      have c0' := HI.out.2.2.1.cell 0
      have c1' := HI.out.2.2.1.cell 1
      have c2' := HI.out.2.2.1.cell 2
      have c3' := HI.out.2.2.1.cell 3
      have c4' := HI.out.2.2.1.cell 4
      simp at c0' c1' c2' c3' c4'
      go_upto_region 10 with fail
      clear c0' c1' c2' c3' c4'
      have HJ : Hid (Ext w (wr.alloc (.cells #[.int .u32 a0, .int .u32 b0, .int .u32 c0, .int .u32 d0, .int .u32 e0] 69)) ∧ Blk (wr.alloc (.cells #[.int .u32 a0, .int .u32 b0, .int .u32 c0, .int .u32 d0, .int .u32 e0] 69)) wr.heap.size 69 (w5A ⟨a0, b0, c0, d0, e0⟩) ∧ Blk (wr.alloc (.cells #[.int .u32 a0, .int .u32 b0, .int .u32 c0, .int .u32 d0, .int .u32 e0] 69)) g 69 (w5A ⟨a0, b0, c0, d0, e0⟩) ∧ Blk (wr.alloc (.cells #[.int .u32 a0, .int .u32 b0, .int .u32 c0, .int .u32 d0, .int .u32 e0] 69)) g1 69 #[.int .u32 0, .int .u32 0, .int .u32 0, .int .u32 0, .int .u32 0]) := hide ⟨HI.out.1.alloc _, Blk.new _ _ _, HI.out.2.2.1.alloc _, HI.out.2.2.2.1.alloc _⟩
      have HK2 := hide (HK.out.alloc (.cells #[.int .u32 a0, .int .u32 b0, .int .u32 c0, .int .u32 d0, .int .u32 e0] 69))
      obtain ⟨g3, hg3⟩ : ∃ g3, g3 = wr.heap.size := ⟨_, rfl⟩
      have HG3 : Hid (g3 = g + 3) := hide (hg3.trans HI.out.2.2.2.2)
      rw [← hg3] at HJ
      rw [← hg3]
      clear HI HR HK hg3
      generalize wr.alloc (.cells #[.int .u32 a0, .int .u32 b0, .int .u32 c0, .int .u32 d0, .int .u32 e0] 69) = W2 at HJ HK2 ⊢
      refine wp_region_lit ?_
      refine wpList_load_row rfl 82 _ rfl g2 rfl 82 (kArr .u32 80 (sched M)) (0, 0) _ HK2.out Try.underlying82 rfl (by rw [kArr_size]; kernel_rfl) ?_
      have HIX : Hid (∀ (t : Nat), t < 80 → ∀ w, (Instr.index 82 (.agg (kArr .u32 80 (sched M))) (.int .i64 t)).run Try.prog w = .ok (.int .u32 (sched M t)) w) := hide fun t ht w => run_index_k _ Try.underlying82 (fun _ => by kernel_rfl) (fun _ => by kernel_rfl) ht w
      clear HK2
      simp only [Act.put]
      generalize Value.agg (kArr .u32 80 (sched M)) = X at HIX ⊢
      go_wp2
      have HMw : Hid (∀ t, W32 (sched M t)) := hide fun t => sched_w (fun j _ => by rw [HM.out]; exact word4_w _ _) t
      go_loopw [79] (fun s79 wr => ∃ (t : Nat) (v : W5), t ≤ 80 ∧ s79 = .int .i64 t ∧ Hid (v = W5.rounds M t ⟨a0, b0, c0, d0, e0⟩) ∧ Hid (Ext w wr ∧ Blk wr g3 69 (w5A v) ∧ Blk wr g 69 (w5A ⟨a0, b0, c0, d0, e0⟩) ∧ Blk wr g1 69 #[.int .u32 0, .int .u32 0, .int .u32 0, .int .u32 0, .int .u32 0])) (fun s79 _ => 80 - (intOf s79).toNat)
      case atStart => exact ⟨0, _, by omega, rfl, hide rfl, HJ⟩
      case round =>
        clear HJ
        obtain ⟨t, v, ht, rfl, HV, HI⟩ := hrel
        have HA : Hid (W5.ok v) := hide (by rw [HV.out]; exact W5.rounds_ok HS.out M t)
        by_cases hlt : t < 80
        · have hix := HIX.out t hlt
          obtain ⟨x, hx⟩ : ∃ x, x = sched M t := ⟨_, rfl⟩
          rw [← hx] at hix
          obtain ⟨a, b, c, dd, e⟩ := v
          have HX : Hid (x = sched M t ∧ W32 x) := hide ⟨hx, by rw [hx]; exact HMw.out t⟩
          clear hx
          obtain ⟨⟨a1, a2⟩, ⟨b1, b2⟩, ⟨c1, c2⟩, ⟨d1, d2⟩, ⟨e1, e2⟩⟩ := HA.out
          obtain ⟨x1, x2⟩ := HX.out.2
          have v0 := HI.out.2.1.cell 0
          have v1 := HI.out.2.1.cell 1
          have v2 := HI.out.2.1.cell 2
          have v3 := HI.out.2.1.cell 3
          have v4 := HI.out.2.1.cell 4
          simp [w5A] at v0 v1 v2 v3 v4
          have HF : Hid (Calls Try.prog 49 #[.int .i64 t, .int .u32 b, .int .u32 c, .int .u32 dd] wr fun e w' => e = .returned (.tuple #[.int .u32 (shaF t b c dd), .int .u32 (shaK t)]) ∧ w' = wr) := hide (mixed_any t b c dd wr hlt)
          obtain ⟨⟨f1, f2⟩, ⟨k1, k2⟩⟩ : W32 (shaF t b c dd) ∧ W32 (shaK t) := ⟨shaF_w _ _ _ _, shaK_w _⟩
          obtain ⟨F, hF⟩ : ∃ F, F = shaF t b c dd := ⟨_, rfl⟩
          obtain ⟨K, hK⟩ : ∃ K, K = shaK t := ⟨_, rfl⟩
          rw [← hF] at f1 f2 HF
          rw [← hK] at k1 k2 HF
          have HFK := hide (And.intro hF hK)
          clear hF hK
          go_wp2_with (go_at_call 49; refine HF.out.mono ?_; rintro e w2 ⟨rfl, hw⟩; subst w2)
          go_quiet ((go_at_call 48; exact Calls.quiet_of (turned5_any _ _ HA.out.a)))
          have HI2 : Hid (Ext w (wr.drewN nq) ∧ Blk (wr.drewN nq) g3 69 (w5A ⟨a, b, c, dd, e⟩) ∧ Blk (wr.drewN nq) g 69 (w5A ⟨a0, b0, c0, d0, e0⟩) ∧ Blk (wr.drewN nq) g1 69 #[.int .u32 0, .int .u32 0, .int .u32 0, .int .u32 0, .int .u32 0]) := hide ⟨HI.out.1.drewN _, HI.out.2⟩
          generalize wr.drewN nq = W at HI2 ⊢
          clear v0 v1 v2 v3 v4 HI HF
          have v0 := HI2.out.2.1.cell 0
          have v1 := HI2.out.2.1.cell 1
          have v2 := HI2.out.2.1.cell 2
          have v3 := HI2.out.2.1.cell 3
          have v4 := HI2.out.2.1.cell 4
          have z0 := HI2.out.2.1.frozen 0
          have z1 := HI2.out.2.1.frozen 1
          have z2 := HI2.out.2.1.frozen 2
          have z3 := HI2.out.2.1.frozen 3
          have z4 := HI2.out.2.1.frozen 4
          simp [w5A] at v0 v1 v2 v3 v4
          go_wp2
          refine wp_region_tailC 11 (by kernel_rfl) (by kernel_rfl) ?_
          simp only [List.take_succ_cons, List.take_zero, List.drop_succ_cons, List.drop_zero]
          repeat go_big_quiet_step ((go_at_call 48; exact Calls.quiet_of (turned30_any _ _ HA.out.b)))
          refine wpQuiet_nil ?_
          intro _ hw'
          obtain ⟨nq, hw''⟩ := hw'
          subst hw''
          go_wp2
          go_roundw
          case rel =>
            refine ⟨t + 1, ⟨_, a, rot30 b, c, dd⟩, by omega, by go_num, hide ?_, hide ⟨?_, (((((HI2.out.2.1.set_ 0 _).set_ 1 _).set_ 2 _).set_ 3 _).set_ 4 _ : Blk _ _ _ _), ?_, ?_⟩⟩
            · rw [W5.rounds_succ, ← HV.out, HFK.out.1, HFK.out.2, HX.out.1]
              rfl
            · have hg : w.heap.size ≤ g3 := by have := HGG.out; have := HG3.out; omega
              exact ((((((HI2.out.1.drewN _).setCell hg _).setCell hg _).setCell hg _).setCell hg _).setCell hg _)
            · have hg : g ≠ g3 := by have := HGG.out; have := HG3.out; omega
              exact ((((HI2.out.2.2.1.far (p := ⟨g3, 0, none⟩) hg _).far (p := ⟨g3, 1, none⟩) hg _).far (p := ⟨g3, 2, none⟩) hg _).far (p := ⟨g3, 3, none⟩) hg _).far (p := ⟨g3, 4, none⟩) hg _
            · have hg : g1 ≠ g3 := by have := HGG.out; have := HG3.out; omega
              exact ((((HI2.out.2.2.2.far (p := ⟨g3, 0, none⟩) hg _).far (p := ⟨g3, 1, none⟩) hg _).far (p := ⟨g3, 2, none⟩) hg _).far (p := ⟨g3, 3, none⟩) hg _).far (p := ⟨g3, 4, none⟩) hg _
          case measure => simp [intOf]; omega
        · obtain rfl : t = 80 := by omega
          have HV2 : Hid (v = W5.rounds M nR ⟨a0, b0, c0, d0, e0⟩) := HV
          clear HV HIX HMw
          go_wp2
          go_loopw [118] (fun s118 wr => ∃ i : Nat, i ≤ 5 ∧ s118 = .int .i64 i ∧ Hid (Ext w wr ∧ KAt wr g 69 .u32 5 (fun j => if j < i then (w5f ⟨a0, b0, c0, d0, e0⟩ j + w5f v j) % 4294967296 else w5f ⟨a0, b0, c0, d0, e0⟩ j) ∧ KAt wr g3 69 .u32 5 (w5f v) ∧ Blk wr g1 69 #[.int .u32 0, .int .u32 0, .int .u32 0, .int .u32 0, .int .u32 0])) (fun s118 _ => 5 - (intOf s118).toNat)
          case atStart => exact ⟨0, by omega, rfl, hide ⟨HI.out.1, (show KAt wr g 69 .u32 5 (w5f ⟨a0, b0, c0, d0, e0⟩) from HI.out.2.2.1).congr (fun j _ => by rw [if_neg (by omega)]), HI.out.2.1, HI.out.2.2.2⟩⟩
          case round =>
            clear HI
            obtain ⟨i, hi, rfl, HI⟩ := hrel
            by_cases hlt2 : i < 5
            · have q0 := HI.out.2.1.cell hlt2
              rw [if_neg (Nat.lt_irrefl i)] at q0
              have q1 := HI.out.2.2.1.cell hlt2
              have q2 := HI.out.2.1.frozen i
              obtain ⟨x, hx⟩ : ∃ x, x = w5f ⟨a0, b0, c0, d0, e0⟩ i := ⟨_, rfl⟩
              obtain ⟨y, hy⟩ : ∃ y, y = w5f v i := ⟨_, rfl⟩
              obtain ⟨x1, x2⟩ : W32 x := by rw [hx]; exact w5f_ok HS.out i
              obtain ⟨y1, y2⟩ : W32 y := by rw [hy]; exact w5f_ok HA.out i
              rw [← hx] at q0
              rw [← hy] at q1
              have HXY := hide (And.intro hx hy)
              clear hx hy
              go_wp2
              refine wp_region_quiet_tail 8 (by kernel_rfl) (by kernel_rfl) ?_
              simp only [List.take_succ_cons, List.take_zero, List.drop_succ_cons, List.drop_zero]
              repeat go_big_quiet_step (fail)
              refine wpQuiet_nil ?_
              go_wp2
              go_roundw
              case rel =>
                have hg3 : g3 ≠ g := by have := HGG.out; have := HG3.out; omega
                have hg1 : g1 ≠ g := by have := HGG.out; have := HG3.out; omega
                have hg : w.heap.size ≤ g := by have := HGG.out; omega
                refine ⟨i + 1, by omega, by go_num, hide ⟨(HI.out.1.setCell hg _).drew, ?_, HI.out.2.2.1.far hg3 _, HI.out.2.2.2.far hg1 _⟩⟩
                refine KAt.congr (HI.out.2.1.put i ((x + y) % 4294967296)) fun j _ => ?_
                by_cases e : j = i
                · subst e
                  rw [updI_at, if_pos (by omega), HXY.out.1, HXY.out.2]
                · rw [updI_ne _ _ e]
                  by_cases e2 : j < i
                  · rw [if_pos e2, if_pos (by omega)]
                  · rw [if_neg e2, if_neg (by omega)]
              case measure => simp [intOf]; omega
            · obtain rfl : i = 5 := by omega
              have HB : Hid (KAt wr g 69 .u32 5 (w5f (W5.add ⟨a0, b0, c0, d0, e0⟩ v))) := hide (HI.out.2.1.congr fun j hj => by
                rw [if_pos hj]
                rcases (by omega : j = 0 ∨ j = 1 ∨ j = 2 ∨ j = 3 ∨ j = 4) with rfl | rfl | rfl | rfl | rfl <;> rfl)
              have q0 := HB.out.cell (i := 0) (by omega)
              have q1 := HB.out.cell (i := 1) (by omega)
              have q2 := HB.out.cell (i := 2) (by omega)
              have q3 := HB.out.cell (i := 3) (by omega)
              have q4 := HB.out.cell (i := 4) (by omega)
              have z0 := HI.out.2.2.2.cell 0
              have z1 := HI.out.2.2.2.cell 1
              have z2 := HI.out.2.2.2.cell 2
              have z3 := HI.out.2.2.2.cell 3
              have z4 := HI.out.2.2.2.cell 4
              simp at z0 z1 z2 z3 z4
              have y0 := HI.out.2.2.2.frozen 0
              have y1 := HI.out.2.2.2.frozen 1
              have y2 := HI.out.2.2.2.frozen 2
              have y3 := HI.out.2.2.2.frozen 3
              have y4 := HI.out.2.2.2.frozen 4
              obtain ⟨p0, e0'⟩ : ∃ p, p = w5f (W5.add ⟨a0, b0, c0, d0, e0⟩ v) 0 := ⟨_, rfl⟩
              obtain ⟨p1, e1'⟩ : ∃ p, p = w5f (W5.add ⟨a0, b0, c0, d0, e0⟩ v) 1 := ⟨_, rfl⟩
              obtain ⟨p2, e2'⟩ : ∃ p, p = w5f (W5.add ⟨a0, b0, c0, d0, e0⟩ v) 2 := ⟨_, rfl⟩
              obtain ⟨p3, e3'⟩ : ∃ p, p = w5f (W5.add ⟨a0, b0, c0, d0, e0⟩ v) 3 := ⟨_, rfl⟩
              obtain ⟨p4, e4'⟩ : ∃ p, p = w5f (W5.add ⟨a0, b0, c0, d0, e0⟩ v) 4 := ⟨_, rfl⟩
              rw [← e0'] at q0
              rw [← e1'] at q1
              rw [← e2'] at q2
              rw [← e3'] at q3
              rw [← e4'] at q4
              have HP : Hid (w5A (W5.blockN nR G 0 ⟨a0, b0, c0, d0, e0⟩) = #[.int .u32 p0, .int .u32 p1, .int .u32 p2, .int .u32 p3, .int .u32 p4]) := hide (by
                rw [e0', e1', e2', e3', e4', HV2.out, HM.out]
                rfl)
              clear e0' e1' e2' e3' e4'
              go_wp2
              have HR := ((((HI.out.2.2.2.set_ 0 (.int .u32 p0)).set_ 1 (.int .u32 p1)).set_ 2 (.int .u32 p2)).set_ 3 (.int .u32 p3)).set_ 4 (.int .u32 p4)
              have hg : w.heap.size ≤ g1 := by have := HGG.out; omega
              rw [HP.out]
              refine bodyPost_ret (results_cell_row rfl _ _ g1 69 _ (0, 0) _ rfl HR Try.underlying69 rfl (by kernel_rfl)) rfl ⟨rfl, ?_⟩
              exact ((((HI.out.1.setCell hg _).setCell hg _).setCell hg _).setCell hg _).setCell hg _
end Go.Proofs.Ytlnidgkcgjlnaaa
