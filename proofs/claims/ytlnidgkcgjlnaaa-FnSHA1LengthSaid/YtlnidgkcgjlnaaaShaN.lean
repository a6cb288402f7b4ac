/-
  sha1.New; (*sha1.digest).checkSum: the padding, the sum's bytes.
-/
import Derived.Test.YtlnidgkcgjlnaaaShaR
namespace Go.Proofs.Ytlnidgkcgjlnaaa
open Go.RowKit
set_option linter.unusedVariables false
set_option linter.unusedSimpArgs false

theorem digC_zero : digC ⟨0, 0, 0, 0, 0⟩ (fun _ => 0) 0 0 = Try.zeroCells94 := by kernel_rfl
set_option maxRecDepth 100000 in
set_option maxHeartbeats 4000000 in
theorem reset_any (w : World) (d : Nat) (s : W5) (x : Nat → Int) (nx len : Int) (hD : Dig w d s x nx len) :
    Calls Try.prog 52 #[.pointer (some ⟨d, 0, none⟩)] w fun e w' => e = .returned (.tuple #[]) ∧ Dig w' d shaInit x 0 0 ∧ Chg [d] w w' := by
  obtain ⟨h0, h1, h2, h3, h4⟩ := hD.h
  obtain ⟨n0, n1⟩ := hD.n
  have f0 := Blk.frozen hD 0
  have f1 := Blk.frozen hD 1
  have f2 := Blk.frozen hD 2
  have f3 := Blk.frozen hD 3
  have f4 := Blk.frozen hD 4
  have f5 := Blk.frozen hD 69
  have f6 := Blk.frozen hD 70
  have HD := hide (((hD.set_h 1732584193 4023233417 2562383102 271733878 3285377520).set_nx 0).set_len 0)
  clear hD
  go_enter Try.func52, Try.ntmps52
  go_wp2
  refine bodyPost_end (results_none rfl _ _ _) rfl ⟨rfl, HD.out, ?_⟩
  exact ((((((((Chg.refl [d] w).setCell (by simp) _).setCell (by simp) _).setCell (by simp) _).setCell (by simp) _).setCell (by simp) _).setCell (by simp) _).setCell (by simp) _)
set_option maxRecDepth 100000 in
theorem new_any (w : World) : Calls Try.prog 45 #[] w fun e w' => e = .returned (.pointer (some ⟨w.heap.size, 0, none⟩)) ∧ ShaX w' w.heap.size [] 0 ∧ Ext w w' := by
  have hz := digC_zero
  have HD : Hid (Dig (w.alloc (.cells Try.zeroCells94 94)) w.heap.size ⟨0, 0, 0, 0, 0⟩ (fun _ => 0) 0 0) := hide (by
    unfold Dig
    rw [hz]
    exact Blk.new _ _ _)
  have HX : Hid (Ext w (w.alloc (.cells Try.zeroCells94 94))) := hide ((Ext.refl w).alloc _)
  have HR := hide (reset_any _ _ _ _ _ _ HD.out)
  clear hz
  go_enter Try.func45, Try.ntmps45
  go_wp2_with (go_at_call 52; refine HR.out.mono ?_; rintro e w2 ⟨rfl, h1, h2⟩)
  go_ret
  refine ⟨rfl, ⟨_, h1, fun i hi => absurd hi (by simp)⟩, ?_⟩
  exact (Chg.ext ((Chg.of_ext HX.out [w.heap.size]).trans h2) (by simp))
theorem lenB_at (n i : Nat) (h : i < 8) : (lenBytes n)[i]? = some (UInt8.ofNat (8 * n / 2 ^ (8 * (7 - i)) % 256)) := by simp [lenBytes, h]
/-- The padding's bytes, as the code lays them. -/
theorem pad_at (n : Nat) (j : Nat) (hj : j < padT n + 8) : put8 (updI (fun _ => 0) 0 128) (padT n) 8 (8 * (n : Int)) j = lb (shaPad n) j := by
  have ht := padT_pos n
  unfold put8
  rcases (by omega : j = 0 ∨ (0 < j ∧ j < padT n) ∨ padT n ≤ j) with rfl | ⟨h1, h2⟩ | h1
  · rw [if_neg (by omega), updI_at]
    rfl
  · rw [if_neg (by omega), updI_ne _ _ (by omega)]
    unfold lb shaPad
    obtain ⟨k, rfl⟩ : ∃ k, j = k + 1 := ⟨j - 1, by omega⟩
    rw [List.getD_cons_succ, List.getD_eq_getElem?_getD, List.getElem?_append_left (by simp; omega), List.getElem?_replicate, if_pos (by omega)]
    rfl
  · rw [if_pos ⟨h1, hj⟩]
    obtain ⟨k, rfl⟩ : ∃ k, j = padT n + k := ⟨j - padT n, by omega⟩
    have hk : k < 8 := by omega
    unfold lb shaPad
    obtain ⟨m, hm⟩ : ∃ m, padT n = m + 1 := ⟨padT n - 1, by omega⟩
    rw [Nat.add_sub_cancel_left]
    have e : (128 :: (List.replicate (padT n - 1) 0 ++ lenBytes n)).getD (padT n + k) 0 = UInt8.ofNat (8 * n / 2 ^ (8 * (7 - k)) % 256) := by
      rw [show padT n + k = (m + k) + 1 by omega, List.getD_cons_succ, List.getD_eq_getElem?_getD, List.getElem?_append_right (by simp; omega), List.length_replicate, show m + k - (padT n - 1) = k by omega, lenB_at n k hk]
      rfl
    rw [e]
    have e2 : (UInt8.ofNat (8 * n / 2 ^ (8 * (7 - k)) % 256)).toNat = 8 * n / 2 ^ (8 * (7 - k)) % 256 := by
      rw [UInt8.toNat_ofNat']; omega
    rw [e2, show 56 - 8 * k = 8 * (7 - k) by omega]
    have hp : (2 : Int) ^ (8 * (7 - k)) = ((2 ^ (8 * (7 - k)) : Nat) : Int) := by rw [Int.natCast_pow]; rfl
    rw [hp]
    generalize 2 ^ (8 * (7 - k)) = q
    rw [Int.natCast_emod, Int.natCast_ediv, Int.natCast_mul]
    rfl
theorem word_byte (x : Int) (h : W32 x) : ((UInt8.ofNat (x / 16777216).toNat).toNat : Int) = x / 16777216 ∧ ((UInt8.ofNat (x / 65536 % 256).toNat).toNat : Int) = x / 65536 % 256 ∧ ((UInt8.ofNat (x / 256 % 256).toNat).toNat : Int) = x / 256 % 256 ∧ ((UInt8.ofNat (x % 256).toNat).toNat : Int) = x % 256 := by
  obtain ⟨h0, h1⟩ := h
  refine ⟨?_, ?_, ?_, ?_⟩ <;> (rw [UInt8.toNat_ofNat']; omega)
/-- The sum's bytes, as the code lays them. -/
theorem out_at (s : W5) (h : s.ok) (j : Nat) (hj : j < 20) : put4 (put4 (put4 (put4 (put4 (fun _ => 0) 0 s.a) 4 s.b) 8 s.c) 12 s.d) 16 s.e j = lb s.out j := by
  obtain ⟨a0, a1, a2, a3⟩ := word_byte s.a h.a
  obtain ⟨b0, b1, b2, b3⟩ := word_byte s.b h.b
  obtain ⟨c0, c1, c2, c3⟩ := word_byte s.c h.c
  obtain ⟨d0, d1, d2, d3⟩ := word_byte s.d h.d
  obtain ⟨e0, e1, e2, e3⟩ := word_byte s.e h.e
  unfold lb W5.out wordB put4 updI
  rcases (by omega : j = 0 ∨ j = 1 ∨ j = 2 ∨ j = 3 ∨ j = 4 ∨ j = 5 ∨ j = 6 ∨ j = 7 ∨ j = 8 ∨ j = 9 ∨ j = 10 ∨ j = 11 ∨ j = 12 ∨ j = 13 ∨ j = 14 ∨ j = 15 ∨ j = 16 ∨ j = 17 ∨ j = 18 ∨ j = 19) with rfl | rfl | rfl | rfl | rfl | rfl | rfl | rfl | rfl | rfl | rfl | rfl | rfl | rfl | rfl | rfl | rfl | rfl | rfl | rfl
  · exact a0.symm
  · exact a1.symm
  · exact a2.symm
  · exact a3.symm
  · exact b0.symm
  · exact b1.symm
  · exact b2.symm
  · exact b3.symm
  · exact c0.symm
  · exact c1.symm
  · exact c2.symm
  · exact c3.symm
  · exact d0.symm
  · exact d1.symm
  · exact d2.symm
  · exact d3.symm
  · exact e0.symm
  · exact e1.symm
  · exact e2.symm
  · exact e3.symm
set_option maxRecDepth 100000 in
set_option maxHeartbeats 4000000 in
theorem checkSum_any (BG : BlockG) (w : World) (d : Nat) (l : List UInt8) (hs : ShaX w d l l.length) (hl : l.length ≤ 100000) :
    Calls Try.prog 54 #[.pointer (some ⟨d, 0, none⟩)] w fun e w' => e = .returned (.agg (kArr .u8 20 (lb (shaSum l)))) ∧ Chg [d] w w' := by
  have HBG := hide BG
  have HS := hide hs
  obtain ⟨n, hn⟩ : ∃ n, n = l.length := ⟨_, rfl⟩
  have HN := hide hn
  obtain ⟨x, hD, hx⟩ := hs
  have hdl := hD.lt
  obtain ⟨n0, n1⟩ := hD.n
  rw [← hn] at n1 hl
  obtain ⟨t, ht⟩ : ∃ t, t = padT n := ⟨_, rfl⟩
  have HT := hide ht
  obtain ⟨t1, t2, t3⟩ := padT_pos n
  rw [← ht] at t1 t2 t3
  clear hD hx hn BG
  go_enter Try.func54, Try.ntmps54
  go_upto_if 15 with fail
  clear ht
  have hz : Try.zeroCells98 = kArr .u8 72 (fun _ => 0) := by kernel_rfl
  have HI : Hid (Ext w ((w.alloc (.cells #[.int .u8 0, .int .u8 0, .int .u8 0, .int .u8 0, .int .u8 0, .int .u8 0, .int .u8 0, .int .u8 0, .int .u8 0, .int .u8 0, .int .u8 0, .int .u8 0, .int .u8 0, .int .u8 0, .int .u8 0, .int .u8 0, .int .u8 0, .int .u8 0, .int .u8 0, .int .u8 0] 96)).alloc (.cells (Try.zeroCells98.setIfInBounds 0 (.int .u8 128)) 98)) ∧ KAt ((w.alloc (.cells #[.int .u8 0, .int .u8 0, .int .u8 0, .int .u8 0, .int .u8 0, .int .u8 0, .int .u8 0, .int .u8 0, .int .u8 0, .int .u8 0, .int .u8 0, .int .u8 0, .int .u8 0, .int .u8 0, .int .u8 0, .int .u8 0, .int .u8 0, .int .u8 0, .int .u8 0, .int .u8 0] 96)).alloc (.cells (Try.zeroCells98.setIfInBounds 0 (.int .u8 128)) 98)) w.heap.size 96 .u8 20 (fun _ => 0) ∧ KAt ((w.alloc (.cells #[.int .u8 0, .int .u8 0, .int .u8 0, .int .u8 0, .int .u8 0, .int .u8 0, .int .u8 0, .int .u8 0, .int .u8 0, .int .u8 0, .int .u8 0, .int .u8 0, .int .u8 0, .int .u8 0, .int .u8 0, .int .u8 0, .int .u8 0, .int .u8 0, .int .u8 0, .int .u8 0] 96)).alloc (.cells (Try.zeroCells98.setIfInBounds 0 (.int .u8 128)) 98)) (w.heap.size + 1) 98 .u8 72 (updI (fun _ => 0) 0 128)) := hide ⟨((Ext.refl w).alloc _).alloc _, (Blk.new w _ _).alloc _, by
    rw [hz, kArr_upd]
    exact Blk.new_at _ _ _ (by simp)⟩
  generalize ((w.alloc (.cells #[.int .u8 0, .int .u8 0, .int .u8 0, .int .u8 0, .int .u8 0, .int .u8 0, .int .u8 0, .int .u8 0, .int .u8 0, .int .u8 0, .int .u8 0, .int .u8 0, .int .u8 0, .int .u8 0, .int .u8 0, .int .u8 0, .int .u8 0, .int .u8 0, .int .u8 0, .int .u8 0] 96)).alloc (.cells (Try.zeroCells98.setIfInBounds 0 (.int .u8 128)) 98)) = W at HI ⊢
  obtain ⟨b0, hb0⟩ : ∃ b0, b0 = w.heap.size := ⟨_, rfl⟩
  obtain ⟨b1, hb1⟩ : ∃ b1, b1 = w.heap.size + 1 := ⟨_, rfl⟩
  rw [← hb1, ← hb0] at HI
  rw [← hb1, ← hb0]
  have HB := hide (And.intro hb0 (And.intro hb1 hdl))
  clear hb0 hb1 hz n0 n1 hdl
  go_cut [5] (fun s5 wx => s5 = .int .u64 t ∧ W = wx)
  case first =>
    by_cases h56 : n % 64 < 56
    · have h1 : ((n : Int) % 64) < 56 := by omega
      have h2 : 56 - (n : Int) % 64 = (t : Int) := by rw [HT.out]; unfold padT; rw [if_pos h56]; omega
      go_wp2
      go_meet
      case rel => exact ⟨rfl, rfl⟩
    · have h1 : ¬ ((n : Int) % 64) < 56 := by omega
      have h2 : 120 - (n : Int) % 64 = (t : Int) := by rw [HT.out]; unfold padT; rw [if_neg h56]; omega
      go_wp2
      go_meet
      case rel => exact ⟨rfl, rfl⟩
  obtain ⟨rfl, rfl⟩ := hcut
  have i1 : (t : Int) + 8 ≤ 72 := by omega
  have i0 : 0 ≤ (t : Int) + 8 := by omega
  have i2 : ¬ 72 = t := by omega
  have i3 : (t : Int) ≤ 72 := by omega
  have i4 : (t : Int) ≤ (t : Int) + 8 := by omega
  have i5 : ((t : Int) + 8).toNat = t + 8 := by omega
  go_upto_region 10 with fail
  have HP := hide (put64_any W b1 98 72 t (72 - t) _ ((n : Int) * 8) (by omega) (by omega) HI.out.2.2 (by omega) (by omega))
  go_upto_region 11 with (go_at_call 56; refine HP.out.mono ?_; rintro e W2 ⟨rfl, hK, hC⟩)
  have hne : d ≠ b1 := by have := HB.out; omega
  have hlen : (shaPad n).length = t + 8 := by rw [shaPad_length, HT.out]
  have HRP : Hid (RBytes W2 (some ⟨b1, 0, none⟩) (shaPad n)) := hide (rbytes_blk hK fun j hj => by
    rw [Nat.zero_add, kArr_get (by omega), ← lb_at hj]
    have h := pad_at n j (by rw [← HT.out]; omega)
    rw [← HT.out] at h
    rw [Int.mul_comm (n : Int) 8, h])
  have HC2 : Hid (Chg [b1] w W2) := hide ((Chg.of_ext HI.out.1 [b1]).trans hC)
  have HB0 : Hid (KAt W2 b0 96 .u8 20 (fun _ => 0)) := hide (HI.out.2.1.chg hC (by have := HB.out; simp; omega))
  have HWR := hide (write_any HBG.out W2 d l (shaPad n) (t + 8) 72 (some ⟨b1, 0, none⟩) (HS.out.chg HC2.out (by simpa using hne)) hlen HRP.out (fun ad e => by injection e with e; subst e; exact fun h => hne h.symm) (by omega) (by omega) (by unfold maxLen; omega) (by rw [← HN.out]; omega))
  have HE0 : Hid ((l ++ shaPad n).length % 64 = 0) := hide (by rw [List.length_append, hlen, ← HN.out]; omega)
  clear hK hC HP HRP hne hlen
  go_upto_region 12 with (go_at_call 46; refine HWR.out.mono ?_; rintro e W3 ⟨rfl, hS3, hC3⟩)
  have HC3 : Hid (Chg [d, b1] w W3) := hide ((HC2.out.more (fun i hi => .inl (by simp at hi ⊢; exact .inr hi))).trans (hC3.more (fun i hi => .inl (by simp at hi ⊢; exact .inl hi))))
  have HB3 : Hid (KAt W3 b0 96 .u8 20 (fun _ => 0)) := hide (HB0.out.chg hC3 (by have := HB.out; simp; omega))
  obtain ⟨x3, hD3, _⟩ := hS3
  rw [HE0.out] at hD3
  obtain ⟨N3, hN3⟩ : ∃ N3 : Int, N3 = (l.length : Int) + ((t + 8 : Nat) : Int) := ⟨_, rfl⟩
  rw [← hN3] at hD3
  have HOK : Hid (shaState (l ++ shaPad n)).ok := hide (shaState_ok _)
  have HSum : Hid (shaSum l = (shaState (l ++ shaPad n)).out) := hide (by rw [HN.out]; rfl)
  generalize shaState (l ++ shaPad n) = S at hD3 HOK HSum
  have HD3 : Hid (Dig W3 d S x3 0 N3) := hide hD3
  clear hD3 hC3 hN3 HWR HE0 HC2 HB0 HI HS
  obtain ⟨n0, n1⟩ := HD3.out.n
  go_upto_region 14 with fail
  clear n0 n1
  go_upto_region 15 with fail
  have HK : Hid (KAt (W3.alloc (.cells #[.int .u8 0, .int .u8 0, .int .u8 0, .int .u8 0, .int .u8 0, .int .u8 0, .int .u8 0, .int .u8 0, .int .u8 0, .int .u8 0, .int .u8 0, .int .u8 0, .int .u8 0, .int .u8 0, .int .u8 0, .int .u8 0, .int .u8 0, .int .u8 0, .int .u8 0, .int .u8 0] 96)) W3.heap.size 96 .u8 20 (fun _ => 0)) := hide (Blk.new _ _ _)
  have HD : Hid (Dig (W3.alloc (.cells #[.int .u8 0, .int .u8 0, .int .u8 0, .int .u8 0, .int .u8 0, .int .u8 0, .int .u8 0, .int .u8 0, .int .u8 0, .int .u8 0, .int .u8 0, .int .u8 0, .int .u8 0, .int .u8 0, .int .u8 0, .int .u8 0, .int .u8 0, .int .u8 0, .int .u8 0, .int .u8 0] 96)) d S x3 0 N3) := hide (Blk.alloc HD3.out _)
  have HB4 : Hid (KAt (W3.alloc (.cells #[.int .u8 0, .int .u8 0, .int .u8 0, .int .u8 0, .int .u8 0, .int .u8 0, .int .u8 0, .int .u8 0, .int .u8 0, .int .u8 0, .int .u8 0, .int .u8 0, .int .u8 0, .int .u8 0, .int .u8 0, .int .u8 0, .int .u8 0, .int .u8 0, .int .u8 0, .int .u8 0] 96)) b0 96 .u8 20 (fun _ => 0)) := hide (HB3.out.alloc _)
  have HC4 : Hid (Chg [d, b1] w (W3.alloc (.cells #[.int .u8 0, .int .u8 0, .int .u8 0, .int .u8 0, .int .u8 0, .int .u8 0, .int .u8 0, .int .u8 0, .int .u8 0, .int .u8 0, .int .u8 0, .int .u8 0, .int .u8 0, .int .u8 0, .int .u8 0, .int .u8 0, .int .u8 0, .int .u8 0, .int .u8 0, .int .u8 0] 96))) := hide (HC3.out.alloc _)
  have HLT : Hid (d < W3.heap.size ∧ b0 < W3.heap.size) := hide ⟨HD3.out.lt, HB3.out.lt⟩
  obtain ⟨g, hg⟩ : ∃ g, g = W3.heap.size := ⟨_, rfl⟩
  rw [← hg] at HK HLT
  rw [← hg]
  generalize W3.alloc (.cells #[.int .u8 0, .int .u8 0, .int .u8 0, .int .u8 0, .int .u8 0, .int .u8 0, .int .u8 0, .int .u8 0, .int .u8 0, .int .u8 0, .int .u8 0, .int .u8 0, .int .u8 0, .int .u8 0, .int .u8 0, .int .u8 0, .int .u8 0, .int .u8 0, .int .u8 0, .int .u8 0] 96) = V0 at HK HD HB4 HC4 ⊢
  have HNE : Hid (d ≠ g ∧ b0 ≠ g ∧ d ≠ b0) := hide ⟨by have := HLT.out; omega, by have := HLT.out; omega, by have := HB.out; omega⟩
  have HGW : Hid (w.heap.size ≤ g) := hide (by rw [hg]; exact HC3.out.size)
  clear hg HB3 HC3 HD3 HLT
  obtain ⟨h0, h1, h2, h3, h4⟩ := HD.out.h
  have PW := hide (put32_any V0.drew g 96 20 0 20 20 (fun _ => 0) S.a HOK.out.a HK.out (by omega) (by omega))
  refine wp_region_quiet_tail 6 (by kernel_rfl) (by kernel_rfl) ?_
  simp only [List.take_succ_cons, List.take_zero, List.drop_succ_cons, List.drop_zero]
  repeat go_big_quiet_step (fail)
  refine wpQuiet_nil ?_
  clear h0 h1 h2 h3 h4
  go_upto_region 16 with (go_at_call 57; refine PW.out.mono ?_; rintro e V1 ⟨rfl, hK, hC⟩)
  replace HD : Hid (Dig V1 d S x3 0 N3) := hide (Dig.chg (w := V0.drew) HD.out hC (by have := HNE.out; simp; omega))
  replace HB4 : Hid (KAt V1 b0 96 .u8 20 (fun _ => 0)) := hide (KAt.chg (w := V0.drew) HB4.out hC (by have := HNE.out; simp; omega))
  replace HC4 : Hid (Chg [d, b1] w V1) := hide (HC4.out.drew.then hC (fun i hi => .inr (by simp at hi; rw [hi]; exact HGW.out)))
  replace HK := hide hK
  clear hK hC PW
  obtain ⟨h0, h1, h2, h3, h4⟩ := HD.out.h
  have PW := hide (put32_any V1.drew g 96 20 4 16 16 (put4 (fun _ => 0) 0 S.a) S.b HOK.out.b HK.out (by omega) (by omega))
  refine wp_region_quiet_tail 6 (by kernel_rfl) (by kernel_rfl) ?_
  simp only [List.take_succ_cons, List.take_zero, List.drop_succ_cons, List.drop_zero]
  repeat go_big_quiet_step (fail)
  refine wpQuiet_nil ?_
  clear h0 h1 h2 h3 h4
  go_upto_region 17 with (go_at_call 57; refine PW.out.mono ?_; rintro e V2 ⟨rfl, hK, hC⟩)
  replace HD : Hid (Dig V2 d S x3 0 N3) := hide (Dig.chg (w := V1.drew) HD.out hC (by have := HNE.out; simp; omega))
  replace HB4 : Hid (KAt V2 b0 96 .u8 20 (fun _ => 0)) := hide (KAt.chg (w := V1.drew) HB4.out hC (by have := HNE.out; simp; omega))
  replace HC4 : Hid (Chg [d, b1] w V2) := hide (HC4.out.drew.then hC (fun i hi => .inr (by simp at hi; rw [hi]; exact HGW.out)))
  replace HK := hide hK
  clear hK hC PW
  obtain ⟨h0, h1, h2, h3, h4⟩ := HD.out.h
  have PW := hide (put32_any V2.drew g 96 20 8 12 12 (put4 (put4 (fun _ => 0) 0 S.a) 4 S.b) S.c HOK.out.c HK.out (by omega) (by omega))
  refine wp_region_quiet_tail 6 (by kernel_rfl) (by kernel_rfl) ?_
  simp only [List.take_succ_cons, List.take_zero, List.drop_succ_cons, List.drop_zero]
  repeat go_big_quiet_step (fail)
  refine wpQuiet_nil ?_
  clear h0 h1 h2 h3 h4
  go_upto_region 18 with (go_at_call 57; refine PW.out.mono ?_; rintro e V3 ⟨rfl, hK, hC⟩)
  replace HD : Hid (Dig V3 d S x3 0 N3) := hide (Dig.chg (w := V2.drew) HD.out hC (by have := HNE.out; simp; omega))
  replace HB4 : Hid (KAt V3 b0 96 .u8 20 (fun _ => 0)) := hide (KAt.chg (w := V2.drew) HB4.out hC (by have := HNE.out; simp; omega))
  replace HC4 : Hid (Chg [d, b1] w V3) := hide (HC4.out.drew.then hC (fun i hi => .inr (by simp at hi; rw [hi]; exact HGW.out)))
  replace HK := hide hK
  clear hK hC PW
  obtain ⟨h0, h1, h2, h3, h4⟩ := HD.out.h
  have PW := hide (put32_any V3.drew g 96 20 12 8 8 (put4 (put4 (put4 (fun _ => 0) 0 S.a) 4 S.b) 8 S.c) S.d HOK.out.d HK.out (by omega) (by omega))
  refine wp_region_quiet_tail 6 (by kernel_rfl) (by kernel_rfl) ?_
  simp only [List.take_succ_cons, List.take_zero, List.drop_succ_cons, List.drop_zero]
  repeat go_big_quiet_step (fail)
  refine wpQuiet_nil ?_
  clear h0 h1 h2 h3 h4
  go_upto_region 19 with (go_at_call 57; refine PW.out.mono ?_; rintro e V4 ⟨rfl, hK, hC⟩)
  replace HD : Hid (Dig V4 d S x3 0 N3) := hide (Dig.chg (w := V3.drew) HD.out hC (by have := HNE.out; simp; omega))
  replace HB4 : Hid (KAt V4 b0 96 .u8 20 (fun _ => 0)) := hide (KAt.chg (w := V3.drew) HB4.out hC (by have := HNE.out; simp; omega))
  replace HC4 : Hid (Chg [d, b1] w V4) := hide (HC4.out.drew.then hC (fun i hi => .inr (by simp at hi; rw [hi]; exact HGW.out)))
  replace HK := hide hK
  clear hK hC PW
  obtain ⟨h0, h1, h2, h3, h4⟩ := HD.out.h
  have PW := hide (put32_any V4.drew g 96 20 16 4 4 (put4 (put4 (put4 (put4 (fun _ => 0) 0 S.a) 4 S.b) 8 S.c) 12 S.d) S.e HOK.out.e HK.out (by omega) (by omega))
  refine wp_region_quiet_tail 6 (by kernel_rfl) (by kernel_rfl) ?_
  simp only [List.take_succ_cons, List.take_zero, List.drop_succ_cons, List.drop_zero]
  repeat go_big_quiet_step (fail)
  refine wpQuiet_nil ?_
  clear h0 h1 h2 h3 h4
  go_upto_region 20 with (go_at_call 57; refine PW.out.mono ?_; rintro e V5 ⟨rfl, hK, hC⟩)
  replace HD : Hid (Dig V5 d S x3 0 N3) := hide (Dig.chg (w := V4.drew) HD.out hC (by have := HNE.out; simp; omega))
  replace HB4 : Hid (KAt V5 b0 96 .u8 20 (fun _ => 0)) := hide (KAt.chg (w := V4.drew) HB4.out hC (by have := HNE.out; simp; omega))
  replace HC4 : Hid (Chg [d, b1] w V5) := hide (HC4.out.drew.then hC (fun i hi => .inr (by simp at hi; rw [hi]; exact HGW.out)))
  replace HK := hide hK
  clear hK hC PW
  have HKF : Hid (KAt V5 g 96 .u8 20 (lb (shaSum l))) := hide (HK.out.congr fun j hj => by rw [HSum.out]; exact out_at S HOK.out j hj)
  clear HK
  refine wp_region_lit ?_
  refine wpList_load_row rfl 96 _ rfl g rfl 96 (kArr .u8 20 (lb (shaSum l))) (0, 0) _ HKF.out Try.underlying96 rfl (by rw [kArr_size]; kernel_rfl) ?_
  refine wpList_store_row rfl 96 _ _ rfl b0 (kArr .u8 20 (lb (shaSum l))) rfl rfl 96 _ HB4.out (by rw [kArr_size]; kernel_rfl) (by rw [kArr_size, kArr_size]) (by simp [kArr, Value.oneCell']) ?_
  have HR := hide (Blk.setRow_ HB4.out (kArr .u8 20 (lb (shaSum l))))
  have HCF : Hid (Chg [d] w (V5.setRow b0 (kArr .u8 20 (lb (shaSum l))))) := hide ((HC4.out.setRow (.inr (by have := HB.out; omega)) _).more fun i hi => by
    simp at hi
    rcases hi with rfl | rfl
    · exact .inl (by simp)
    · exact .inr (by have := HB.out; omega))
  generalize V5.setRow b0 (kArr .u8 20 (lb (shaSum l))) = VF at HR HCF ⊢
  simp only [Act.put]
  go_wp2
  refine bodyPost_ret (results_cell_row rfl _ _ b0 96 _ (0, 0) _ rfl HR.out Try.underlying96 rfl (by rw [kArr_size]; kernel_rfl)) rfl ⟨rfl, HCF.out⟩
end Go.Proofs.Ytlnidgkcgjlnaaa
