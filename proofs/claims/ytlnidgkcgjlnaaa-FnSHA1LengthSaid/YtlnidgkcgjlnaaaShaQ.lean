/-
  spec.SHA1: the sum of FIPS 180-4.
-/
import Derived.Test.YtlnidgkcgjlnaaaShaP
import Derived.Test.YtlnidgkcgjlnaaaShaB
namespace Go.Proofs.Ytlnidgkcgjlnaaa
open Go.RowKit Go.Lib
set_option linter.unusedVariables false
set_option linter.unusedSimpArgs false

theorem info_u8q : (Try.prog.info? 5).map (fun i => (i.zero, i.size, i.bytes)) = some (some (.int .u8 0), 1, 1) := by kernel_rfl
/-- Five words' bytes, so many of them. -/
def outN (s : W5) (k : Nat) : List UInt8 := (s.out).take (4 * k)
theorem outN_succ (s : W5) {k : Nat} (hk : k < 5) : outN s (k + 1) = outN s k ++ wordB (w5f s k) := by
  unfold outN W5.out
  rcases (by omega : k = 0 ∨ k = 1 ∨ k = 2 ∨ k = 3 ∨ k = 4) with rfl | rfl | rfl | rfl | rfl <;> rfl
theorem outN_all (s : W5) : outN s 5 = s.out := by
  unfold outN
  rw [List.take_of_length_le (by rw [W5.out_length]; omega)]
theorem Ext.below_more {a b c : World} {B : Nat} (h : Ext a b) (hB : a.heap.size ≤ B) (k : Below B b c) : Ext a c := Below.trans h (Below.mono k hB)
/-- 'append(v, four bytes)'. -/
theorem add4 (B : Nat) (w : World) (v : Value) (l m : List UInt8) (z0 z1 z2 z3 : Int) (hz : bs m = [.int .u8 z0, .int .u8 z1, .int .u8 z2, .int .u8 z3]) (hown : w.ownsRow B 5 1 v l.length (bs l)) (hB : B ≤ w.heap.size) (hl : l.length ≤ 1000000) (n : Nat) (hn : w.heap.size = n) :
    ∃ v' w', (Builtin.append_ #[46, 46] 46 #[v, .slice (some ⟨n, 0, none⟩) 4 4]).run Try.prog (w.alloc (.cells #[.int .u8 z0, .int .u8 z1, .int .u8 z2, .int .u8 z3] 5)) = .ok v' w' ∧ w'.ownsRow B 5 1 v' (l ++ m).length (bs (l ++ m)) ∧ Below B w w' := by
  subst hn
  obtain ⟨i0, hi, hz0, hz1, hz2⟩ := info_parts info_u8q
  have hml : m.length = 4 := by have := congrArg List.length hz; rw [bs_length] at this; simpa using this
  have hnb : Blk (w.alloc (.cells #[.int .u8 z0, .int .u8 z1, .int .u8 z2, .int .u8 z3] 5)) w.heap.size 5 #[.int .u8 z0, .int .u8 z1, .int .u8 z2, .int .u8 z3] := Blk.new w _ _
  obtain ⟨v', w', h1, h2, h3, -⟩ := run_append_own (P := Try.prog) (w.alloc (.cells #[.int .u8 z0, .int .u8 z1, .int .u8 z2, .int .u8 z3] 5)) B 46 46 5 i0 _ 1 1 Try.underlying46 hi hz0 hz1 hz2 rfl (by omega) v l.length (bs l) (hown.alloc _)
    ⟨w.heap.size, 0, none⟩ 4 4 [.int .u8 z0, .int .u8 z1, .int .u8 z2, .int .u8 z3] rfl (fun j u hu => by
      have ha : (⟨w.heap.size, 0, none⟩ : Addr).add j = ⟨w.heap.size, j, none⟩ := by unfold Addr.add; split <;> simp_all
      rw [ha, hnb.cell, ← hu, ← List.getElem?_toArray]) (by simp [Value.oneCell']) (by unfold maxLen; omega) (by omega) (by simp; omega)
  refine ⟨v', w', h1, ?_, ?_⟩
  · rw [List.length_append, hml, bs_append, hz]
    exact h2
  · exact ((Below.refl B w).alloc hB _).trans (below_of_grown_ (hown.alloc _) h3 (by simp; omega))
theorem wordB_bs (x : Int) (h : W32 x) : bs (wordB x) = [.int .u8 (x / 16777216), .int .u8 (x / 65536 % 256), .int .u8 (x / 256 % 256), .int .u8 (x % 256)] := by
  obtain ⟨h0, h1, h2, h3⟩ := word_byte x h
  simp only [bs, wordB, List.map_cons, List.map_nil, h0, h1, h2, h3]
set_option maxRecDepth 100000 in
set_option maxHeartbeats 4000000 in
theorem specSha_any (s : ByteArray) (w : World) (hs : s.size ≤ 100000) :
    Calls Try.prog 23 #[.string s] w fun e w' => e = .returned (.string ⟨(shaSum s.data.toList).toArray⟩) ∧ Ext w w' := by
  obtain ⟨q, hq⟩ : ∃ q, q = s.data.toList ++ shaPad s.size := ⟨_, rfl⟩
  obtain ⟨N, hN⟩ : ∃ N, N = s.size + (padT s.size + 8) := ⟨_, rfl⟩
  have hqN : q.length = N := by rw [hq, hN, List.length_append, shaPad_length, Array.length_toList]; rfl
  have hN64 : N % 64 = 0 := by have := padT_pos s.size; omega
  have hNb : N ≤ 100072 := by have := padT_pos s.size; omega
  obtain ⟨R, hR⟩ : ∃ R, R = shaSum s.data.toList := ⟨_, rfl⟩
  have HR : Hid (R = (W5.blocksN nR (lb q) (N / 64) shaInit).out) := hide (by
    rw [hR, ← hqN, hq]
    unfold shaSum shaState
    rw [show s.data.toList.length = s.size by rw [Array.length_toList]; rfl])
  have PD := hide (fun W => padded_any s W hs)
  rw [← hq, ← hN] at PD
  rw [← hR]
  have HN := hide (And.intro hqN hN64)
  clear hq hN hR hqN hN64 hs
  go_enter Try.func23, Try.ntmps23
  go_upto_region 2 with fail
  have HB : Hid (Blk (w.alloc (.cells #[.int .u32 1732584193, .int .u32 4023233417, .int .u32 2562383102, .int .u32 271733878, .int .u32 3285377520] 69)) w.heap.size 69 (w5A shaInit)) := hide (Blk.new _ _ _)
  have HX : Hid (Ext w (w.alloc (.cells #[.int .u32 1732584193, .int .u32 4023233417, .int .u32 2562383102, .int .u32 271733878, .int .u32 3285377520] 69))) := hide ((Ext.refl w).alloc _)
  generalize w.alloc (.cells #[.int .u32 1732584193, .int .u32 4023233417, .int .u32 2562383102, .int .u32 271733878, .int .u32 3285377520] 69) = W at HB HX ⊢
  obtain ⟨g, hg⟩ : ∃ g, g = w.heap.size := ⟨_, rfl⟩
  rw [← hg] at HB
  rw [← hg]
  have HG := hide hg
  clear hg
  go_wp2_with (go_at_call 38; refine (PD.out W).mono ?_; rintro e W1 ⟨A, c, rfl, hRB, hNc, hcm, hfr, hX1⟩)
  have HRB := hide hRB
  have HI : Hid (Blk W1 g 69 (w5A (W5.blocksN nR (lb q) 0 shaInit)) ∧ Chg [g] W1 W1 ∧ Ext w W1) := hide ⟨Blk.below HB.out hX1 (Blk.lt HB.out), Chg.refl _ _, HX.out.trans hX1⟩
  have HF : Hid (∀ ad, A = some ad → ad.block ≠ g) := hide (fun ad e => by have h1 := hfr ad e; have h2 := Blk.lt HB.out; omega)
  clear hRB hfr hX1 PD HB HX
  unfold maxLen at hcm
  go_loopw [4] (fun s4 wr => ∃ (k m : Nat), m = 64 * k ∧ m ≤ N ∧ s4 = .int .i64 m ∧ Hid (Blk wr g 69 (w5A (W5.blocksN nR (lb q) k shaInit)) ∧ Chg [g] W1 wr ∧ Ext w wr)) (fun s4 _ => N + 64 - (intOf s4).toNat)
  case atStart => exact ⟨0, 0, rfl, by omega, rfl, HI⟩
  case round =>
    clear HI
    obtain ⟨k, m, hm, hmN, rfl, HI⟩ := hrel
    have HOK : Hid (W5.blocksN nR (lb q) k shaInit).ok := hide (W5.blocksN_ok _ _ shaInit_ok _)
    by_cases hlt : m < N
    · have hm64 : m + 64 ≤ N := by have := HN.out.2; omega
      obtain ⟨ad, rfl, hab, hcell⟩ := HRB.out.addr (by rw [HN.out.1]; omega)
      have hne := HF.out ad rfl
      obtain ⟨V, hV⟩ : ∃ V, V = W5.blocksN nR (lb q) k shaInit := ⟨_, rfl⟩
      rw [← hV] at HI HOK
      have HVE := hide hV
      have HM := hide hm
      clear hV hm
      have v0 := Blk.cell HI.out.1 0
      have v1 := Blk.cell HI.out.1 1
      have v2 := Blk.cell HI.out.1 2
      have v3 := Blk.cell HI.out.1 3
      have v4 := Blk.cell HI.out.1 4
      simp [w5A] at v0 v1 v2 v3 v4
      have i0 : (m : Int) < (N : Int) := by omega
      have i1 : IntKind.i64.wrap ((m : Int) + 64) = (m : Int) + 64 := IntWalk.i64_in _ (by omega)
      have i2 : (m : Int) + 64 ≤ (N : Int) := by omega
      have i3 : (m : Int) + 64 ≤ (c : Int) := by omega
      have i4 : 0 ≤ (m : Int) + 64 := by omega
      have i5 : (m : Int) ≤ (m : Int) + 64 := by omega
      have i6 : ((m : Int) + 64).toNat = m + 64 := by omega
      have i7 : ¬ c = m := by omega
      have i8 : m + 64 - m = 64 := by omega
      have BC : Hid (Calls Try.prog 39 #[.agg #[.int .u32 V.a, .int .u32 V.b, .int .u32 V.c, .int .u32 V.d, .int .u32 V.e], .slice (some (ad.add m)) 64 (c - m)] wr.drew fun e w' => e = .returned (.agg (w5A (W5.blockN nR (fun j => lb q (m + j)) 0 V))) ∧ Ext wr.drew w') := hide (specBlock_any wr.drew V (ad.add m) (c - m) (fun j => lb q (m + j)) HOK.out (by rw [block_of_add]; exact Nat.lt_of_lt_of_le hab HI.out.2.1.size) (fun j hj => by
        rw [add_of_add]
        have h := cell_chg (S := [g]) (hcell (m + j) (by rw [HN.out.1]; omega)) HI.out.2.1.drew (by rw [block_of_add]; simpa using hne)
        rw [h, lb_at (by rw [HN.out.1]; omega)]) (fun j => lb_byte _ _) (by omega) (by unfold maxLen; omega))
      have HBE : Hid (W5.blockN nR (fun j => lb q (m + j)) 0 V = W5.blocksN nR (lb q) (k + 1) shaInit) := hide (by
        rw [W5.blocksN_succ, ← HVE.out, W5.blockN_congr nR (g := fun j => lb q (m + j)) (g' := lb q) (o := 0) (o' := 64 * k) (fun i hi => by rw [← HM.out, Nat.zero_add])])
      obtain ⟨X, hX⟩ : ∃ X, X = W5.blocksN nR (lb q) (k + 1) shaInit := ⟨_, rfl⟩
      rw [HBE.out, ← hX] at BC
      have HXE := hide hX
      have BC2 : Hid (Calls Try.prog 39 #[.agg #[.int .u32 V.a, .int .u32 V.b, .int .u32 V.c, .int .u32 V.d, .int .u32 V.e], .slice (some (ad.add m)) 64 (c - m)] wr.drew fun e w' => e = .returned (.agg #[.int .u32 X.a, .int .u32 X.b, .int .u32 X.c, .int .u32 X.d, .int .u32 X.e]) ∧ Ext wr.drew w') := hide BC.out
      clear hcell hab hne hX BC HBE
      go_upto_region 5 with fail
      refine wp_region_quiet_tail 6 (by kernel_rfl) (by kernel_rfl) ?_
      simp only [List.take_succ_cons, List.take_zero, List.drop_succ_cons, List.drop_zero]
      repeat go_big_quiet_step (fail)
      refine wpQuiet_nil ?_
      clear v0 v1 v2 v3 v4 i0 i1 i2 i3 i4 i5 i6 i7 i8
      go_wp2_with (go_at_call 39; refine BC2.out.mono ?_; rintro e W2 ⟨rfl, hX2⟩; have hB2 : Blk W2 g 69 (w5A V) := Blk.below (w := wr.drew) HI.out.1 hX2 (Blk.lt HI.out.1); have v0 := Blk.cell hB2 0; have v1 := Blk.cell hB2 1; have v2 := Blk.cell hB2 2; have v3 := Blk.cell hB2 3; have v4 := Blk.cell hB2 4; simp [w5A] at v0 v1 v2 v3 v4; have z0 := Blk.frozen hB2 0; have z1 := Blk.frozen hB2 1; have z2 := Blk.frozen hB2 2; have z3 := Blk.frozen hB2 3; have z4 := Blk.frozen hB2 4; have HR2 := hide (((((hB2.set_ 0 (.int .u32 X.a)).set_ 1 (.int .u32 X.b)).set_ 2 (.int .u32 X.c)).set_ 3 (.int .u32 X.d)).set_ 4 (.int .u32 X.e)); have HX2 := hide hX2; clear hB2 hX2)
      go_roundw
      case rel =>
        refine ⟨k + 1, m + 64, by have := HM.out; omega, by omega, by go_num, hide ⟨?_, ?_, ?_⟩⟩
        · rw [← HXE.out]
          exact HR2.out
        · exact ((((((HI.out.2.1.drew.trans (Chg.of_ext HX2.out [g])).setCell (.inl (by simp)) _).setCell (.inl (by simp)) _).setCell (.inl (by simp)) _).setCell (.inl (by simp)) _).setCell (.inl (by simp)) _)
        · have hg : w.heap.size ≤ g := by rw [HG.out]; exact Nat.le_refl _
          exact (((((HI.out.2.2.drew.trans HX2.out).setCell hg _).setCell hg _).setCell hg _).setCell hg _).setCell hg _
      case measure => simp [intOf]; omega
    · have hmn : m = N := by omega
      have hkN : k = N / 64 := by omega
      have i0 : ¬ (m : Int) < (N : Int) := by omega
      obtain ⟨V, hV⟩ : ∃ V, V = W5.blocksN nR (lb q) k shaInit := ⟨_, rfl⟩
      rw [← hV] at HI HOK
      have HRE : Hid (R = V.out) := hide (by rw [HR.out, hV, hkN])
      clear hV hmn hkN hm
      have hu := HI.out.1
      go_upto_region 7 with fail
      refine wp_region_lit ?_
      refine wpList_load_row rfl 69 _ rfl g rfl 69 (w5A V) (0, 0) _ HI.out.1 Try.underlying69 rfl (by kernel_rfl) ?_
      have HIX : Hid (∀ (t : Nat), t < 5 → ∀ w, (Instr.index 69 (.agg (w5A V)) (.int .i64 t)).run Try.prog w = .ok (.int .u32 (w5f V t)) w) := hide fun t ht w => run_index_k (f := w5f V) .i64 Try.underlying69 (fun _ => by kernel_rfl) (fun _ => by kernel_rfl) ht w
      have HE : Hid (Ext w wr) := hide HI.out.2.2
      clear HI hu
      simp only [Act.put]
      generalize Value.agg (w5A V) = VV at HIX ⊢
      go_wp2
      obtain ⟨B, hB⟩ : ∃ B, B = wr.heap.size := ⟨_, rfl⟩
      have HB : Hid (w.heap.size ≤ B ∧ B ≤ wr.heap.size) := hide ⟨by rw [hB]; exact HE.out.sizes, by omega⟩
      clear hB
      go_loopw [6, 26] (fun s6 s26 wx => ∃ t : Nat, t ≤ 5 ∧ s26 = .int .i64 t ∧ Hid (wx.ownsRow B 5 1 s6 (outN V t).length (bs (outN V t)) ∧ Ext w wx ∧ B ≤ wx.heap.size)) (fun _ s26 _ => 5 - (intOf s26).toNat)
      case atStart => exact ⟨0, by omega, rfl, hide ⟨World.ownsRow_nil _ _ _ _, HE.out, HB.out.2⟩⟩
      case round =>
        obtain ⟨t, ht, rfl, HI⟩ := hrel
        by_cases hlt5 : t < 5
        · have hix := HIX.out t hlt5
          have hw := w5f_ok HOK.out t
          have hl20 : (outN V t).length ≤ 20 := by unfold outN; rw [List.length_take, W5.out_length]; omega
          obtain ⟨v', w', hrun, hown, hbel⟩ := add4 B wr u6 (outN V t) (wordB (w5f V t)) _ _ _ _ (wordB_bs _ hw) HI.out.1 HI.out.2.2 (by omega) _ rfl
          rw [← outN_succ V hlt5] at hown
          have HN2 := hide (And.intro hown (And.intro (HI.out.2.1.below_more HB.out.1 hbel) (Nat.le_trans HI.out.2.2 hbel.size)))
          obtain ⟨x1, x2⟩ := hw
          generalize w5f V t = x at hix hrun x1 x2
          have hlt6 : (t : Int) < 5 := by omega
          clear hown hbel HI
          go_wp2_with (at_builtin; refine wpList_append_run rfl _ _ _ _ rfl _ _ _ rfl rfl hrun ?_)
          go_roundw
          case rel => exact ⟨t + 1, by omega, by go_num, HN2⟩
          case measure => simp [intOf]; omega
        · have hlt6 : ¬ (t : Int) < 5 := by omega
          have ht5 : t = 5 := by omega
          have HO : Hid (wr.ownsRow B 5 1 u6 V.out.length (bs V.out) ∧ Ext w wr ∧ B ≤ wr.heap.size) := hide (by have h := HI.out; rwa [ht5, outN_all] at h)
          obtain ⟨A6, c6, hv, h1, h2⟩ := own_form HO.out.1
          subst hv
          have hst : (convert 46 9 (.slice A6 V.out.length c6)).run Try.prog wr = .ok (.string ⟨R.toArray⟩) wr := by
            rw [HRE.out]
            exact run_string_n wr 46 9 5 Try.underlying46 Try.underlying5 Try.underlying9 V.out.length c6 rfl (Reads.of_own HO.out.1)
          have HE2 : Hid (Ext w wr) := hide HO.out.2.1
          clear HI HO h1 h2
          go_wp2
          go_ret
          exact ⟨rfl, HE2.out⟩
end Go.Proofs.Ytlnidgkcgjlnaaa
