/-
  utf8.Valid over bytes: as the text's own UTF-8.
-/
import Derived.Test.YtkockmpncocjhaaDoorWordB
import Derived.Test.YtkockmpncocjhaaDoorTabV
import Derived.Shelf.Unicode.ValidAny
import Derived.BigQuiet
import Derived.Deep.RegionWith
namespace Go.Proofs.YtkockmpncocjhaaDoor
open Go.RowKit Go.Lib Go.Shelf
set_option linter.unusedVariables false
set_option linter.unusedSimpArgs false

/-- Eight bytes as one number. -/
def wv (t : ByteArray) : Nat := Lib.leNat [t.get! 0, t.get! 1, t.get! 2, t.get! 3, t.get! 4, t.get! 5, t.get! 6, t.get! 7]
theorem wv_lt (t : ByteArray) : wv t < 18446744073709551616 := Lib.word_lt t
theorem wv_asc (t : ByteArray) (h : 8 ≤ t.size) : wv t &&& 9259542123273814144 = 0 ↔ Lib.Asc t 8 := Lib.word_asc t h
theorem asc16 (t : ByteArray) (h : 16 ≤ t.size) (h0 : (wv t ||| wv (t.extract 8 t.size)) &&& 9259542123273814144 = 0) : Lib.Asc t 16 := by
  obtain ⟨e1, e2⟩ := (Lib.or_mask _ _ _).1 h0
  exact Lib.asc_add t 8 8 ((wv_asc t (by omega)).1 e1) ((wv_asc _ (by rw [Lib.ext_size]; omega)).1 e2)
theorem asc32 (t : ByteArray) (h : 32 ≤ t.size) (h0 : ((wv t ||| wv (t.extract 8 t.size)) ||| (wv (t.extract 16 t.size) ||| wv (t.extract 24 t.size))) &&& 9259542123273814144 = 0) : Lib.Asc t 32 := by
  obtain ⟨e1, e2⟩ := (Lib.or_mask _ _ _).1 h0
  obtain ⟨e3, e4⟩ := (Lib.or_mask _ _ _).1 e2
  have a16 := asc16 t (by omega) e1
  have a24 := Lib.asc_add t 16 8 a16 ((wv_asc _ (by rw [Lib.ext_size]; omega)).1 e3)
  exact Lib.asc_add t 24 8 a24 ((wv_asc _ (by rw [Lib.ext_size]; omega)).1 e4)
/-- The rest of a slice. -/
theorem SlB.skip {w : World} {ad : Addr} {t : ByteArray} (h : SlB w (some ad) t) (k : Nat) (hk : k < t.size) (h0 : 0 < k) : SlB w (some ⟨ad.block, ad.off + k, none⟩) (t.extract k t.size) := by
  have e : ad.add k = ⟨ad.block, ad.off + k, none⟩ := by unfold Addr.add; rw [if_neg (by omega)]
  obtain ⟨ad2, e2, hb, hc⟩ := h.2 (by rw [Array.length_toList]; exact Nat.lt_of_le_of_lt (Nat.zero_le _) hk)
  injection e2 with e2
  subst e2
  refine ⟨by simp [bs], fun _ => ⟨_, rfl, hb, fun j u hu => ?_⟩⟩
  rw [← e, add_of_add]
  refine hc (k + j) u ?_
  rw [Lib.ext_list] at hu
  rw [← hu]
  simp [bs, List.getElem?_drop]
theorem SlB.none_ (w : World) (A : Option Addr) (t : ByteArray) (h : t.size = 0) : SlB w A t := by
  have e : t.data.toList = [] := List.eq_nil_of_length_eq_zero (by rw [Array.length_toList]; exact h)
  refine ⟨by rw [e]; simp [bs], fun hn => ?_⟩
  rw [e] at hn
  exact absurd hn (by simp)
theorem SlB.ext {w w' : World} {A : Option Addr} {t : ByteArray} (h : SlB w A t) (hx : Ext w w') : SlB w' A t := RBytes.chg h (Chg.of_ext hx []) (by simp)
/-- What the loop keeps. -/
def VI (w : World) (ANS : Bool) (A : Option Addr) (t : ByteArray) (wx : World) : Prop := SlB w A t ∧ Lib.validD t.data.toList = ANS ∧ Ext w wx
theorem VI.skip {w wx wy : World} {ANS : Bool} {ad : Addr} {t : ByteArray} (h : VI w ANS (some ad) t wx) (k : Nat) (hk : k < t.size) (h0 : 0 < k) (ha : Lib.Asc t k) (hx : Ext wx wy) : VI w ANS (some ⟨ad.block, ad.off + k, none⟩) (t.extract k t.size) wy :=
  ⟨h.1.skip k hk h0, by rw [Lib.valid_skip t k ha]; exact h.2.1, h.2.2.trans hx⟩

set_option maxRecDepth 1000000 in
set_option maxHeartbeats 16000000 in
theorem validB_any (A0 : Option Addr) (c0 : Nat) (s : ByteArray) (w : World) (hc0 : s.size ≤ c0) (hs : s.size ≤ 1000000) (hR : SlB w A0 s) (hT : TabsV w) :
    Calls Tryd.prog 35 #[.slice A0 s.size c0] w fun e w' => e = .returned (.bool (Lib.validD s.data.toList)) ∧ Ext w w' := by
  obtain ⟨ANS, hANS⟩ : ∃ ANS, Lib.validD s.data.toList = ANS := ⟨_, rfl⟩
  rw [hANS]
  have HT := hide hT
  have H0 : Hid (VI w ANS A0 s w) := hide ⟨hR, hANS, Ext.refl w⟩
  have hsz : (s.size : Int) ≤ 1000000 := by omega
  have hsc : (s.size : Int) ≤ c0 := by omega
  clear hANS hR hT
  go_enter Tryd.func35, Tryd.ntmps35
  go_wp2
  go_loopg [0] (s.size + 1) (fun gk s0 wx => ∃ (t : ByteArray) (A : Option Addr) (n : Nat), s0 = .slice A n n ∧ t.size = n ∧ n < gk ∧ n ≤ 1000000 ∧ Hid (VI w ANS A t wx))
  case atStart => exact ⟨s, A0, s.size, rfl, rfl, by omega, by omega, H0⟩
  case round =>
    obtain ⟨t, A, n, rfl, hn, hg, hn6, H⟩ := hrel
    clear H0
    have i6 : (n : Int) ≤ 1000000 := by omega
    by_cases h0 : 0 < n
    · obtain ⟨gp, rfl⟩ : ∃ gp, gk = gp + 1 := ⟨gk - 1, by omega⟩
      obtain ⟨ad, rfl, hc⟩ := H.out.1.at_ (by omega)
      have h0z : (0 : Int) < (n : Int) := by omega
      have hcx : ∀ k, k < n → wr.cell? (ad.add k) = some (.int .u8 ((t.get! k).toNat)) := fun k hk => H.out.2.2.cellOf (hc k (by omega))
      have k0 := hcx 0 h0
      rw [add_zero_] at k0
      obtain ⟨x0, hx0⟩ : ∃ x0, t.get! 0 = x0 := ⟨_, rfl⟩
      rw [hx0] at k0
      have hx0lt : x0.toNat < 256 := x0.toNat_lt
      by_cases hasc : x0.toNat < 128
      · have hascz : (x0.toNat : Int) < 128 := by omega
        have a1 : Lib.Asc t 1 := Lib.asc_one t (by omega) (by rw [hx0]; exact hasc)
        by_cases n1 : n = 1
        · subst n1
          have E1 : Hid (VI w ANS (some ad) (t.extract 1 t.size) wr) := hide ⟨SlB.none_ _ _ _ (by rw [Lib.ext_size]; omega), by rw [Lib.valid_skip t 1 a1]; exact H.out.2.1, H.out.2.2⟩
          clear hc hcx H
          go_wp2
          go_roundg gp
          case measure => omega
          case rel => exact ⟨t.extract 1 t.size, _, 0, rfl, by rw [Lib.ext_size]; omega, by omega, by omega, E1⟩
        · obtain ⟨o1, ho1⟩ : ∃ o1, ad.off + 1 = o1 := ⟨_, rfl⟩
          have E1 : Hid (∀ wy, Ext wr wy → VI w ANS (some ⟨ad.block, o1, none⟩) (t.extract 1 t.size) wy) := hide fun wy hx => by rw [← ho1]; exact H.out.skip 1 (by omega) (by omega) a1 hx
          obtain ⟨m, hm⟩ : ∃ m, n - 1 = m := ⟨_, rfl⟩
          have z1 : (t.extract 1 t.size).size = m := by rw [Lib.ext_size]; omega
          generalize t.extract 1 t.size = t1 at E1 z1
          clear hc hcx H a1
          have n1z : ¬ (n : Int) = 1 := by omega
          have mg : m < gp := by omega
          have m6 : m ≤ 1000000 := by omega
          by_cases c8 : 8 < m
          · have c8z : (8 : Int) < (m : Int) := by omega
            have W1 : ∀ W, Ext wr W → Calls Tryd.prog 40 #[.slice (some ⟨ad.block, o1, none⟩) m m] W fun e w' => e = .returned (.int .u64 (wv t1)) ∧ ∃ q, w' = W.drewN q := fun W hx => wordB_any (some ⟨ad.block, o1, none⟩) m t1 m W ((E1.out W hx).1.ext (E1.out W hx).2.2) z1.symm (by omega)
            have HW1 := hide W1
            have l1 := wv_lt t1
            have as1 := hide (wv_asc t1 (by omega))
            generalize wv t1 = V1 at HW1 l1 as1
            clear W1
            have hand1 : bits .and .u64 (V1 : Int) 9259542123273814144 = ((V1 &&& 9259542123273814144 : Nat) : Int) := u64_and_nat V1 9259542123273814144 l1 (by omega)
            obtain ⟨Z1, hZ1⟩ : ∃ Z1, V1 &&& 9259542123273814144 = Z1 := ⟨_, rfl⟩
            rw [hZ1] at hand1
            have AS1 : Hid (Z1 = 0 → Lib.Asc t1 8) := hide fun h => as1.out.1 (by rw [hZ1]; exact h)
            clear hZ1 as1
            by_cases hz1 : Z1 = 0
            · have hz1b : ((Z1 : Int) == 0) = true := by simp [hz1]
              obtain ⟨o2, ho2⟩ : ∃ o2, o1 + 8 = o2 := ⟨_, rfl⟩
              obtain ⟨m2, hm2⟩ : ∃ m2, m - 8 = m2 := ⟨_, rfl⟩
              have E2 : Hid (∀ wy, Ext wr wy → VI w ANS (some ⟨ad.block, o2, none⟩) (t1.extract 8 t1.size) wy) := hide fun wy hx => by rw [← ho2]; exact (E1.out wr (Ext.refl _)).skip 8 (by omega) (by omega) (AS1.out hz1) hx
              have z2 : (t1.extract 8 t1.size).size = m2 := by rw [Lib.ext_size]; omega
              generalize t1.extract 8 t1.size = t2 at E2 z2
              have e8 : ¬ (m : Int) = 8 := by omega
              go_wp2_with fail
              refine (HW1.out _ (Ext.refl _)).mono ?_
              rintro e w1 ⟨rfl, q1, rfl⟩
              have HX1 : Hid (Ext wr (wr.drewN q1)) := hide ((Ext.refl wr).drewN q1)
              generalize wr.drewN q1 = wq at HX1 ⊢
              clear HW1 E1 AS1
              go_wp2
              by_cases c16 : 16 < m2
              · have c16z : (16 : Int) < (m2 : Int) := by omega
                have e16 : ¬ (m2 : Int) = 16 := by omega
                have e8b : ¬ (m2 : Int) = 8 := by omega
                obtain ⟨o2b, ho2b⟩ : ∃ o2b, o2 + 8 = o2b := ⟨_, rfl⟩
                obtain ⟨m2b, hm2b⟩ : ∃ m2b, m2 - 8 = m2b := ⟨_, rfl⟩
                have CA : Hid (∀ W, Ext wr W → Calls Tryd.prog 40 #[.slice (some ⟨ad.block, o2, none⟩) m2 m2] W fun e w' => e = .returned (.int .u64 (wv t2)) ∧ ∃ q, w' = W.drewN q) := hide fun W hx => wordB_any _ m2 t2 m2 W ((E2.out W hx).1.ext (E2.out W hx).2.2) z2.symm (by omega)
                have CB : Hid (∀ W, Ext wr W → Calls Tryd.prog 40 #[.slice (some ⟨ad.block, o2b, none⟩) m2b m2b] W fun e w' => e = .returned (.int .u64 (wv (t2.extract 8 t2.size))) ∧ ∃ q, w' = W.drewN q) := hide fun W hx => wordB_any _ m2b (t2.extract 8 t2.size) m2b W (by rw [← ho2b]; exact ((E2.out W hx).1.ext (E2.out W hx).2.2).skip 8 (by omega) (by omega)) (by rw [Lib.ext_size]; omega) (by omega)
                have as2 := hide (asc16 t2 (by omega))
                have la := wv_lt t2
                have lb := wv_lt (t2.extract 8 t2.size)
                generalize wv (t2.extract 8 t2.size) = B2 at CB as2 lb
                generalize wv t2 = A2 at CA as2 la
                have hor2 : bits .or .u64 (A2 : Int) (B2 : Int) = ((A2 ||| B2 : Nat) : Int) := u64_or_nat A2 B2 la lb
                have lor2 : A2 ||| B2 < 18446744073709551616 := Nat.or_lt_two_pow (n := 64) la lb
                have hand2 : bits .and .u64 ((A2 ||| B2 : Nat) : Int) 9259542123273814144 = (((A2 ||| B2) &&& 9259542123273814144 : Nat) : Int) := u64_and_nat _ 9259542123273814144 lor2 (by omega)
                generalize A2 ||| B2 = O2 at hor2 hand2 as2
                clear lor2
                obtain ⟨Z2, hZ2⟩ : ∃ Z2, O2 &&& 9259542123273814144 = Z2 := ⟨_, rfl⟩
                rw [hZ2] at hand2
                have AS2 : Hid (Z2 = 0 → Lib.Asc t2 16) := hide fun h => as2.out (by rw [hZ2]; exact h)
                clear hZ2 as2
                by_cases hz2 : Z2 = 0
                · have hz2b : ((Z2 : Int) == 0) = true := by simp [hz2]
                  obtain ⟨o3, ho3⟩ : ∃ o3, o2 + 16 = o3 := ⟨_, rfl⟩
                  obtain ⟨m3, hm3⟩ : ∃ m3, m2 - 16 = m3 := ⟨_, rfl⟩
                  have E3 : Hid (∀ wy, Ext wr wy → VI w ANS (some ⟨ad.block, o3, none⟩) (t2.extract 16 t2.size) wy) := hide fun wy hx => by rw [← ho3]; exact (E2.out wr (Ext.refl _)).skip 16 (by omega) (by omega) (AS2.out hz2) hx
                  have z3 : (t2.extract 16 t2.size).size = m3 := by rw [Lib.ext_size]; omega
                  generalize t2.extract 16 t2.size = t3 at E3 z3
                  go_big_quiet (first | (go_at_call_of 40 (Value.slice (some ⟨ad.block, o2, none⟩) m2 m2); exact Calls.quiet_of (CA.out _ (HX1.out.drewN _))) | (go_at_call_of 40 (Value.slice (some ⟨ad.block, o2b, none⟩) m2b m2b); exact Calls.quiet_of (CB.out _ (HX1.out.drewN _))))
                  have HX2 : Hid (Ext wr (wq.drewN nq)) := hide (HX1.out.drewN nq)
                  generalize wq.drewN nq = wq2 at HX2 ⊢
                  clear CA CB AS2 E2 HX1
                  go_wp2
                  as_aux_lemma =>
                    go_loopg [0] (m3 + 1) (fun g2 s0 wx => ∃ (u : ByteArray) (oo r : Nat), s0 = .slice (some ⟨ad.block, oo, none⟩) r r ∧ u.size = r ∧ r < g2 ∧ r ≤ m3 ∧ Hid (VI w ANS (some ⟨ad.block, oo, none⟩) u wx))
                    case atStart => exact ⟨t3, o3, m3, rfl, z3, by omega, by omega, hide (E3.out _ HX2.out)⟩
                    case round =>
                      obtain ⟨u, oo, r, rfl, zu, hgu, hr3, HU⟩ := hrel
                      clear HX2 E3
                      by_cases c32 : 32 < r
                      · have c32z : (32 : Int) < (r : Int) := by omega
                        have f8 : ¬ (r : Int) = 8 := by omega
                        obtain ⟨q8, hq8⟩ : ∃ q8, oo + 8 = q8 := ⟨_, rfl⟩
                        obtain ⟨r8, hr8⟩ : ∃ r8, r - 8 = r8 := ⟨_, rfl⟩
                        have f16 : ¬ (r : Int) = 16 := by omega
                        obtain ⟨q16, hq16⟩ : ∃ q16, oo + 16 = q16 := ⟨_, rfl⟩
                        obtain ⟨r16, hr16⟩ : ∃ r16, r - 16 = r16 := ⟨_, rfl⟩
                        have f24 : ¬ (r : Int) = 24 := by omega
                        obtain ⟨q24, hq24⟩ : ∃ q24, oo + 24 = q24 := ⟨_, rfl⟩
                        obtain ⟨r24, hr24⟩ : ∃ r24, r - 24 = r24 := ⟨_, rfl⟩
                        have f32 : ¬ (r : Int) = 32 := by omega
                        obtain ⟨q32, hq32⟩ : ∃ q32, oo + 32 = q32 := ⟨_, rfl⟩
                        obtain ⟨r32, hr32⟩ : ∃ r32, r - 32 = r32 := ⟨_, rfl⟩
                        have C0 : Hid (∀ W, Ext wr W → Calls Tryd.prog 40 #[.slice (some ⟨ad.block, oo, none⟩) r r] W fun e w' => e = .returned (.int .u64 (wv u)) ∧ ∃ q, w' = W.drewN q) := hide fun W hx => wordB_any _ r u r W (HU.out.1.ext (HU.out.2.2.trans hx)) zu.symm (by omega)
                        have C8 : Hid (∀ W, Ext wr W → Calls Tryd.prog 40 #[.slice (some ⟨ad.block, q8, none⟩) r8 r8] W fun e w' => e = .returned (.int .u64 (wv (u.extract 8 u.size))) ∧ ∃ q, w' = W.drewN q) := hide fun W hx => wordB_any _ r8 (u.extract 8 u.size) r8 W (by rw [← hq8]; exact (HU.out.1.ext (HU.out.2.2.trans hx)).skip 8 (by omega) (by omega)) (by rw [Lib.ext_size]; omega) (by omega)
                        have C16 : Hid (∀ W, Ext wr W → Calls Tryd.prog 40 #[.slice (some ⟨ad.block, q16, none⟩) r16 r16] W fun e w' => e = .returned (.int .u64 (wv (u.extract 16 u.size))) ∧ ∃ q, w' = W.drewN q) := hide fun W hx => wordB_any _ r16 (u.extract 16 u.size) r16 W (by rw [← hq16]; exact (HU.out.1.ext (HU.out.2.2.trans hx)).skip 16 (by omega) (by omega)) (by rw [Lib.ext_size]; omega) (by omega)
                        have C24 : Hid (∀ W, Ext wr W → Calls Tryd.prog 40 #[.slice (some ⟨ad.block, q24, none⟩) r24 r24] W fun e w' => e = .returned (.int .u64 (wv (u.extract 24 u.size))) ∧ ∃ q, w' = W.drewN q) := hide fun W hx => wordB_any _ r24 (u.extract 24 u.size) r24 W (by rw [← hq24]; exact (HU.out.1.ext (HU.out.2.2.trans hx)).skip 24 (by omega) (by omega)) (by rw [Lib.ext_size]; omega) (by omega)
                        have as3 := hide (asc32 u (by omega))
                        have lt8 := wv_lt (u.extract 8 u.size)
                        generalize wv (u.extract 8 u.size) = N8 at C8 as3 lt8
                        have lt16 := wv_lt (u.extract 16 u.size)
                        generalize wv (u.extract 16 u.size) = N16 at C16 as3 lt16
                        have lt24 := wv_lt (u.extract 24 u.size)
                        generalize wv (u.extract 24 u.size) = N24 at C24 as3 lt24
                        have lt0 := wv_lt u
                        generalize wv u = N0 at C0 as3 lt0
                        have ho1 : bits .or .u64 (N0 : Int) (N8 : Int) = ((N0 ||| N8 : Nat) : Int) := u64_or_nat N0 N8 lt0 lt8
                        have ho2 : bits .or .u64 (N16 : Int) (N24 : Int) = ((N16 ||| N24 : Nat) : Int) := u64_or_nat N16 N24 lt16 lt24
                        have lo1 : N0 ||| N8 < 18446744073709551616 := Nat.or_lt_two_pow (n := 64) lt0 lt8
                        have lo2 : N16 ||| N24 < 18446744073709551616 := Nat.or_lt_two_pow (n := 64) lt16 lt24
                        generalize N0 ||| N8 = P1 at ho1 lo1 as3
                        generalize N16 ||| N24 = P2 at ho2 lo2 as3
                        have ho3 : bits .or .u64 (P1 : Int) (P2 : Int) = ((P1 ||| P2 : Nat) : Int) := u64_or_nat P1 P2 lo1 lo2
                        have lo3 : P1 ||| P2 < 18446744073709551616 := Nat.or_lt_two_pow (n := 64) lo1 lo2
                        generalize P1 ||| P2 = P3 at ho3 lo3 as3
                        have hand3 : bits .and .u64 (P3 : Int) 9259542123273814144 = ((P3 &&& 9259542123273814144 : Nat) : Int) := u64_and_nat P3 9259542123273814144 lo3 (by omega)
                        obtain ⟨Z3, hZ3⟩ : ∃ Z3, P3 &&& 9259542123273814144 = Z3 := ⟨_, rfl⟩
                        rw [hZ3] at hand3
                        have AS3 : Hid (Z3 = 0 → Lib.Asc u 32) := hide fun h => as3.out (by rw [hZ3]; exact h)
                        clear hZ3 as3 lo1 lo2 lo3
                        by_cases hz3 : Z3 = 0
                        · have hz3b : ((Z3 : Int) == 0) = true := by simp [hz3]
                          have E4 : Hid (∀ wy, Ext wr wy → VI w ANS (some ⟨ad.block, q32, none⟩) (u.extract 32 u.size) wy) := hide fun wy hx => by rw [← hq32]; exact HU.out.skip 32 (by omega) (by omega) (AS3.out hz3) hx
                          have z4 : (u.extract 32 u.size).size = r32 := by rw [Lib.ext_size]; omega
                          go_wp2_with fail
                          go_big_quiet (first | (go_at_call_of 40 (Value.slice (some ⟨ad.block, oo, none⟩) r r); exact Calls.quiet_of (C0.out _ ((Ext.refl _).drewN _))) | (go_at_call_of 40 (Value.slice (some ⟨ad.block, q8, none⟩) r8 r8); exact Calls.quiet_of (C8.out _ ((Ext.refl _).drewN _))) | (go_at_call_of 40 (Value.slice (some ⟨ad.block, q16, none⟩) r16 r16); exact Calls.quiet_of (C16.out _ ((Ext.refl _).drewN _))) | (go_at_call_of 40 (Value.slice (some ⟨ad.block, q24, none⟩) r24 r24); exact Calls.quiet_of (C24.out _ ((Ext.refl _).drewN _))))
                          go_wp2
                          go_roundg (r32 + 1)
                          case measure => omega
                          case rel => exact ⟨u.extract 32 u.size, q32, r32, rfl, z4, by omega, by omega, hide (E4.out _ ((Ext.refl _).drewN _))⟩
                        · have hz3b : ((Z3 : Int) == 0) = false := by simp; omega
                          go_wp2_with fail
                          go_big_quiet (first | (go_at_call_of 40 (Value.slice (some ⟨ad.block, oo, none⟩) r r); exact Calls.quiet_of (C0.out _ ((Ext.refl _).drewN _))) | (go_at_call_of 40 (Value.slice (some ⟨ad.block, q8, none⟩) r8 r8); exact Calls.quiet_of (C8.out _ ((Ext.refl _).drewN _))) | (go_at_call_of 40 (Value.slice (some ⟨ad.block, q16, none⟩) r16 r16); exact Calls.quiet_of (C16.out _ ((Ext.refl _).drewN _))) | (go_at_call_of 40 (Value.slice (some ⟨ad.block, q24, none⟩) r24 r24); exact Calls.quiet_of (C24.out _ ((Ext.refl _).drewN _))))
                          go_wp2
                          go_roundg gp
                          case measure => omega
                          case rel => exact ⟨u, _, r, rfl, zu, by omega, by omega, hide ⟨HU.out.1, HU.out.2.1, HU.out.2.2.drewN _⟩⟩
                      · have c32z : ¬ (32 : Int) < (r : Int) := by omega
                        have c32b : decide ((32 : Int) < (r : Int)) = false := decide_eq_false c32z
                        go_wp2_with fail
                        go_big_quiet (fail)
                        go_wp2
                        go_roundg gp
                        case measure => omega
                        case rel => exact ⟨u, _, r, rfl, zu, by omega, by omega, hide ⟨HU.out.1, HU.out.2.1, HU.out.2.2.drewN _⟩⟩
                · have hz2b : ((Z2 : Int) == 0) = false := by simp; omega
                  go_big_quiet (first | (go_at_call_of 40 (Value.slice (some ⟨ad.block, o2, none⟩) m2 m2); exact Calls.quiet_of (CA.out _ (HX1.out.drewN _))) | (go_at_call_of 40 (Value.slice (some ⟨ad.block, o2b, none⟩) m2b m2b); exact Calls.quiet_of (CB.out _ (HX1.out.drewN _))))
                  go_wp2
                  go_roundg gp
                  case measure => omega
                  case rel => exact ⟨t2, _, m2, rfl, z2, by omega, by omega, hide (E2.out _ (HX1.out.drewN _))⟩
              · have c16z : ¬ (16 : Int) < (m2 : Int) := by omega
                have c16b : decide ((16 : Int) < (m2 : Int)) = false := decide_eq_false c16z
                go_big_quiet (fail)
                go_wp2
                go_roundg gp
                case measure => omega
                case rel => exact ⟨t2, _, m2, rfl, z2, by omega, by omega, hide (E2.out _ (HX1.out.drewN _))⟩
            · have hz1b : ((Z1 : Int) == 0) = false := by simp; omega
              go_wp2_with fail
              refine (HW1.out _ (Ext.refl _)).mono ?_
              rintro e w1 ⟨rfl, q1, rfl⟩
              go_wp2
              go_roundg gp
              case measure => omega
              case rel => exact ⟨t1, _, m, rfl, z1, by omega, by omega, hide (E1.out _ ((Ext.refl _).drewN _))⟩
          · have c8z : ¬ (8 : Int) < (m : Int) := by omega
            go_wp2
            go_roundg gp
            case measure => omega
            case rel => exact ⟨t1, _, m, rfl, z1, by omega, by omega, hide (E1.out _ (Ext.refl _))⟩
      · as_aux_lemma =>
          have hge : 128 ≤ x0.toNat := by omega
          have hascz : ¬ (x0.toNat : Int) < 128 := by omega
          obtain ⟨x1, hx1⟩ : ∃ x1, t.get! 1 = x1 := ⟨_, rfl⟩
          have lx1 := x1.toNat_lt
          have k1 : 1 < n → wr.cell? ⟨ad.block, ad.off + 1, none⟩ = some (.int .u8 x1.toNat) := fun h => by have := hcx 1 h; rw [hx1] at this; simpa [Addr.add] using this
          obtain ⟨x2, hx2⟩ : ∃ x2, t.get! 2 = x2 := ⟨_, rfl⟩
          have lx2 := x2.toNat_lt
          have k2 : 2 < n → wr.cell? ⟨ad.block, ad.off + 2, none⟩ = some (.int .u8 x2.toNat) := fun h => by have := hcx 2 h; rw [hx2] at this; simpa [Addr.add] using this
          obtain ⟨x3, hx3⟩ : ∃ x3, t.get! 3 = x3 := ⟨_, rfl⟩
          have lx3 := x3.toNat_lt
          have k3 : 3 < n → wr.cell? ⟨ad.block, ad.off + 3, none⟩ = some (.int .u8 x3.toNat) := fun h => by have := hcx 3 h; rw [hx3] at this; simpa [Addr.add] using this
          have hne : t.data.toList ≠ [] := fun h => by have := congrArg List.length h; rw [Array.length_toList] at this; have h2 : t.size = 0 := this; omega
          have hlead := Lib.validD_lead t.data.toList hne (by rw [Lib.getD_get!', hx0]; exact hge)
          rw [Lib.getD_get!', Lib.getD_get!', Lib.getD_get!', Lib.getD_get!', hx0, hx1, hx2, hx3, ← Lib.size_eq, H.out.2.1, hn] at hlead
          have hTr := HT.out.ext H.out.2.2
          have hc1 := hTr.1 x0.toNat hx0lt
          have hXlt : Lib.firstT x0.toNat < 256 := by rcases Lib.firstT_cases x0.toNat with h | h | h | h | h | h | h | h | h <;> omega
          obtain ⟨X, hX⟩ : ∃ X, Lib.firstT x0.toNat = X := ⟨_, rfl⟩
          rw [hX] at hc1 hXlt hlead
          have h7 := Go.Proofs.and7 ⟨X, hXlt⟩
          simp only at h7
          have ha0 : wr.cell? ⟨Tryd.laysValid_ren.g 4, X / 16 * 2, none⟩ = some (.int .u8 (Lib.accLo (X / 16))) := by rw [Nat.mul_comm]; exact (hTr.2 (X / 16) (by omega)).1
          have ha1 : wr.cell? ⟨Tryd.laysValid_ren.g 4, X / 16 * 2 + 1, none⟩ = some (.int .u8 (Lib.accHi (X / 16))) := by rw [Nat.mul_comm]; exact (hTr.2 (X / 16) (by omega)).2
          obtain ⟨LO, hLO⟩ : ∃ LO, Lib.accLo (X / 16) = LO := ⟨_, rfl⟩
          obtain ⟨HI, hHI⟩ : ∃ HI, Lib.accHi (X / 16) = HI := ⟨_, rfl⟩
          rw [hLO] at ha0 hlead
          rw [hHI] at ha1 hlead
          have hc1' : wr.cell? ⟨0, x0.toNat, none⟩ = some (.int .u8 X) := hc1
          have ha0' : wr.cell? ⟨1, X / 16 * 2, none⟩ = some (.int .u8 LO) := ha0
          have ha1' : wr.cell? ⟨1, X / 16 * 2 + 1, none⟩ = some (.int .u8 HI) := ha1
          obtain ⟨SZ, hSZ⟩ : ∃ SZ, X % 8 = SZ := ⟨_, rfl⟩
          rw [hSZ] at hlead
          have HH := hide (And.intro H.out.1 H.out.2.2)
          clear hTr hc1 ha0 ha1 hX hLO hHI hne hc hcx H
          by_cases s2 : SZ = 2
          · as_aux_lemma =>
            subst s2
            have hSZz : (X : Int) % 8 = 2 := by omega
            simp only [Lib.checkN, Nat.reduceEqDiff, if_true, if_false] at hlead
            go_wp2_with fail
            by_cases y0 : n < 2
            · have y0z : (n : Int) < (2 : Int) := by omega
              have e0 : ANS = false := by rw [hlead, if_pos (by omega)]
              subst e0
              clear hlead
              go_big_quiet (fail)
              go_wp2
              go_ret
              exact ⟨rfl, (HH.out.2.alloc _).drewN _⟩
            · have y0z : ¬ (n : Int) < (2 : Int) := by omega
              have y0b : decide ((n : Int) < (2 : Int)) = false := decide_eq_false y0z
              have kk1 : (wr.alloc (.cells #[.int .u8 LO, .int .u8 HI] 65)).cell? ⟨ad.block, ad.off + 1, none⟩ = some (.int .u8 x1.toNat) := ((Ext.refl wr).alloc _).cellOf (k1 (by omega))
              have q1z : (1 : Int) < (n : Int) := by omega
              by_cases y1 : x1.toNat < LO
              · have y1z : (x1.toNat : Int) < (LO : Int) := by omega
                have e0 : ANS = false := by rw [hlead, if_pos (by omega)]
                subst e0
                clear hlead
                go_big_quiet (fail)
                go_wp2
                go_ret
                exact ⟨rfl, (HH.out.2.alloc _).drewN _⟩
              · have y1z : ¬ (x1.toNat : Int) < (LO : Int) := by omega
                have y1b : decide ((x1.toNat : Int) < (LO : Int)) = false := decide_eq_false y1z
                by_cases y2 : HI < x1.toNat
                · have y2z : (HI : Int) < (x1.toNat : Int) := by omega
                  have e0 : ANS = false := by rw [hlead, if_pos (by omega)]
                  subst e0
                  clear hlead
                  go_big_quiet (fail)
                  go_wp2
                  go_ret
                  exact ⟨rfl, (HH.out.2.alloc _).drewN _⟩
                · have y2z : ¬ (HI : Int) < (x1.toNat : Int) := by omega
                  have y2b : decide ((HI : Int) < (x1.toNat : Int)) = false := decide_eq_false y2z
                  rw [if_neg (by omega)] at hlead
                  have zk : (t.extract 2 t.size).size = n - 2 := by rw [Lib.ext_size]; omega
                  have vk : Hid (Lib.validD (t.extract 2 t.size).data.toList = ANS) := hide (by rw [Lib.ext_list]; exact hlead.symm)
                  clear hlead
                  by_cases nk : n = 2
                  · subst nk
                    go_big_quiet (fail)
                    go_wp2
                    go_roundg gp
                    case measure => omega
                    case rel => exact ⟨t.extract 2 t.size, _, 0, rfl, by omega, by omega, by omega, hide ⟨SlB.none_ _ _ _ (by omega), vk.out, (HH.out.2.alloc _).drewN _⟩⟩
                  · have nkz : ¬ (n : Int) = 2 := by omega
                    obtain ⟨ok, hok⟩ : ∃ ok, ad.off + 2 = ok := ⟨_, rfl⟩
                    obtain ⟨mk, hmk⟩ : ∃ mk, n - 2 = mk := ⟨_, rfl⟩
                    have SK : Hid (SlB w (some ⟨ad.block, ok, none⟩) (t.extract 2 t.size)) := hide (by rw [← hok]; exact HH.out.1.skip 2 (by omega) (by omega))
                    go_big_quiet (fail)
                    go_wp2
                    go_roundg gp
                    case measure => omega
                    case rel => exact ⟨t.extract 2 t.size, _, mk, rfl, by omega, by omega, by omega, hide ⟨SK.out, vk.out, (HH.out.2.alloc _).drewN _⟩⟩
          by_cases s3 : SZ = 3
          · as_aux_lemma =>
            subst s3
            have hSZz : (X : Int) % 8 = 3 := by omega
            simp only [Lib.checkN, Nat.reduceEqDiff, if_true, if_false] at hlead
            go_wp2_with fail
            by_cases y0 : n < 3
            · have y0z : (n : Int) < (3 : Int) := by omega
              have e0 : ANS = false := by rw [hlead, if_pos (by omega)]
              subst e0
              clear hlead
              go_big_quiet (fail)
              go_wp2
              go_ret
              exact ⟨rfl, (HH.out.2.alloc _).drewN _⟩
            · have y0z : ¬ (n : Int) < (3 : Int) := by omega
              have y0b : decide ((n : Int) < (3 : Int)) = false := decide_eq_false y0z
              have kk1 : (wr.alloc (.cells #[.int .u8 LO, .int .u8 HI] 65)).cell? ⟨ad.block, ad.off + 1, none⟩ = some (.int .u8 x1.toNat) := ((Ext.refl wr).alloc _).cellOf (k1 (by omega))
              have q1z : (1 : Int) < (n : Int) := by omega
              have kk2 : (wr.alloc (.cells #[.int .u8 LO, .int .u8 HI] 65)).cell? ⟨ad.block, ad.off + 2, none⟩ = some (.int .u8 x2.toNat) := ((Ext.refl wr).alloc _).cellOf (k2 (by omega))
              have q2z : (2 : Int) < (n : Int) := by omega
              by_cases y1 : x1.toNat < LO
              · have y1z : (x1.toNat : Int) < (LO : Int) := by omega
                have e0 : ANS = false := by rw [hlead, if_pos (by omega)]
                subst e0
                clear hlead
                go_big_quiet (fail)
                go_wp2
                go_ret
                exact ⟨rfl, (HH.out.2.alloc _).drewN _⟩
              · have y1z : ¬ (x1.toNat : Int) < (LO : Int) := by omega
                have y1b : decide ((x1.toNat : Int) < (LO : Int)) = false := decide_eq_false y1z
                by_cases y2 : HI < x1.toNat
                · have y2z : (HI : Int) < (x1.toNat : Int) := by omega
                  have e0 : ANS = false := by rw [hlead, if_pos (by omega)]
                  subst e0
                  clear hlead
                  go_big_quiet (fail)
                  go_wp2
                  go_ret
                  exact ⟨rfl, (HH.out.2.alloc _).drewN _⟩
                · have y2z : ¬ (HI : Int) < (x1.toNat : Int) := by omega
                  have y2b : decide ((HI : Int) < (x1.toNat : Int)) = false := decide_eq_false y2z
                  by_cases y3 : x2.toNat < 128
                  · have y3z : (x2.toNat : Int) < (128 : Int) := by omega
                    have e0 : ANS = false := by rw [hlead, if_pos (by omega)]
                    subst e0
                    clear hlead
                    go_big_quiet (fail)
                    go_wp2
                    go_ret
                    exact ⟨rfl, (HH.out.2.alloc _).drewN _⟩
                  · have y3z : ¬ (x2.toNat : Int) < (128 : Int) := by omega
                    have y3b : decide ((x2.toNat : Int) < (128 : Int)) = false := decide_eq_false y3z
                    by_cases y4 : 191 < x2.toNat
                    · have y4z : (191 : Int) < (x2.toNat : Int) := by omega
                      have e0 : ANS = false := by rw [hlead, if_pos (by omega)]
                      subst e0
                      clear hlead
                      go_big_quiet (fail)
                      go_wp2
                      go_ret
                      exact ⟨rfl, (HH.out.2.alloc _).drewN _⟩
                    · have y4z : ¬ (191 : Int) < (x2.toNat : Int) := by omega
                      have y4b : decide ((191 : Int) < (x2.toNat : Int)) = false := decide_eq_false y4z
                      rw [if_neg (by omega)] at hlead
                      have zk : (t.extract 3 t.size).size = n - 3 := by rw [Lib.ext_size]; omega
                      have vk : Hid (Lib.validD (t.extract 3 t.size).data.toList = ANS) := hide (by rw [Lib.ext_list]; exact hlead.symm)
                      clear hlead
                      by_cases nk : n = 3
                      · subst nk
                        go_big_quiet (fail)
                        go_wp2
                        go_roundg gp
                        case measure => omega
                        case rel => exact ⟨t.extract 3 t.size, _, 0, rfl, by omega, by omega, by omega, hide ⟨SlB.none_ _ _ _ (by omega), vk.out, (HH.out.2.alloc _).drewN _⟩⟩
                      · have nkz : ¬ (n : Int) = 3 := by omega
                        obtain ⟨ok, hok⟩ : ∃ ok, ad.off + 3 = ok := ⟨_, rfl⟩
                        obtain ⟨mk, hmk⟩ : ∃ mk, n - 3 = mk := ⟨_, rfl⟩
                        have SK : Hid (SlB w (some ⟨ad.block, ok, none⟩) (t.extract 3 t.size)) := hide (by rw [← hok]; exact HH.out.1.skip 3 (by omega) (by omega))
                        go_big_quiet (fail)
                        go_wp2
                        go_roundg gp
                        case measure => omega
                        case rel => exact ⟨t.extract 3 t.size, _, mk, rfl, by omega, by omega, by omega, hide ⟨SK.out, vk.out, (HH.out.2.alloc _).drewN _⟩⟩
          by_cases s4 : SZ = 4
          · as_aux_lemma =>
            subst s4
            have hSZz : (X : Int) % 8 = 4 := by omega
            simp only [Lib.checkN, Nat.reduceEqDiff, if_true, if_false] at hlead
            go_wp2_with fail
            by_cases y0 : n < 4
            · have y0z : (n : Int) < (4 : Int) := by omega
              have e0 : ANS = false := by rw [hlead, if_pos (by omega)]
              subst e0
              clear hlead
              go_big_quiet (fail)
              go_wp2
              go_ret
              exact ⟨rfl, (HH.out.2.alloc _).drewN _⟩
            · have y0z : ¬ (n : Int) < (4 : Int) := by omega
              have y0b : decide ((n : Int) < (4 : Int)) = false := decide_eq_false y0z
              have kk1 : (wr.alloc (.cells #[.int .u8 LO, .int .u8 HI] 65)).cell? ⟨ad.block, ad.off + 1, none⟩ = some (.int .u8 x1.toNat) := ((Ext.refl wr).alloc _).cellOf (k1 (by omega))
              have q1z : (1 : Int) < (n : Int) := by omega
              have kk2 : (wr.alloc (.cells #[.int .u8 LO, .int .u8 HI] 65)).cell? ⟨ad.block, ad.off + 2, none⟩ = some (.int .u8 x2.toNat) := ((Ext.refl wr).alloc _).cellOf (k2 (by omega))
              have q2z : (2 : Int) < (n : Int) := by omega
              have kk3 : (wr.alloc (.cells #[.int .u8 LO, .int .u8 HI] 65)).cell? ⟨ad.block, ad.off + 3, none⟩ = some (.int .u8 x3.toNat) := ((Ext.refl wr).alloc _).cellOf (k3 (by omega))
              have q3z : (3 : Int) < (n : Int) := by omega
              by_cases y1 : x1.toNat < LO
              · have y1z : (x1.toNat : Int) < (LO : Int) := by omega
                have e0 : ANS = false := by rw [hlead, if_pos (by omega)]
                subst e0
                clear hlead
                go_big_quiet (fail)
                go_wp2
                go_ret
                exact ⟨rfl, (HH.out.2.alloc _).drewN _⟩
              · have y1z : ¬ (x1.toNat : Int) < (LO : Int) := by omega
                have y1b : decide ((x1.toNat : Int) < (LO : Int)) = false := decide_eq_false y1z
                by_cases y2 : HI < x1.toNat
                · have y2z : (HI : Int) < (x1.toNat : Int) := by omega
                  have e0 : ANS = false := by rw [hlead, if_pos (by omega)]
                  subst e0
                  clear hlead
                  go_big_quiet (fail)
                  go_wp2
                  go_ret
                  exact ⟨rfl, (HH.out.2.alloc _).drewN _⟩
                · have y2z : ¬ (HI : Int) < (x1.toNat : Int) := by omega
                  have y2b : decide ((HI : Int) < (x1.toNat : Int)) = false := decide_eq_false y2z
                  by_cases y3 : x2.toNat < 128
                  · have y3z : (x2.toNat : Int) < (128 : Int) := by omega
                    have e0 : ANS = false := by rw [hlead, if_pos (by omega)]
                    subst e0
                    clear hlead
                    go_big_quiet (fail)
                    go_wp2
                    go_ret
                    exact ⟨rfl, (HH.out.2.alloc _).drewN _⟩
                  · have y3z : ¬ (x2.toNat : Int) < (128 : Int) := by omega
                    have y3b : decide ((x2.toNat : Int) < (128 : Int)) = false := decide_eq_false y3z
                    by_cases y4 : 191 < x2.toNat
                    · have y4z : (191 : Int) < (x2.toNat : Int) := by omega
                      have e0 : ANS = false := by rw [hlead, if_pos (by omega)]
                      subst e0
                      clear hlead
                      go_big_quiet (fail)
                      go_wp2
                      go_ret
                      exact ⟨rfl, (HH.out.2.alloc _).drewN _⟩
                    · have y4z : ¬ (191 : Int) < (x2.toNat : Int) := by omega
                      have y4b : decide ((191 : Int) < (x2.toNat : Int)) = false := decide_eq_false y4z
                      by_cases y5 : x3.toNat < 128
                      · have y5z : (x3.toNat : Int) < (128 : Int) := by omega
                        have e0 : ANS = false := by rw [hlead, if_pos (by omega)]
                        subst e0
                        clear hlead
                        go_big_quiet (fail)
                        go_wp2
                        go_ret
                        exact ⟨rfl, (HH.out.2.alloc _).drewN _⟩
                      · have y5z : ¬ (x3.toNat : Int) < (128 : Int) := by omega
                        have y5b : decide ((x3.toNat : Int) < (128 : Int)) = false := decide_eq_false y5z
                        by_cases y6 : 191 < x3.toNat
                        · have y6z : (191 : Int) < (x3.toNat : Int) := by omega
                          have e0 : ANS = false := by rw [hlead, if_pos (by omega)]
                          subst e0
                          clear hlead
                          go_big_quiet (fail)
                          go_wp2
                          go_ret
                          exact ⟨rfl, (HH.out.2.alloc _).drewN _⟩
                        · have y6z : ¬ (191 : Int) < (x3.toNat : Int) := by omega
                          have y6b : decide ((191 : Int) < (x3.toNat : Int)) = false := decide_eq_false y6z
                          rw [if_neg (by omega)] at hlead
                          have zk : (t.extract 4 t.size).size = n - 4 := by rw [Lib.ext_size]; omega
                          have vk : Hid (Lib.validD (t.extract 4 t.size).data.toList = ANS) := hide (by rw [Lib.ext_list]; exact hlead.symm)
                          clear hlead
                          by_cases nk : n = 4
                          · subst nk
                            go_big_quiet (fail)
                            go_wp2
                            go_roundg gp
                            case measure => omega
                            case rel => exact ⟨t.extract 4 t.size, _, 0, rfl, by omega, by omega, by omega, hide ⟨SlB.none_ _ _ _ (by omega), vk.out, (HH.out.2.alloc _).drewN _⟩⟩
                          · have nkz : ¬ (n : Int) = 4 := by omega
                            obtain ⟨ok, hok⟩ : ∃ ok, ad.off + 4 = ok := ⟨_, rfl⟩
                            obtain ⟨mk, hmk⟩ : ∃ mk, n - 4 = mk := ⟨_, rfl⟩
                            have SK : Hid (SlB w (some ⟨ad.block, ok, none⟩) (t.extract 4 t.size)) := hide (by rw [← hok]; exact HH.out.1.skip 4 (by omega) (by omega))
                            go_big_quiet (fail)
                            go_wp2
                            go_roundg gp
                            case measure => omega
                            case rel => exact ⟨t.extract 4 t.size, _, mk, rfl, by omega, by omega, by omega, hide ⟨SK.out, vk.out, (HH.out.2.alloc _).drewN _⟩⟩
          have e2 : ¬ (X : Int) % 8 = 2 := by omega
          have e2b : (((X : Int) % 8) == 2) = false := by simp; omega
          have e3 : ¬ (X : Int) % 8 = 3 := by omega
          have e3b : (((X : Int) % 8) == 3) = false := by simp; omega
          have e4 : ¬ (X : Int) % 8 = 4 := by omega
          have e4b : (((X : Int) % 8) == 4) = false := by simp; omega
          simp only [Lib.checkN, s2, s3, s4, if_false] at hlead
          subst hlead
          go_wp2
          go_ret
          exact ⟨rfl, HH.out.2.alloc _⟩
    · have h0z : ¬ (0 : Int) < (n : Int) := by omega
      have e0 : ANS = true := by
        rw [← H.out.2.1]
        have ht0 : t.data.toList = [] := List.eq_nil_of_length_eq_zero (by rw [Array.length_toList]; show t.size = 0; omega)
        rw [ht0, Lib.validD_nil]
      subst e0
      go_wp2
      go_ret
      exact ⟨rfl, H.out.2.2⟩
end Go.Proofs.YtkockmpncocjhaaDoor
