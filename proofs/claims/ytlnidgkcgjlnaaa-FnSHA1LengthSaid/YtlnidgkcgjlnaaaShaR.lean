/-
  (*sha1.digest).Write: bytes more.
-/
import Derived.Test.YtlnidgkcgjlnaaaShaD
import Derived.Deep.DeepCutAuto
import Derived.LoopTactic
import Derived.IntWalk
namespace Go.Proofs.Ytlnidgkcgjlnaaa
open Go.RowKit
set_option linter.unusedVariables false
set_option linter.unusedSimpArgs false

/-- What blockGeneric does. -/
def BlockG : Prop := ∀ (w : World) (d : Nat) (s : W5) (x : Nat → Int) (nx len : Int) (A : Option Addr) (cap : Nat) (l : List UInt8), s.ok → Dig w d s x nx len → RBytes w A l → l.length ≤ cap → cap ≤ maxLen →
    Calls Try.prog 55 #[.pointer (some ⟨d, 0, none⟩), .slice A l.length cap] w fun e w' => e = .returned (.tuple #[]) ∧ Dig w' d (W5.blocksN nR (lb l) (l.length / 64) s) x nx len ∧ Chg [d] w w'
/-- A digest that has taken the bytes l; the count says N. -/
def ShaX (w : World) (d : Nat) (l : List UInt8) (N : Int) : Prop :=
  ∃ x, Dig w d (shaState l) x ((l.length % 64 : Nat) : Int) N ∧ ∀ i, i < l.length % 64 → x i = lb l (64 * (l.length / 64) + i)
theorem ShaX.chg {S : List Nat} {w w' : World} {d : Nat} {N : Int} {l : List UInt8} (h : ShaX w d l N) (hc : Chg S w w') (hd : d ∉ S) : ShaX w' d l N := by
  obtain ⟨x, h1, h2⟩ := h
  exact ⟨x, h1.chg hc hd, h2⟩
theorem ShaX.lt {w : World} {d : Nat} {N : Int} {l : List UInt8} (h : ShaX w d l N) : d < w.heap.size := by
  obtain ⟨x, h1, _⟩ := h
  exact h1.lt
/-- Bytes laid over those that wait. -/
def layX (x : Nat → Int) (o : Nat) (q : List UInt8) : Nat → Int := fun i => if o ≤ i ∧ i < o + q.length then lb q (i - o) else x i
theorem digC_lay (s : W5) (x : Nat → Int) (nx len : Int) (o : Nat) (q : List UInt8) (h : o + q.length ≤ 64) :
    ((digC s x nx len).toList.take (5 + o) ++ bs q ++ (digC s x nx len).toList.drop (5 + o + (bs q).length)).toArray = digC s (layX x o q) nx len := by
  rw [bs_length]
  have hl : (digC s x nx len).toList.length = 71 := by rw [Array.length_toList, digC_size]
  refine digC_eq ?_ fun i hi => ?_
  · simp only [List.size_toArray, List.length_append, List.length_take, List.length_drop, hl, bs_length]
    omega
  · rw [List.getElem?_toArray]
    have hd : ∀ j, j < 71 → (digC s x nx len).toList[j]? = some (digF s x nx len j) := fun j hj => by rw [Array.getElem?_toList, digC_get hj]
    rcases (by omega : i < 5 + o ∨ (5 + o ≤ i ∧ i < 5 + o + q.length) ∨ 5 + o + q.length ≤ i) with h1 | ⟨h1, h2⟩ | h1
    · rw [List.append_assoc, List.getElem?_append_left (by rw [List.length_take, hl]; omega), List.getElem?_take, if_pos h1, hd i hi]
      unfold digF layX
      rcases (by omega : i < 5 ∨ (5 ≤ i ∧ i < 69)) with h3 | ⟨h3, h4⟩
      · rcases (by omega : i = 0 ∨ i = 1 ∨ i = 2 ∨ i = 3 ∨ i = 4) with rfl | rfl | rfl | rfl | rfl <;> rfl
      · rw [if_pos h4, if_pos h4, if_neg (show ¬ (o ≤ i - 5 ∧ i - 5 < o + q.length) by omega)]
    · obtain ⟨k, rfl⟩ : ∃ k, i = 5 + (o + k) := ⟨i - (5 + o), by omega⟩
      have hk : k < q.length := by omega
      have e1 : (bs q)[k]? = some (.int .u8 (lb q k)) := by
        rw [bs_getElem?, List.getElem?_eq_getElem hk, lb_at hk]
        rfl
      rw [List.append_assoc, List.getElem?_append_right (by rw [List.length_take, hl]; omega), List.length_take, hl, List.getElem?_append_left (by rw [bs_length]; omega), show 5 + (o + k) - min (5 + o) 71 = k by omega, e1, digF_x (by omega)]
      unfold layX
      rw [if_pos ⟨by omega, by omega⟩, Nat.add_sub_cancel_left]
    · rw [List.getElem?_append_right (by rw [List.length_append, List.length_take, hl, bs_length]; omega), List.length_append, List.length_take, hl, bs_length, List.getElem?_drop, hd _ (by omega), show 5 + o + q.length + (i - (min (5 + o) 71 + q.length)) = i by omega]
      unfold digF layX
      rcases (by omega : i < 69 ∨ i = 69 ∨ i = 70) with h3 | rfl | rfl
      · have h0 : ¬ i = 0 := by omega
        have h10 : ¬ i = 1 := by omega
        have h20 : ¬ i = 2 := by omega
        have h30 : ¬ i = 3 := by omega
        have h40 : ¬ i = 4 := by omega
        rw [if_neg h0, if_neg h10, if_neg h20, if_neg h30, if_neg h40, if_pos h3, if_neg h0, if_neg h10, if_neg h20, if_neg h30, if_neg h40, if_pos h3, if_neg (show ¬ (o ≤ i - 5 ∧ i - 5 < o + q.length) by omega)]
      · rfl
      · rfl
theorem info_1 : (Try.prog.info? 5).map (·.size) = some 1 := by kernel_rfl
/-- 'copy(d.x[o:], p)'. -/
theorem copy_x (W : World) (d : Nat) (s : W5) (x : Nat → Int) (nx len : Int) (o : Nat) (p : List UInt8) (P c n : Nat) (ad : Addr) (hD : Dig W d s x nx len) (hP : p.length = P) (ho : o ≤ 64) (hn : n = Nat.min P (64 - o)) (hc : ∀ k (hk : k < p.length), W.cell? (ad.add k) = some (.int .u8 (p[k].toNat))) :
    (Builtin.copy_ #[46, 46] 3 #[.slice (some ⟨d, 5 + o, none⟩) (64 - o) (64 - o), .slice (some ad) P c]).run Try.prog W = .ok (goInt n) (W.setRow d (digC s (layX x o (p.take n)) nx len)) := by
  subst hP
  have hn' : n = min p.length (64 - o) := hn
  have hl : (p.take n).length = n := by rw [List.length_take]; omega
  have h := run_copy_row (P := Try.prog) W 46 46 3 5 d (5 + o) (64 - o) (64 - o) ad p.length c (digC s x nx len) 94 (bs (p.take n)) Try.underlying46 info_1 hD (by rw [bs_length, hl, hn]) (fun j u hu => by
    have hj : j < n := by
      have := (List.getElem?_eq_some_iff.1 hu).1
      rwa [bs_length, hl] at this
    have hj2 : j < p.length := by omega
    rw [bs_getElem?, List.getElem?_take, if_pos hj, List.getElem?_eq_getElem hj2] at hu
    simp at hu
    rw [hc j hj2, hu]) (by rw [bs_length, hl, digC_size]; omega) (bs_oneCell _)
  rw [digC_lay _ _ _ _ _ _ (by rw [hl]; omega), bs_length, hl] at h
  exact h
theorem Dig.lay {W : World} {d : Nat} {s : W5} {x : Nat → Int} {nx len : Int} (hD : Dig W d s x nx len) (y : Nat → Int) : Dig (W.setRow d (digC s y nx len)) d s y nx len := Blk.setRow_ hD _

theorem block_of (BG : BlockG) (w : World) (d : Nat) (s : W5) (x : Nat → Int) (nx len : Int) (A : Option Addr) (P cap : Nat) (l : List UInt8) (hs : s.ok) (hD : Dig w d s x nx len) (hR : RBytes w A l) (hP : l.length = P) (hc : P ≤ cap) (hm : cap ≤ maxLen) :
    Calls Try.prog 53 #[.pointer (some ⟨d, 0, none⟩), .slice A P cap] w fun e w' => e = .returned (.tuple #[]) ∧ Dig w' d (W5.blocksN nR (lb l) (P / 64) s) x nx len ∧ Chg [d] w w' := by
  subst hP
  have H := hide (BG w d s x nx len A cap l hs hD hR hc hm)
  clear hs hD hR hc hm BG
  go_enter Try.func53, Try.ntmps53
  go_wp2_with (go_at_call 55; refine H.out.mono ?_; rintro e w2 ⟨rfl, h1, h2⟩)
  exact bodyPost_end (results_none rfl _ _ _) rfl ⟨rfl, h1, h2⟩
theorem bits_andNot63 (n : Nat) (h : n ≤ 1000000) : bits .andNot .i64 (n : Int) 63 = ((64 * (n / 64) : Nat) : Int) := by
  have hb : bits .andNot .i64 (n : Int) 63 = IntKind.i64.wrap ((BitVec.ofInt 64 (n : Int) &&& ~~~ BitVec.ofInt 64 63).toNat : Int) := rfl
  have e : BitVec.ofInt 64 (n : Int) &&& ~~~ BitVec.ofInt 64 63 = BitVec.ofNat 64 (64 * (n / 64)) := by
    apply BitVec.eq_of_toNat_eq
    have e15 : (~~~ BitVec.ofInt 64 63).toNat = 18446744073709551552 := by decide
    have e16 : (BitVec.ofInt 64 (n : Int)).toNat = n := by simp; omega
    have e17 : (BitVec.ofNat 64 (64 * (n / 64))).toNat = 64 * (n / 64) := by rw [BitVec.toNat_ofNat]; omega
    rw [BitVec.toNat_and, e15, e16, e17]
    have h1 : n &&& (18446744073709551615 - 63) = n - n % 64 := by
      apply Nat.eq_of_testBit_eq
      intro i
      have e18 : n - n % 64 = (n >>> 6) <<< 6 := by rw [Nat.shiftRight_eq_div_pow, Nat.shiftLeft_eq]; omega
      rw [e18, Nat.testBit_and, Nat.testBit_shiftLeft, Nat.testBit_shiftRight]
      have e19 : (18446744073709551615 - 63 : Nat) = (2 ^ 58 - 1) <<< 6 := by decide
      rw [e19, Nat.testBit_shiftLeft, Nat.testBit_two_pow_sub_one]
      rcases Nat.lt_or_ge i 6 with hi | hi
      · simp [show ¬ 6 ≤ i by omega]
      · rw [show 6 + (i - 6) = i by omega]
        by_cases h64 : i - 6 < 58
        · simp [hi, h64]
        · have : n.testBit i = false := Nat.testBit_lt_two_pow (Nat.lt_of_lt_of_le (show n < 2 ^ 20 by omega) (Nat.pow_le_pow_right (by decide) (by omega)))
          simp [this]
    have h2 : (18446744073709551552 : Nat) = 18446744073709551615 - 63 := by decide
    rw [h2, h1]
    omega
  have e2 : (BitVec.ofNat 64 (64 * (n / 64))).toNat = 64 * (n / 64) := by rw [BitVec.toNat_ofNat]; omega
  rw [hb, e, e2]
  rw [IntKind.wrap_i64]
  omega
theorem lay_q {x : Nat → Int} {l q : List UInt8} {r : Nat} (hr : r = l.length % 64) (hx : ∀ i, i < r → x i = lb l (64 * (l.length / 64) + i)) (i : Nat) (hi : i < r + q.length) : layX x r q i = lb (l.drop (64 * (l.length / 64)) ++ q) i := by
  have hl : (l.drop (64 * (l.length / 64))).length = r := by rw [List.length_drop]; omega
  unfold layX
  rcases Nat.lt_or_ge i r with h | h
  · rw [if_neg (by omega), hx i h, lb_left (by omega), lb_drop]
  · rw [if_pos ⟨h, hi⟩]
    obtain ⟨k, rfl⟩ : ∃ k, i = r + k := ⟨i - r, by omega⟩
    rw [lb_right hl, Nat.add_sub_cancel_left]
/-- Bytes that do not fill a block. -/
theorem ShaX.less {W : World} {d : Nat} {x : Nat → Int} {l q : List UInt8} {r n : Nat} {N : Int} (hr : r = l.length % 64) (hx : ∀ i, i < r → x i = lb l (64 * (l.length / 64) + i)) (hn : q.length = n) (h : r + n < 64) (hD : Dig W d (shaState l) (layX x r q) ((r : Int) + n) N) : ShaX W d (l ++ q) N := by
  have e1 : (l ++ q).length % 64 = r + n := by rw [List.length_append]; omega
  have e2 : (l ++ q).length / 64 = l.length / 64 := by rw [List.length_append]; omega
  refine ⟨layX x r q, ?_, fun i hi => ?_⟩
  · rw [e1, shaState_more (by omega)]
    simpa using hD
  · rw [e1] at hi
    rw [e2, lay_q hr hx i (by omega), ← lb_drop, List.drop_append_of_le_length (by omega)]

set_option maxRecDepth 100000 in
set_option maxHeartbeats 4000000 in
theorem write_any (BG : BlockG) (w : World) (d : Nat) (l p : List UInt8) (P cap : Nat) (A : Option Addr) (hs : ShaX w d l l.length) (hP : p.length = P) (hR : RBytes w A p) (hA : ∀ ad, A = some ad → ad.block ≠ d) (hp : 0 < P) (hcap : P ≤ cap) (hm : cap ≤ maxLen) (hsz : l.length + P ≤ 1000000) :
    Calls Try.prog 46 #[.pointer (some ⟨d, 0, none⟩), .slice A P cap] w fun e w' => e = .returned (.tuple #[.int .i64 P, .nilIface]) ∧ ShaX w' d (l ++ p) ((l.length : Int) + P) ∧ Chg [d] w w' := by
  obtain ⟨x, hD, hx⟩ := hs
  obtain ⟨ad, rfl, hb, hcell⟩ := hR.addr (by omega)
  have hne := hA ad rfl
  have HBG := hide BG
  have HD := hide hD
  have HX := hide hx
  have HR := hide hR
  have HNE := hide hne
  have HC := hide hcell
  obtain ⟨n0, n1⟩ := hD.n
  have f1 := Blk.frozen hD 70
  have f0 := Blk.frozen hD 69
  obtain ⟨L, hL⟩ : ∃ L, L = l.length := ⟨_, rfl⟩
  obtain ⟨r, hr⟩ : ∃ r, r = l.length % 64 := ⟨_, rfl⟩
  rw [← hr] at n0
  rw [← hL] at n1 hsz
  have HLr := hide (And.intro hL (And.intro hr hP))
  have hr64 : r < 64 := by omega
  clear hD hx hR hA hb hcell hne hP hL hr BG
  unfold maxLen at hm
  have HM := hide hm
  go_enter Try.func46, Try.ntmps46
  go_upto_if 23 with fail
  clear n1 f1
  have HD1 : Hid (Dig (w.setCell ⟨d, 70, none⟩ (.int .u64 ((L : Int) + P))) d (shaState l) x (r : Int) ((L : Int) + P)) := hide (by have h := HD.out.set_len ((L : Int) + P); rw [← HLr.out.2.1] at h; exact h)
  have HC1 : Hid (Chg [d] w (w.setCell ⟨d, 70, none⟩ (.int .u64 ((L : Int) + P)))) := hide ((Chg.refl _ _).setCell (.inl (by simp)) _)
  generalize w.setCell ⟨d, 70, none⟩ (.int .u64 ((L : Int) + P)) = W1 at HD1 HC1 ⊢
  obtain ⟨n0, n1⟩ := HD1.out.n
  have f0 := Blk.frozen HD1.out 69
  go_cut [1] (fun s1 wx => ∃ (l1 p1 : List UInt8) (P1 : Nat) (A1 : Option Addr) (c1 : Nat), s1 = .slice A1 P1 c1 ∧ P1 ≤ c1 ∧ c1 ≤ cap ∧ Hid (p1.length = P1 ∧ l1 ++ p1 = l ++ p ∧ (P1 = 0 ∨ l1.length % 64 = 0) ∧ ShaX wx d l1 ((L : Int) + P) ∧ Chg [d] w wx ∧ RBytes wx A1 p1 ∧ ∀ ad1, A1 = some ad1 → ad1.block ≠ d))
  case first =>
    by_cases hr0 : r = 0
    · subst hr0
      go_wp2
      go_meet
      case rel => exact ⟨l, p, P, some ad, cap, rfl, hcap, Nat.le_refl _, hide ⟨HLr.out.2.2, rfl, .inr HLr.out.2.1.symm, ⟨x, by rw [← HLr.out.2.1]; exact HD1.out, HX.out⟩, HC1.out, HR.out.chg HC1.out (fun ad1 e => by injection e with e; subst e; simpa using HNE.out), fun ad1 e => by injection e with e; subst e; exact HNE.out⟩⟩
    · have hrpos : (0 : Int) < (r : Int) := by omega
      have hr64' : (r : Int) < 64 := by omega
      have hr65 : (r : Int) ≤ 64 := by omega
      have hr66 : ¬ 64 = r := by omega
      have hr67 : 0 ≤ (r : Int) := by omega
      have hr68 : (r : Int).toNat = r := by omega
      obtain ⟨n, hn⟩ : ∃ n, n = Nat.min P (64 - r) := ⟨_, rfl⟩
      have hcp := copy_x W1.drew d (shaState l) x (r : Int) ((L : Int) + P) r p P cap n ad HD1.out HLr.out.2.2 (by omega) hn (fun k hk => (cell_chg (S := [d]) (HC.out k hk) HC1.out.drew (by rw [block_of_add]; simpa using HNE.out)))
      have hn' : n = min P (64 - r) := hn
      have hnP : n ≤ P := by omega
      have hnr : r + n ≤ 64 := by omega
      have HN := hide hn'
      clear hn hn'
      go_wp2
      refine wp_region_quiet_tail 9 (by kernel_rfl) (by kernel_rfl) ?_
      simp only [List.take_succ_cons, List.take_zero, List.drop_succ_cons, List.drop_zero]
      repeat go_big_quiet_step (fail)
      refine wpQuiet_nil ?_
      go_upto_region 5 with fail
      have HD2 : Hid (Dig (W1.drew.setRow d (digC (shaState l) (layX x r (p.take n)) (r : Int) ((L : Int) + P))) d (shaState l) (layX x r (p.take n)) (r : Int) ((L : Int) + P)) := hide (Dig.lay (W := W1.drew) HD1.out _)
      have HC2 : Hid (Chg [d] w (W1.drew.setRow d (digC (shaState l) (layX x r (p.take n)) (r : Int) ((L : Int) + P)))) := hide (HC1.out.drew.setRow (.inl (by simp)) _)
      generalize W1.drew.setRow d (digC (shaState l) (layX x r (p.take n)) (r : Int) ((L : Int) + P)) = W2 at HD2 HC2 ⊢
      clear hcp n0 n1 f0
      obtain ⟨n0, n1⟩ := HD2.out.n
      have f0 := Blk.frozen HD2.out 69
      have HD3 := hide (HD2.out.set_nx ((r : Int) + n))
      have HC3 := hide (HC2.out.setCell (.inl (by simp) : (⟨d, 69, none⟩ : Addr).block ∈ [d] ∨ _) (.int .i64 ((r : Int) + n)))
      have hnP' : (n : Int) ≤ (P : Int) := by omega
      have hcP' : (P : Int) ≤ (cap : Int) := by omega
      by_cases hB : r + P < 64
      · have hnp : P = n := by have := HN.out; omega
        subst hnp
        have hb1 : ¬ (r : Int) + P = 64 := by omega
        have HS : Hid (ShaX (W2.setCell ⟨d, 69, none⟩ (.int .i64 ((r : Int) + P))) d (l ++ p) ((L : Int) + P)) := hide (ShaX.less (n := P) HLr.out.2.1 (by rw [HLr.out.2.1]; exact HX.out) HLr.out.2.2 hB (by have h := HD3.out; rw [List.take_of_length_le (by have := HLr.out.2.2; omega)] at h; exact h))
        clear HD3
        go_wp2
        all_goals
          go_meet
          case rel => exact ⟨l ++ p, [], 0, _, _, rfl, by omega, by omega, hide ⟨rfl, by simp, .inl rfl, HS.out, HC3.out, RBytes.empty _ _, fun ad1 e => by injection e with e; subst e; first | exact HNE.out | (rw [block_of_add]; exact HNE.out)⟩⟩
      · have hb1 : (r : Int) + n = 64 := by have := HN.out; omega
        have hb2 : r + n = 64 := by omega
        have hql : (p.take n).length = n := by rw [List.length_take]; have := HLr.out.2.2; omega
        have HQ : Hid (RBytes (W2.setCell ⟨d, 69, none⟩ (.int .i64 ((r : Int) + n))) (some ⟨d, 5, none⟩) (l.drop (64 * (l.length / 64)) ++ p.take n)) := hide (rbytes_blk HD3.out fun j hj => by
          rw [List.length_append, List.length_drop, hql] at hj
          have hr := HLr.out.2.1
          rw [digC_x (by omega), lay_q hr (by rw [hr]; exact HX.out) j (by omega), lb_at (by rw [List.length_append, List.length_drop, hql]; omega)])
        have HQl : Hid ((l.drop (64 * (l.length / 64)) ++ p.take n).length = 64) := hide (by rw [List.length_append, List.length_drop, hql]; have := HLr.out.2.1; omega)
        have BL := hide (block_of HBG.out _ d _ _ _ _ _ 64 64 _ (shaState_ok l) HD3.out HQ.out HQl.out (Nat.le_refl _) (by unfold maxLen; omega))
        have HST : Hid (W5.blocksN nR (lb (l.drop (64 * (l.length / 64)) ++ p.take n)) (64 / 64) (shaState l) = shaState (l ++ p.take n)) := hide (shaState_app (by rw [HQl.out, hql]; have := HLr.out.2.1; omega) rfl HQl.out).symm
        rw [hb1] at BL HC3
        clear HD3 HQ
        go_upto_region 7 with fail
        go_upto_region 8 with (go_at_call 53; refine BL.out.mono ?_; rintro e W4 ⟨rfl, hD4, hC4⟩)
        have HD4 : Hid (Dig W4 d (shaState (l ++ p.take n)) (layX x r (p.take n)) 64 ((L : Int) + P)) := hide (by rw [← HST.out]; exact hD4)
        have HC4 : Hid (Chg [d] w W4) := hide (HC3.out.trans hC4)
        clear hD4 hC4 BL n0 n1 f0
        obtain ⟨n0, n1⟩ := HD4.out.n
        have f0 := Blk.frozen HD4.out 69
        have HD5 : Hid (ShaX (W4.setCell ⟨d, 69, none⟩ (.int .i64 0)) d (l ++ p.take n) ((L : Int) + P)) := hide (by
          have e0 : (l ++ p.take n).length % 64 = 0 := by rw [List.length_append, hql]; have := HLr.out.2.1; omega
          refine ⟨_, by rw [e0]; exact HD4.out.set_nx 0, fun i hi => by rw [e0] at hi; omega⟩)
        have HC5 : Hid (Chg [d] w (W4.setCell ⟨d, 69, none⟩ (.int .i64 0))) := hide (HC4.out.setCell (.inl (by simp)) _)
        have HRC : Hid (∀ A1, (if cap = n then some ad else some (ad.add n)) = A1 → RBytes (W4.setCell ⟨d, 69, none⟩ (.int .i64 0)) A1 (p.drop n) ∧ ∀ ad1, A1 = some ad1 → ad1.block ≠ d) := hide (by
          rintro A1 rfl
          have hb : ∀ ad1, (if cap = n then some ad else some (ad.add n)) = some ad1 → ad1.block ≠ d := fun ad1 e => by
            split at e <;> (injection e with e; subst e; first | exact HNE.out | (rw [block_of_add]; exact HNE.out))
          have h := HR.out.cut (k := n) (cap := cap) (by have := HLr.out.2.2; omega) (by have := HLr.out.2.2; omega)
          refine ⟨RBytes.chg h HC5.out fun ad1 e => by simpa using hb ad1 e, hb⟩)
        have HPl : Hid ((p.drop n).length = P - n ∧ (l ++ p.take n).length % 64 = 0) := hide ⟨by rw [List.length_drop]; have := HLr.out.2.2; omega, by rw [List.length_append, hql]; have := HLr.out.2.1; omega⟩
        clear hql
        go_wp2
        all_goals
          go_meet
          case rel =>
            refine ⟨l ++ p.take n, p.drop n, P - n, _, _, rfl, by omega, by omega, hide ⟨HPl.out.1, by rw [List.append_assoc, List.take_append_drop], .inr HPl.out.2, HD5.out, HC5.out, ?_⟩⟩
            refine HRC.out _ ?_
            first | rfl | (rw [if_pos (by omega)]) | (rw [if_neg (by omega)])
  obtain ⟨l1, p1, P1, A1, c1, rfl, hc1, hc1c, H1⟩ := hcut
  clear HD1 HC1 n0 n1 f0 HD HX HC HR HNE
  go_upto_if 61 with fail
  go_cut [1] (fun s1 wx => ∃ (l1 p1 : List UInt8) (P1 : Nat) (A1 : Option Addr) (c1 : Nat), s1 = .slice A1 P1 c1 ∧ P1 ≤ c1 ∧ c1 ≤ cap ∧ P1 < 64 ∧ Hid (p1.length = P1 ∧ l1 ++ p1 = l ++ p ∧ (P1 = 0 ∨ l1.length % 64 = 0) ∧ ShaX wx d l1 ((L : Int) + P) ∧ Chg [d] w wx ∧ RBytes wx A1 p1 ∧ ∀ ad1, A1 = some ad1 → ad1.block ≠ d))
  case first =>
    by_cases h64 : 64 ≤ P1
    · have h64' : (64 : Int) ≤ (P1 : Int) := by omega
      obtain ⟨ad1, rfl, hb1, hcell1⟩ := H1.out.2.2.2.2.2.1.addr (by have := H1.out.1; omega)
      have hle : P1 ≤ 1000000 := by
        have h := congrArg List.length H1.out.2.1
        rw [List.length_append, List.length_append] at h
        have := H1.out.1
        have := HLr.out
        omega
      obtain ⟨k, hk⟩ : ∃ k, k = P1 / 64 := ⟨_, rfl⟩
      obtain ⟨n, hn⟩ : ∃ n, n = 64 * k := ⟨_, rfl⟩
      have hand : bits .andNot .i64 (P1 : Int) 63 = (n : Int) := by rw [bits_andNot63 P1 hle, hn, hk]
      have hnP : n ≤ P1 := by omega
      have hn64 : 64 ≤ n := by omega
      have hrest : P1 - n < 64 := by omega
      have HK := hide (And.intro hk hn)
      obtain ⟨x1, hD1, hx1⟩ := H1.out.2.2.2.1
      have HT : Hid (RBytes wc (some ad1) (p1.take n)) := hide (H1.out.2.2.2.2.2.1.take n)
      have hl0 : l1.length % 64 = 0 := by have := H1.out.2.2.1; omega
      have htl : (p1.take n).length = n := by rw [List.length_take]; have := H1.out.1; omega
      have BL := hide (block_of HBG.out wc d _ _ _ _ (some ad1) n c1 _ (shaState_ok l1) hD1 HT.out htl (by omega) (by unfold maxLen; omega))
      have HST : Hid (W5.blocksN nR (lb (p1.take n)) (n / 64) (shaState l1) = shaState (l1 ++ p1.take n)) := hide (by
        rw [show n / 64 = k by omega]
        exact (shaState_app (by rw [hl0, Nat.zero_add]) (by rw [List.drop_eq_nil_of_le (by omega), List.nil_append]) (by rw [htl]; exact hn)).symm)
      have HL0 := hide (And.intro hl0 htl)
      have hnP' : (n : Int) ≤ (P1 : Int) := by omega
      have hPc' : (P1 : Int) ≤ (c1 : Int) := by omega
      have hnc' : (n : Int) ≤ (c1 : Int) := by omega
      clear hk hn hD1 hx1 HT hl0 htl hb1 hcell1
      go_upto_region 12 with fail
      clear hand
      go_upto_region 13 with (go_at_call 53; refine BL.out.mono ?_; rintro e W4 ⟨rfl, hD4, hC4⟩)
      have HD4 : Hid (ShaX W4 d (l1 ++ p1.take n) ((L : Int) + P)) := hide (by
        have e0 : (l1 ++ p1.take n).length % 64 = 0 := by rw [List.length_append, HL0.out.2]; have := HL0.out.1; have := HK.out; omega
        rw [HST.out, HL0.out.1] at hD4
        exact ⟨x1, by rw [e0]; exact hD4, fun i hi => by rw [e0] at hi; omega⟩)
      have HC4 : Hid (Chg [d] wc W4) := hide hC4
      clear hD4 hC4 BL
      have HRC : Hid (∀ A2, (if c1 = n then some ad1 else some (ad1.add n)) = A2 → RBytes W4 A2 (p1.drop n) ∧ ∀ ad2, A2 = some ad2 → ad2.block ≠ d) := hide (by
        rintro A2 rfl
        have hne := H1.out.2.2.2.2.2.2 ad1 rfl
        have hb : ∀ ad2, (if c1 = n then some ad1 else some (ad1.add n)) = some ad2 → ad2.block ≠ d := fun ad2 e => by
          split at e <;> (injection e with e; subst e; first | exact hne | (rw [block_of_add]; exact hne))
        have h := H1.out.2.2.2.2.2.1.cut (k := n) (cap := c1) (by have := H1.out.1; omega) (by have := H1.out.1; omega)
        exact ⟨RBytes.chg h HC4.out fun ad2 e => by simpa using hb ad2 e, hb⟩)
      have HPl : Hid ((p1.drop n).length = P1 - n ∧ (l1 ++ p1.take n).length % 64 = 0 ∧ (l1 ++ p1.take n) ++ p1.drop n = l ++ p) := hide ⟨by rw [List.length_drop]; have := H1.out.1; omega, by rw [List.length_append, HL0.out.2]; have := HL0.out.1; have := HK.out; omega, by rw [List.append_assoc, List.take_append_drop]; exact H1.out.2.1⟩
      go_wp2
      all_goals
        go_meet
        case rel =>
          refine ⟨l1 ++ p1.take n, p1.drop n, P1 - n, _, _, rfl, by omega, by omega, hrest, hide ⟨HPl.out.1, HPl.out.2.2, .inr HPl.out.2.1, HD4.out, H1.out.2.2.2.2.1.trans HC4.out, ?_⟩⟩
          refine HRC.out _ ?_
          first | rfl | (rw [if_pos (by omega)]) | (rw [if_neg (by omega)])
    · have h64' : ¬ (64 : Int) ≤ (P1 : Int) := by omega
      go_wp2
      go_meet
      case rel => exact ⟨l1, p1, P1, A1, c1, rfl, hc1, hc1c, by omega, H1⟩
  clear H1 hc1 hc1c
  obtain ⟨l2, p2, P2, A2, c2, rfl, hc2, hc2c, hP2, H2⟩ := hcut
  by_cases h0 : P2 = 0
  · subst h0
    have HE : Hid (l2 = l ++ p) := hide (by
      have h := H2.out.2.1
      rw [List.eq_nil_of_length_eq_zero H2.out.1, List.append_nil] at h
      exact h)
    go_wp2
    refine bodyPost_ret (results_tmp2 rfl _ _ _) rfl ⟨rfl, ?_, H2.out.2.2.2.2.1⟩
    rw [← HE.out, ← HLr.out.1]
    exact H2.out.2.2.2.1
  · have hpos : (0 : Int) < (P2 : Int) := by omega
    obtain ⟨ad2, rfl, hb2, hcell2⟩ := H2.out.2.2.2.2.2.1.addr (by have := H2.out.1; omega)
    obtain ⟨x2, hD2, hx2⟩ := H2.out.2.2.2.1
    have hl0 : l2.length % 64 = 0 := by have := H2.out.2.2.1; omega
    rw [hl0] at hD2
    have hD3 : Dig wc d (shaState l2) x2 0 ((L : Int) + P) := hD2
    have hcp : (Builtin.copy_ #[46, 46] 3 #[.slice (some ⟨d, 5, none⟩) 64 64, .slice (some ad2) P2 c2]).run Try.prog wc = .ok (goInt P2) (wc.setRow d (digC (shaState l2) (layX x2 0 (p2.take P2)) 0 ((L : Int) + P))) := copy_x wc d (shaState l2) x2 0 ((L : Int) + P) 0 p2 P2 c2 P2 ad2 hD3 H2.out.1 (by omega) (Nat.min_eq_left (by omega)).symm hcell2
    have hD4 : Dig (wc.setRow d (digC (shaState l2) (layX x2 0 (p2.take P2)) 0 ((L : Int) + P))) d (shaState l2) (layX x2 0 (p2.take P2)) 0 ((L : Int) + P) := hD3.lay _
    obtain ⟨n0, n1⟩ := hD4.n
    have f0 := Blk.frozen hD4 69
    have HS : Hid (ShaX ((wc.setRow d (digC (shaState l2) (layX x2 0 (p2.take P2)) 0 ((L : Int) + P))).setCell ⟨d, 69, none⟩ (.int .i64 P2)) d (l2 ++ p2) ((L : Int) + P)) := hide (ShaX.less (r := 0) (n := P2) hl0.symm (fun i hi => by omega) H2.out.1 (by omega) (by
      have h := hD4.set_nx (P2 : Int)
      rw [List.take_of_length_le (by have := H2.out.1; omega)] at h
      rw [List.take_of_length_le (by have := H2.out.1; omega)]
      rwa [show ((0 : Nat) : Int) + (P2 : Int) = (P2 : Int) by omega]))
    have HC : Hid (Chg [d] w ((wc.setRow d (digC (shaState l2) (layX x2 0 (p2.take P2)) 0 ((L : Int) + P))).setCell ⟨d, 69, none⟩ (.int .i64 P2))) := hide ((H2.out.2.2.2.2.1.setRow (.inl (by simp)) _).setCell (.inl (by simp)) _)
    clear hD2 hx2 hD3 hD4 hcell2 hb2
    go_wp2
    refine bodyPost_ret (results_tmp2 rfl _ _ _) rfl ⟨rfl, ?_, HC.out⟩
    rw [← H2.out.2.1, ← HLr.out.1]
    exact HS.out
end Go.Proofs.Ytlnidgkcgjlnaaa
