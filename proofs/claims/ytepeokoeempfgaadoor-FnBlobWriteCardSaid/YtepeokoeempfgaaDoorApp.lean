/-
  append onto slices of the call's own: several texts; a byte ahead of bytes. spec.Digits.
-/
import Derived.Test.YtepeokoeempfgaaDoorPairs
import Derived.Lib.ItoaMem
import Derived.Lib.ItoaLen
namespace Go.Proofs.YtepeokoeempfgaaDoor
open Go.RowKit
set_option linter.unusedVariables false
set_option linter.unusedSimpArgs false

theorem own_below {w w' : World} {B e size n : Nat} {v : Value} {xs : List Value} (h : w.ownsRow B e size v n xs) (hb : Below w.heap.size w w') : w'.ownsRow B e size v n xs := by
  refine ⟨h.1, ?_⟩
  rcases h.2 with hn | ⟨g, cap, cur, rfl, hg, hgg, rest⟩
  · exact .inl hn
  · exact .inr ⟨g, cap, cur, rfl, hg, by rw [hb.block g (Array.getElem?_eq_some_iff.1 hgg).1]; exact hgg, rest⟩
/-- 'append(v, m..)' onto a slice of the call's own, m laid in a new block. -/
theorem append_strs (base : Nat) (w : World) (v : Value) (l m : List ByteArray) (hown : w.ownsRow base 9 1 v l.length (ss l)) (hb : base ≤ w.heap.size) (hl : l.length + m.length ≤ 1000000) (n : Nat) (hn : w.heap.size = n) :
    ∃ v' w', (Builtin.append_ #[22, 22] 22 #[v, .slice (some ⟨n, 0, none⟩) m.length m.length]).run Tryd.prog (w.alloc (.cells (ss m).toArray 9)) = .ok v' w' ∧ w'.ownsRow base 9 1 v' (l ++ m).length (ss (l ++ m)) ∧ Below base w w' := by
  subst hn
  obtain ⟨i0, hi, hz0, hz1, hz2⟩ := info_parts info_str
  obtain ⟨v', w', h1, h2, h3, -⟩ := run_append_own (P := Tryd.prog) (w.alloc (.cells (ss m).toArray 9)) base 22 22 9 i0 _ 1 16 Tryd.underlying22 hi hz0 hz1 hz2 rfl (by omega) v l.length (ss l) (hown.alloc _)
    ⟨w.heap.size, 0, none⟩ m.length m.length (ss m) (by simp [ss]) (fun j u hu => by
      have ha : (⟨w.heap.size, 0, none⟩ : Addr).add j = ⟨w.heap.size, j, none⟩ := by simp [Addr.add_lit]
      rw [ha, (Blk.new w _ _).cell, List.getElem?_toArray]
      exact hu) (ss_one m) (by unfold maxLen; omega) (by omega) (by simp; omega)
  refine ⟨v', w', h1, ?_, ?_⟩
  · rw [List.length_append, ss_append]
    exact h2
  · exact ((Below.refl base w).alloc hb _).trans (below_of_grown (hown.alloc _) h3 (by simp; omega))

theorem info_u8a : (Tryd.prog.info? 5).map (fun i => (i.zero, i.size, i.bytes)) = some (some (.int .u8 0), 1, 1) := by kernel_rfl
theorem bs_one' (l : List UInt8) : ∀ u ∈ bs l, u.oneCell' = true := by
  intro u hu
  simp only [bs, List.mem_map] at hu
  obtain ⟨b, _, rfl⟩ := hu
  rfl
theorem rb_of_own {w : World} {base : Nat} {A : Option Addr} {c : Nat} {l : List UInt8} (h : w.ownsRow base 5 1 (.slice A l.length c) l.length (bs l)) : RBytes w A l := Reads.of_own h
/-- 'append([]byte{c}, v...)', v of the call's own. -/
theorem cons_own (base : Nat) (w : World) (v : Value) (l : List UInt8) (c : UInt8) (hown : w.ownsRow base 5 1 v l.length (bs l)) (hb : base ≤ w.heap.size) (hl0 : 0 < l.length) (hl : l.length ≤ 1000000) (n : Nat) (hn : w.heap.size = n) :
    ∃ v' w', (Builtin.append_ #[50, 50] 50 #[.slice (some ⟨n, 0, none⟩) 1 1, v]).run Tryd.prog (w.alloc (.cells #[.int .u8 c.toNat] 5)) = .ok v' w' ∧ w'.ownsRow base 5 1 v' (c :: l).length (bs (c :: l)) ∧ Below base w w' := by
  subst hn
  obtain ⟨i0, hi, hz0, hz1, hz2⟩ := info_parts info_u8a
  rcases hown.2 with ⟨rfl, h0⟩ | ⟨g, cap, cur, rfl, hbg, hgg, hlc, hcm, hcs, hcur⟩
  · omega
  have hg := (Array.getElem?_eq_some_iff.1 hgg).1
  have hl1 := World.ownsRow_lit (base := base) (e := 5) (size := 1) w #[.int .u8 c.toNat] 1 hb (by unfold maxLen; omega) (by simp)
  obtain ⟨v', w', h1, h2, h3, -⟩ := run_append_own (P := Tryd.prog) (w.alloc (.cells #[.int .u8 c.toNat] 5)) base 50 50 5 i0 _ 1 1 Tryd.underlying50 hi hz0 hz1 hz2 rfl (by omega) _ 1 _ hl1
    ⟨g, 0, none⟩ l.length cap (bs l) (by simp [bs]) (fun j u hu => by
      have ha : (⟨g, 0, none⟩ : Addr).add j = ⟨g, j, none⟩ := by simp [Addr.add_lit]
      have hj : j < l.length := by
        have := (List.getElem?_eq_some_iff.1 hu).1
        rwa [bs_length] at this
      rw [ha, World.cell?_alloc_lt w _ ⟨g, j, none⟩ hg, hown.cellAt j (by omega)]
      exact hu) (bs_one' l) (by unfold maxLen; omega) (by omega) (by simp; omega)
  refine ⟨v', w', h1, ?_, ?_⟩
  · rw [List.length_cons, Nat.add_comm]
    exact h2
  · exact ((Below.refl base w).alloc hb _).trans (below_of_grown hl1 h3 (by simp; omega))

/-- What is left of a number's digits. -/
def restD (n : Nat) : List UInt8 := if n = 0 then [] else Lib.decDigits n
theorem dec_step (n : Nat) (l : List UInt8) : restD (n / 10) ++ UInt8.ofNat (48 + n % 10) :: l = Lib.decDigits n ++ l := by
  unfold restD
  by_cases h : n < 10
  · rw [if_pos (by omega), Lib.decDigits, dif_pos h, Nat.mod_eq_of_lt h]; rfl
  · rw [if_neg (by omega)]
    conv => rhs; rw [Lib.decDigits, dif_neg h]
    simp
theorem dig_int (n : Nat) : ((UInt8.ofNat (48 + n % 10)).toNat : Int) = 48 + (n : Int) % 10 := by
  have : (UInt8.ofNat (48 + n % 10)).toNat = 48 + n % 10 := by
    simp
    omega
  rw [this]; omega

set_option maxRecDepth 100000 in
set_option maxHeartbeats 1000000 in
theorem digits_any (N : Nat) (hN : N < 18446744073709551616) (w : World) :
    Calls Tryd.prog 30 #[.int .u64 N] w fun e w' => e = .returned (.string ⟨(Lib.decDigits N).toArray⟩) ∧ Ext w w' := by
  have HL : Hid ((Lib.decDigits N).length ≤ 20) := hide (by rw [Lib.decDigits_length]; exact Lib.nDigits_le20 N hN)
  have h0 := dig_int N
  have hb0 : (N : Int) % 10 ≤ 9 ∧ 0 ≤ (N : Int) % 10 := by omega
  have hq : Hid (((N : Int) / 10) = ((N / 10 : Nat) : Int)) := hide (by omega)
  generalize hB : w.heap.size = B
  have HB := hide hB
  have H1 : Hid ((w.alloc (.cells #[.int .u8 (48 + (N : Int) % 10)] 5)).ownsRow B 5 1 (.slice (some ⟨B, 0, none⟩) 1 1) [UInt8.ofNat (48 + N % 10)].length (bs [UInt8.ofNat (48 + N % 10)])) := hide (by
    have := World.ownsRow_lit (base := B) (e := 5) (size := 1) w #[.int .u8 (48 + (N : Int) % 10)] 1 (by omega) (by unfold maxLen; omega) (by simp)
    rw [hB] at this
    have e : bs [UInt8.ofNat (48 + N % 10)] = [.int .u8 (48 + (N : Int) % 10)] := by simp only [bs, List.map_cons, List.map_nil, dig_int]
    rw [e]
    exact this)
  have H2 : Hid (Below B w (w.alloc (.cells #[.int .u8 (48 + (N : Int) % 10)] 5))) := hide ((Below.refl B w).alloc (by omega) _)
  clear hB h0
  go_enter Tryd.func30, Tryd.ntmps30
  go_wp2
  rw [HB.out]
  go_loopw [0, 3] (fun s0 s3 wr => ∃ (n : Nat) (l : List UInt8), n ≤ N ∧ s0 = .int .u64 n ∧ Hid (0 < l.length ∧ restD n ++ l = Lib.decDigits N ∧ wr.ownsRow B 5 1 s3 l.length (bs l) ∧ Below B w wr)) (fun s0 _ _ => (intOf s0).toNat)
  case atStart => exact ⟨N / 10, [UInt8.ofNat (48 + N % 10)], by omega, by rw [hq.out], hide ⟨by simp, by rw [dec_step, List.append_nil], H1.out, H2.out⟩⟩
  case round =>
    clear H1 H2 hq hb0
    obtain ⟨n, l, hn, rfl, HI⟩ := hrel
    have hBw : B ≤ wr.heap.size := by rw [← HB.out]; exact Nat.le_trans (Nat.le_of_eq HB.out) (by have := HI.out.2.2.2.size; rw [HB.out] at this; exact this)
    by_cases hz : n = 0
    · subst hz
      have hl : l = Lib.decDigits N := by have := HI.out.2.1; simpa [restD] using this
      obtain ⟨A', c, hv, hc1, hc2, hc3⟩ := own_slice HI.out.2.2.1
      subst hv
      have hcv := run_string_n (P := Tryd.prog) wr 50 9 5 Tryd.underlying50 Tryd.underlying5 Tryd.underlying9 l.length c rfl (rb_of_own HI.out.2.2.1)
      have HE : Hid ((⟨l.toArray⟩ : ByteArray) = ⟨(Lib.decDigits N).toArray⟩ ∧ Below B w wr) := hide ⟨by rw [hl], HI.out.2.2.2⟩
      clear HI hl
      go_wp2
      go_ret
      refine ⟨by rw [HE.out.1]; rfl, ?_⟩
      have := HE.out.2
      rw [← HB.out] at this
      exact this
    · have hg : (n : Int) > 0 := by omega
      have hll : l.length ≤ 20 := by
        have := congrArg List.length HI.out.2.1
        have := HL.out
        simp at *
        omega
      obtain ⟨A0, c0, hv0, -, -, -⟩ := own_slice HI.out.2.2.1
      subst hv0
      obtain ⟨v', w', hrun, hown, hbel⟩ := cons_own B wr _ l (UInt8.ofNat (48 + n % 10)) HI.out.2.2.1 hBw HI.out.1 (by omega) _ rfl
      rw [dig_int] at hrun
      have R : Hid (0 < (UInt8.ofNat (48 + n % 10) :: l).length ∧ restD (n / 10) ++ UInt8.ofNat (48 + n % 10) :: l = Lib.decDigits N ∧ w'.ownsRow B 5 1 v' (UInt8.ofNat (48 + n % 10) :: l).length (bs (UInt8.ofNat (48 + n % 10) :: l)) ∧ Below B w w') := hide ⟨by simp, by
        rw [dec_step]
        have := HI.out.2.1
        unfold restD at this
        rwa [if_neg hz] at this, hown, HI.out.2.2.2.trans hbel⟩
      have hq : Hid (((n : Int) / 10) = ((n / 10 : Nat) : Int)) := hide (by omega)
      have hb0 : (n : Int) % 10 ≤ 9 ∧ 0 ≤ (n : Int) % 10 := by omega
      clear HI hown hbel
      go_wp2_with (at_builtin; refine wpList_append_run rfl _ _ _ _ rfl _ _ _ rfl rfl hrun ?_)
      go_roundw
      case rel => exact ⟨n / 10, _, by omega, by rw [hq.out], R⟩
      case measure => simp [intOf]; omega
end Go.Proofs.YtepeokoeempfgaaDoor
