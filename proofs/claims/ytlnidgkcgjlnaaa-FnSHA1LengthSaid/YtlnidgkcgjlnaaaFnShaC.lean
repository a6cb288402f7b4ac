/-
  laws.FnSHA1Length, over what blockGeneric does.
-/
import Derived.Test.YtlnidgkcgjlnaaaShaQ
import Derived.Test.YtlnidgkcgjlnaaaShaI
namespace Go.Proofs.Ytlnidgkcgjlnaaa
open Go.RowKit Go.Lib
set_option linter.unusedVariables false
set_option linter.unusedSimpArgs false

theorem info_strS : (Try.prog.info? 9).map (fun i => (i.zero, i.size, i.bytes)) = some (some (.string ⟨#[]⟩), 1, 16) := by kernel_rfl
theorem strs_add (B : Nat) (w : World) (v : Value) (l : List ByteArray) (s : ByteArray) (hown : w.ownsRow B 9 1 v l.length (ss l)) (hb : B ≤ w.heap.size) (hl : l.length ≤ 1000000) (n : Nat) (hn : w.heap.size = n) :
    ∃ v' w', (Builtin.append_ #[47, 47] 47 #[v, .slice (some ⟨n, 0, none⟩) 1 1]).run Try.prog (w.alloc (.cells #[.string s] 9)) = .ok v' w' ∧ w'.ownsRow B 9 1 v' (l ++ [s]).length (ss (l ++ [s])) ∧ Below B w w' := by
  subst hn
  obtain ⟨i0, hi, hz0, hz1, hz2⟩ := info_parts info_strS
  obtain ⟨v', w', h1, h2, h3, -⟩ := run_append_own (P := Try.prog) (w.alloc (.cells #[.string s] 9)) B 47 47 9 i0 _ 1 16 Try.underlying47 hi hz0 hz1 hz2 rfl (by omega) v l.length (ss l) (hown.alloc _)
    ⟨w.heap.size, 0, none⟩ 1 1 [.string s] rfl (fun j u hu => by
      have : j = 0 := by
        have := (List.getElem?_eq_some_iff.1 hu).1
        simp at this; omega
      subst this
      simp at hu
      subst hu
      have ha : (⟨w.heap.size, 0, none⟩ : Addr).add 0 = ⟨w.heap.size, 0, none⟩ := by unfold Addr.add; simp
      rw [ha, (Blk.new w _ _).cell]; rfl) (by simp [Value.oneCell']) (by unfold maxLen; omega) (by omega) (by simp; omega)
  refine ⟨v', w', h1, ?_, ?_⟩
  · rw [List.length_append, ss_append]
    exact h2
  · exact ((Below.refl B w).alloc hb _).trans (below_of_grown_ (hown.alloc _) h3 (by simp; omega))
theorem make_k (n : Nat) (hn : n ≤ 5000) (w : World) : (Instr.makeSlice 46 (.int .i64 n) (.int .i64 n)).run Try.prog w = .ok (.slice (some ⟨w.heap.size, 0, none⟩) n n) (w.alloc (.cells (kArr .u8 n fun _ => 0) 5)) := by
  obtain ⟨i0, hi, hz0, hz1, hz2⟩ := info_parts info_u8q
  have h := run_make_rowN (P := Try.prog) 46 5 i0 (.int .u8 0) Try.underlying46 hi hz0 .i64 .i64 n n (Nat.le_refl _) (by rw [hz2]; omega) (by omega) w
  have hc : (Value.int .u8 0).cells = #[.int .u8 0] := rfl
  have e : madeCells #[Value.int .u8 0] n = kArr .u8 n (fun _ => 0) := by
    apply Array.ext'
    rw [toList_madeCells_one]
    show _ = ((List.range n).map fun _ => Value.int .u8 0)
    rw [List.map_const', List.length_range]
  rw [h, hz1, Nat.mul_one, hc, e]
/-- The pieces: so many of z bytes each, of T in all. -/
def pcs (T z : Nat) (b : UInt8) : Nat → List ByteArray
  | 0 => []
  | k + 1 => pcs T z b k ++ [⟨(List.replicate (min (k * z + z) T - k * z) b).toArray⟩]
theorem pcs_length (T z : Nat) (b : UInt8) : ∀ k, (pcs T z b k).length = k
  | 0 => rfl
  | k + 1 => by rw [pcs, List.length_append, pcs_length T z b k]; rfl
theorem pcs_all (T z : Nat) (b : UInt8) : ∀ k, (∀ j, j < k → j * z ≤ T) → ((pcs T z b k).map fun s => s.data.toList).flatten = List.replicate (min (k * z) T) b
  | 0, _ => by simp [pcs]
  | k + 1, h => by
    rw [pcs, List.map_append, List.flatten_append, pcs_all T z b k (fun j hj => h j (by omega))]
    simp only [List.map_cons, List.map_nil, List.flatten_cons, List.flatten_nil, List.append_nil, List.toList_toArray]
    rw [List.replicate_append_replicate]
    congr 1
    have := h k (by omega)
    rw [Nat.succ_mul]
    omega
theorem pcs_pos (T z : Nat) (b : UInt8) (hz : 0 < z) (hT : T ≤ 1000000) : ∀ k, (∀ j, j < k → j * z < T) → ∀ s ∈ pcs T z b k, 0 < s.size ∧ s.size ≤ 1000000
  | 0, _ => fun s hs => by simp [pcs] at hs
  | k + 1, h => fun s hs => by
    rw [pcs, List.mem_append] at hs
    rcases hs with hs | hs
    · exact pcs_pos T z b hz hT k (fun j hj => h j (by omega)) s hs
    · simp only [List.mem_singleton] at hs
      subst hs
      have := h k (by omega)
      have e : (⟨(List.replicate (min (k * z + z) T - k * z) b).toArray⟩ : ByteArray).size = min (k * z + z) T - k * z := by simp [ByteArray.size]
      rw [e]
      omega
theorem sub_bytes {W : World} {g T m n : Nat} {b : UInt8} (h : RBytes W (some ⟨g, 0, none⟩) (List.replicate T b)) (hm : m + n ≤ T) : RBytes W (some ⟨g, m, none⟩) (List.replicate n b) := by
  refine ⟨by simp [bs], fun hn => ?_⟩
  rw [List.length_replicate] at hn
  obtain ⟨ad, e, hb, hc⟩ := h.addr (by rw [List.length_replicate]; omega)
  injection e with e
  subst e
  refine ⟨_, rfl, hb, fun j u hu => ?_⟩
  have hj : j < n := by
    have := (List.getElem?_eq_some_iff.1 hu).1
    rwa [bs_length, List.length_replicate] at this
  have h1 := hc (m + j) (by rw [List.length_replicate]; omega)
  have e1 : (⟨g, 0, none⟩ : Addr).add (m + j) = ⟨g, m + j, none⟩ := by unfold Addr.add; split <;> simp_all
  have e2 : (⟨g, m, none⟩ : Addr).add j = ⟨g, m + j, none⟩ := by unfold Addr.add; split <;> simp_all
  rw [e1] at h1
  rw [e2, h1]
  rw [bs_getElem?, List.getElem?_replicate, if_pos hj] at hu
  rw [List.getElem_replicate]
  exact hu
set_option maxRecDepth 100000 in
set_option maxHeartbeats 4000000 in
theorem fnSha_core (BG : BlockG) (b : UInt8) (T z : Nat) (hT : T ≤ 5000) (hz : 1 ≤ z) (hz2 : z ≤ 200) (w : World) :
    Calls Try.prog 8 #[.int .u8 b.toNat, .int .i64 T, .int .i64 z] w fun e w' => e = .returned (.bool true) ∧ Below w.heap.size w w' := by
  have HBG := hide BG
  have HMK := hide (make_k T hT w)
  have hmk := HMK.out
  obtain ⟨c, hc⟩ : ∃ c : Int, c = (b.toNat : Int) := ⟨_, rfl⟩
  have HC := hide hc
  rw [← hc]
  have c0 : 0 ≤ c := by omega
  have c1 : c ≤ 255 := by have := b.toNat_lt; omega
  have g1 : ¬ (T : Int) < 0 := by omega
  have g2 : ¬ (5000 : Int) < (T : Int) := by omega
  have g3 : ¬ (z : Int) < 1 := by omega
  have g4 : ¬ (200 : Int) < (z : Int) := by omega
  clear BG hc HMK
  go_enter Try.func8, Try.ntmps8
  go_upto_region 4 with fail
  have HA : Hid (KAt (w.alloc (.cells (kArr .u8 T fun _ => 0) 5)) w.heap.size 5 .u8 T (fun _ => 0)) := hide (Blk.new _ _ _)
  have HX : Hid (Ext w (w.alloc (.cells (kArr .u8 T fun _ => 0) 5))) := hide ((Ext.refl w).alloc _)
  generalize w.alloc (.cells (kArr .u8 T fun _ => 0) 5) = W at HA HX ⊢
  obtain ⟨g, hg⟩ : ∃ g, g = w.heap.size := ⟨_, rfl⟩
  rw [← hg] at HA
  rw [← hg]
  have HG := hide hg
  clear hg hmk
  go_wp2
  go_loopw [31] (fun s31 wr => ∃ k : Nat, k ≤ T ∧ s31 = .int .i64 k ∧ Hid (KAt wr g 5 .u8 T (fun j => if j < k then c else 0) ∧ Ext w wr)) (fun s31 _ => T - (intOf s31).toNat)
  case atStart => exact ⟨0, by omega, rfl, hide ⟨HA.out.congr fun j _ => by rw [if_neg (by omega)], HX.out⟩⟩
  case round =>
    clear HA HX
    obtain ⟨k, hk, rfl, HI⟩ := hrel
    by_cases hlt : k < T
    · have hlt' : (k : Int) < (T : Int) := by omega
      have ck := HI.out.1.cell hlt
      have fk := HI.out.1.frozen k
      go_wp2
      go_roundw
      case rel =>
        refine ⟨k + 1, by omega, by go_num, hide ⟨?_, HI.out.2.setCell (by rw [← HG.out]; exact Nat.le_refl _) _⟩⟩
        refine (HI.out.1.put k c).congr fun j _ => ?_
        by_cases e : j = k
        · subst e; rw [updI_at, if_pos (by omega)]
        · rw [updI_ne _ _ e]
          by_cases e2 : j < k
          · rw [if_pos e2, if_pos (by omega)]
          · rw [if_neg e2, if_neg (by omega)]
      case measure => simp [intOf]; omega
    · have hlt' : ¬ (k : Int) < (T : Int) := by omega
      have HA : Hid (RBytes wr (some ⟨g, 0, none⟩) (List.replicate T b) ∧ Ext w wr) := hide ⟨rbytes_blk HI.out.1 fun j hj => by
        rw [List.length_replicate] at hj
        rw [Nat.zero_add, kArr_get hj, if_pos (by omega), List.getElem_replicate, HC.out], HI.out.2⟩
      have HBL : Hid (Blk wr g 5 (kArr .u8 T (fun j => if j < k then c else 0))) := hide HI.out.1
      have hk' : k = T := by omega
      clear HI
      go_wp2
      obtain ⟨B, hB⟩ : ∃ B, B = wr.heap.size := ⟨_, rfl⟩
      have HB : Hid (w.heap.size ≤ B ∧ g < B) := hide ⟨by rw [hB]; exact HA.out.2.sizes, by rw [hB]; exact Blk.lt HBL.out⟩
      have hBle : B ≤ wr.heap.size := by omega
      clear hB HBL hk'
      go_loopw [9, 10] (fun s9 s10 wx => ∃ (k m : Nat), m = k * z ∧ s10 = .int .i64 m ∧ m < T + z ∧ Hid ((∀ j, j < k → j * z < T) ∧ wx.ownsRow B 9 1 s9 (pcs T z b k).length (ss (pcs T z b k)) ∧ Ext w wx ∧ B ≤ wx.heap.size ∧ RBytes wx (some ⟨g, 0, none⟩) (List.replicate T b))) (fun _ s10 _ => T + z - (intOf s10).toNat)
      case atStart => exact ⟨0, 0, by omega, rfl, by omega, hide ⟨fun j hj => absurd hj (by omega), World.ownsRow_nil _ _ _ _, HA.out.2, hBle, HA.out.1⟩⟩
      case round =>
        clear HA hBle
        obtain ⟨k, m, hm, rfl, hmT, HI⟩ := hrel
        by_cases hlt : m < T
        · have hlt' : (m : Int) < (T : Int) := by omega
          obtain ⟨e, he⟩ : ∃ e, e = min (m + z) T := ⟨_, rfl⟩
          have hme : m < e := by omega
          have heT : e ≤ T := by omega
          have HSB := hide (sub_bytes (m := m) (n := e - m) HI.out.2.2.2.2 (by omega))
          have hst := run_string_n wr 46 9 5 Try.underlying46 Try.underlying5 Try.underlying9 (e - m) (T - m) (by rw [List.length_replicate]) HSB.out
          obtain ⟨S, hS⟩ : ∃ S : ByteArray, S = ⟨(List.replicate (e - m) b).toArray⟩ := ⟨_, rfl⟩
          rw [← hS] at hst
          have HPK : Hid (pcs T z b k ++ [S] = pcs T z b (k + 1)) := hide (by rw [hS, pcs, he, hm])
          have hlk : (pcs T z b k).length ≤ 1000000 := by
            rw [pcs_length]
            have h1 : k * 1 ≤ k * z := Nat.mul_le_mul_left k hz
            omega
          obtain ⟨v', w', hrun, hown, hbel⟩ := strs_add B wr u9 (pcs T z b k) S HI.out.2.1 HI.out.2.2.2.1 hlk _ rfl
          rw [HPK.out] at hown
          have HN : Hid ((∀ j, j < k + 1 → j * z < T) ∧ w'.ownsRow B 9 1 v' (pcs T z b (k + 1)).length (ss (pcs T z b (k + 1))) ∧ Ext w w' ∧ B ≤ w'.heap.size ∧ RBytes w' (some ⟨g, 0, none⟩) (List.replicate T b)) := hide ⟨fun j hj => by
              rcases (by omega : j < k ∨ j = k) with h | rfl
              · exact HI.out.1 j h
              · rw [← hm]; exact hlt, hown, HI.out.2.2.1.below_more HB.out.1 hbel, Nat.le_trans HI.out.2.2.2.1 hbel.size, HI.out.2.2.2.2.far (fun ad e => by injection e with e; subst e; exact hbel.block g HB.out.2) hbel.size⟩
          clear hown hbel hS hlk
          have HM := hide hm
          have i1 : ¬ T = m := by omega
          have i2 : (e : Int) ≤ (T : Int) := by omega
          have i3 : (m : Int) ≤ (e : Int) := by omega
          clear hm
          by_cases hmin : m + z ≤ T
          · have hez : e = m + z := by omega
            subst hez
            have i4 : (m : Int) + (z : Int) ≤ (T : Int) := by omega
            have hzz : m + z - m = z := by omega
            rw [hzz] at hst
            clear he
            go_wp2_with (at_builtin; refine wpList_append_run rfl _ _ _ _ rfl _ _ _ rfl rfl hrun ?_)
            go_roundw
            case rel => exact ⟨k + 1, m + z, by rw [HM.out, Nat.succ_mul], by go_num, by omega, HN⟩
            case measure => simp [intOf]; omega
          · have hez : e = T := by omega
            subst hez
            have i4 : ¬ (m : Int) + (z : Int) ≤ (e : Int) := by omega
            clear he
            go_wp2_with (at_builtin; refine wpList_append_run rfl _ _ _ _ rfl _ _ _ rfl rfl hrun ?_)
            go_roundw
            case rel => exact ⟨k + 1, m + z, by rw [HM.out, Nat.succ_mul], by go_num, by omega, HN⟩
            case measure => simp [intOf]; omega
        · have hlt' : ¬ (m : Int) < (T : Int) := by omega
          obtain ⟨h1, h2, h3, h4, h5⟩ := HI.out
          have HFL : Hid (((pcs T z b k).map fun s => s.data.toList).flatten = List.replicate T b) := hide (by
            rw [pcs_all T z b k (fun j hj => Nat.le_of_lt (h1 j hj)), ← hm, Nat.min_eq_right (by omega)])
          have HPP := hide (pcs_pos T z b hz (by omega) k h1)
          have hkl := pcs_length T z b k
          have hk5 : k ≤ 1000000 := by
            rcases Nat.eq_zero_or_pos k with h0 | h0
            · omega
            · have := h1 (k - 1) (by omega)
              have h7 : (k - 1) * 1 ≤ (k - 1) * z := Nat.mul_le_mul_left _ hz
              omega
          obtain ⟨A9, c9, hv, h6, h7⟩ := own_form h2
          subst hv
          rw [hkl] at h2 h6
          have HRS : Hid (RS wr A9 (pcs T z b k)) := hide (by
            unfold RS
            rw [hkl]
            exact Reads.of_own h2)
          obtain ⟨R, hR⟩ : ∃ R, R = shaSum (List.replicate T b) := ⟨_, rfl⟩
          have HIM := hide (implSha_any HBG.out wr A9 k c9 (pcs T z b k) HRS.out hkl h6 h7 hk5 HPP.out (by rw [HFL.out, List.length_replicate]; omega))
          rw [HFL.out, ← hR] at HIM
          obtain ⟨TX, hTX⟩ : ∃ TX : ByteArray, TX = ⟨(List.replicate T b).toArray⟩ := ⟨_, rfl⟩
          have hTs : TX.size = T := by rw [hTX]; simp [ByteArray.size]
          have HSP := hide (fun W => specSha_any TX W (by omega))
          have hTd : TX.data.toList = List.replicate T b := by rw [hTX]
          rw [hTd, ← hR] at HSP
          have HST : Hid (∀ W, Ext wr W → (convert 46 9 (.slice (some ⟨g, 0, none⟩) T T)).run Try.prog W = .ok (.string TX) W) := hide fun W hx => by
            rw [hTX]
            exact run_string_n W 46 9 5 Try.underlying46 Try.underlying5 Try.underlying9 T T (by rw [List.length_replicate]) (h5.ext hx)
          obtain ⟨RB, hRB⟩ : ∃ RB : ByteArray, RB = ⟨R.toArray⟩ := ⟨_, rfl⟩
          have hR20 : RB.size = 20 := by
            rw [hRB]
            show R.toArray.size = 20
            rw [hR, List.size_toArray]
            exact W5.out_length _
          rw [← hRB] at HIM HSP
          have HE := hide h3
          rw [hkl]
          clear HI h1 h2 h3 h4 h5 hR hTX hTs hTd hRB hm hkl h6 h7
          go_wp2_with (first | (go_at_call 22; refine HIM.out.mono ?_; rintro e W2 ⟨rfl, hX2⟩; have hst := HST.out W2 hX2; have HX2 := hide hX2; clear hX2) | (go_at_call 23; refine (HSP.out _).mono ?_; rintro e W3 ⟨rfl, hX3⟩; have HX3 := hide hX3; clear hX3))
          go_ret
          exact ⟨rfl, HE.out.trans (HX2.out.trans HX3.out)⟩
end Go.Proofs.Ytlnidgkcgjlnaaa
