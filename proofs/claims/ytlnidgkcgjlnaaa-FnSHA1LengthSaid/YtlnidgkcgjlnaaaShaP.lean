/-
  spec.padded: bytes, and the padding behind them.
-/
import Derived.Test.YtlnidgkcgjlnaaaShaI
import Derived.Deep.AppendSrc
namespace Go.Proofs.Ytlnidgkcgjlnaaa
open Go.RowKit Go.Lib
set_option linter.unusedVariables false
set_option linter.unusedSimpArgs false

/-- A row of bytes of the call's own, that may bear a mark behind its end. -/
structure OwnR (w : World) (B : Nat) (v : Value) (l : List UInt8) : Prop where
  row : ∃ g cap cs, v = .slice (some ⟨g, 0, none⟩) l.length cap ∧ B ≤ g ∧ Row w g 5 cs ∧ cs.size = cap ∧ l.length ≤ cap ∧ cap ≤ maxLen ∧ cs.toList.take l.length = bs l
theorem info_u8p : (Try.prog.info? 5).map (fun i => (i.zero, i.size, i.bytes)) = some (some (.int .u8 0), 1, 1) := by kernel_rfl
theorem OwnR.conv (w : World) (s : ByteArray) (hs : s.size ≤ 1000000) : OwnR (Lib.bytesWorld w 5 s) w.heap.size (.slice (some ⟨w.heap.size, 0, none⟩) s.size (grownCap w s.size 0 5)) s.data.toList := by
  have hge := grownCap_ge w s.size 0 5
  have hsz : s.data.toList.length = s.size := by rw [Array.length_toList]; rfl
  refine ⟨w.heap.size, grownCap w s.size 0 5, (bs (s.data.toList ++ List.replicate (grownCap w s.size 0 5 - s.size) 0)).toArray, by rw [hsz], Nat.le_refl _, ⟨((Lib.bytesCells w 5 s).size, (Lib.bytesCells w 5 s).size + 1), ?_, ?_⟩, ?_, by rw [hsz]; exact hge, grownCap_le_maxLen _ _ _ _ (by unfold maxLen; omega), ?_⟩
  · right
    have e : (bs (s.data.toList ++ List.replicate (grownCap w s.size 0 5 - s.size) 0)).toArray.size = (Lib.bytesCells w 5 s).size := by simp [bs, Lib.bytesCells]
    rw [e]; exact Nat.le_refl _
  · rw [Lib.bytesWorld_at_new]
    congr 2
    apply Array.ext'
    simp [bs, Lib.bytesCells]
  · simp only [List.size_toArray, bs_length, List.length_append, List.length_replicate, hsz]
    omega
  · simp only [bs_append]
    rw [List.take_append_of_le_length (by rw [bs_length]; exact Nat.le_refl _), List.take_of_length_le (by rw [bs_length]; exact Nat.le_refl _)]
theorem OwnR.reads {w : World} {B n c : Nat} {A : Option Addr} {l : List UInt8} (h : OwnR w B (.slice A n c) l) : RBytes w A l ∧ n = l.length ∧ n ≤ c ∧ c ≤ maxLen ∧ ∀ ad, A = some ad → B ≤ ad.block := by
  obtain ⟨g, cap, cs, e, hB, hR, hcs, hl, hm, ht⟩ := h.row
  injection e with e1 e2 e3
  subst e1 e2 e3
  refine ⟨rbytes_of_row hR fun j hj => ?_, rfl, hl, hm, fun ad e => by injection e with e; subst e; exact hB⟩
  have h2 : (bs l)[j]? = some (.int .u8 (l[j].toNat)) := by rw [bs_getElem?, List.getElem?_eq_getElem hj]; rfl
  rw [← ht, List.getElem?_take, if_pos hj] at h2
  rw [Nat.zero_add, ← h2, Array.getElem?_toList]
theorem OwnR.add {w : World} {B : Nat} {v : Value} {l : List UInt8} (h : OwnR w B v l) (hB : B ≤ w.heap.size) (x : UInt8) (a : Addr) (ha : w.cell? a = some (.int .u8 x.toNat)) (hl : l.length ≤ 1000000) :
    ∃ v' w', (Builtin.append_ #[46, 46] 46 #[v, .slice (some a) 1 1]).run Try.prog w = .ok v' w' ∧ OwnR w' B v' (l ++ [x]) ∧ Below B w w' := by
  obtain ⟨g, cap, cs, rfl, hBg, hR, hcs, hlc, hm, ht⟩ := h.row
  obtain ⟨i0, hi, hz0, hz1, hz2⟩ := info_parts info_u8p
  have ha0 : ∀ (j : Nat) (u : Value), [Value.int .u8 x.toNat][j]? = some u → w.cell? (a.add j) = some u := fun j u hu => by
    have hj : j = 0 := by
      have := (List.getElem?_eq_some_iff.1 hu).1
      simp at this; omega
    subst hj
    simp at hu
    subst hu
    have e : a.add 0 = a := by unfold Addr.add; simp
    rw [e, ha]
  have hbs : bs (l ++ [x]) = bs l ++ [.int .u8 x.toNat] := by rw [bs_append]; rfl
  rcases Nat.lt_or_ge l.length cap with hroom | hroom
  · obtain ⟨fz, hfz, hg⟩ := hR
    have hf := run_firstCells_some (P := Try.prog) w 1 1 a 1 1 [Value.int .u8 x.toNat] rfl ha0
    have hst := run_storeCells_row Try.prog g l.length 5 fz [Value.int .u8 x.toNat] 0 cs w hg hfz (by simp; omega) (by simp [Value.oneCell'])
    simp only [Nat.add_zero] at hst
    have h1 : l.length + 1 ≤ cap := hroom
    obtain ⟨N, hN⟩ : ∃ N, N = (cs.toList.take l.length ++ [Value.int .u8 x.toNat] ++ cs.toList.drop (l.length + [Value.int .u8 x.toNat].length)).toArray := ⟨_, rfl⟩
    rw [← hN] at hst
    have hNs : N.size = cs.size := by rw [hN]; simp; omega
    have hNt : N.toList.take (l.length + 1) = bs (l ++ [x]) := by
      rw [hN, hbs]
      simp only [ht]
      rw [List.take_append_of_le_length (by simp [bs_length]), List.take_of_length_le (by simp [bs_length])]
    clear hN
    refine ⟨.slice (some ⟨g, 0, none⟩) (l.length + 1) cap, w.setRow g N, ?_, ⟨g, cap, N, by simp, hBg, Row.setRow_ ⟨fz, hfz, hg⟩ _ hNs, by omega, by simp; omega, hm, by simpa using hNt⟩, ?_⟩
    · simp [Builtin.append_, run_underlying Try.underlying46, sizeOf, typeInfo, hi, hz1, Builtin.lenOf, h1, hf, Addr.add_lit, hst]
    · exact ⟨rfl, rfl, rfl, by simp, fun k hk => setRow_other w g k _ (by omega)⟩
  · have holds : ∀ j u, (bs l)[j]? = some u → w.cell? ((⟨g, 0, none⟩ : Addr).add j) = some u := fun j u hu => by
      have hj : j < l.length := by
        have := (List.getElem?_eq_some_iff.1 hu).1
        rwa [bs_length] at this
      have e : (⟨g, 0, none⟩ : Addr).add j = ⟨g, j, none⟩ := by unfold Addr.add; split <;> simp_all
      rw [e, hR.cell, ← hu, ← ht, List.getElem?_take, if_pos hj, Array.getElem?_toList]
    have hr := run_append_grow (P := Try.prog) w 46 46 5 i0 (.int .u8 0) Try.underlying46 hi hz0 ⟨g, 0, none⟩ l.length cap (bs l) (by rw [bs_length, hz1]; omega) holds a 1 1 [Value.int .u8 x.toNat] (by rw [hz1]; rfl) ha0 (by omega) (by omega) (growslice_fits (by omega) (by rw [hz2]; omega))
    have hge := grownCap_ge w (l.length + 1) cap 5
    have hcm2 : grownCap w (l.length + 1) cap 5 ≤ maxLen := grownCap_le_maxLen w (l.length + 1) cap 5 (by unfold maxLen; omega)
    refine ⟨_, _, hr, ⟨w.heap.size, _, _, by rw [List.length_append]; rfl, hB, ⟨(0, 0), .inl rfl, heap_alloc_new w.drew _⟩, ?_, by rw [List.length_append]; exact hge, hcm2, ?_⟩, ?_⟩
    · have hzc : (Value.int .u8 0).cells.size = 1 := rfl
      simp only [Array.size_append, List.size_toArray, size_zeroCells, bs_length, hzc, List.length_cons, List.length_nil]
      omega
    · simp only [Array.toList_append, List.append_assoc]
      rw [← List.append_assoc, ← hbs, List.take_append_of_le_length (by rw [bs_length]; exact Nat.le_refl _), List.take_of_length_le (by rw [bs_length]; exact Nat.le_refl _)]
    · exact Below.alloc (Below.drew (Below.refl B w)) hB _
/-- A byte more, out of a block of its own. -/
theorem OwnR.more {w : World} {B : Nat} {v : Value} {l : List UInt8} (h : OwnR w B v l) (hB : B ≤ w.heap.size) (x : UInt8) (z : Int) (hz : z = (x.toNat : Int)) (hl : l.length ≤ 1000000) (k : Nat) (hk : w.heap.size = k) :
    ∃ v' w', (Builtin.append_ #[46, 46] 46 #[v, .slice (some ⟨k, 0, none⟩) 1 1]).run Try.prog (w.alloc (.cells #[.int .u8 z] 5)) = .ok v' w' ∧ OwnR w' B v' (l ++ [x]) ∧ Below B w w' := by
  subst hk hz
  have h2 : OwnR (w.alloc (.cells #[.int .u8 (x.toNat : Int)] 5)) B v l := by
    obtain ⟨g, cap, cs, e, hb, hR, rest⟩ := h.row
    exact ⟨g, cap, cs, e, hb, hR.chg (Chg.of_ext ((Ext.refl w).alloc _) []) (by simp), rest⟩
  obtain ⟨v', w', h3, h4, h5⟩ := h2.add (by simp; omega) x ⟨w.heap.size, 0, none⟩ (by rw [(Blk.new w _ _).cell]; rfl) hl
  exact ⟨v', w', h3, h4, ((Below.refl B w).alloc hB _).trans h5⟩
theorem OwnR.form {w : World} {B : Nat} {v : Value} {l : List UInt8} (h : OwnR w B v l) : ∃ A c, v = .slice A l.length c ∧ l.length ≤ c ∧ c ≤ maxLen := by
  obtain ⟨g, cap, cs, rfl, hB, hR, hcs, hl, hm, ht⟩ := h.row
  exact ⟨_, _, rfl, hl, hm⟩
theorem padT_stop (n k : Nat) (hk : k < padT n) (h1 : 1 ≤ k) : (n + k) % 64 ≠ 56 := by
  unfold padT at hk
  split at hk <;> omega

/-- How long a slice value is. -/
def sliceN : Value → Nat
  | .slice _ n _ => n
  | _ => 0
/-- The padding so far: a one bit, and zeros. -/
def zpad (l : List UInt8) (k : Nat) : List UInt8 := l ++ (128 :: List.replicate k 0)
theorem zpad_length (l : List UInt8) (k : Nat) : (zpad l k).length = l.length + 1 + k := by simp [zpad]; omega
theorem zpad_succ (l : List UInt8) (k : Nat) : zpad l k ++ [0] = zpad l (k + 1) := by
  unfold zpad
  rw [List.replicate_succ', List.append_assoc]
  rfl
theorem lenBytes_take (n k : Nat) (h : k < 8) : (lenBytes n).take k ++ [UInt8.ofNat (8 * n / 2 ^ (8 * (7 - k)) % 256)] = (lenBytes n).take (k + 1) := by
  have hl := lenBytes_length n
  rw [List.take_succ_eq_append_getElem (by omega)]
  congr 2
  have h2 := lenB_at n k h
  rw [List.getElem?_eq_getElem (by omega)] at h2
  injection h2 with h2
  exact h2.symm
theorem shaPad_form (l : List UInt8) (n : Nat) : zpad l (padT n - 1) ++ (lenBytes n).take 8 = l ++ shaPad n := by
  rw [List.take_of_length_le (by rw [lenBytes_length]; exact Nat.le_refl _)]
  simp [zpad, shaPad]
set_option maxRecDepth 100000 in
set_option maxHeartbeats 4000000 in
theorem padded_any (s : ByteArray) (w : World) (hs : s.size ≤ 100000) :
    Calls Try.prog 38 #[.string s] w fun e w' => ∃ A c, e = .returned (.slice A (s.size + (padT s.size + 8)) c) ∧ RBytes w' A (s.data.toList ++ shaPad s.size) ∧ s.size + (padT s.size + 8) ≤ c ∧ c ≤ maxLen ∧ (∀ ad, A = some ad → w.heap.size ≤ ad.block) ∧ Ext w w' := by
  obtain ⟨l, hl⟩ : ∃ l, l = s.data.toList := ⟨_, rfl⟩
  obtain ⟨n, hn⟩ : ∃ n, n = s.size := ⟨_, rfl⟩
  have hln : l.length = n := by rw [hl, hn, Array.length_toList]; rfl
  obtain ⟨t, ht⟩ : ∃ t, t = padT n := ⟨_, rfl⟩
  obtain ⟨t1, t2, t3⟩ := padT_pos n
  rw [← hl, ← hn]
  have hcv := Lib.run_convert_string_bytes (P := Try.prog) w 9 46 5 s Try.underlying9 Try.underlying46 Try.underlying5
  have hO := OwnR.conv w s (by omega)
  have hsz : (Lib.bytesWorld w 5 s).heap.size = w.heap.size + 1 := Lib.bytesWorld_size _ _ _
  obtain ⟨B, hB⟩ : ∃ B, B = w.heap.size := ⟨_, rfl⟩
  obtain ⟨v1, w1, hrun, hO1, hb1⟩ := hO.more (by rw [hsz]; omega) 128 128 rfl (by rw [← hl, hln]; omega) _ hsz
  rw [← hl, ← hB] at hO1
  rw [← hB] at hb1
  have HO : Hid (OwnR w1 B v1 (zpad l 0) ∧ Below B w w1) := hide ⟨hO1, (Below.trans (show Below B w (Lib.bytesWorld w 5 s) from by rw [hB]; exact ext_bytesWorld (Ext.refl w) _ _) hb1)⟩
  rw [← ht] at t1 t2 t3 ⊢
  have HL := hide (And.intro hln (And.intro hn ht))
  have HB := hide hB
  rw [← hn] at hs
  have hn100 : (n : Int) ≤ 100000 := by omega
  have hsn : ((s.size : Nat) : Int) = (n : Int) := by rw [hn]
  clear hO hO1 hb1 hl hln ht hB hn
  go_enter Try.func38, Try.ntmps38
  go_wp2_with (at_builtin; refine wpList_append_run rfl _ _ _ _ rfl _ _ _ rfl rfl hrun ?_)
  clear hrun hcv hsz

  go_loopw [3] (fun s3 wr => ∃ k : Nat, k + 1 ≤ t ∧ Hid (OwnR wr B s3 (zpad l k) ∧ Below B w wr) ∧ ∃ (A : Option Addr) (c : Nat), s3 = .slice A (n + 1 + k) c) (fun s3 _ => t + n + 1 - (sliceN s3))
  case atStart =>
    obtain ⟨A, c, hv, _, _⟩ := HO.out.1.form
    refine ⟨0, by omega, HO, A, c, ?_⟩
    rw [hv, zpad_length, HL.out.1]
  case round =>
    clear HO
    obtain ⟨k, hk, HI, A, c, rfl⟩ := hrel
    by_cases hlt : k + 1 < t
    · have hne : ¬ (((n : Int) + 1 + (k : Int)) % 64 = 56) := by
        have := padT_stop n (k + 1) (by rw [← HL.out.2.2]; exact hlt) (by omega)
        omega
      have hBw : B ≤ wr.heap.size := by rw [HB.out]; exact HI.out.2.size
      obtain ⟨v', w', hrun, hO2, hb2⟩ := HI.out.1.more hBw 0 0 rfl (by rw [zpad_length, HL.out.1]; omega) _ rfl
      rw [zpad_succ] at hO2
      obtain ⟨A', c', hv, _, _⟩ := hO2.form
      rw [zpad_length, HL.out.1] at hv
      subst hv
      have HR := hide (And.intro hO2 (HI.out.2.trans hb2))
      clear hO2 hb2 HI
      go_wp2_with (at_builtin; refine wpList_append_run rfl _ _ _ _ rfl _ _ _ rfl rfl hrun ?_)
      go_roundw
      case rel => exact ⟨k + 1, by omega, HR, A', c', rfl⟩
      case measure => simp [sliceN]; omega
    · have hkt : k + 1 = t := by omega
      have heq : ((n : Int) + 1 + (k : Int)) % 64 = 56 := by omega
      have HZ : Hid (zpad l k = zpad l (padT n - 1)) := hide (by rw [← HL.out.2.2, ← hkt]; rfl)
      go_wp2
      clear heq
      have HI2 : Hid (OwnR wr B (.slice A (n + 1 + k) c) (zpad l (padT n - 1) ++ (lenBytes n).take 0) ∧ Below B w wr) := hide (by
        rw [← HZ.out, List.take_zero, List.append_nil]
        exact HI.out)
      have hlen0 : n + 1 + k = n + t := by omega
      rw [hlen0] at HI2
      rw [hlen0]
      clear HI HZ hlen0 hk hkt hlt
      go_loopw [3, 4] (fun s3 s4 wr => ∃ (i : Int) (j : Nat) (A : Option Addr) (c : Nat), i + (j : Int) = 7 ∧ j ≤ 8 ∧ s4 = .int .i64 i ∧ s3 = .slice A (n + t + j) c ∧ Hid (OwnR wr B s3 (zpad l (padT n - 1) ++ (lenBytes n).take j) ∧ Below B w wr)) (fun s3 _ _ => t + n + 8 - (sliceN s3))
      case atStart => exact ⟨7, 0, A, c, by omega, by omega, rfl, rfl, HI2⟩
      case round =>
        clear HI2
        obtain ⟨i, j, A, c, hij, hj, rfl, rfl, HI⟩ := hrel
        have hll : (zpad l (padT n - 1) ++ (lenBytes n).take j).length = n + t + j := by
          rw [List.length_append, zpad_length, List.length_take, lenBytes_length, HL.out.1, ← HL.out.2.2]; omega
        by_cases hlt : j < 8
        · obtain ⟨m, rfl⟩ : ∃ m : Nat, i = (m : Int) := ⟨i.toNat, by omega⟩
          have hm : m = 7 - j := by omega
          have hm7 : m ≤ 7 := by omega
          have hBw : B ≤ wr.heap.size := by rw [HB.out]; exact HI.out.2.size
          have hz : 8 * (n : Int) / 2 ^ (8 * m) % 256 = ((UInt8.ofNat (8 * n / 2 ^ (8 * (7 - j)) % 256)).toNat : Int) := by
            have e2 : (UInt8.ofNat (8 * n / 2 ^ (8 * (7 - j)) % 256)).toNat = 8 * n / 2 ^ (8 * (7 - j)) % 256 := by
              rw [UInt8.toNat_ofNat']; omega
            rw [e2, hm]
            have hp : (2 : Int) ^ (8 * (7 - j)) = ((2 ^ (8 * (7 - j)) : Nat) : Int) := by rw [Int.natCast_pow]; rfl
            rw [hp]
            generalize 2 ^ (8 * (7 - j)) = q
            rw [Int.natCast_emod, Int.natCast_ediv, Int.natCast_mul]
            rfl
          obtain ⟨v', w', hrun, hO2, hb2⟩ := HI.out.1.more hBw (UInt8.ofNat (8 * n / 2 ^ (8 * (7 - j)) % 256)) _ hz (by rw [hll]; omega) _ rfl
          rw [List.append_assoc, lenBytes_take n j hlt] at hO2
          obtain ⟨A', c', hv, _, _⟩ := hO2.form
          have hll2 : (zpad l (padT n - 1) ++ (lenBytes n).take (j + 1)).length = n + t + (j + 1) := by
            rw [List.length_append, zpad_length, List.length_take, lenBytes_length, HL.out.1, ← HL.out.2.2]; omega
          rw [hll2] at hv
          subst hv
          have HR := hide (And.intro hO2 (HI.out.2.trans hb2))
          clear hO2 hb2 HI hz hll hll2 hm
          go_wp2_with (at_builtin; refine wpList_append_run rfl _ _ _ _ rfl _ _ _ rfl rfl hrun ?_)
          go_roundw
          case rel => exact ⟨(m : Int) - 1, j + 1, A', c', by omega, by omega, rfl, rfl, HR⟩
          case measure => simp [sliceN]; omega
        · have hj8 : j = 8 := by omega
          have hi : i = -1 := by omega
          have HE := HI
          subst hj8 hi
          rw [shaPad_form] at HE
          have HQ := hide HE.out.1.reads
          go_wp2
          go_ret
          refine ⟨A, c, ?_, HQ.out.1, ?_, HQ.out.2.2.2.1, (by rw [← HB.out]; exact HQ.out.2.2.2.2), ?_⟩
          · rw [Nat.add_assoc]
            rfl
          · have := HQ.out.2.2.1; omega
          · have h := HE.out.2
            rw [HB.out] at h
            exact h
end Go.Proofs.Ytlnidgkcgjlnaaa
