/-
  bytesutil.ReadNAppend onto bytes that were had; impl.ReadMore.
-/
import Derived.Test.YtnenjkngimfdgaaDoorPieces
import Derived.Test.YtnenjkngimfdgaaDoorIntOf2
namespace Go.Proofs.YtnenjkngimfdgaaDoor
open Go.RowKit
set_option linter.unusedVariables false
set_option linter.unusedSimpArgs false

/-- A row of bytes. -/
def RowB (w : World) (b : Nat) (L : List UInt8) : Prop := Row w b 5 (bs L).toArray
theorem bs_size (L : List UInt8) : (bs L).toArray.size = L.length := by simp [bs]
theorem RowB.rbytes {w : World} {b : Nat} {L : List UInt8} (h : RowB w b L) (n : Nat) : RBytes w (some ⟨b, 0, none⟩) (L.take n) :=
  (rbytes_row h).take n
theorem ovr_bs (L X : List UInt8) (o : Nat) (h : o + X.length ≤ L.length) : ovr (bs L).toArray o (bs X) = (bs (L.take o ++ X ++ L.drop (o + X.length))).toArray := by
  unfold ovr
  simp only [bs_append, bs_take, bs_drop, bs_length]
/-- '[]byte(s)': its row. -/
theorem rowB_bytesWorld (w : World) (s : ByteArray) : ∃ L, RowB (Lib.bytesWorld w 5 s) w.heap.size L ∧ L.take s.size = s.data.toList ∧ grownCap w s.size 0 5 ≤ L.length := by
  refine ⟨s.data.toList ++ List.replicate (grownCap w s.size 0 5 - s.size) 0, ⟨((Lib.bytesCells w 5 s).size, (Lib.bytesCells w 5 s).size + 1), ?_, ?_⟩, ?_, ?_⟩
  · right
    have e : (bs (s.data.toList ++ List.replicate (grownCap w s.size 0 5 - s.size) 0)).toArray.size = (Lib.bytesCells w 5 s).size := by simp [bs, Lib.bytesCells]
    rw [e]; exact Nat.le_refl _
  · rw [Lib.bytesWorld_at_new]
    congr 2
    apply Array.ext'
    simp [bs, Lib.bytesCells]
  · rw [List.take_append_of_le_length (by rw [size_data]; exact Nat.le_refl _), List.take_of_length_le (by rw [size_data]; exact Nat.le_refl _)]
  · have := grownCap_ge w s.size 0 5
    simp only [List.length_append, List.length_replicate, size_data]
    omega

/-- What Expand makes of bytes that were had. -/
def Grew (w : World) (b0 n0 n : Nat) (had : List UInt8) (e : Ending) (w' : World) : Prop := ∃ b cap L, e = .returned (.slice (some ⟨b, 0, none⟩) n cap) ∧ n ≤ cap ∧ cap ≤ 9223372036854775807 ∧ (b = b0 ∨ w.heap.size ≤ b) ∧ RowB w' b L ∧ n ≤ L.length ∧ L.take n0 = had ∧ Chg [] w w'

set_option maxRecDepth 100000 in
set_option maxHeartbeats 1000000 in
theorem expand_had (b0 n0 cap n : Nat) (L : List UInt8) (w : World) (hR : RowB w b0 L) (hn0 : n0 < n) (hn : n ≤ 10000) (hc : n0 ≤ cap) (hcL : cap ≤ L.length) (hcm : cap ≤ 9223372036854775807) :
    Calls Tryd.prog 49 #[.slice (some ⟨b0, 0, none⟩) n0 cap, .int .i64 n, .bool true] w (Grew w b0 n0 n (L.take n0)) := by
  have hn1 : ((n : Int) == 0) = false := by rw [beq_eq_false_iff_ne]; omega
  by_cases hgt : cap < n
  · have hmk := run_make_bytes n n (Nat.le_refl _) (by omega)
    have hR2 : Row (w.alloc (.cells (bs (List.replicate n 0)).toArray 5)) w.heap.size 5 (bs (List.replicate n 0)).toArray := (Blk.new w _ _).row
    have hlt := hR.lt
    have hcp := run_copy_sl (w.alloc (.cells (bs (List.replicate n 0)).toArray 5)) w.heap.size 0 n n n0 cap n0 ⟨b0, 0, none⟩ (L.take n0) _ _ hR2 (fun j hj => by
      rw [add0, World.cell?_alloc_lt _ _ _ (by simpa using hlt), Row.cell hR]
      have hj2 : j < L.length := by rw [List.length_take] at hj; omega
      simp [bs, hj2]) (by rw [List.length_take]; omega) (by show n0 = min n0 n; omega) (by rw [bs_size]; simp; omega)
    rw [List.take_take, Nat.min_self, ovr_bs _ _ _ (by simp; omega)] at hcp
    have END : Hid (∀ cs, cs = (bs (List.take 0 (List.replicate n 0) ++ L.take n0 ++ List.drop (0 + (L.take n0).length) (List.replicate n 0))).toArray → Grew w b0 n0 n (L.take n0) (.returned (.slice (some ⟨w.heap.size, 0, none⟩) n n)) ((w.alloc (.cells (bs (List.replicate n 0)).toArray 5)).setRow w.heap.size cs)) := hide fun cs hcs => by
      subst hcs
      have hl : (L.take n0).length = n0 := by rw [List.length_take]; omega
      refine ⟨w.heap.size, n, _, rfl, Nat.le_refl _, by omega, .inr (Nat.le_refl _), hR2.setRow_ _ ?_, ?_, ?_, ?_⟩
      · rw [bs_size, bs_size]; simp only [List.take_zero, List.nil_append, List.length_append, hl, List.length_drop, List.length_replicate]; omega
      · simp only [List.take_zero, List.nil_append, List.length_append, hl, List.length_drop, List.length_replicate]; omega
      · rw [List.take_zero, List.nil_append, List.take_append_of_le_length (by rw [hl]; exact Nat.le_refl _), List.take_of_length_le (by rw [hl]; exact Nat.le_refl _)]
      · exact (((Chg.refl [] w).alloc _).setRow (.inr (Nat.le_refl _)) _)
    generalize hcs : (bs (List.take 0 (List.replicate n 0) ++ L.take n0 ++ List.drop (0 + (L.take n0).length) (List.replicate n 0))).toArray = cs at hcp
    have END2 := hide (END.out cs hcs.symm)
    clear hcs END hR2 hR
    generalize (bs (List.replicate n 0)).toArray = Z at *
    go_enter Tryd.func49, Tryd.ntmps49
    go_wp2
    go_ret
    exact END2.out
  · have HR := hide hR
    clear hR
    have hle : n ≤ cap := by omega
    go_enter Tryd.func49, Tryd.ntmps49
    go_wp2
    go_ret
    exact ⟨b0, cap, L, rfl, hle, hcm, .inl rfl, HR.out, by omega, rfl, Chg.refl _ _⟩

/-- What ReadNAppend onto bytes that were had tells. -/
def NMore (R : World → List UInt8 → Nat → Prop) (S : List Nat) (w : World) (b0 n0 n : Nat) (had left : List UInt8) (e : Ending) (w' : World) : Prop :=
  ∃ f' b m cap L, R w' (left.drop n) f' ∧ Chg (b0 :: S) w w' ∧ RowB w' b L ∧ m ≤ L.length ∧
    ((n ≤ left.length ∧ L.take m = had ++ left.take n ∧ e = .returned (.tuple #[.slice (some ⟨b, 0, none⟩) m cap, .nilIface])) ∨ (left.length < n ∧ ∃ a, e = .returned (.tuple #[.slice (some ⟨b, 0, none⟩) m cap, .iface 146 (.pointer (some a))])))

set_option maxRecDepth 100000 in
set_option maxHeartbeats 1000000 in
theorem readNAppend_had {RT : TypeId} {rd : Value} {B : Nat} {ad ad2 : Addr} {S : List Nat} {R : World → List UInt8 → Nat → Prop} {K : FuncId} (hS : Src RT rd B ad S R K) (b0 n0 cap n : Nat) (L left : List UInt8) (f : Nat) (w : World)
    (hR : R w left f) (hL : RowB w b0 L) (hb0 : b0 ∉ S) (hbB : B ≤ b0) (hn : n ≤ 5000) (hn0 : n0 ≤ 5000) (hc : n0 ≤ cap) (hcL : cap ≤ L.length) (hcm : cap ≤ 9223372036854775807) (hE : EofAt w B ad) (hU : UeofAt w B ad2) :
    Calls Tryd.prog 28 #[.iface RT rd, .slice (some ⟨b0, 0, none⟩) n0 cap, .int .i64 n] w (NMore R S w b0 n0 n (L.take n0) left) := by
  rcases Nat.eq_zero_or_pos n with h0 | h0
  · subst h0
    have HR := hide hR
    have HL := hide hL
    clear hS hR hE hU hn hL
    go_enter Tryd.func28, Tryd.ntmps28
    go_wp2
    go_ret2
    exact ⟨f, b0, n0, cap, L, HR.out, Chg.refl _ _, HL.out, by omega, .inl ⟨by omega, by simp, rfl⟩⟩
  · have hz : ((n : Int) == 0) = false := by rw [beq_eq_false_iff_ne]; omega
    obtain ⟨m, hm⟩ : ∃ m, m = n0 + n := ⟨_, rfl⟩
    have HX := hide (expand_had b0 n0 cap m L w hL (by omega) (by omega) hc hcL hcm)
    have CALL : Hid (∀ b c L2 w1, (b = b0 ∨ w.heap.size ≤ b) → RowB w1 b L2 → m ≤ L2.length → m ≤ c → c ≤ 9223372036854775807 → Chg [] w w1 → Calls Tryd.prog 50 #[.iface RT rd, .slice (some ⟨b, n0, none⟩) n (c - n0)] w1 (FullS R S w1 b n0 n 5 (bs L2).toArray left)) := hide fun b c L2 w1 hb1 hB hL2 hmc hcm hC =>
      readFull_any hS b n0 n (c - n0) _ _ left f w1 (hS.frame _ _ _ _ [] hR hC (by simp)) hB (fun hmem => by
        rcases hb1 with rfl | hb1
        · exact hb0 hmem
        · have := hS.lt _ _ _ hR _ hmem; omega) (by
        rcases hb1 with rfl | hb1
        · exact hbB
        · have := hE.2.1; omega) (by rw [bs_size]; omega) (by omega) (by omega) (hE.chg hC (by simp)) (hU.chg hC (by simp))
    have hsum : (n0 : Int) + (n : Int) = (m : Int) := by omega
    have hmn : m - n0 = n := by omega
    have hlt : n0 < m := by omega
    clear hS hR hE hU hm
    go_enter Tryd.func28, Tryd.ntmps28
    go_wp2_with fail
    refine HX.out.mono ?_
    rintro e w1 ⟨b, c, L2, rfl, hmc, hcm2, hb1, hB, hL2, hLe, hC⟩
    have CALL2 := hide (CALL.out b c L2 w1 hb1 hB hL2 hmc hcm2 hC)
    have X1 := hide (And.intro hB (And.intro hLe hC))
    have hcne : ¬ c = n0 := by omega
    clear hB hLe hC CALL HX
    go_wp2_with fail
    refine CALL2.out.mono ?_
    rintro e w2 ⟨f', hR2, hB2, hC2, hres⟩
    have X : Hid (R w2 (left.drop n) f' ∧ Chg (b0 :: S) w w2 ∧ ∃ L3, RowB w2 b L3 ∧ m ≤ L3.length ∧ (n ≤ left.length → L3.take m = L.take n0 ++ left.take n)) := hide (by
      obtain ⟨hB, hLe, hC⟩ := X1.out
      have hX : n0 + (left.take n).length ≤ L2.length := by rw [List.length_take]; omega
      rw [ovr_bs _ _ _ hX] at hB2
      refine ⟨hR2, (hC.more (by simp)).then hC2 (by
        intro i hi
        rcases List.mem_cons.1 hi with rfl | hi
        · rcases hb1 with rfl | hb1
          · exact .inl (by simp)
          · exact .inr hb1
        · exact .inl (List.mem_cons_of_mem _ hi)), _, hB2, ?_, fun hle => ?_⟩
      · simp only [List.length_append, List.length_take, List.length_drop]; omega
      · rw [hLe, List.append_assoc, ← List.append_assoc]
        have h1 : (L.take n0 ++ left.take n).length = m := by
          have hq : (L.take n0).length = n0 := by rw [List.length_take]; omega
          rw [List.length_append, hq, List.length_take]; omega
        rw [List.take_append_of_le_length (by omega), List.take_of_length_le (by omega)])
    clear hR2 hB2 hC2 CALL2 X1
    rcases hres with ⟨hle, rfl⟩ | ⟨hlt, k, a, rfl⟩
    · go_wp2
      go_ret2
      obtain ⟨x1, x2, L3, x3, x4, x5⟩ := X.out
      exact ⟨f', b, m, c, L3, x1, x2, x3, x4, .inl ⟨hle, x5 hle, rfl⟩⟩
    · go_wp2
      go_ret2
      obtain ⟨x1, x2, L3, x3, x4, x5⟩ := X.out
      exact ⟨f', b, m, c, L3, x1, x2, x3, x4, .inr ⟨hlt, _, rfl⟩⟩

theorem readMore1_idle (args : Array Value) (w : World) : CallsD Tryd.prog 26 args .returning w fun e u' w' => e = .returned (.tuple #[]) ∧ u' = .returning ∧ w' = w :=
  idle_of w nilTest_any Tryd.func26 rfl rfl (by decide) (by decide)

/-- What stands while ReadMore's answers are told: its results' variables (h, h + 1, h + 2), the pieces (p), the bytes. -/
structure Fit (h p q g k B b m c : Nat) (S : ByteArray) (l left : List UInt8) (f : Nat) (W : World) : Prop where
  v0 : Var W h (.string .empty)
  v1 : Var W (h + 1) (.int .i64 0)
  v2 : Var W (h + 2) (.int .i64 0)
  pc : Blk W p 66 #[.pointer (some ⟨g, 0, none⟩), .iface 119 (.pointer (some ⟨q, 0, none⟩))]
  buf : Buf q g k B W left f
  src : B ≤ q ∧ B ≤ g ∧ B ≤ k
  rb : RBytes W (some ⟨b, 0, none⟩) l
  ln : l.length = m
  sv : S = ⟨l.toArray⟩
theorem Fit.ext {h p q g k B b m c : Nat} {S : ByteArray} {l left : List UInt8} {f : Nat} {W W' : World} (F : Fit h p q g k B b m c S l left f W) (hx : Ext W W') : Fit h p q g k B b m c S l left f W' :=
  ⟨F.v0.ext hx, F.v1.ext hx, F.v2.ext hx, F.pc.chg (Chg.of_ext hx []) (by simp), (src_buf B q g k ⟨0, 0, none⟩ F.src.1 F.src.2.1 F.src.2.2).frame _ _ _ _ [] F.buf (Chg.of_ext hx []) (by simp), F.src, F.rb.ext hx, F.ln, F.sv⟩
theorem Fit.facts {h p q g k B b m c : Nat} {S : ByteArray} {l left : List UInt8} {f : Nat} {W : World} (F : Fit h p q g k B b m c S l left f W) :
    W.cell? ⟨h, 0, none⟩ = some (.string .empty) ∧ W.frozen? ⟨h, 0, none⟩ = false ∧ W.cell? ⟨h + 1, 0, none⟩ = some (.int .i64 0) ∧ W.frozen? ⟨h + 1, 0, none⟩ = false ∧
    W.cell? ⟨h + 1 + 1, 0, none⟩ = some (.int .i64 0) ∧ W.frozen? ⟨h + 1 + 1, 0, none⟩ = false ∧ W.cell? ⟨p, 0, none⟩ = some (.pointer (some ⟨g, 0, none⟩)) ∧ W.cell? ⟨p, 1, none⟩ = some (.iface 119 (.pointer (some ⟨q, 0, none⟩))) ∧
    (convert 38 9 (.slice (some ⟨b, 0, none⟩) m c)).run Tryd.prog W = .ok (.string S) W := by
  refine ⟨F.v0.2.1, F.v0.2.2, F.v1.2.1, F.v1.2.2, F.v2.2.1, F.v2.2.2, ?_, ?_, by rw [F.sv]; exact run_string_n W _ _ _ Tryd.underlying38 Tryd.underlying5 Tryd.underlying9 m c F.ln F.rb⟩
  · have := F.pc.cell 0
    simpa using this
  · have := F.pc.cell 1
    simpa using this
theorem ext_nil_side {n : Nat} : ∀ i ∈ ([] : List Nat), n ≤ i := by simp
theorem var_chg {w w' : World} {b : Nat} {v : Value} {S : List Nat} (h : Var w b v) (hc : Chg S w w') (hb : b ∉ S) : Var w' b v :=
  ⟨Nat.lt_of_lt_of_le h.1 hc.size, cell_chg h.2.1 hc hb, by rw [World.frozen?_of_block (hc.block _ h.1 hb)]; exact h.2.2⟩

/-- What impl.ReadMore tells. -/
def MoreOut (s had : List UInt8) (n : Nat) (w : World) (e : Ending) (w' : World) : Prop := ∃ (S : ByteArray) (L St : Int), e = .returned (.tuple #[.string S, .int .i64 L, .int .i64 St]) ∧ Ext w w' ∧
  (n ≤ s.length → S.data.toList = had ++ s.take n ∧ L = ((s.length - n : Nat) : Int) ∧ St = 0) ∧ (s.length < n → St = 2)

set_option maxRecDepth 100000 in
set_option maxHeartbeats 4000000 in
theorem implReadMore_any (s had : ByteArray) (n : Nat) (A : Option Addr) (cap : Nat) (l : List Int) (w : World) (B : Nat) (ad ad2 : Addr) (hn : n ≤ 5000) (hs : s.size ≤ 1048576) (hh : had.size ≤ 5000) (hE : EofAt w B ad) (hU : UeofAt w B ad2)
    (hR : Reads w B 1 A l.length (is_ l)) (hll : l.length ≤ 1000) (hv : ∀ x ∈ l, -9223372036854775808 ≤ x ∧ x ≤ 9223372036854775807) :
    Calls Tryd.prog 13 #[.string s, .string had, .int .i64 n, .slice A l.length cap] w (MoreOut s.data.toList had.data.toList n w) := by
  have hmf : ∀ (fn : Fn) (first cap : Array Value) (w : World), (Instr.makeFunc fn first cap).run Tryd.prog w = .ok (.func fn first cap) w := fun _ _ _ _ => rfl
  have NP : Hid (∀ w1, Chg [] w w1 → Calls Tryd.prog 27 #[.string s, .slice A l.length cap] w1 (NewPcs w1 B s.data.toList)) := hide fun w1 hc =>
    newPieces_any B s A cap l w1 (hR.chg hc (by simp) hE.2.1) (Nat.le_trans hE.2.1 hc.size) hll hs hv
  have HE := hide hE
  have HU := hide hU
  clear hE hU hR hv
  go_enter_defers Tryd.func13, Tryd.ntmps13
  go_wp2_with fail
  refine (NP.out _ ((((Chg.refl _ _).alloc _).alloc _).alloc _)).mono ?_
  rintro e w1 ⟨q, g, k, f, hq, hg, hk, rfl, hB, hC⟩
  simp at hq hg hk
  have HB := hide hB
  have HC := hide hC
  clear hB hC NP
  obtain ⟨W1, hW1⟩ : ∃ W1, W1 = w1.alloc (.cells #[.pointer (some ⟨g, 0, none⟩), .iface 119 (.pointer (some ⟨q, 0, none⟩))] 66) := ⟨_, rfl⟩
  have hcv := Lib.run_convert_string_bytes (P := Tryd.prog) W1 9 38 5 had Tryd.underlying9 Tryd.underlying38 Tryd.underlying5
  obtain ⟨L0, hL0, hL0h, hL0c⟩ := rowB_bytesWorld W1 had
  have hgc1 := grownCap_ge W1 had.size 0 5
  have hgc2 := grownCap_le_maxLen W1 had.size 0 5 (by unfold maxLen; omega)
  generalize hgc : grownCap W1 had.size 0 5 = gc at *
  have s1 : W1.heap.size = w1.heap.size + 1 := by rw [hW1]; simp
  have hC1 : Chg [] w1 (Lib.bytesWorld W1 5 had) := Chg.of_ext (ext_bytesWorld (by rw [hW1]; exact (Ext.refl _).alloc _) _ _) _
  have hC0 : Chg [] w (Lib.bytesWorld W1 5 had) := ((((Chg.refl [] w).alloc _).alloc _).alloc _).trans (HC.out.trans hC1)
  have hBW : Buf q g k B (Lib.bytesWorld W1 5 had) s.data.toList f := (src_buf B q g k ad (by have := HE.out.2.1; omega) (by have := HE.out.2.1; omega) (by have := HE.out.2.1; omega)).frame _ _ _ _ [] HB.out hC1 (by simp)
  have hql := (src_buf B q g k ad (by have := HE.out.2.1; omega) (by have := HE.out.2.1; omega) (by have := HE.out.2.1; omega)).lt _ _ _ HB.out
  simp at hql
  have hBB : B ≤ w.heap.size := HE.out.2.1
  have CALL : Hid (Calls Tryd.prog 28 #[.iface 119 (.pointer (some ⟨q, 0, none⟩)), .slice (some ⟨w1.heap.size + 1, 0, none⟩) had.size gc, .int .i64 n] (Lib.bytesWorld W1 5 had) (NMore (Buf q g k B) [q, k, g] (Lib.bytesWorld W1 5 had) (w1.heap.size + 1) had.size n had.data.toList s.data.toList)) := hide (by
    rw [← s1]
    have h := readNAppend_had (src_buf B q g k ad (by omega) (by omega) (by omega)) W1.heap.size had.size gc n L0 s.data.toList f _ hBW hL0 (by simp; omega) (by omega) hn hh hgc1 hL0c (by unfold maxLen at hgc2; omega) (HE.out.chg hC0 (by simp)) (HU.out.chg hC0 (by simp))
    rwa [hL0h] at h)
  have HC1 := hide hC1
  have hs1 := HC.out.size
  simp at hs1
  clear hL0 hL0h hL0c hgc1 hgc2 hgc hBW hC1 hC0 HB
  rw [hW1] at hcv
  go_wp2_with fail
  rw [← hW1]
  refine CALL.out.mono ?_
  rintro e w3 ⟨f', b, m, c, L, hR3, hC3, hRow, hmL, hres⟩
  have hCA : Chg [] w1 W1 := by rw [hW1]; exact (Chg.refl _ _).alloc _
  have V0 : Var w3 w.heap.size (.string .empty) := var_chg (var_chg (((((Var.new w (.string .empty) _).ext ((Ext.refl _).alloc _)).ext ((Ext.refl _).alloc _))).ext (HC.out.ext (by simp))) HC1.out (by simp)) hC3 (by simp; omega)
  have V1 : Var w3 (w.heap.size + 1) (.int .i64 0) := var_chg (var_chg (((Var.new_at _ (.int .i64 0) _ _ (by simp)).ext ((Ext.refl _).alloc _)).ext (HC.out.ext (by simp))) HC1.out (by simp)) hC3 (by simp; omega)
  have V2 : Var w3 (w.heap.size + 2) (.int .i64 0) := var_chg (var_chg ((Var.new_at _ (.int .i64 0) _ _ (by simp)).ext (HC.out.ext (by simp))) HC1.out (by simp)) hC3 (by simp; omega)
  have PC : Blk w3 w1.heap.size 66 #[.pointer (some ⟨g, 0, none⟩), .iface 119 (.pointer (some ⟨q, 0, none⟩))] := by
    have h1 : Blk W1 w1.heap.size 66 #[.pointer (some ⟨g, 0, none⟩), .iface 119 (.pointer (some ⟨q, 0, none⟩))] := by rw [hW1]; exact Blk.new _ _ _
    have h2 : Chg [] W1 (Lib.bytesWorld W1 5 had) := Chg.of_ext (ext_bytesWorld (Ext.refl _) _ _) _
    exact (h1.chg h2 (by simp)).chg hC3 (by simp; omega)
  have HXA : Hid (Ext w w3.drew) := hide (by
    have h1 : Chg [] w (Lib.bytesWorld W1 5 had) := ((((Chg.refl [] w).alloc _).alloc _).alloc _).trans (HC.out.trans HC1.out)
    exact ((h1.then hC3 (by simp; omega)).ext (by simp)).drew)
  clear hC3 hCA HC HC1 CALL hcv
  rcases hres with ⟨hle, hLt, rfl⟩ | ⟨hlt, a, rfl⟩
  · obtain ⟨S, hS⟩ : ∃ S : ByteArray, S = ⟨(L.take m).toArray⟩ := ⟨_, rfl⟩
    have HS := hide hS
    have F3 : Fit w.heap.size w1.heap.size q g k B b m c S (L.take m) (s.data.toList.drop n) f' w3 := ⟨V0, V1, V2, PC, hR3, ⟨by omega, by omega, by omega⟩, hRow.rbytes m, by rw [List.length_take]; omega, hS⟩
    have FA := hide (F3.ext ((Ext.refl _).drew))
    obtain ⟨LL, hLL⟩ : ∃ LL : Nat, LL = (s.data.toList.drop n).length := ⟨_, rfl⟩
    have HLL := hide hLL
    have LEFT : Hid (∀ W, Fit w.heap.size w1.heap.size q g k B b m c S (L.take m) (s.data.toList.drop n) f' W → Calls Tryd.prog 29 #[.agg #[.pointer (some ⟨g, 0, none⟩), .iface 119 (.pointer (some ⟨q, 0, none⟩))]] W fun e w' => e = .returned (.int .i64 (LL : Nat)) ∧ Chg [] W w') := hide fun W F => by
      rw [hLL]
      exact left_any B q g k _ _ W F.buf (by rw [List.length_drop, size_data]; omega)
    clear hS hLL V0 V1 V2 PC hR3 hRow F3
    obtain ⟨a1, a2, a3, a4, a5, a6, a7, a8, a9⟩ := FA.out.facts
    go_wp2
    refine wp_region_noPanic ?_
    go_region_with (first
      | (go_at_call 29; refine (LEFT.out _ ?_).mono ?_; (first | exact FB.out | exact FA.out); rintro e w4 ⟨rfl, hc4⟩; have hx4 := hc4.ext ext_nil_side; (first | (have FC := hide (FB.out.ext hx4); have HX4 := hide (HXB.out.trans hx4)) | (have FC := hide (FA.out.ext hx4); have HX4 := hide (HXA.out.trans hx4))); clear hx4; obtain ⟨a1, a2, a3, a4, a5, a6, a7, a8, a9⟩ := FC.out.facts; clear hc4)
      | (go_at_call 23; refine (stateOf_nil _).mono ?_; rintro e w5 ⟨rfl, hc5⟩; have hx5 := hc5.ext ext_nil_side; (first | (have FB := hide (FC.out.ext hx5); have HXB := hide (HX4.out.trans hx5)) | (have FB := hide (FA.out.ext hx5); have HXB := hide (HXA.out.trans hx5))); clear hx5; obtain ⟨a1, a2, a3, a4, a5, a6, a7, a8, a9⟩ := FB.out.facts; clear hc5))
    all_goals
      refine NoPanic.normal ?_
      clear LEFT
      go_wp2
      refine door_idle (readMore1_idle _ _) (by simp [go_sem]) ?_
      refine ⟨.tuple #[.string S, .int .i64 (LL : Nat), .int .i64 0], by simp [results, Tryd.results13, go_sem, a1, a2, a3, a4, a5, a6], ?_⟩
      refine ⟨S, _, _, rfl, ?_, ?_, ?_⟩
      · first
          | exact ((HXB.out.setCell (Nat.le_refl _) _).setCell (by simp) _).setCell (by simp; omega) _
          | exact ((HX4.out.setCell (Nat.le_refl _) _).setCell (by simp) _).setCell (by simp; omega) _
      · intro _
        exact ⟨by rw [HS.out]; exact hLt, by rw [HLL.out, List.length_drop], rfl⟩
      · intro h; omega
  · obtain ⟨S, hS⟩ : ∃ S : ByteArray, S = ⟨(L.take m).toArray⟩ := ⟨_, rfl⟩
    have HS := hide hS
    have F3 : Fit w.heap.size w1.heap.size q g k B b m c S (L.take m) (s.data.toList.drop n) f' w3 := ⟨V0, V1, V2, PC, hR3, ⟨by omega, by omega, by omega⟩, hRow.rbytes m, by rw [List.length_take]; omega, hS⟩
    have FA := hide (F3.ext ((Ext.refl _).drew))
    obtain ⟨LL, hLL⟩ : ∃ LL : Nat, LL = (s.data.toList.drop n).length := ⟨_, rfl⟩
    have HLL := hide hLL
    have LEFT : Hid (∀ W, Fit w.heap.size w1.heap.size q g k B b m c S (L.take m) (s.data.toList.drop n) f' W → Calls Tryd.prog 29 #[.agg #[.pointer (some ⟨g, 0, none⟩), .iface 119 (.pointer (some ⟨q, 0, none⟩))]] W fun e w' => e = .returned (.int .i64 (LL : Nat)) ∧ Chg [] W w') := hide fun W F => by
      rw [hLL]
      exact left_any B q g k _ _ W F.buf (by rw [List.length_drop, size_data]; omega)
    clear hS hLL V0 V1 V2 PC hR3 hRow F3
    obtain ⟨a1, a2, a3, a4, a5, a6, a7, a8, a9⟩ := FA.out.facts
    go_wp2
    refine wp_region_noPanic ?_
    go_region_with (first
      | (go_at_call 29; refine (LEFT.out _ ?_).mono ?_; (first | exact FB.out | exact FA.out); rintro e w4 ⟨rfl, hc4⟩; have hx4 := hc4.ext ext_nil_side; (first | (have FC := hide (FB.out.ext hx4); have HX4 := hide (HXB.out.trans hx4)) | (have FC := hide (FA.out.ext hx4); have HX4 := hide (HXA.out.trans hx4))); clear hx4; obtain ⟨a1, a2, a3, a4, a5, a6, a7, a8, a9⟩ := FC.out.facts; clear hc4)
      | (go_at_call 23; refine (stateOf_err _ _).mono ?_; rintro e w5 ⟨rfl, hc5⟩; have hx5 := hc5.ext ext_nil_side; (first | (have FB := hide (FC.out.ext hx5); have HXB := hide (HX4.out.trans hx5)) | (have FB := hide (FA.out.ext hx5); have HXB := hide (HXA.out.trans hx5))); clear hx5; obtain ⟨a1, a2, a3, a4, a5, a6, a7, a8, a9⟩ := FB.out.facts; clear hc5))
    all_goals
      refine NoPanic.normal ?_
      clear LEFT
      go_wp2
      refine door_idle (readMore1_idle _ _) (by simp [go_sem]) ?_
      refine ⟨.tuple #[.string S, .int .i64 (LL : Nat), .int .i64 2], by simp [results, Tryd.results13, go_sem, a1, a2, a3, a4, a5, a6], ?_⟩
      refine ⟨S, _, _, rfl, ?_, ?_, ?_⟩
      · first
          | exact ((HXB.out.setCell (Nat.le_refl _) _).setCell (by simp) _).setCell (by simp; omega) _
          | exact ((HX4.out.setCell (Nat.le_refl _) _).setCell (by simp) _).setCell (by simp; omega) _
      · intro h; omega
      · intro _; rfl
end Go.Proofs.YtnenjkngimfdgaaDoor
