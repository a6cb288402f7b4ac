/-
  bufio's Reader over impl's reader: what its reads give.
-/
import Derived.Test.YtnenjkngimfdgaaDoorIntOf
import Derived.Lib.AppendStr
import Derived.Laws.CopyRow
namespace Go.Proofs.YtnenjkngimfdgaaDoor
open Go.RowKit
set_option linter.unusedVariables false
set_option linter.unusedSimpArgs false

/-- 'copy(dst, src)' of bytes: dst in row g from place o on, src reads as l. -/
theorem run_copy_sl (w : World) (g o dLen dCap sLen sCap m : Nat) (ad : Addr) (l : List UInt8) (cur : Array Value) (t : TypeId)
    (hR : Row w g t cur) (hA : ∀ j (hj : j < l.length), w.cell? (ad.add j) = some (.int .u8 (l[j].toNat))) (hl : l.length = sLen) (hm : m = Nat.min sLen dLen) (hfit : o + m ≤ cur.size) :
    (Builtin.copy_ #[38, 38] 3 #[.slice (some ⟨g, o, none⟩) dLen dCap, .slice (some ad) sLen sCap]).run Tryd.prog w =
      .ok (goInt m) (w.setRow g (ovr cur o (bs (l.take m)))) := by
  have hml : m ≤ l.length := by rw [hl, hm]; exact Nat.min_le_left _ _
  have hlen : (bs (l.take m)).length = m := by rw [bs_length, List.length_take]; omega
  obtain ⟨i0, hi, hz0, hz1, hz2⟩ := info_parts info_u8
  obtain ⟨fz, hfz, hg⟩ := hR
  have hst := run_storeCells_row Tryd.prog g o t fz (bs (l.take m)) 0 cur w hg hfz (by rw [hlen]; simpa using hfit) (bs_oneCell _)
  rw [hlen] at hst
  simp only [Nat.add_zero] at hst
  have hld : (loadCells ad m).run Tryd.prog w = .ok (bs (l.take m)).toArray w := by
    have := run_loadCells_list (P := Tryd.prog) w ad (bs (l.take m)) (fun j v hj => by
      rw [bs_take, List.getElem?_take] at hj
      split at hj
      · have hj2 : j < l.length := by omega
        rw [bs_getElem?, List.getElem?_eq_getElem hj2] at hj
        rw [hA j hj2]
        simpa using hj
      · cases hj)
    rw [hlen] at this
    exact this
  have hu := Tryd.underlying38
  have hm2 : Nat.min sLen dLen = m := hm.symm
  simp [Builtin.copy_, run_underlying hu, Builtin.lenOf, Builtin.firstCells, sizeOf, typeInfo, hi, hz1, hm2, hld, hst, Result.andThen]
  unfold ovr
  rw [hlen, List.append_assoc]

/-- bufio's Reader in memory: bl is buffered, rest is in impl's reader below it. -/
structure BufAt (w : World) (B q g k : Nat) (bl rest : List UInt8) (f : Nat) (r : Nat) (lb ls : Value) (cur : Array Value) : Prop where
  blk : Blk w q 151 #[.slice (some ⟨k, 0, none⟩) 4096 4096, .iface 57 (.pointer (some ⟨g, 0, none⟩)), .int .i64 (r : Nat), .int .i64 ((r + bl.length : Nat)), .nilIface, lb, ls]
  buf : Row w k 5 cur
  size : cur.size = 4096
  fit : r + bl.length ≤ 4096
  cells : ∀ j (hj : j < bl.length), cur[r + j]? = some (.int .u8 (bl[j].toNat))
  rdr : Rdr w B g rest f
  qg : q ≠ g
  qk : q ≠ k
  gk : g ≠ k
  bq : B ≤ q
  bk : B ≤ k
/-- .. what is left in all, and how many reads at most. -/
def Buf (q g k B : Nat) (w : World) (left : List UInt8) (f : Nat) : Prop := ∃ bl rest f' r lb ls cur, BufAt w B q g k bl rest f' r lb ls cur ∧ left = bl ++ rest ∧ f' * 5000 + bl.length ≤ f

theorem BufAt.chg {w w' : World} {B q g k : Nat} {bl rest : List UInt8} {f r : Nat} {lb ls : Value} {cur : Array Value} {S : List Nat} (h : BufAt w B q g k bl rest f r lb ls cur) (hc : Chg S w w') (hS : ∀ i ∈ S, i ∉ [q, k, g] ∧ B ≤ i) : BufAt w' B q g k bl rest f r lb ls cur :=
  { blk := h.blk.chg hc (fun hm => by have := (hS _ hm).1; simp at this)
    buf := h.buf.chg hc (fun hm => by have := (hS _ hm).1; simp at this)
    size := h.size, fit := h.fit, cells := h.cells
    rdr := h.rdr.chg hc (fun hm => by have := (hS _ hm).1; simp at this) (fun i hi => (hS i hi).2)
    qg := h.qg, qk := h.qk, gk := h.gk, bq := h.bq, bk := h.bk }

theorem add0 (k j : Nat) : (⟨k, 0, none⟩ : Addr).add j = ⟨k, j, none⟩ := by unfold Addr.add; split <;> simp_all
theorem addr_add (k r j : Nat) : (⟨k, r, none⟩ : Addr).add j = ⟨k, r + j, none⟩ := by unfold Addr.add; split <;> simp_all

/-- Behind a read out of the buffer. -/
theorem bufHas_end {B q g k b o n m r : Nat} {bl rest : List UInt8} {f ff : Nat} {lb ls lb2 ls2 : Value} {cur cb : Array Value} {t : TypeId} {w W : World} (h : BufAt W B q g k bl rest f r lb ls cur) (hb : Row W b t cb) (hbS : b ∉ [q, k, g]) (hbB : B ≤ b) (hC : Chg (b :: [q, k, g]) w W)
    (hm0 : 0 < m) (hmn : m ≤ n) (hml : m ≤ bl.length) (hff : f * 5000 + bl.length ≤ ff) (hfit : o + n ≤ cb.size) :
    RedS (Buf q g k B) [q, k, g] w b o n t cb (bl ++ rest) ff (.returned (.tuple #[.int .i64 (m : Nat), .nilIface]))
      ((((W.setRow b (ovr cb o (bs (bl.take m)))).setCell ⟨q, 2, none⟩ (.int .i64 ((r + m : Nat) : Int))).setCell ⟨q, 5, none⟩ lb2).setCell ⟨q, 6, none⟩ ls2).drew := by
  have hqb : q ≠ b := fun e => hbS (by simp [e])
  have hkb : k ≠ b := fun e => hbS (by simp [e])
  have hgb : g ≠ b := fun e => hbS (by simp [e])
  have e1 : W.heap.size ≤ W.heap.size := Nat.le_refl _
  have hC2 : Chg (b :: [q, k, g]) W ((((W.setRow b (ovr cb o (bs (bl.take m)))).setCell ⟨q, 2, none⟩ (.int .i64 ((r + m : Nat) : Int))).setCell ⟨q, 5, none⟩ lb2).setCell ⟨q, 6, none⟩ ls2).drew :=
    (((((Chg.refl _ W).setRow (.inl (by simp)) _).setCell (.inl (by simp)) _).setCell (.inl (by simp)) _).setCell (.inl (by simp)) _).drew
  have hCq : Chg [b, q] W ((((W.setRow b (ovr cb o (bs (bl.take m)))).setCell ⟨q, 2, none⟩ (.int .i64 ((r + m : Nat) : Int))).setCell ⟨q, 5, none⟩ lb2).setCell ⟨q, 6, none⟩ ls2).drew :=
    (((((Chg.refl _ W).setRow (.inl (by simp)) _).setCell (.inl (by simp)) _).setCell (.inl (by simp)) _).setCell (.inl (by simp)) _).drew
  refine ⟨m, ff - m, hmn, by simp; omega, by omega, rfl, ⟨bl.drop m, rest, f, r + m, lb2, ls2, cur, ⟨?_, ?_, h.size, by rw [List.length_drop]; have := h.fit; omega, ?_, ?_, h.qg, h.qk, h.gk, h.bq, h.bk⟩, ?_, by rw [List.length_drop]; omega⟩, ?_, hC.trans hC2⟩
  · have h1 := ((((h.blk.setRow_far hqb (ovr cb o (bs (bl.take m)))).set_ 2 (.int .i64 ((r + m : Nat) : Int))).set_ 5 lb2).set_ 6 ls2).drew
    have e2 : r + m + (bl.drop m).length = r + bl.length := by rw [List.length_drop]; omega
    rw [e2]
    simpa using h1
  · exact h.buf.chg hCq (by simp [hkb, Ne.symm h.qk])
  · intro j hj
    rw [List.length_drop] at hj
    have := h.cells (m + j) (by omega)
    rw [← Nat.add_assoc] at this
    simpa using this
  · exact h.rdr.chg hCq (by simp [hgb, Ne.symm h.qg]) (by have := h.bq; simp; omega)
  · rw [List.drop_append_of_le_length hml]
  · have h1 := ((hb.setRow_ (ovr cb o (bs (bl.take m))) (ovr_size (by rw [bs_length, List.length_take]; omega))).far (p := ⟨q, 2, none⟩) (Ne.symm hqb) (.int .i64 ((r + m : Nat) : Int))).drew
    have h2 := (h1.far (p := ⟨q, 5, none⟩) (Ne.symm hqb) lb2).far (p := ⟨q, 6, none⟩) (Ne.symm hqb) ls2
    rw [List.take_append_of_le_length hml]
    exact h2

set_option maxRecDepth 100000 in
set_option maxHeartbeats 2000000 in
theorem bufRead_has (B q g k b o n cap r : Nat) (c : UInt8) (bl rest : List UInt8) (f ff : Nat) (lb ls : Value) (cur cb : Array Value) (t : TypeId) (w : World) (h : BufAt w B q g k (c :: bl) rest f r lb ls cur) (hb : Row w b t cb) (hbS : b ∉ [q, k, g]) (hbB : B ≤ b)
    (hfit : o + n ≤ cb.size) (hn : 0 < n) (hnc : n ≤ cap) (hff : f * 5000 + (c :: bl).length ≤ ff) :
    Calls Tryd.prog 106 #[.pointer (some ⟨q, 0, none⟩), .slice (some ⟨b, o, none⟩) n cap] w (RedS (Buf q g k B) [q, k, g] w b o n t cb ((c :: bl) ++ rest) ff) := by
  have hqb : q ≠ b := fun e => hbS (by simp [e])
  have hkb : k ≠ b := fun e => hbS (by simp [e])
  have hkq : k ≠ q := Ne.symm h.qk
  have hsz := h.size
  have hr4 := h.fit
  simp only [List.length_cons] at hr4
  obtain ⟨bn, hbn⟩ : ∃ bn, bn = bl.length + 1 := ⟨_, rfl⟩
  obtain ⟨wr, hwr⟩ : ∃ wr, wr = r + bn := ⟨_, rfl⟩
  obtain ⟨m, hm⟩ : ∃ m, m = Nat.min bn n := ⟨_, rfl⟩
  have hm0 : 0 < m := by rw [hm]; show 0 < min bn n; omega
  have hmn : m ≤ n := by rw [hm]; exact Nat.min_le_right _ _
  have hmb : m ≤ bn := by rw [hm]; exact Nat.min_le_left _ _
  obtain ⟨r2, hr2⟩ : ∃ r2, r2 = r + m := ⟨_, rfl⟩
  obtain ⟨r3, hr3⟩ : ∃ r3, r3 = r + m - 1 := ⟨_, rfl⟩
  have hblk := h.blk
  have ewr : r + (c :: bl).length = wr := by rw [hwr, hbn]; rfl
  rw [ewr] at hblk
  have c0 := hblk.cell 0
  have c2 := hblk.cell 2
  have c3 := hblk.cell 3
  have c4 := hblk.cell 4
  simp at c0 c2 c3 c4
  have f2 := hblk.frozen 2
  have f5 := hblk.frozen 5
  have f6 := hblk.frozen 6
  have hlast : ∃ x : Int, 0 ≤ x ∧ x ≤ 255 ∧ cur[r3]? = some (.int .u8 x) := by
    have := h.cells (m - 1) (by simp; omega)
    rw [show r + (m - 1) = r3 by omega] at this
    exact ⟨(((c :: bl)[m - 1]'(by simp; omega)).toNat : Int), by omega, by have := UInt8.toNat_lt ((c :: bl)[m - 1]'(by simp; omega)); omega, this⟩
  obtain ⟨x, hx0, hx1, hx⟩ := hlast
  have HCP : Hid (∀ W, Row W b t cb → Row W k 5 cur → (Builtin.copy_ #[38, 38] 3 #[.slice (some ⟨b, o, none⟩) n cap, .slice (some ⟨k, r, none⟩) bn (4096 - r)]).run Tryd.prog W = .ok (goInt m) (W.setRow b (ovr cb o (bs ((c :: bl).take m))))) := hide fun W h1 h2 =>
    run_copy_sl W b o n cap bn (4096 - r) m ⟨k, r, none⟩ (c :: bl) cb t h1 (fun j hj => by rw [addr_add, h2.cell]; exact h.cells j hj) (by simp [hbn]) hm (by omega)
  have END : Hid (∀ nq lb2 ls2, RedS (Buf q g k B) [q, k, g] w b o n t cb ((c :: bl) ++ rest) ff (.returned (.tuple #[.int .i64 (m : Nat), .nilIface]))
      ((((((w.drewN nq).drew.setRow b (ovr cb o (bs ((c :: bl).take m)))).setCell ⟨q, 2, none⟩ (.int .i64 (r2 : Int))).setCell ⟨q, 5, none⟩ lb2).setCell ⟨q, 6, none⟩ ls2).drew)) := hide fun nq lb2 ls2 => by
    rw [hr2]
    exact bufHas_end (h.chg (((Chg.refl [] w).drewN nq).drew) (by simp)) (hb.drewN nq).drew hbS hbB (((Chg.refl _ w).drewN nq).drew) hm0 hmn (by simp; omega) hff hfit
  have hn0 : ((n : Int) == 0) = false := by rw [beq_eq_false_iff_ne]; omega
  have hrw : ((r : Int) == (wr : Int)) = false := by rw [beq_eq_false_iff_ne]; omega
  have e2 : (r : Int) + (m : Int) = (r2 : Int) := by omega
  have e3 : (r2 : Int) - 1 = (r3 : Int) := by omega
  have e4 : wr - r = bn := by omega
  have i1 : (0 : Int) ≤ (r3 : Int) := by omega
  have i2 : (r3 : Int) < 4096 := by omega
  have i2n : r3 < 4096 := by omega
  have i3 : (r : Int) ≤ (wr : Int) := by omega
  have i4 : (wr : Int) ≤ 4096 := by omega
  have i4n : wr ≤ 4096 := by omega
  have i5 : r ≤ wr := by omega
  have i6 : ¬ r = 4096 := by omega
  have i7 : (r : Int) + (m : Int) ≤ 4096 := by omega
  have HBk := hide h.buf
  have HBq := hide hblk
  have HB := hide hb
  have HX := hide hx
  clear h hb hbS hsz hfit hnc hff hbn hwr hm hr2 hr3 ewr hx hblk
  go_enter Tryd.func106, Tryd.ntmps106
  go_wp2
  go_quiet (fail)
  have BB : Hid (Row (w.drewN nq).drew b t cb) := hide (HB.out.drewN nq).drew
  have BK : Hid (Row (w.drewN nq).drew k 5 cur) := hide (HBk.out.drewN nq).drew
  have BQ : Hid (Blk (w.drewN nq).drew q 151 _) := hide (HBq.out.drewN nq).drew
  have END2 := hide (END.out nq)
  have hcp := HCP.out _ BB.out BK.out
  generalize ovr cb o (bs ((c :: bl).take m)) = RW at END2 hcp
  have BQ2 := hide (BQ.out.setRow_far hqb RW)
  have BK2 := hide (BK.out.setRow_far hkb RW)
  have d2 := BQ2.out.cell 2
  have d0 := BQ2.out.cell 0
  have d5 := BQ2.out.cell 5
  have d6 := BQ2.out.cell 6
  have g2 := BQ2.out.frozen 2
  have g5 := BQ2.out.frozen 5
  have g6 := BQ2.out.frozen 6
  have dk := BK2.out.cell r3
  rw [HX.out] at dk
  simp only [List.getElem?_toArray, List.getElem?_cons_zero, List.getElem?_cons_succ] at d0 d2 d5 d6
  clear c0 c2 c3 c4 f2 f5 f6
  have c0 := (HBq.out.drewN nq).cell 0
  have c2 := (HBq.out.drewN nq).cell 2
  have c3 := (HBq.out.drewN nq).cell 3
  simp only [List.getElem?_toArray, List.getElem?_cons_zero, List.getElem?_cons_succ] at c0 c2 c3
  clear BB BK BQ END HCP HBk HBq HB HX BQ2 BK2
  generalize w.drewN nq = W0 at *
  go_wp2
  refine wp_region_quiet_tail 14 (by kernel_rfl) (by kernel_rfl) ?_
  simp only [List.take_succ_cons, List.take_zero, List.drop_succ_cons, List.drop_zero]
  repeat go_big_quiet_step (fail)
  refine wpQuiet_nil ?_
  go_wp2
  refine wp_region_quiet_tail 15 (by kernel_rfl) (by kernel_rfl) ?_
  simp only [List.take_succ_cons, List.take_zero, List.drop_succ_cons, List.drop_zero]
  repeat go_big_quiet_step (fail)
  refine wpQuiet_nil ?_
  go_wp2
  refine bodyPost_ret (v := .tuple #[.int .i64 (m : Nat), .nilIface]) (by simp [results, Tryd.results106, go_sem]) rfl ?_
  exact END2.out _ _

theorem redS_mono {R : World → List UInt8 → Nat → Prop} {S : List Nat} {w : World} {b o n : Nat} {t : TypeId} {cur : Array Value} {left : List UInt8} {f f2 : Nat} {e : Ending} {w' : World} (h : RedS R S w b o n t cur left f e w') (hf : f ≤ f2) : RedS R S w b o n t cur left f2 e w' := by
  obtain ⟨m, f', h1, h2, h3, h4⟩ := h
  exact ⟨m, f', h1, h2, by omega, h4⟩

set_option maxRecDepth 100000 in
theorem readErr_any (q : Nat) (v : Value) (w : World) (h : w.cell? ⟨q, 4, none⟩ = some v) (hf : w.frozen? ⟨q, 4, none⟩ = false) :
    Calls Tryd.prog 109 #[.pointer (some ⟨q, 0, none⟩)] w fun e w' => e = .returned v ∧ w.setCell ⟨q, 4, none⟩ .nilIface = w' := by
  go_enter Tryd.func109, Tryd.ntmps109
  go_wp2
  go_ret
  exact ⟨rfl, rfl⟩

/-- The reader below is at its end. -/
theorem bufEnd_end {B q g k : Nat} {f : Nat} {r : Nat} {lb ls : Value} {cur : Array Value} {ad : Addr} {w W : World} (h : BufAt W B q g k [] [] f r lb ls cur) (hC : Chg [q, k, g] w W) (r2 : Nat) (hr2 : r2 ≤ 4096) :
    EofS (Buf q g k B) [q, k, g] w ad (.returned (.tuple #[.int .i64 0, .iface 146 (.pointer (some ad))])) W :=
  ⟨f * 5000 + 0, rfl, ⟨[], [], f, r, lb, ls, cur, h, rfl, Nat.le_refl _⟩, hC⟩

set_option maxRecDepth 100000 in
set_option maxHeartbeats 4000000 in
/-- Nothing is buffered, and p is great: the reader below reads into p. -/
theorem bufRead_great (B q g k b o n cap r : Nat) (rest : List UInt8) (f ff : Nat) (lb ls : Value) (cur cb : Array Value) (t : TypeId) (w : World) (c : UInt8) (h : BufAt w B q g k [] (c :: rest) f r lb ls cur) (hb : Row w b t cb) (hbS : b ∉ [q, k, g]) (hbB : B ≤ b)
    (hfit : o + n ≤ cb.size) (hn : 4096 ≤ n) (hnc : n ≤ cap) (hcm : n ≤ 1099511627776) (hff : f * 5000 ≤ ff) :
    Calls Tryd.prog 106 #[.pointer (some ⟨q, 0, none⟩), .slice (some ⟨b, o, none⟩) n cap] w (RedS (Buf q g k B) [q, k, g] w b o n t cb (c :: rest) ff) := by
  have hqb : q ≠ b := fun e => hbS (by simp [e])
  have hkb : k ≠ b := fun e => hbS (by simp [e])
  have hgb : g ≠ b := fun e => hbS (by simp [e])
  have hblk := h.blk
  simp only [List.length_nil, Nat.add_zero] at hblk
  have c0 := hblk.cell 0
  have c1 := hblk.cell 1
  have c2 := hblk.cell 2
  have c3 := hblk.cell 3
  have c4 := hblk.cell 4
  simp at c0 c1 c2 c3 c4
  have hnil := (src_reader B g ⟨0, 0, none⟩ h.rdr.le).nil
  have hmeth := (src_reader B g ⟨0, 0, none⟩ h.rdr.le).meth
  have hn0 : ((n : Int) == 0) = false := by rw [beq_eq_false_iff_ne]; omega
  have hrr : ((r : Int) == (r : Int)) = true := by simp
  have hge : (4096 : Int) ≤ (n : Int) := by omega
  have CALL : Hid (∀ nq, Calls Tryd.prog 88 #[.pointer (some ⟨g, 0, none⟩), .slice (some ⟨b, o, none⟩) n cap] (w.drewN nq) (RedS (fun w l f => Rdr w B g l f) [g] (w.drewN nq) b o n t cb (c :: rest) f)) := hide fun nq =>
    (src_reader B g ⟨0, 0, none⟩ h.rdr.le).step _ _ _ _ _ _ _ _ _ _ (h.rdr.chg ((Chg.refl [] w).drewN nq) (by simp) (by simp)) (hb.drewN nq) (by simpa using Ne.symm hgb) hbB hfit (by omega) hnc hcm
  have ONE : Hid (∀ nq w1, Chg [b, g] (w.drewN nq) w1 → Blk w1 q 151 #[.slice (some ⟨k, 0, none⟩) 4096 4096, .iface 57 (.pointer (some ⟨g, 0, none⟩)), .int .i64 (r : Nat), .int .i64 (r : Nat), .nilIface, lb, ls]) := hide fun nq w1 hc =>
    (hblk.drewN nq).chg hc (by simp [hqb, h.qg])
  have END : Hid (∀ nq w1 m f' lb2 ls2, Chg [b, g] (w.drewN nq) w1 → Rdr w1 B g ((c :: rest).drop m) f' → Row w1 b t (ovr cb o (bs ((c :: rest).take m))) → m ≤ n → m ≤ (c :: rest).length → f' < f → ∀ W, Blk W q 151 #[.slice (some ⟨k, 0, none⟩) 4096 4096, .iface 57 (.pointer (some ⟨g, 0, none⟩)), .int .i64 (r : Nat), .int .i64 (r : Nat), .nilIface, lb2, ls2] → Chg [q] w1 W →
      RedS (Buf q g k B) [q, k, g] w b o n t cb (c :: rest) ff (.returned (.tuple #[.int .i64 (m : Nat), .nilIface])) W) := hide fun nq w1 m f' lb2 ls2 hc hR hB hmn hml hf W hq hcW => by
    have hcA : Chg [b, g, q] (w.drewN nq) W := (hc.more (by simp)).trans (hcW.more (by simp))
    refine ⟨m, f' * 5000, hmn, hml, by omega, rfl, ⟨[], _, f', r, lb2, ls2, cur, ⟨by simpa using hq, (h.buf.drewN nq).chg hcA (by simp [hkb, Ne.symm h.gk, Ne.symm h.qk]), h.size, by have := h.fit; simpa using this, by simp, hR.chg hcW (by simp [Ne.symm h.qg]) (by simpa using h.bq), h.qg, h.qk, h.gk, h.bq, h.bk⟩, rfl, by simp⟩, hB.chg hcW (by simp [Ne.symm hqb]), ?_⟩
    exact (((Chg.refl _ w).drewN nq).trans (hcA.more (by simp)))
  have LB : Hid (∀ w1 m, Row w1 b t (ovr cb o (bs ((c :: rest).take m))) → m ≤ n → m ≤ (c :: rest).length → 0 < m → ∃ x : Int, 0 ≤ x ∧ x ≤ 255 ∧ w1.cell? ⟨b, o + (m - 1), none⟩ = some (.int .u8 x)) := hide fun w1 m hB hmn hml h0 => by
    refine ⟨(((c :: rest)[m - 1]'(by omega)).toNat : Int), by omega, by have := UInt8.toNat_lt ((c :: rest)[m - 1]'(by omega)); omega, ?_⟩
    rw [hB.cell, ovr_in (by rw [bs_length, List.length_take]; omega) (by rw [bs_length, List.length_take]; omega), bs_getElem?, List.getElem?_take, if_pos (by omega), List.getElem?_eq_getElem (by omega)]
    rfl
  clear h hb hbS hfit hff hblk
  go_enter Tryd.func106, Tryd.ntmps106
  go_wp2
  go_quiet (fail)
  go_wp2_with fail
  refine (CALL.out nq).mono ?_
  rintro e w1 ⟨m, f', hmn, hml, hf, rfl, hR, hB, hC⟩
  have B1 := hide (ONE.out nq w1 hC)
  have c4 := B1.out.cell 4
  have c5 := B1.out.cell 5
  have c6 := B1.out.cell 6
  have f4 := B1.out.frozen 4
  have f5 := B1.out.frozen 5
  have f6 := B1.out.frozen 6
  simp at c4 c5 c6
  have END2 := hide (fun lb2 ls2 W => END.out nq w1 m f' lb2 ls2 hC hR hB hmn hml hf W)
  have LB2 := hide (LB.out w1 m hB hmn hml)
  have hm2 : (m : Int) ≤ (n : Int) := by omega
  clear END CALL ONE LB hR hB hC hml
  by_cases hm0 : 0 < m
  · obtain ⟨x, hx0, hx1, hx⟩ := LB2.out hm0
    obtain ⟨m1, hm1⟩ : ∃ m1, m1 = m - 1 := ⟨_, rfl⟩
    rw [← hm1] at hx
    have e1 : (m : Int) - 1 = (m1 : Int) := by omega
    have i1 : (m1 : Int) < (n : Int) := by omega
    have i1n : m1 < n := by omega
    clear hm1
    go_wp2_with fail
    refine (readErr_any q .nilIface _ (by simp [go_sem, c4]) (by simp [go_sem, f4])).mono ?_
    rintro e w2 ⟨rfl, rfl⟩
    go_wp2
    refine bodyPost_ret (v := .tuple #[.int .i64 (m : Nat), .nilIface]) (by simp [results, Tryd.results106, go_sem]) rfl ?_
    refine END2.out (.int .i64 x) (.int .i64 (-1)) _ ?_ ?_
    · have := (((B1.out.set_ 4 .nilIface).set_ 5 (.int .i64 x)).set_ 6 (.int .i64 (-1))).set_ 4 .nilIface
      simpa using this
    · exact (((((Chg.refl _ _).setCell (.inl (by simp)) _).setCell (.inl (by simp)) _).setCell (.inl (by simp)) _).setCell (.inl (by simp)) _)
  · obtain rfl : m = 0 := by omega
    go_wp2_with fail
    refine (readErr_any q .nilIface _ (by simp [go_sem, c4]) (by simp [go_sem, f4])).mono ?_
    rintro e w2 ⟨rfl, rfl⟩
    go_wp2
    refine bodyPost_ret (v := .tuple #[.int .i64 0, .nilIface]) (by simp [results, Tryd.results106, go_sem]) rfl ?_
    refine END2.out lb ls _ ?_ ?_
    · have := (B1.out.set_ 4 .nilIface).set_ 4 .nilIface
      simpa using this
    · exact (((Chg.refl _ _).setCell (.inl (by simp)) _).setCell (.inl (by simp)) _)


set_option maxRecDepth 100000 in
set_option maxHeartbeats 4000000 in
/-- Nothing is buffered and nothing is left below: io.EOF. -/
theorem bufRead_end (B q g k r n cap : Nat) (A : Option Addr) (f : Nat) (lb ls : Value) (cur : Array Value) (w : World) (ad : Addr) (h : BufAt w B q g k [] [] f r lb ls cur) (hE : EofAt w B ad) (hn : 0 < n) :
    Calls Tryd.prog 106 #[.pointer (some ⟨q, 0, none⟩), .slice A n cap] w (EofS (Buf q g k B) [q, k, g] w ad) := by
  have hblk := h.blk
  simp only [List.length_nil, Nat.add_zero] at hblk
  have c0 := hblk.cell 0
  have c1 := hblk.cell 1
  have c2 := hblk.cell 2
  have c3 := hblk.cell 3
  have c4 := hblk.cell 4
  have f2 := hblk.frozen 2
  have f3 := hblk.frozen 3
  simp at c0 c1 c2 c3 c4
  have hnil := (src_reader B g ad h.rdr.le).nil
  have hmeth := (src_reader B g ad h.rdr.le).meth
  have hn0 : ((n : Int) == 0) = false := by rw [beq_eq_false_iff_ne]; omega
  have hrr : ((r : Int) == (r : Int)) = true := by simp
  have CALL : Hid (∀ W A n cap, Chg [q] w W → Calls Tryd.prog 88 #[.pointer (some ⟨g, 0, none⟩), .slice A n cap] W (fun e w' => e = .returned (.tuple #[.int .i64 0, .iface 146 (.pointer (some ad))]) ∧ Chg [] W w')) := hide fun W A n cap hc =>
    read_end .nilIface B g f ad W (h.rdr.chg hc (by simp [Ne.symm h.qg]) (by simpa using h.bq)) (hE.chg hc (by simpa using h.bq)) A n cap
  by_cases hg : 4096 ≤ n
  · have hge : (4096 : Int) ≤ (n : Int) := by omega
    have END : Hid (∀ w1 nq, Chg [] (w.drewN nq) w1 → Blk w1 q 151 #[.slice (some ⟨k, 0, none⟩) 4096 4096, .iface 57 (.pointer (some ⟨g, 0, none⟩)), .int .i64 (r : Nat), .int .i64 (r : Nat), .nilIface, lb, ls] ∧ (∀ W, Blk W q 151 #[.slice (some ⟨k, 0, none⟩) 4096 4096, .iface 57 (.pointer (some ⟨g, 0, none⟩)), .int .i64 (r : Nat), .int .i64 (r : Nat), .nilIface, lb, ls] → Chg [q] w1 W →
        EofS (Buf q g k B) [q, k, g] w ad (.returned (.tuple #[.int .i64 0, .iface 146 (.pointer (some ad))])) W)) := hide fun w1 nq hc => by
      refine ⟨(hblk.drewN nq).chg hc (by simp), fun W hq hcW => ?_⟩
      have hA : Chg [q] w W := (((Chg.refl [q] w).drewN nq).trans (hc.more (by simp))).trans hcW
      exact bufEnd_end (lb := lb) (ls := ls) (cur := cur) ⟨by simpa using hq, h.buf.chg hA (by simp [Ne.symm h.qk]), h.size, h.fit, h.cells, h.rdr.chg hA (by simp [Ne.symm h.qg]) (by simpa using h.bq), h.qg, h.qk, h.gk, h.bq, h.bk⟩ (hA.more (by simp)) 0 (by omega)
    clear h hE hblk
    go_enter Tryd.func106, Tryd.ntmps106
    go_wp2
    go_quiet (fail)
    go_wp2_with fail
    refine (CALL.out _ _ _ _ ((Chg.refl _ _).drewN nq)).mono ?_
    rintro e w1 ⟨rfl, hc⟩
    obtain ⟨hB1, hE1⟩ := END.out w1 nq hc
    have B1 := hide hB1
    have E1 := hide hE1
    have c4 := hB1.cell 4
    have f4 := hB1.frozen 4
    simp at c4
    clear hB1 hE1 END CALL hc
    go_wp2_with fail
    refine (readErr_any q (.iface 146 (.pointer (some ad))) _ (by simp [go_sem, c4]) (by simp [go_sem, f4])).mono ?_
    rintro e w2 ⟨rfl, rfl⟩
    go_wp2
    refine bodyPost_ret (v := .tuple #[.int .i64 0, .iface 146 (.pointer (some ad))]) (by simp [results, Tryd.results106, go_sem]) rfl ?_
    refine E1.out _ ?_ ?_
    · have := (B1.out.set_ 4 (.iface 146 (.pointer (some ad)))).set_ 4 .nilIface
      simpa using this
    · exact (((Chg.refl _ _).setCell (.inl (by simp)) _).setCell (.inl (by simp)) _)
  · have hge : ¬ (4096 : Int) ≤ (n : Int) := by omega
    have hblk0 : ∀ nq, Blk (((w.drewN nq).setCell ⟨q, 2, none⟩ (.int .i64 0)).setCell ⟨q, 3, none⟩ (.int .i64 0)) q 151 #[.slice (some ⟨k, 0, none⟩) 4096 4096, .iface 57 (.pointer (some ⟨g, 0, none⟩)), .int .i64 0, .int .i64 0, .nilIface, lb, ls] := fun nq => by
      have := ((hblk.drewN nq).set_ 2 (.int .i64 0)).set_ 3 (.int .i64 0)
      simpa using this
    have HBLK := hide hblk0
    have CALL2 : Hid (∀ nq W, W = (((w.drewN nq).setCell ⟨q, 2, none⟩ (.int .i64 0)).setCell ⟨q, 3, none⟩ (.int .i64 0)).drew → Calls Tryd.prog 88 #[.pointer (some ⟨g, 0, none⟩), .slice (some ⟨k, 0, none⟩) 4096 4096] W (fun e w' => e = .returned (.tuple #[.int .i64 0, .iface 146 (.pointer (some ad))]) ∧
        w'.cell? ⟨q, 4, none⟩ = some .nilIface ∧ w'.frozen? ⟨q, 4, none⟩ = false ∧ Hid (Chg [] W w'))) := hide fun nq W hW => by
      subst hW
      refine (CALL.out _ _ _ _ (((((Chg.refl [q] w).drewN nq).setCell (.inl (by simp)) _).setCell (.inl (by simp)) _).drew)).mono ?_
      rintro e w' ⟨h1, h2⟩
      have hb := ((HBLK.out nq).drew).chg h2 (by simp)
      refine ⟨h1, ?_, hb.frozen 4, hide h2⟩
      have := hb.cell 4
      simpa using this
    have END : Hid (∀ w1 nq, Hid (Chg [] ((((w.drewN nq).setCell ⟨q, 2, none⟩ (.int .i64 0)).setCell ⟨q, 3, none⟩ (.int .i64 0)).drew) w1) → Blk w1 q 151 #[.slice (some ⟨k, 0, none⟩) 4096 4096, .iface 57 (.pointer (some ⟨g, 0, none⟩)), .int .i64 0, .int .i64 0, .nilIface, lb, ls] ∧ (∀ W, Blk W q 151 #[.slice (some ⟨k, 0, none⟩) 4096 4096, .iface 57 (.pointer (some ⟨g, 0, none⟩)), .int .i64 0, .int .i64 0, .nilIface, lb, ls] → Chg [q] w1 W →
        EofS (Buf q g k B) [q, k, g] w ad (.returned (.tuple #[.int .i64 0, .iface 146 (.pointer (some ad))])) W)) := hide fun w1 nq hc => by
      have hc := hc.out
      refine ⟨((HBLK.out nq).drew).chg hc (by simp), fun W hq hcW => ?_⟩
      have hA : Chg [q] w W := (((((Chg.refl [q] w).drewN nq).setCell (.inl (by simp)) _).setCell (.inl (by simp)) _).drew.trans (hc.more (by simp))).trans hcW
      exact bufEnd_end (r := 0) (lb := lb) (ls := ls) (cur := cur) ⟨by simpa using hq, h.buf.chg hA (by simp [Ne.symm h.qk]), h.size, by simp, by simp, h.rdr.chg hA (by simp [Ne.symm h.qg]) (by simpa using h.bq), h.qg, h.qk, h.gk, h.bq, h.bk⟩ (hA.more (by simp)) 0 (by omega)
    clear h hE hblk hblk0
    go_enter Tryd.func106, Tryd.ntmps106
    go_wp2
    go_quiet (fail)
    go_wp2
    have CALL3 := hide (CALL2.out nq)
    have END3 := hide (fun w1 => END.out w1 nq)
    have e0 := (HBLK.out nq).cell 0
    have e1 := (HBLK.out nq).cell 1
    simp only [List.getElem?_toArray, List.getElem?_cons_zero, List.getElem?_cons_succ] at e0 e1
    clear CALL CALL2 END HBLK c0 c1 c2 c3 c4 f2 f3
    generalize ((w.drewN nq).setCell ⟨q, 2, none⟩ (.int .i64 0)).setCell ⟨q, 3, none⟩ (.int .i64 0) = W0 at *
    go_region_with (first | (go_at_call 88; refine (CALL3.out _ rfl).mono ?_; rintro e w1 ⟨rfl, d4, g4, hX⟩))
    all_goals
      clear CALL3
      obtain ⟨hB1, hE1⟩ := END3.out _ hX
      have B1 := hide hB1
      have E1 := hide hE1
      clear hB1 hE1 END3 hX
      go_wp2_with fail
      refine (readErr_any q (.iface 146 (.pointer (some ad))) _ (by simp [go_sem, d4]) (by simp [go_sem, g4])).mono ?_
      rintro e w2 ⟨rfl, rfl⟩
      go_wp2
      refine bodyPost_ret (v := .tuple #[.int .i64 0, .iface 146 (.pointer (some ad))]) (by simp [results, Tryd.results106, go_sem]) rfl ?_
      refine E1.out _ ?_ ?_
      · have := (B1.out.set_ 4 (.iface 146 (.pointer (some ad)))).set_ 4 .nilIface
        simpa using this
      · exact (((Chg.refl _ _).setCell (.inl (by simp)) _).setCell (.inl (by simp)) _)

/-- What the reader below gives into the buffer, and bufio's own block behind it. -/
def Got (B q g k : Nat) (rest : List UInt8) (f : Nat) (lb ls : Value) (cur : Array Value) (W : World) (e : Ending) (w' : World) : Prop :=
  ∃ m f', m ≤ 4096 ∧ m ≤ rest.length ∧ f' < f ∧ e = .returned (.tuple #[.int .i64 (m : Nat), .nilIface]) ∧ w'.cell? ⟨q, 4, none⟩ = some .nilIface ∧ w'.frozen? ⟨q, 4, none⟩ = false ∧
    Hid (Rdr w' B g (rest.drop m) f' ∧ Row w' k 5 (ovr cur 0 (bs (rest.take m))) ∧ Chg [k, g] W w' ∧
      Blk w' q 151 #[.slice (some ⟨k, 0, none⟩) 4096 4096, .iface 57 (.pointer (some ⟨g, 0, none⟩)), .int .i64 0, .int .i64 0, .nilIface, lb, ls])

set_option maxRecDepth 100000 in
set_option maxHeartbeats 4000000 in
/-- Nothing is buffered, p is small: the reader below reads into the buffer. -/
theorem bufRead_fill (B q g k b o n cap r : Nat) (rest : List UInt8) (f ff : Nat) (lb ls : Value) (cur cb : Array Value) (t : TypeId) (w : World) (c : UInt8) (h : BufAt w B q g k [] (c :: rest) f r lb ls cur) (hb : Row w b t cb) (hbS : b ∉ [q, k, g]) (hbB : B ≤ b)
    (hfit : o + n ≤ cb.size) (hn : 0 < n) (hn2 : n < 4096) (hnc : n ≤ cap) (hff : f * 5000 ≤ ff) :
    Calls Tryd.prog 106 #[.pointer (some ⟨q, 0, none⟩), .slice (some ⟨b, o, none⟩) n cap] w (RedS (Buf q g k B) [q, k, g] w b o n t cb (c :: rest) ff) := by
  have hqb : q ≠ b := fun e => hbS (by simp [e])
  have hkb : k ≠ b := fun e => hbS (by simp [e])
  have hgb : g ≠ b := fun e => hbS (by simp [e])
  have hkq : k ≠ q := Ne.symm h.qk
  have hblk := h.blk
  simp only [List.length_nil, Nat.add_zero] at hblk
  have c0 := hblk.cell 0
  have c1 := hblk.cell 1
  have c2 := hblk.cell 2
  have c3 := hblk.cell 3
  have c4 := hblk.cell 4
  have f2 := hblk.frozen 2
  have f3 := hblk.frozen 3
  simp at c0 c1 c2 c3 c4
  have hnil := (src_reader B g ⟨0, 0, none⟩ h.rdr.le).nil
  have hmeth := (src_reader B g ⟨0, 0, none⟩ h.rdr.le).meth
  have hn0 : ((n : Int) == 0) = false := by rw [beq_eq_false_iff_ne]; omega
  have hrr : ((r : Int) == (r : Int)) = true := by simp
  have hge : ¬ (4096 : Int) ≤ (n : Int) := by omega
  have hblk0 : ∀ nq, Blk (((w.drewN nq).setCell ⟨q, 2, none⟩ (.int .i64 0)).setCell ⟨q, 3, none⟩ (.int .i64 0)) q 151 #[.slice (some ⟨k, 0, none⟩) 4096 4096, .iface 57 (.pointer (some ⟨g, 0, none⟩)), .int .i64 0, .int .i64 0, .nilIface, lb, ls] := fun nq => by
    have := ((hblk.drewN nq).set_ 2 (.int .i64 0)).set_ 3 (.int .i64 0)
    simpa using this
  have HBLK := hide hblk0
  have hC0 : ∀ nq, Chg [q] w (((w.drewN nq).setCell ⟨q, 2, none⟩ (.int .i64 0)).setCell ⟨q, 3, none⟩ (.int .i64 0)).drew := fun nq => ((((Chg.refl [q] w).drewN nq).setCell (.inl (by simp)) _).setCell (.inl (by simp)) _).drew
  have CALL2 : Hid (∀ nq W, W = (((w.drewN nq).setCell ⟨q, 2, none⟩ (.int .i64 0)).setCell ⟨q, 3, none⟩ (.int .i64 0)).drew → Calls Tryd.prog 88 #[.pointer (some ⟨g, 0, none⟩), .slice (some ⟨k, 0, none⟩) 4096 4096] W (Got B q g k (c :: rest) f lb ls cur W)) := hide fun nq W hW => by
    subst hW
    refine ((src_reader B g ⟨0, 0, none⟩ h.rdr.le).step _ _ _ _ _ _ _ _ _ _ (h.rdr.chg (hC0 nq) (by simp [Ne.symm h.qg]) (by simpa using h.bq)) (h.buf.chg (hC0 nq) (by simp [hkq])) (by simpa using Ne.symm h.gk) h.bk (by rw [h.size]; omega) (by omega) (Nat.le_refl _) (by omega)).mono ?_
    rintro e w' ⟨m, f', h1, h2, h3, h4, h5, h6, h7⟩
    have hb := ((HBLK.out nq).drew).chg h7 (by simp [h.qk, h.qg])
    have hc4 := hb.cell 4
    exact ⟨m, f', h1, h2, h3, h4, by simpa using hc4, hb.frozen 4, hide ⟨h5, h6, h7, hb⟩⟩
  -- no byte came
  have ZERO : Hid (∀ nq w1 f', f' < f → Hid (Rdr w1 B g ((c :: rest).drop 0) f' ∧ Row w1 k 5 (ovr cur 0 (bs ((c :: rest).take 0))) ∧ Chg [k, g] (((w.drewN nq).setCell ⟨q, 2, none⟩ (.int .i64 0)).setCell ⟨q, 3, none⟩ (.int .i64 0)).drew w1 ∧
      Blk w1 q 151 #[.slice (some ⟨k, 0, none⟩) 4096 4096, .iface 57 (.pointer (some ⟨g, 0, none⟩)), .int .i64 0, .int .i64 0, .nilIface, lb, ls]) →
      RedS (Buf q g k B) [q, k, g] w b o n t cb (c :: rest) ff (.returned (.tuple #[.int .i64 0, .nilIface])) ((w1.setCell ⟨q, 4, none⟩ .nilIface).setCell ⟨q, 4, none⟩ .nilIface)) := hide fun nq w1 f' hf hH => by
    obtain ⟨hR, hB, hC, hq⟩ := hH.out
    have hcW : Chg [q] w1 ((w1.setCell ⟨q, 4, none⟩ .nilIface).setCell ⟨q, 4, none⟩ .nilIface) := (((Chg.refl _ _).setCell (.inl (by simp)) _).setCell (.inl (by simp)) _)
    have hA : Chg [q, k, g] w w1 := ((hC0 nq).more (by simp)).trans (hC.more (by simp))
    rw [show bs ((c :: rest).take 0) = [] from rfl, ovr_nil] at hB
    refine ⟨0, f' * 5000, by omega, by simp, by omega, rfl, ⟨[], c :: rest, f', 0, lb, ls, cur, ⟨?_, hB.chg hcW (by simp [hkq]), h.size, by simp, by simp, (by simpa using hR.chg hcW (by simp [Ne.symm h.qg]) (by simpa using h.bq)), h.qg, h.qk, h.gk, h.bq, h.bk⟩, rfl, by simp⟩, ?_, (hA.trans (hcW.more (by simp))).more (by simp)⟩
    · have := (hq.set_ 4 .nilIface).set_ 4 .nilIface
      simpa using this
    · rw [show bs ((c :: rest).take 0) = [] from rfl, ovr_nil]
      exact (hb.chg hA hbS).chg hcW (by simp [Ne.symm hqb])
  -- some bytes came
  have SOME : Hid (∀ nq w1 m f', 0 < m → m ≤ 4096 → m ≤ (c :: rest).length → f' < f → Hid (Rdr w1 B g ((c :: rest).drop m) f' ∧ Row w1 k 5 (ovr cur 0 (bs ((c :: rest).take m))) ∧ Chg [k, g] (((w.drewN nq).setCell ⟨q, 2, none⟩ (.int .i64 0)).setCell ⟨q, 3, none⟩ (.int .i64 0)).drew w1 ∧
      Blk w1 q 151 #[.slice (some ⟨k, 0, none⟩) 4096 4096, .iface 57 (.pointer (some ⟨g, 0, none⟩)), .int .i64 0, .int .i64 0, .nilIface, lb, ls]) →
      ∀ W, W = (w1.setCell ⟨q, 4, none⟩ .nilIface).setCell ⟨q, 3, none⟩ (.int .i64 (m : Nat)) → BufAt W B q g k ((c :: rest).take m) ((c :: rest).drop m) f' 0 lb ls (ovr cur 0 (bs ((c :: rest).take m))) ∧ Row W b t cb ∧ Chg (b :: [q, k, g]) w W) := hide fun nq w1 m f' h0 hm4 hml hf hH W hW => by
    subst hW
    obtain ⟨hR, hB, hC, hq⟩ := hH.out
    have hcW : Chg [q] w1 ((w1.setCell ⟨q, 4, none⟩ .nilIface).setCell ⟨q, 3, none⟩ (.int .i64 (m : Nat))) := (((Chg.refl _ _).setCell (.inl (by simp)) _).setCell (.inl (by simp)) _)
    have hA : Chg [q, k, g] w w1 := ((hC0 nq).more (by simp)).trans (hC.more (by simp))
    have hlen : ((c :: rest).take m).length = m := by rw [List.length_take]; omega
    refine ⟨⟨?_, hB.chg hcW (by simp [hkq]), by rw [ovr_size (by rw [bs_length, hlen, h.size]; omega)]; exact h.size, by rw [hlen]; omega, ?_, hR.chg hcW (by simp [Ne.symm h.qg]) (by simpa using h.bq), h.qg, h.qk, h.gk, h.bq, h.bk⟩, (hb.chg hA hbS).chg hcW (by simp [Ne.symm hqb]), (hA.trans (hcW.more (by simp))).more (by simp)⟩
    · have := (hq.set_ 4 .nilIface).set_ 3 (.int .i64 (m : Nat))
      rw [hlen, Nat.zero_add]
      simpa using this
    · intro j hj
      rw [ovr_in (by rw [bs_length, hlen, h.size]; omega) (by rw [bs_length]; exact hj), bs_getElem?, List.getElem?_eq_getElem hj]
      rfl
  have HFF := hide hff
  have HFIT := hide hfit
  have HBS := hide hbS
  clear h hblk hblk0 hC0 hb hff hfit hbS
  go_enter Tryd.func106, Tryd.ntmps106
  go_wp2
  go_quiet (fail)
  go_wp2
  have CALL3 := hide (CALL2.out nq)
  have ZERO2 := hide (ZERO.out nq)
  have SOME2 := hide (SOME.out nq)
  have e0 := (HBLK.out nq).cell 0
  have e1 := (HBLK.out nq).cell 1
  simp only [List.getElem?_toArray, List.getElem?_cons_zero, List.getElem?_cons_succ] at e0 e1
  clear CALL2 ZERO SOME HBLK c0 c1 c2 c3 c4 f2 f3
  generalize ((w.drewN nq).setCell ⟨q, 2, none⟩ (.int .i64 0)).setCell ⟨q, 3, none⟩ (.int .i64 0) = W0 at *
  go_region_with (first | (go_at_call 88; refine (CALL3.out _ rfl).mono ?_; rintro e w1 ⟨m, f', hm4, hml, hf, rfl, d4, g4, hX⟩))
  all_goals
    clear CALL3
    by_cases hm0 : m = 0
    · subst hm0
      have Z := hide (ZERO2.out w1 f' hf hX)
      clear ZERO2 SOME2 hX hml
      go_wp2_with fail
      refine (readErr_any q .nilIface _ (by simp [go_sem, d4]) (by simp [go_sem, g4])).mono ?_
      rintro e w2 ⟨rfl, rfl⟩
      go_wp2
      refine bodyPost_ret (v := .tuple #[.int .i64 0, .nilIface]) (by simp [results, Tryd.results106, go_sem]) rfl ?_
      exact Z.out
    · obtain ⟨mm, hmm⟩ : ∃ mm, mm = Nat.min m n := ⟨_, rfl⟩
      have hmp : 0 < m := Nat.pos_of_ne_zero hm0
      have hmm0 : 0 < mm := by rw [hmm]; show 0 < min m n; omega
      have hmmn : mm ≤ n := by rw [hmm]; exact Nat.min_le_right _ _
      have hmmm : mm ≤ m := by rw [hmm]; exact Nat.min_le_left _ _
      obtain ⟨r3, hr3⟩ : ∃ r3, r3 = mm - 1 := ⟨_, rfl⟩
      obtain ⟨hA, hbW, hCW⟩ := SOME2.out w1 m f' hmp hm4 hml hf hX _ rfl
      have hq1 := hX.out.2.2.2
      have d2 := hq1.cell 2
      have d3 := hq1.cell 3
      have d0 := hq1.cell 0
      have d5 := hq1.cell 5
      have d6 := hq1.cell 6
      have k2 := hq1.frozen 2
      have k3 := hq1.frozen 3
      have k5 := hq1.frozen 5
      have k6 := hq1.frozen 6
      simp only [List.getElem?_toArray, List.getElem?_cons_zero, List.getElem?_cons_succ] at d0 d2 d3 d5 d6
      have hlen : ((c :: rest).take m).length = m := by rw [List.length_take]; omega
      obtain ⟨Wz, hWz⟩ : ∃ Wz, Wz = (w1.setCell ⟨q, 4, none⟩ .nilIface).setCell ⟨q, 3, none⟩ (.int .i64 (m : Nat)) := ⟨_, rfl⟩
      rw [← hWz] at hA hbW hCW
      have hlast : ∃ x : Int, 0 ≤ x ∧ x ≤ 255 ∧ (ovr cur 0 (bs ((c :: rest).take m)))[r3]? = some (.int .u8 x) := by
        have := hA.cells r3 (by rw [hlen]; omega)
        rw [Nat.zero_add] at this
        exact ⟨((((c :: rest).take m)[r3]'(by rw [hlen]; omega)).toNat : Int), by omega, by have := UInt8.toNat_lt (((c :: rest).take m)[r3]'(by rw [hlen]; omega)); omega, this⟩
      obtain ⟨x, hx0, hx1, hx⟩ := hlast
      have hcp := run_copy_sl Wz.drew b o n cap m 4096 mm ⟨k, 0, none⟩ ((c :: rest).take m) cb t hbW.drew (fun j hj => by
        rw [addr_add, hA.buf.drew.cell]
        exact hA.cells j hj) hlen hmm (by have := HFIT.out; omega)
      have hE := fun lb2 ls2 => bufHas_end (o := o) (n := n) (m := mm) (ff := f' * 5000 + m) (lb2 := lb2) (ls2 := ls2) (hA.chg ((Chg.refl [] Wz).drew) (by simp)) hbW.drew HBS.out hbB hCW.drew hmm0 hmmn (by rw [hlen]; omega) (by rw [hlen]; omega) HFIT.out
      rw [List.take_append_drop] at hE
      have END := hide (fun lb2 ls2 => redS_mono (hE lb2 ls2) (f2 := ff) (by have := HFF.out; have : (f' + 1) * 5000 ≤ f * 5000 := Nat.mul_le_mul_right _ hf; omega))
      simp only [Nat.zero_add] at END
      generalize hRW : ovr cb o (bs (((c :: rest).take m).take mm)) = RW at END hcp
      have BQ2 := hide (hA.blk.drew.setRow_far hqb RW)
      have BK2 := hide (hA.buf.drew.setRow_far hkb RW)
      have a2 := BQ2.out.cell 2
      have a0 := BQ2.out.cell 0
      have a5 := BQ2.out.cell 5
      have a6 := BQ2.out.cell 6
      have g2 := BQ2.out.frozen 2
      have g5 := BQ2.out.frozen 5
      have g6 := BQ2.out.frozen 6
      have dk := BK2.out.cell r3
      rw [hx] at dk
      have b0 := hA.blk.cell 0
      have b2 := hA.blk.cell 2
      have b3 := hA.blk.cell 3
      rw [hlen, Nat.zero_add] at b3
      simp only [List.getElem?_toArray, List.getElem?_cons_zero, List.getElem?_cons_succ] at a0 a2 a5 a6 b0 b2 b3
      have e3 : (mm : Int) - 1 = (r3 : Int) := by omega
      have i1 : (0 : Int) ≤ (r3 : Int) := by omega
      have i2 : (r3 : Int) < 4096 := by omega
      have i2n : r3 < 4096 := by omega
      have i4 : (m : Int) ≤ 4096 := by omega
      have i7 : (mm : Int) ≤ 4096 := by omega
      have hmz : ((m : Int) == 0) = false := by rw [beq_eq_false_iff_ne]; omega
      clear ZERO2 SOME2 hX hml BQ2 BK2 hA hbW hCW hE hq1 hmm hr3 hRW hx hlen hm0
      go_wp2_with fail
      rw [← hWz]
      clear hWz
      clear d0 d2 d3 d4 d5 d6 k2 k3 k5 k6 e0 e1
      refine wp_region_quiet_tail 14 (by kernel_rfl) (by kernel_rfl) ?_
      simp only [List.take_succ_cons, List.take_zero, List.drop_succ_cons, List.drop_zero]
      repeat go_big_quiet_step (fail)
      refine wpQuiet_nil ?_
      go_wp2
      refine wp_region_quiet_tail 15 (by kernel_rfl) (by kernel_rfl) ?_
      simp only [List.take_succ_cons, List.take_zero, List.drop_succ_cons, List.drop_zero]
      repeat go_big_quiet_step (fail)
      refine wpQuiet_nil ?_
      go_wp2
      refine bodyPost_ret (v := .tuple #[.int .i64 (mm : Nat), .nilIface]) (by simp [results, Tryd.results106, go_sem]) rfl ?_
      exact END.out _ _

theorem method_buf (q : Nat) (w : World) : (method 286 119 (.pointer (some ⟨q, 0, none⟩)) "Read").run Tryd.prog w = .ok (106, .pointer (some ⟨q, 0, none⟩)) w := by kernel_rfl

/-- bufio's Reader is such a reader. -/
theorem src_buf (B q g k : Nat) (ad : Addr) (hq : B ≤ q) (hg : B ≤ g) (hk : B ≤ k) : Src 119 (.pointer (some ⟨q, 0, none⟩)) B ad [q, k, g] (Buf q g k B) 106 where
  nil := fun w => by kernel_rfl
  meth := fun w => method_buf q w
  enter := fun args w => by simp [go_sem]
  step := fun w c left f b o n cap cur t hR hb hbS hbB hfit hn hnc hcm => by
    obtain ⟨bl, rest, f', r, lb, ls, cb, h, hl, hf⟩ := hR
    rcases bl with _ | ⟨c', bl⟩
    · rcases rest with _ | ⟨c', rest⟩
      · simp at hl
      · simp only [List.nil_append, List.cons.injEq] at hl
        obtain ⟨rfl, rfl⟩ := hl
        by_cases hg : 4096 ≤ n
        · exact bufRead_great B q g k b o n cap r left f' f lb ls cb cur t w c h hb hbS hbB hfit hg hnc hcm (by simpa using hf)
        · exact bufRead_fill B q g k b o n cap r left f' f lb ls cb cur t w c h hb hbS hbB hfit hn (by omega) hnc (by simpa using hf)
    · rw [hl]
      exact bufRead_has B q g k b o n cap r c' bl rest f' f lb ls cb cur t w h hb hbS hbB hfit hn hnc hf
  stop := fun w f A n cap hR hE hn => by
    obtain ⟨bl, rest, f', r, lb, ls, cb, h, hl, hf⟩ := hR
    obtain ⟨rfl, rfl⟩ : bl = [] ∧ rest = [] := by simpa using hl.symm
    exact bufRead_end B q g k r n cap A f' lb ls cb w ad h hE hn
  frame := fun w w' l f S' hR hC hS => by
    obtain ⟨bl, rest, f', r, lb, ls, cb, h, hl, hf⟩ := hR
    exact ⟨bl, rest, f', r, lb, ls, cb, h.chg hC hS, hl, hf⟩
  base := by simp; omega
  lt := fun w l f hR => by
    obtain ⟨bl, rest, f', r, lb, ls, cb, h, hl, hf⟩ := hR
    have h1 := h.blk.lt
    have h2 := h.buf.lt
    have h3 := h.rdr.lt
    simp; omega
end Go.Proofs.YtnenjkngimfdgaaDoor
