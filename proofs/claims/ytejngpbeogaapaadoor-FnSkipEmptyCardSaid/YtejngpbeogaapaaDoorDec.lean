/-
  The decoder in memory; readMore.
-/
import Derived.Test.YtejngpbeogaapaaDoorReader
import Derived.LaidEql
import Derived.Lib.AppendStr
import Derived.Laws.CopyRow
import Derived.Deep.RegionHeld3
namespace Go.Proofs.YtejngpbeogaapaaDoor
open Go.RowKit
set_option linter.unusedVariables false
set_option linter.unusedSimpArgs false

theorem info_u8 : (Tryd.prog.info? 5).map (fun i => (i.zero, i.size, i.bytes)) = some (some (.int .u8 0), 1, 1) := by kernel_rfl
set_option maxRecDepth 100000 in
/-- 'make([]byte, n, c)'. -/
theorem run_make_bytes (n c : Nat) (hnc : n ≤ c) (hc : c ≤ 10000000) (w : World) :
    (Instr.makeSlice 43 (.int .i64 n) (.int .i64 c)).run Tryd.prog w = .ok (.slice (some ⟨w.heap.size, 0, none⟩) n c) (w.alloc (.cells (bs (List.replicate c 0)).toArray 5)) := by
  obtain ⟨i0, hi, hz0, hz1, hz2⟩ := info_parts info_u8
  have h := run_make_rowN (P := Tryd.prog) 43 5 i0 (.int .u8 0) Tryd.underlying43 hi hz0 .i64 .i64 n c hnc (by rw [hz2]; omega) (by omega) w
  rw [h]
  congr 2
  congr 1
  apply Array.ext'
  rw [hz1, Nat.mul_one]
  have : (Value.int .u8 0).cells = #[.int .u8 0] := rfl
  rw [this, toList_madeCells_one]
  simp [bs]
theorem run_copy_nil (A : Option Addr) (n cap : Nat) (w : World) : (Builtin.copy_ #[43, 43] 3 #[.slice A n cap, .slice none 0 0]).run Tryd.prog w = .ok (goInt 0) w := by
  obtain ⟨i0, hi, hz0, hz1, hz2⟩ := info_parts info_u8
  have hu := Tryd.underlying43
  simp [Builtin.copy_, run_underlying hu, Builtin.lenOf, Builtin.firstCells, sizeOf, typeInfo, hi, hz1]
  cases A <;> simp [storeCells]
/-- 'copy(dst, src)' of bytes: dst in row g from place o on, src reads as l. -/
theorem run_copy_sl (w : World) (g o dLen dCap sLen sCap m : Nat) (ad : Addr) (l : List UInt8) (cur : Array Value) (t : TypeId)
    (hR : Row w g t cur) (hA : ∀ j (hj : j < l.length), w.cell? (ad.add j) = some (.int .u8 (l[j].toNat))) (hl : l.length = sLen) (hm : m = Nat.min sLen dLen) (hfit : o + m ≤ cur.size) :
    (Builtin.copy_ #[43, 43] 3 #[.slice (some ⟨g, o, none⟩) dLen dCap, .slice (some ad) sLen sCap]).run Tryd.prog w =
      .ok (goInt m) (w.setRow g (ovr cur o (bs (l.take m)))) := by
  have hml : m ≤ l.length := by rw [hl, hm]; exact Nat.min_le_left _ _
  have hlen : (bs (l.take m)).length = m := by rw [bs_length, List.length_take]; omega
  obtain ⟨i0, hi, hz0, hz1, hz2⟩ := info_parts info_u8
  obtain ⟨fz, hfz, hg⟩ := hR
  have hst := run_storeCells_row Tryd.prog g o t fz (bs (l.take m)) 0 cur w hg hfz (by rw [hlen]; simpa using hfit) (bs_oneCell _)
  rw [hlen] at hst
  simp only [Nat.add_zero] at hst
  have hld : (loadCells ad m).run Tryd.prog w = .ok (bs (l.take m)).toArray w := by
    have := run_loadCells_list (P := Tryd.prog) w ad (bs (l.take m)) (fun j v hj => by
      rw [bs_take, List.getElem?_take] at hj
      split at hj
      · have hj2 : j < l.length := by omega
        rw [bs_getElem?, List.getElem?_eq_getElem hj2] at hj
        rw [hA j hj2]
        simpa using hj
      · cases hj)
    rw [hlen] at this
    exact this
  have hu := Tryd.underlying43
  have hm2 : Nat.min sLen dLen = m := hm.symm
  simp [Builtin.copy_, run_underlying hu, Builtin.lenOf, Builtin.firstCells, sizeOf, typeInfo, hi, hz1, hm2, hld, hst, Result.andThen]
  unfold ovr
  rw [hlen, List.append_assoc]

/-- A row of bytes. -/
def RowB (w : World) (b : Nat) (L : List UInt8) : Prop := Row w b 5 (bs L).toArray
theorem bs_size (L : List UInt8) : (bs L).toArray.size = L.length := by simp [bs]
theorem RowB.rbytes {w : World} {b : Nat} {L : List UInt8} (h : RowB w b L) (n : Nat) : RBytes w (some ⟨b, 0, none⟩) (L.take n) :=
  (rbytes_of_row h (fun j hj => by simp [bs, hj])).take n
theorem ovr_bs (L X : List UInt8) (o : Nat) (h : o + X.length ≤ L.length) : ovr (bs L).toArray o (bs X) = (bs (L.take o ++ X ++ L.drop (o + X.length))).toArray := by
  unfold ovr
  simp only [bs_append, bs_take, bs_drop, bs_length]

theorem method_rd (g : Nat) (w : World) : (method 270 71 (.pointer (some ⟨g, 0, none⟩)) "Read").run Tryd.prog w = .ok (123, .pointer (some ⟨g, 0, none⟩)) w := by kernel_rfl
theorem run_neq_err (a : Addr) (w : World) : (binOp .neq 53 (.iface 124 (.pointer (some a))) (.iface 124 (.pointer (some a)))).run Tryd.prog w = .ok (.bool false) w := by
  have h1 : (Tryd.prog.info? 124).isSome = true := by kernel_rfl
  have h2 : (Tryd.prog.info? 126).isSome = true := by kernel_rfl
  have h := run_equalIn_iface_ptr_same (i := (Tryd.prog.info? 124).get h1) (j := (Tryd.prog.info? 126).get h2) w 9998 a Tryd.underlying53 Tryd.underlying124 (Option.some_get h1).symm (by kernel_rfl) (Option.some_get h2).symm
  simp only [binOp]
  simp [Op.equal, Op.maxDepth, h]

/-- The decoder behind a pointer, all told: L is in the buffer, rest in the reader below; own blocks S. -/
structure DecAt (w : World) (B d : Nat) (S : List Nat) (rd : Value) (A : Option Addr) (cap r0 r1 : Nat) (cp : Bool) (sec : Int) (sk : Bool) (esc : Value) (line : Int) (er : Value) (L rest : List UInt8) (f : Nat) : Prop where
  blk : Blk w d 77 #[rd, .slice A L.length cap, .int .i64 (r0 : Nat), .int .i64 (r1 : Nat), .bool cp, .int .u8 sec, .bool sk, esc, .int .i64 line, er]
  le0 : r0 ≤ r1
  le1 : r1 ≤ L.length
  lec : L.length ≤ cap
  bytes : RBytes w A L
  abl : ∀ ad, A = some ad → ∃ k, ad = ⟨k, 0, none⟩ ∧ k ≠ d ∧ k ∈ S
  dS : d ∈ S
  bS : ∀ i ∈ S, B ≤ i
  lt : ∀ i ∈ S, i < w.heap.size
  tot : L.length + rest.length ≤ 1048576
  mode : (cp = true ∧ rest = []) ∨ (cp = false ∧ ∃ g, rd = .iface 71 (.pointer (some ⟨g, 0, none⟩)) ∧ Rdr w B g rest f ∧ g ∈ S ∧ g ≠ d ∧ cap ≤ 4194304 ∧
    ((A = none ∧ cap = 0) ∨ ∃ k Lc, A = some ⟨k, 0, none⟩ ∧ RowB w k Lc ∧ Lc.length = cap ∧ Lc.take L.length = L ∧ k ∈ S ∧ k ≠ d ∧ k ≠ g))

/-- What readMore leaves. -/
def MoreP (w : World) (B d : Nat) (S : List Nat) (r0 r1 : Nat) (sec : Int) (sk : Bool) (esc : Value) (line : Int) (er : Value) (L rest : List UInt8) (f : Nat) (e : Ending) (w' : World) : Prop :=
  e = .returned (.tuple #[]) ∧ ∃ S' rd A' cap' r0' r1' cp' L' rest' f', DecAt w' B d S' rd A' cap' r0' r1' cp' sec sk esc line er L' rest' f' ∧ r1' = r0' + (r1 - r0) ∧ L'.drop r0' ++ rest' = L.drop r0 ++ rest ∧
    (L.drop r0).length ≤ (L'.drop r0').length ∧ (cp' = false → f' < f) ∧ Chg S w w' ∧ ∀ i ∈ S', i ∈ S ∨ w.heap.size ≤ i

theorem DecAt.drewN {w : World} {B d : Nat} {S : List Nat} {rd : Value} {A : Option Addr} {cap r0 r1 : Nat} {cp : Bool} {sec : Int} {sk : Bool} {esc : Value} {line : Int} {er : Value} {L rest : List UInt8} {f : Nat}
    (h : DecAt w B d S rd A cap r0 r1 cp sec sk esc line er L rest f) (n : Nat) : DecAt (w.drewN n) B d S rd A cap r0 r1 cp sec sk esc line er L rest f where
  blk := h.blk
  le0 := h.le0
  le1 := h.le1
  lec := h.lec
  bytes := h.bytes
  abl := h.abl
  dS := h.dS
  bS := h.bS
  lt := h.lt
  tot := h.tot
  mode := by
    rcases h.mode with h1 | ⟨h1, g, h2, h3, h4⟩
    · exact .inl h1
    · exact .inr ⟨h1, g, h2, h3.chg ((Chg.refl [] w).drewN n) (by simp) (by simp), h4⟩
theorem MoreP.of_drewN {w : World} {n : Nat} {B d : Nat} {S : List Nat} {r0 r1 : Nat} {sec : Int} {sk : Bool} {esc : Value} {line : Int} {er : Value} {L rest : List UInt8} {f : Nat} {e : Ending} {w' : World}
    (h : MoreP (w.drewN n) B d S r0 r1 sec sk esc line er L rest f e w') : MoreP w B d S r0 r1 sec sk esc line er L rest f e w' := by
  obtain ⟨h1, S', rd, A', cap', r0', r1', cp', L', rest', f', h2, h3, h4, h5, h6, h7, h8⟩ := h
  exact ⟨h1, S', rd, A', cap', r0', r1', cp', L', rest', f', h2, h3, h4, h5, h6, ((Chg.refl S w).drewN n).trans h7, h8⟩

/-- What the reader below gives into the buffer, and the decoder's own block behind it. -/
def GotD (B d g k : Nat) (L Lc rest : List UInt8) (f : Nat) (cs : Array Value) (v1 : Value) (W : World) (e : Ending) (w' : World) : Prop :=
  ∃ m f', m ≤ Lc.length - L.length ∧ m ≤ rest.length ∧ f' < f ∧ e = .returned (.tuple #[.int .i64 (m : Nat), .nilIface]) ∧
    w'.cell? ⟨d, 0, none⟩ = some (.iface 71 (.pointer (some ⟨g, 0, none⟩))) ∧ w'.cell? ⟨d, 1, none⟩ = some v1 ∧ w'.frozen? ⟨d, 1, none⟩ = false ∧ Hid (Rdr w' B g (rest.drop m) f' ∧ RowB w' k (L ++ rest.take m ++ Lc.drop (L.length + m)) ∧ Chg [k, g] W w' ∧ Blk w' d 77 cs)

/-- The decoder's cells. -/
def dcs (g k n cap r0 r1 : Nat) (sec : Int) (sk : Bool) (esc : Value) (line : Int) (er : Value) : Array Value := #[.iface 71 (.pointer (some ⟨g, 0, none⟩)), .slice (some ⟨k, 0, none⟩) n cap, .int .i64 (r0 : Nat), .int .i64 (r1 : Nat), .bool false, .int .u8 sec, .bool sk, esc, .int .i64 line, er]
theorem tail_call (B d g k : Nat) (S : List Nat) (cap r0 r1 : Nat) (sec : Int) (sk : Bool) (esc : Value) (line : Int) (er : Value) (L Lc rest : List UInt8) (c : UInt8) (f : Nat) (w : World)
    (h : DecAt w B d S (.iface 71 (.pointer (some ⟨g, 0, none⟩))) (some ⟨k, 0, none⟩) cap r0 r1 false sec sk esc line er L (c :: rest) f) (hR : Rdr w B g (c :: rest) f) (hgS : g ∈ S) (hgd : g ≠ d) (hcap : cap ≤ 4194304)
    (hk : RowB w k Lc) (hLc : Lc.length = cap) (hLt : Lc.take L.length = L) (hkS : k ∈ S) (hkd : k ≠ d) (hkg : k ≠ g) (hroom : 4096 ≤ cap - L.length) (n : Nat) (hn : n = L.length) :
    Calls Tryd.prog 123 #[.pointer (some ⟨g, 0, none⟩), .slice (some ⟨k, n, none⟩) (cap - n) (cap - n)] w.drew (GotD B d g k L Lc (c :: rest) f (dcs g k n cap r0 r1 sec sk esc line er) (.slice (some ⟨k, 0, none⟩) n cap) w.drew) := by
  have hblk := h.blk
  rw [← hn] at hblk
  have hc0 : Chg [] w w.drew := (Chg.refl [] w).drew
  refine (read_more B g f k n (cap - n) (cap - n) 5 (bs Lc).toArray c rest _ (hR.chg hc0 (by simp) (by simp)) (Row.chg hk hc0 (by simp)) (Ne.symm hkg) (h.bS k hkS) (by rw [bs_size, hLc]; omega) (by omega) (Nat.le_refl _)).mono ?_
  rintro e w' ⟨m, f', h1, h2, h3, h4, h5, h6, h7⟩
  have hb := (hblk.chg hc0 (by simp)).chg h7 (by simp [Ne.symm hgd, Ne.symm hkd])
  refine ⟨m, f', by rw [hLc, ← hn]; exact h1, h2, h3, h4, by rw [hb.cell 0]; rfl, by rw [hb.cell 1]; rfl, hb.frozen 1, hide ⟨h5, ?_, h7.more (by simp), hb⟩⟩
  have hX : ((c :: rest).take m).length = m := by rw [List.length_take]; omega
  rw [ovr_bs _ _ _ (by rw [hX]; omega), hX, hn, hLt] at h6
  exact h6

theorem tail_end (B d g k : Nat) (S : List Nat) (cap r0 r1 : Nat) (sec : Int) (sk : Bool) (esc : Value) (line : Int) (er : Value) (L Lc rest : List UInt8) (f : Nat) (w : World)
    (h : DecAt w B d S (.iface 71 (.pointer (some ⟨g, 0, none⟩))) (some ⟨k, 0, none⟩) cap r0 r1 false sec sk esc line er L rest f) (hR : Rdr w B g rest f) (hgS : g ∈ S) (hgd : g ≠ d) (hcap : cap ≤ 4194304)
    (hk : RowB w k Lc) (hLc : Lc.length = cap) (hLt : Lc.take L.length = L) (hkS : k ∈ S) (hkd : k ≠ d) (hkg : k ≠ g) (hroom : 4096 ≤ cap - L.length) (n : Nat) (hn : n = L.length) (w' : World) (m f' : Nat) (h1 : m ≤ cap - n) (h2 : m ≤ rest.length) (h3 : f' < f)
    (h4 : Hid (Rdr w' B g (rest.drop m) f' ∧ RowB w' k (L ++ rest.take m ++ Lc.drop (L.length + m)) ∧ Chg [k, g] w.drew w' ∧ Blk w' d 77 (dcs g k n cap r0 r1 sec sk esc line er))) (tot : Nat) (ht : tot = n + m) :
    MoreP w B d S r0 r1 sec sk esc line er L rest f (.returned (.tuple #[])) ((w'.setCell ⟨d, 1, none⟩ (.slice (some ⟨k, 0, none⟩) tot cap)).drew) := by
  obtain ⟨x1, x2, x3, x4⟩ := h4.out
  have hX : (rest.take m).length = m := by rw [List.length_take]; omega
  have hlen : (L ++ rest.take m).length = tot := by rw [List.length_append, hX, ← hn]; exact ht.symm
  have hcW : Chg [d] w' (w'.setCell ⟨d, 1, none⟩ (.slice (some ⟨k, 0, none⟩) tot cap)).drew := ((Chg.refl _ _).setCell (.inl (by simp)) _).drew
  have hA : Chg S w (w'.setCell ⟨d, 1, none⟩ (.slice (some ⟨k, 0, none⟩) tot cap)).drew := ((Chg.refl S w).drew.trans (x3.more (by simp [hkS, hgS]))).trans (hcW.more (by simp [h.dS]))
  have hrow : RowB (w'.setCell ⟨d, 1, none⟩ (.slice (some ⟨k, 0, none⟩) tot cap)).drew k (L ++ rest.take m ++ Lc.drop (L.length + m)) := Row.chg x2 hcW (by simp [hkd])
  have hlc2 : (L ++ rest.take m ++ Lc.drop (L.length + m)).length = cap := by
    rw [List.length_append, hlen, List.length_drop, ← hn]; omega
  have htk : (L ++ rest.take m ++ Lc.drop (L.length + m)).take (L ++ rest.take m).length = L ++ rest.take m := by
    rw [List.take_append_of_le_length (Nat.le_refl _), List.take_length]
  have hd0 : (L ++ rest.take m).drop r0 = L.drop r0 ++ rest.take m := List.drop_append_of_le_length (by have := h.le0; have := h.le1; omega)
  refine ⟨rfl, S, _, some ⟨k, 0, none⟩, cap, r0, r1, false, L ++ rest.take m, rest.drop m, f', ⟨?_, h.le0, by have := h.le1; rw [List.length_append]; omega, by rw [hlen]; omega, ?_, h.abl, h.dS, h.bS, ?_, ?_, .inr ⟨rfl, g, rfl, x1.chg hcW (by simp [hgd]) (by simpa using h.bS d h.dS), hgS, hgd, hcap, .inr ⟨k, _, rfl, hrow, hlc2, htk, hkS, hkd, hkg⟩⟩⟩, ?_, ?_, ?_, fun _ => h3, hA, fun i hi => .inl hi⟩
  · have := (x4.set_ 1 (.slice (some ⟨k, 0, none⟩) tot cap)).drew
    rw [hlen]
    unfold dcs at this
    simpa using this
  · have := hrow.rbytes (L ++ rest.take m).length
    rwa [htk] at this
  · intro i hi
    exact Nat.lt_of_lt_of_le (h.lt i hi) hA.size
  · have := h.tot
    rw [hlen, List.length_drop]
    omega
  · have := h.le0; omega
  · rw [hd0, List.append_assoc, List.take_append_drop]
  · rw [hd0, List.length_append]; omega

set_option maxRecDepth 100000 in
set_option maxHeartbeats 4000000 in
theorem readMore_room_some (B d g k : Nat) (S : List Nat) (cap r0 r1 : Nat) (sec : Int) (sk : Bool) (esc : Value) (line : Int) (er : Value) (L Lc rest : List UInt8) (c : UInt8) (f : Nat) (w : World)
    (h : DecAt w B d S (.iface 71 (.pointer (some ⟨g, 0, none⟩))) (some ⟨k, 0, none⟩) cap r0 r1 false sec sk esc line er L (c :: rest) f) (hR : Rdr w B g (c :: rest) f) (hgS : g ∈ S) (hgd : g ≠ d) (hcap : cap ≤ 4194304)
    (hk : RowB w k Lc) (hLc : Lc.length = cap) (hLt : Lc.take L.length = L) (hkS : k ∈ S) (hkd : k ≠ d) (hkg : k ≠ g) (hroom : 4096 ≤ cap - L.length) :
    Calls Tryd.prog 90 #[.pointer (some ⟨d, 0, none⟩)] w (MoreP w B d S r0 r1 sec sk esc line er L (c :: rest) f) := by
  obtain ⟨n, hn⟩ : ∃ n, n = L.length := ⟨_, rfl⟩
  have hblk := h.blk
  rw [← hn] at hblk
  have c0 := hblk.cell 0
  have c1 := hblk.cell 1
  have c2 := hblk.cell 2
  have c3 := hblk.cell 3
  have c4 := hblk.cell 4
  simp at c0 c1 c2 c3 c4
  have hnil := method_rd g
  have i1 : ¬ (cap : Int) - (n : Int) < 4096 := by omega
  have i2 : n ≤ cap := by omega
  have i3 : (n : Int) ≤ (cap : Int) := by omega
  have i4 : ¬ cap = n := by omega
  have HN := hide hn
  have HLC := hide hLc
  have CALL : Hid (∀ nq W, W = (w.drewN nq).drew → Calls Tryd.prog 123 #[.pointer (some ⟨g, 0, none⟩), .slice (some ⟨k, n, none⟩) (cap - n) (cap - n)] W (GotD B d g k L Lc (c :: rest) f (dcs g k n cap r0 r1 sec sk esc line er) (.slice (some ⟨k, 0, none⟩) n cap) W)) := hide fun nq W hW => by
    subst hW
    exact tail_call B d g k S cap r0 r1 sec sk esc line er L Lc rest c f (w.drewN nq) (h.drewN nq) (hR.chg ((Chg.refl [] w).drewN nq) (by simp) (by simp)) hgS hgd hcap hk hLc hLt hkS hkd hkg hroom n hn
  have END : Hid (∀ nq w' m f', m ≤ cap - n → m ≤ (c :: rest).length → f' < f → Hid (Rdr w' B g ((c :: rest).drop m) f' ∧ RowB w' k (L ++ (c :: rest).take m ++ Lc.drop (L.length + m)) ∧ Chg [k, g] (w.drewN nq).drew w' ∧ Blk w' d 77 (dcs g k n cap r0 r1 sec sk esc line er)) → ∀ tot, tot = n + m →
      MoreP w B d S r0 r1 sec sk esc line er L (c :: rest) f (.returned (.tuple #[])) ((w'.setCell ⟨d, 1, none⟩ (.slice (some ⟨k, 0, none⟩) tot cap)).drew)) := hide fun nq w' m f' h1 h2 h3 h4 tot ht => by
    have hM := tail_end B d g k S cap r0 r1 sec sk esc line er L Lc (c :: rest) f (w.drewN nq) (h.drewN nq) (hR.chg ((Chg.refl [] w).drewN nq) (by simp) (by simp)) hgS hgd hcap hk hLc hLt hkS hkd hkg hroom n hn w' m f' h1 h2 h3 h4 tot ht
    exact hM.of_drewN
  clear h hR hk hLt hblk hLc hn
  go_enter Tryd.func90, Tryd.ntmps90
  go_wp2
  go_quiet (fail)
  go_wp2
  have CALL2 := hide (CALL.out nq)
  have END2 := hide (END.out nq)
  have d0 : (w.drewN nq).cell? ⟨d, 0, none⟩ = _ := c0
  have d1 : (w.drewN nq).cell? ⟨d, 1, none⟩ = _ := c1
  clear CALL END c0 c1 c2 c3 c4
  generalize w.drewN nq = W0 at *
  go_region_held3 (fun w' => w'.cell? ⟨d, 0, none⟩ = some (.iface 71 (.pointer (some ⟨g, 0, none⟩))) ∧ w'.cell? ⟨d, 1, none⟩ = some (.slice (some ⟨k, 0, none⟩) n cap)) (first | exact ⟨d0, d1⟩ | exact ⟨b0, b1⟩) (first | (go_at_call 123; refine (CALL2.out _ rfl).mono ?_; rintro e w1 ⟨m, f', hm1, hm2, hf, rfl, b0, b1, g1, hX⟩))
  clear CALL2
  obtain ⟨tot, htot⟩ : ∃ tot, tot = n + m := ⟨_, rfl⟩
  have hm3 : m ≤ cap - n := by have := HN.out; have := HLC.out; omega
  have E3 := hide (END2.out w1 m f' hm3 hm2 hf hX tot htot)
  have j1 : (n : Int) + (m : Int) = (tot : Int) := by omega
  have j2 : (tot : Int) ≤ (cap : Int) := by omega
  have j3 : tot ≤ cap := by omega
  clear END2 hX hm1 hm2 hm3 htot hf
  go_wp2
  refine wp_region_quiet_tail 15 (by kernel_rfl) (by kernel_rfl) ?_
  simp only [List.take_succ_cons, List.take_zero, List.drop_succ_cons, List.drop_zero]
  repeat go_big_quiet_step (fail)
  refine wpQuiet_nil ?_
  go_wp2
  go_end0
  exact E3.out

/-- The end of the text below, and the decoder's own block behind it. -/
def EndD (d : Nat) (cs : Array Value) (v0 v1 : Value) (ad : Addr) (W : World) (e : Ending) (w' : World) : Prop :=
  e = .returned (.tuple #[.int .i64 0, .iface 124 (.pointer (some ad))]) ∧ w'.cell? ⟨d, 0, none⟩ = some v0 ∧ w'.cell? ⟨d, 1, none⟩ = some v1 ∧ w'.frozen? ⟨d, 1, none⟩ = false ∧
    w'.cell? ⟨d, 4, none⟩ = some (.bool false) ∧ w'.frozen? ⟨d, 4, none⟩ = false ∧ w'.cell? ⟨3, 0, none⟩ = some (.iface 124 (.pointer (some ad))) ∧ Hid (Chg [] W w' ∧ Blk w' d 77 cs)
theorem tail_callE (B d g k : Nat) (S : List Nat) (cap r0 r1 : Nat) (sec : Int) (sk : Bool) (esc : Value) (line : Int) (er : Value) (L Lc : List UInt8) (f : Nat) (w : World) (ad : Addr)
    (h : DecAt w B d S (.iface 71 (.pointer (some ⟨g, 0, none⟩))) (some ⟨k, 0, none⟩) cap r0 r1 false sec sk esc line er L [] f) (hR : Rdr w B g [] f) (hgS : g ∈ S) (hgd : g ≠ d) (hkd : k ≠ d) (hkS : k ∈ S) (hcap : cap ≤ 4194304) (hroom : 4096 ≤ cap - L.length) (hE : EofAt w B ad) (n : Nat) (hn : n = L.length) (A : Option Addr) (x y : Nat) :
    Calls Tryd.prog 123 #[.pointer (some ⟨g, 0, none⟩), .slice A x y] w.drew (EndD d (dcs g k n cap r0 r1 sec sk esc line er) (.iface 71 (.pointer (some ⟨g, 0, none⟩))) (.slice (some ⟨k, 0, none⟩) n cap) ad w.drew) := by
  have hblk := h.blk
  rw [← hn] at hblk
  have hc0 : Chg [] w w.drew := (Chg.refl [] w).drew
  refine (read_end .nilIface B g f ad w.drew (hR.chg hc0 (by simp) (by simp)) (hE.chg hc0 (by simp)) A x y).mono ?_
  rintro e w' ⟨h1, h2⟩
  have hb := (hblk.chg hc0 (by simp)).chg h2 (by simp)
  exact ⟨h1, by rw [hb.cell 0]; rfl, by rw [hb.cell 1]; rfl, hb.frozen 1, by rw [hb.cell 4]; rfl, hb.frozen 4, (hE.chg (hc0.trans h2) (by simp)).2.2, hide ⟨h2, hb⟩⟩
theorem tail_endE (B d g k : Nat) (S : List Nat) (cap r0 r1 : Nat) (sec : Int) (sk : Bool) (esc : Value) (line : Int) (er : Value) (L Lc : List UInt8) (f : Nat) (w : World) (ad : Addr)
    (h : DecAt w B d S (.iface 71 (.pointer (some ⟨g, 0, none⟩))) (some ⟨k, 0, none⟩) cap r0 r1 false sec sk esc line er L [] f) (hR : Rdr w B g [] f) (hgS : g ∈ S) (hgd : g ≠ d) (hkd : k ≠ d) (hkS : k ∈ S) (hcap : cap ≤ 4194304) (hroom : 4096 ≤ cap - L.length) (hE : EofAt w B ad) (n : Nat) (hn : n = L.length) (w' : World) (h4 : Hid (Chg [] w.drew w' ∧ Blk w' d 77 (dcs g k n cap r0 r1 sec sk esc line er))) :
    MoreP w B d S r0 r1 sec sk esc line er L [] f (.returned (.tuple #[])) (((w'.setCell ⟨d, 1, none⟩ (.slice (some ⟨k, 0, none⟩) n cap)).setCell ⟨d, 4, none⟩ (.bool true)).drew) := by
  obtain ⟨x3, x4⟩ := h4.out
  have hcW : Chg [d] w' ((w'.setCell ⟨d, 1, none⟩ (.slice (some ⟨k, 0, none⟩) n cap)).setCell ⟨d, 4, none⟩ (.bool true)).drew := (((Chg.refl _ _).setCell (.inl (by simp)) _).setCell (.inl (by simp)) _).drew
  have hc1 : Chg [d] w ((w'.setCell ⟨d, 1, none⟩ (.slice (some ⟨k, 0, none⟩) n cap)).setCell ⟨d, 4, none⟩ (.bool true)).drew := ((Chg.refl [d] w).drew.trans (x3.more (by simp))).trans hcW
  have hA := hc1.more (S' := S) (by simp [h.dS])
  refine ⟨rfl, S, .iface 71 (.pointer (some ⟨g, 0, none⟩)), some ⟨k, 0, none⟩, cap, r0, r1, true, L, [], f, ⟨?_, h.le0, h.le1, h.lec, h.bytes.chg hc1 (by simpa using hkd), h.abl, h.dS, h.bS, fun i hi => Nat.lt_of_lt_of_le (h.lt i hi) hA.size, h.tot, .inl ⟨rfl, rfl⟩⟩, by have := h.le0; omega, rfl, Nat.le_refl _, by simp, hA, fun i hi => .inl hi⟩
  have := ((x4.set_ 1 (.slice (some ⟨k, 0, none⟩) n cap)).set_ 4 (.bool true)).drew
  unfold dcs at this
  rw [← hn]
  simpa using this

set_option maxRecDepth 100000 in
set_option maxHeartbeats 4000000 in
theorem readMore_room_end (B d g k : Nat) (S : List Nat) (cap r0 r1 : Nat) (sec : Int) (sk : Bool) (esc : Value) (line : Int) (er : Value) (L Lc : List UInt8) (f : Nat) (w : World) (ad : Addr)
    (h : DecAt w B d S (.iface 71 (.pointer (some ⟨g, 0, none⟩))) (some ⟨k, 0, none⟩) cap r0 r1 false sec sk esc line er L [] f) (hR : Rdr w B g [] f) (hgS : g ∈ S) (hgd : g ≠ d) (hkd : k ≠ d) (hkS : k ∈ S) (hcap : cap ≤ 4194304) (hroom : 4096 ≤ cap - L.length) (hE : EofAt w B ad) :
    Calls Tryd.prog 90 #[.pointer (some ⟨d, 0, none⟩)] w (MoreP w B d S r0 r1 sec sk esc line er L [] f) := by
  obtain ⟨n, hn⟩ : ∃ n, n = L.length := ⟨_, rfl⟩
  have hblk := h.blk
  rw [← hn] at hblk
  have c0 := hblk.cell 0
  have c1 := hblk.cell 1
  have c2 := hblk.cell 2
  have c3 := hblk.cell 3
  have c4 := hblk.cell 4
  simp at c0 c1 c2 c3 c4
  have hnil := method_rd g
  have hneq := run_neq_err ad
  have i1 : ¬ (cap : Int) - (n : Int) < 4096 := by omega
  have i2 : n ≤ cap := by omega
  have i3 : (n : Int) ≤ (cap : Int) := by omega
  have i4 : ¬ cap = n := by omega
  have CALL : Hid (∀ nq W, W = (w.drewN nq).drew → Calls Tryd.prog 123 #[.pointer (some ⟨g, 0, none⟩), .slice (some ⟨k, n, none⟩) (cap - n) (cap - n)] W (EndD d (dcs g k n cap r0 r1 sec sk esc line er) (.iface 71 (.pointer (some ⟨g, 0, none⟩))) (.slice (some ⟨k, 0, none⟩) n cap) ad W)) := hide fun nq W hW => by
    subst hW
    exact tail_callE B d g k S cap r0 r1 sec sk esc line er L Lc f (w.drewN nq) ad (h.drewN nq) (hR.chg ((Chg.refl [] w).drewN nq) (by simp) (by simp)) hgS hgd hkd hkS hcap hroom (hE.chg ((Chg.refl [] w).drewN nq) (by simp)) n hn _ _ _
  have END : Hid (∀ nq w', Hid (Chg [] (w.drewN nq).drew w' ∧ Blk w' d 77 (dcs g k n cap r0 r1 sec sk esc line er)) →
      MoreP w B d S r0 r1 sec sk esc line er L [] f (.returned (.tuple #[])) (((w'.setCell ⟨d, 1, none⟩ (.slice (some ⟨k, 0, none⟩) n cap)).setCell ⟨d, 4, none⟩ (.bool true)).drew)) := hide fun nq w' h4 =>
    (tail_endE B d g k S cap r0 r1 sec sk esc line er L Lc f (w.drewN nq) ad (h.drewN nq) (hR.chg ((Chg.refl [] w).drewN nq) (by simp) (by simp)) hgS hgd hkd hkS hcap hroom (hE.chg ((Chg.refl [] w).drewN nq) (by simp)) n hn w' h4).of_drewN
  clear h hR hE hblk hn
  go_enter Tryd.func90, Tryd.ntmps90
  go_wp2
  go_quiet (fail)
  go_wp2
  have CALL2 := hide (CALL.out nq)
  have END2 := hide (END.out nq)
  have d0 : (w.drewN nq).cell? ⟨d, 0, none⟩ = _ := c0
  have d1 : (w.drewN nq).cell? ⟨d, 1, none⟩ = _ := c1
  clear CALL END c0 c1 c2 c3 c4
  generalize w.drewN nq = W0 at *
  go_region_held3 (fun w' => w'.cell? ⟨d, 0, none⟩ = some (.iface 71 (.pointer (some ⟨g, 0, none⟩))) ∧ w'.cell? ⟨d, 1, none⟩ = some (.slice (some ⟨k, 0, none⟩) n cap)) (first | exact ⟨d0, d1⟩ | exact ⟨b0, b1⟩) (first | (go_at_call 123; refine (CALL2.out _ rfl).mono ?_; rintro e w1 ⟨rfl, b0, b1, g1, b4, g4, bE, hX⟩))
  clear CALL2
  have E3 := hide (END2.out w1 hX)
  clear END2 hX
  go_wp2
  refine wp_region_quiet_tail 15 (by kernel_rfl) (by kernel_rfl) ?_
  simp only [List.take_succ_cons, List.take_zero, List.drop_succ_cons, List.drop_zero]
  repeat go_big_quiet_step (fail)
  refine wpQuiet_nil ?_
  go_wp2
  go_end0
  exact E3.out
end Go.Proofs.YtejngpbeogaapaaDoor
