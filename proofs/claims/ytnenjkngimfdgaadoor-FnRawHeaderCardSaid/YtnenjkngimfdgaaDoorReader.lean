/-
  impl's reader: newReader, Read: what a read gives of whatever text, in pieces of whatever sizes.
-/
import Derived.Test.YtnenjkngimfdgaaDoorChg
import Derived.Lib.BufferWrite
import Derived.Lib.IndexBytes
namespace Go.Proofs.YtnenjkngimfdgaaDoor
open Go.RowKit
set_option linter.unusedVariables false
set_option linter.unusedSimpArgs false

/-- A row's cells, those of l written over from place o on. -/
def ovr (cur : Array Value) (o : Nat) (l : List Value) : Array Value := (cur.toList.take o ++ l ++ cur.toList.drop (o + l.length)).toArray
theorem ovr_size {cur : Array Value} {o : Nat} {l : List Value} (h : o + l.length ≤ cur.size) : (ovr cur o l).size = cur.size := by
  unfold ovr
  simp only [List.size_toArray, List.length_append, List.length_take, List.length_drop, Array.length_toList]
  omega
theorem ovr_lo {cur : Array Value} {o j : Nat} {l : List Value} (h : o + l.length ≤ cur.size) (hj : j < o) : (ovr cur o l)[j]? = cur[j]? := by
  unfold ovr
  rw [List.getElem?_toArray, List.getElem?_append_left (by simp; omega), List.getElem?_append_left (by simp; omega), List.getElem?_take, if_pos hj, Array.getElem?_toList]
theorem ovr_in {cur : Array Value} {o j : Nat} {l : List Value} (h : o + l.length ≤ cur.size) (hj : j < l.length) : (ovr cur o l)[o + j]? = l[j]? := by
  unfold ovr
  rw [List.getElem?_toArray, List.getElem?_append_left (by simp; omega), List.getElem?_append_right (by simp; omega)]
  congr 1
  simp only [List.length_take, Array.length_toList]
  omega
theorem ovr_hi {cur : Array Value} {o j : Nat} {l : List Value} (h : o + l.length ≤ cur.size) (hj : o + l.length ≤ j) : (ovr cur o l)[j]? = cur[j]? := by
  unfold ovr
  rw [List.getElem?_toArray, List.getElem?_append_right (by simp; omega), List.getElem?_drop, Array.getElem?_toList]
  congr 1
  simp only [List.length_append, List.length_take, Array.length_toList]
  omega

/-- 'copy(dst, s)', s a string, dst in row g from place o on: as many bytes as go over. -/
theorem run_copy_str {P : Program} (w : World) (dT sT ty elem : TypeId) (g o dLen dCap m : Nat) (s : ByteArray) (cur : Array Value) (t : TypeId)
    (hu : P.underlying dT = some (.slice elem)) (hs : (P.info? elem).map (·.size) = some 1) (hR : Row w g t cur) (hm : Nat.min s.size dLen = m) (hfit : o + m ≤ cur.size) :
    (Builtin.copy_ #[dT, sT] ty #[.slice (some ⟨g, o, none⟩) dLen dCap, .string s]).run P w =
      .ok (goInt m) (w.setRow g (ovr cur o (bs (s.data.toList.take m)))) := by
  have hms : m ≤ s.size := by rw [← hm]; exact Nat.min_le_left _ _
  have hlen : (bs (s.data.toList.take m)).length = m := by rw [bs_length, List.length_take, size_data]; omega
  obtain ⟨fz, hfz, hg⟩ := hR
  have hst := run_storeCells_row P g o t fz (bs (s.data.toList.take m)) 0 cur w hg hfz (by rw [hlen]; simpa using hfit) (bs_oneCell _)
  have htk : List.take m (List.map (fun b : UInt8 => Value.int IntKind.u8 (b.toNat : Int)) s.data.toList) = bs (s.data.toList.take m) := by
    rw [bs, List.map_take]
  rw [hlen] at hst
  simp only [Nat.add_zero] at hst
  cases hq : P.info? elem with
  | none => simp [hq] at hs
  | some i =>
    simp [Builtin.copy_, run_underlying hu, Builtin.lenOf, Builtin.firstCells, sizeOf, typeInfo, hq, hm]
    rw [htk, hst, ovr, hlen]
    simp [Result.andThen]

/-- Whole numbers as cells. -/
def is_ (l : List Int) : List Value := l.map (Value.int .i64)
/-- How many reads are left at most, where all ask for something: whatever is there at once, or in pieces. -/
def RF (l : List Int) (at_ left f : Nat) : Prop :=
  (l = [] ∧ left ≤ f) ∨ ((∃ i, i < l.length ∧ 0 < l.getD i 0) ∧ ∃ d, d < l.length ∧ 0 < l.getD ((at_ + d) % l.length) 0 ∧ left * l.length + d ≤ f)

theorem RF.all {at_ left f m : Nat} (h : RF [] at_ left f) (hm : 0 < m) (hl : m ≤ left) : ∃ f', f' < f ∧ RF [] at_ (left - m) f' := by
  rcases h with ⟨_, h⟩ | ⟨⟨i, hi, _⟩, _⟩
  · exact ⟨f - 1, by omega, .inl ⟨rfl, by omega⟩⟩
  · simp at hi
theorem RF.step {l : List Int} {at_ left f m : Nat} (h : RF l at_ left f) (hl : l ≠ []) (hm : m ≤ left) (hz : m = 0 → ¬ 0 < l.getD (at_ % l.length) 0) : ∃ f', f' < f ∧ RF l (at_ + 1) (left - m) f' := by
  rcases h with ⟨h, _⟩ | ⟨⟨i, hi, hp⟩, d, hd, hdp, hf⟩
  · exact absurd h hl
  · have hN : 0 < l.length := by omega
    by_cases h0 : m = 0
    · subst h0
      have hz := hz rfl
      have hd0 : d ≠ 0 := by
        rintro rfl
        exact hz (by simpa using hdp)
      refine ⟨f - 1, by omega, .inr ⟨⟨i, hi, hp⟩, d - 1, by omega, ?_, by simp only [Nat.sub_zero]; omega⟩⟩
      rw [show at_ + 1 + (d - 1) = at_ + d by omega]; exact hdp
    · refine ⟨f - 1, ?_, .inr ⟨⟨i, hi, hp⟩, (i + l.length - (at_ + 1) % l.length) % l.length, Nat.mod_lt _ hN, ?_, ?_⟩⟩
      · have : 1 * l.length ≤ left * l.length := Nat.mul_le_mul_right _ (by omega)
        omega
      · have hlt := Nat.mod_lt (at_ + 1) hN
        have e : (at_ + 1 + (i + l.length - (at_ + 1) % l.length) % l.length) % l.length = i := by
          rw [Nat.add_mod, Nat.mod_mod]
          rw [← Nat.add_mod]
          have h1 := Nat.div_add_mod (at_ + 1) l.length
          have h2 : at_ + 1 + (i + l.length - (at_ + 1) % l.length) = i + l.length * ((at_ + 1) / l.length + 1) := by
            rw [Nat.mul_add, Nat.mul_one]; omega
          rw [h2, Nat.add_mul_mod_self_left, Nat.mod_eq_of_lt hi]
        rw [e]; exact hp
      · have hlt := Nat.mod_lt (i + l.length - (at_ + 1) % l.length) hN
        have h1 : (left - m) * l.length ≤ (left - 1) * l.length := Nat.mul_le_mul_right _ (by omega)
        have h2 : (left - 1) * l.length + l.length = left * l.length := by
          have : left = (left - 1) + 1 := by omega
          conv => rhs; rw [this, Nat.add_mul, Nat.one_mul]
        omega

/-- A reader behind a pointer: what is left; at most f reads that ask for something give it all. -/
structure Rdr (w : World) (B g : Nat) (left : List UInt8) (f : Nat) : Prop where
  ex : ∃ (s : ByteArray) (A : Option Addr) (cap at_ : Nat) (l : List Int), Blk w g 96 #[.string s, .slice A l.length cap, .int .i64 at_, .bool false] ∧ s.data.toList = left ∧ Reads w B 1 A l.length (is_ l) ∧ RF l at_ left.length f ∧
    at_ + f ≤ 1099511627776 ∧ (∀ x ∈ l, -9223372036854775808 ≤ x ∧ x ≤ 9223372036854775807) ∧ l.length ≤ 2147483647
  le : B ≤ g
  sz : left.length ≤ 2147483647
theorem Rdr.chg {w w' : World} {B g f : Nat} {left : List UInt8} {S : List Nat} (h : Rdr w B g left f) (hc : Chg S w w') (hg : g ∉ S) (hS : ∀ i ∈ S, B ≤ i) : Rdr w' B g left f := by
  obtain ⟨⟨s, A, cap, at_, l, hb, hl, hr, h4, h5⟩, hle, hsz⟩ := h
  exact ⟨⟨s, A, cap, at_, l, hb.chg hc hg, hl, hr.chg hc hS (Nat.le_trans hle (Nat.le_of_lt hb.lt)), h4, h5⟩, hle, hsz⟩
theorem Rdr.lt {w : World} {B g f : Nat} {left : List UInt8} (h : Rdr w B g left f) : g < w.heap.size := by
  obtain ⟨⟨_, _, _, _, _, hb, _⟩, _⟩ := h
  exact hb.lt

/-- io.EOF as the program's text lays it: a pointer to a text of its own. -/
def EofAt (w : World) (B : Nat) (ad : Addr) : Prop := 1 < B ∧ B ≤ w.heap.size ∧ w.cell? ⟨1, 0, none⟩ = some (.iface 146 (.pointer (some ad)))
theorem EofAt.chg {w w' : World} {B : Nat} {ad : Addr} {S : List Nat} (h : EofAt w B ad) (hc : Chg S w w') (hS : ∀ i ∈ S, B ≤ i) : EofAt w' B ad :=
  ⟨h.1, Nat.le_trans h.2.1 hc.size, cell_chg h.2.2 hc (fun hm => by have h1 := hS _ hm; have h2 := h.1; show False; exact absurd h1 (by show ¬ B ≤ 1; omega))⟩

theorem emp_iff {s : ByteArray} : s.data.toList = [] ↔ s.size = 0 := by
  rw [← size_data]; exact List.length_eq_zero_iff.symm

set_option maxRecDepth 100000 in
set_option maxHeartbeats 1000000 in
/-- At the end a read tells io.EOF. -/
theorem read_end (p : Value) (B g f : Nat) (ad : Addr) (w : World) (hR : Rdr w B g [] f) (hE : EofAt w B ad) (A : Option Addr) (n cap : Nat) :
    Calls Tryd.prog 88 #[.pointer (some ⟨g, 0, none⟩), .slice A n cap] w fun e w' => e = .returned (.tuple #[.int .i64 0, .iface 146 (.pointer (some ad))]) ∧ Chg [] w w' := by
  obtain ⟨⟨s, A', cap', at_, l, hb, hl, hr, h4, h5, h6, h7⟩, hle, hsz⟩ := hR
  have hs0 : s.size = 0 := emp_iff.1 hl
  have c0 := hb.cell 0
  have c3 := hb.cell 3
  have hE := hE.2.2
  simp at c0 c3
  obtain rfl : s = .empty := by
    cases s with
    | mk d => simp at hl; subst hl; rfl
  clear hb hl hr h4 h5 h6 h7 hs0
  go_enter Tryd.func88, Tryd.ntmps88
  go_wp2
  go_quiet (fail)
  go_wp2
  go_ret2
  exact ⟨rfl, (Chg.refl _ _).drewN _⟩

/-- What a read of n bytes into block b from place o on gives. -/
def Red (w : World) (B g b o n : Nat) (t : TypeId) (cur : Array Value) (left : List UInt8) (f : Nat) (e : Ending) (w' : World) : Prop :=
  ∃ m f', m ≤ n ∧ m ≤ left.length ∧ f' < f ∧ e = .returned (.tuple #[.int .i64 (m : Nat), .nilIface]) ∧ Rdr w' B g (left.drop m) f' ∧
    Row w' b t (ovr cur o (bs (left.take m))) ∧ Chg [g, b] w w'

/-- What a read leaves. -/
theorem red_end {B g f b o n : Nat} {t : TypeId} {cur : Array Value} {left : List UInt8} {w w2 : World} {s : ByteArray} {A : Option Addr} {cap at_ at2 : Nat} {l : List Int}
    (hg : Blk w g 96 #[.string s, .slice A l.length cap, .int .i64 at_, .bool false]) (hl : s.data.toList = left) (hr : Reads w B 1 A l.length (is_ l)) (hv : ∀ x ∈ l, -9223372036854775808 ≤ x ∧ x ≤ 9223372036854775807) (hll : l.length ≤ 2147483647)
    (hle : B ≤ g) (hsz : left.length ≤ 2147483647) (hb : Row w b t cur) (hgb : g ≠ b) (hB : B ≤ b)
    (m : Nat) (hmn : m ≤ n) (hml : m ≤ left.length) (hfit : o + n ≤ cur.size) (hrf : ∃ f', f' < f ∧ RF l at2 (left.length - m) f' ∧ at2 + f' ≤ 1099511627776)
    (hw : Blk w2 g 96 #[.string s, .slice A l.length cap, .int .i64 at2, .bool false]) (hwb : Row w2 b t cur) (hc : Chg [g, b] w w2) (e : Ending) (he : e = .returned (.tuple #[.int .i64 (m : Nat), .nilIface])) :
    Red w B g b o n t cur left f e ((w2.setRow b (ovr cur o (bs (s.data.toList.take m)))).setCell ⟨g, 0, none⟩ (.string (s.extract m s.size))) := by
  subst hl
  obtain ⟨f', hf, hrf, hat⟩ := hrf
  have hx : Chg [g, b] w ((w2.setRow b (ovr cur o (bs (s.data.toList.take m)))).setCell ⟨g, 0, none⟩ (.string (s.extract m s.size))) := (hc.setRow (.inl (by simp)) _).setCell (.inl (by simp)) _
  refine ⟨m, f', hmn, hml, hf, he, ⟨⟨s.extract m s.size, A, cap, at2, l, ?_, ?_, hr.chg hx (by simp; omega) (Nat.le_trans hle (Nat.le_of_lt hg.lt)), by rw [List.length_drop]; exact hrf, hat, hv, hll⟩, hle, by rw [List.length_drop]; omega⟩, ?_, hx⟩
  · have := (hw.setRow_far (g' := b) hgb (ovr cur o (bs (s.data.toList.take m)))).set_ 0 (.string (s.extract m s.size))
    simpa using this
  · rw [Lib.extract_to_end]
  · exact (hwb.setRow_ _ (ovr_size (by rw [bs_length, List.length_take]; omega))).far (by simpa using Ne.symm hgb) _

set_option maxRecDepth 100000 in
set_option maxHeartbeats 1000000 in
theorem read_all (B g f b o n cap : Nat) (t : TypeId) (cur : Array Value) (c : UInt8) (left : List UInt8) (w : World) (hb : Row w b t cur) (hgb : g ≠ b) (hB : B ≤ b) (hfit : o + n ≤ cur.size) (hn : 0 < n) (hnc : n ≤ cap) (hgB : B ≤ g) (hsz : (c :: left).length ≤ 2147483647)
    (s : ByteArray) (A : Option Addr) (cap' at_ : Nat) (hg : Blk w g 96 #[.string s, .slice A 0 cap', .int .i64 at_, .bool false]) (hl : s.data.toList = c :: left) (hr : RF [] at_ (c :: left).length f) (hat : at_ + f ≤ 1099511627776) :
    Calls Tryd.prog 88 #[.pointer (some ⟨g, 0, none⟩), .slice (some ⟨b, o, none⟩) n cap] w (Red w B g b o n t cur (c :: left) f) := by
  have c0 := hg.cell 0
  have c1 := hg.cell 1
  have c3 := hg.cell 3
  have f0 := hg.frozen 0
  simp at c0 c1 c3
  have hs1 : s.size = left.length + 1 := by rw [← size_data, hl]; simp
  have hs0 : ((s.size : Int) == 0) = false := by rw [beq_eq_false_iff_ne]; omega
  have hcp : ∀ m : Nat, m ≤ s.size → m ≤ n → _ := fun m h1 h2 => run_copy_str (P := Tryd.prog) w.drew 38 9 3 5 b o m cap m s cur t Tryd.underlying38 (by kernel_rfl) hb (by show min s.size m = m; omega) (by omega)
  have fr1 : ∀ cs, (w.drew.setRow b cs).frozen? ⟨g, 0, none⟩ = false := fun cs => ((hg.drew).setRow_far hgb cs).frozen 0
  have cc1 : ∀ cs, (w.drew.setRow b cs).cell? ⟨g, 0, none⟩ = some (.string s) := fun cs => by have := ((hg.drew).setRow_far hgb cs).cell 0; simpa using this
  have END : Hid (∀ m : Nat, 0 < m → m ≤ n → m ≤ s.size → Red w B g b o n t cur (c :: left) f (.returned (.tuple #[.int .i64 (m : Nat), .nilIface])) ((w.drew.setRow b (ovr cur o (bs (s.data.toList.take m)))).setCell ⟨g, 0, none⟩ (.string (s.extract m s.size)))) := hide fun m h0 h1 h2 =>
    red_end (l := []) hg hl ⟨by simp [is_], fun h => absurd h (by simp)⟩ (by simp) (by simp) hgB hsz hb hgb hB m h1 (by simp; omega) hfit (by
      obtain ⟨f', h3, h4⟩ := hr.all h0 (by simp; omega : m ≤ (c :: left).length)
      exact ⟨f', h3, h4, by omega⟩) hg.drew hb.drew ((Chg.refl _ _).drew) _ rfl
  have hs2 : 0 < s.size := by omega
  clear hg hl hr hb hs1
  rcases (by omega : n < s.size ∨ s.size ≤ n) with hc | hc
  · have hcp := hcp n (by omega) (by omega)
    have END := hide (END.out n (by omega) (by omega) (by omega))
    go_enter Tryd.func88, Tryd.ntmps88
    go_wp2
    refine wp_region_quiet_tail 10 (by kernel_rfl) (by kernel_rfl) ?_
    simp only [List.take_succ_cons, List.take_zero, List.drop_succ_cons, List.drop_zero]
    repeat go_big_quiet_step (fail)
    refine wpQuiet_nil ?_
    go_wp2
    go_ret2
    exact END.out
  · have hcp := hcp s.size (by omega) (by omega)
    have END := hide (END.out s.size (by omega) (by omega) (by omega))
    have hsc : s.size ≤ cap := by omega
    go_enter Tryd.func88, Tryd.ntmps88
    go_wp2
    refine wp_region_quiet_tail 10 (by kernel_rfl) (by kernel_rfl) ?_
    simp only [List.take_succ_cons, List.take_zero, List.drop_succ_cons, List.drop_zero]
    repeat go_big_quiet_step (fail)
    refine wpQuiet_nil ?_
    go_wp2
    go_ret2
    have h := END.out
    rw [show s.extract s.size s.size = ByteArray.empty by simp] at h
    exact h

set_option maxRecDepth 100000 in
set_option maxHeartbeats 2000000 in
theorem read_some (B g f b o n cap : Nat) (t : TypeId) (cur : Array Value) (c : UInt8) (left : List UInt8) (w : World) (hb : Row w b t cur) (hgb : g ≠ b) (hB : B ≤ b) (hfit : o + n ≤ cur.size) (hn : 0 < n) (hnc : n ≤ cap) (hgB : B ≤ g) (hsz : (c :: left).length ≤ 2147483647)
    (s : ByteArray) (A : Option Addr) (cap' at_ : Nat) (l : List Int) (hg : Blk w g 96 #[.string s, .slice A l.length cap', .int .i64 at_, .bool false]) (hl : s.data.toList = c :: left) (hr : RF l at_ (c :: left).length f) (hat : at_ + f ≤ 1099511627776)
    (hR : Reads w B 1 A l.length (is_ l)) (hv : ∀ x ∈ l, -9223372036854775808 ≤ x ∧ x ≤ 9223372036854775807) (hll : l.length ≤ 2147483647) (hl0 : l ≠ []) :
    Calls Tryd.prog 88 #[.pointer (some ⟨g, 0, none⟩), .slice (some ⟨b, o, none⟩) n cap] w (Red w B g b o n t cur (c :: left) f) := by
  have c0 := hg.cell 0
  have c1 := hg.cell 1
  have c2 := hg.cell 2
  have c3 := hg.cell 3
  have f0 := hg.frozen 0
  have f2 := hg.frozen 2
  simp at c0 c1 c2 c3
  have hs1 : s.size = left.length + 1 := by rw [← size_data, hl]; simp
  have hs0 : ((s.size : Int) == 0) = false := by rw [beq_eq_false_iff_ne]; omega
  have hL : 0 < l.length := by rcases l with _ | ⟨_, _⟩ <;> simp at hl0 ⊢
  have hL2 : ((l.length : Int) == 0) = false := by rw [beq_eq_false_iff_ne]; omega
  have hix : at_ % l.length < l.length := Nat.mod_lt _ hL
  have hfb : at_ + f ≤ 1099511627776 := hat
  obtain ⟨ad, rfl, hab, hac⟩ := hR.2 hL
  have hel := hac (at_ % l.length) (.int .i64 (l[at_ % l.length])) (by simp [is_, hix])
  have hrem : (at_ : Int).tmod (l.length : Int) = ((at_ % l.length : Nat) : Int) := by rw [Int.tmod_eq_emod_of_nonneg (by omega)]; rfl
  have hgd : l.getD (at_ % l.length) 0 = l[at_ % l.length] := by rw [List.getD_eq_getElem?_getD, List.getElem?_eq_getElem hix]; rfl
  have HX := hide (hv _ (List.getElem_mem hix))
  generalize hk : l[at_ % l.length] = x at hel hgd HX
  have hix0 : (0 : Int) ≤ ((at_ % l.length : Nat) : Int) := by omega
  have hixi : ((at_ % l.length : Nat) : Int) < (l.length : Int) := by omega
  have END : Hid (∀ (m nq : Nat), m ≤ n → m ≤ s.size → (m = 0 → ¬ 0 < x) → ∀ W, W = ((w.drewN nq).setCell ⟨g, 2, none⟩ (.int .i64 ((at_ : Int) + 1))).drew → Red w B g b o n t cur (c :: left) f (.returned (.tuple #[.int .i64 (m : Nat), .nilIface])) ((W.setRow b (ovr cur o (bs (s.data.toList.take m)))).setCell ⟨g, 0, none⟩ (.string (s.extract m s.size)))) := hide fun m nq h1 h2 h0 W hW => by
    subst hW
    refine red_end (at2 := at_ + 1) hg hl hR hv hll hgB hsz hb hgb hB m h1 (by simp; omega) hfit ?_ ?_ ?_ ?_ _ rfl
    · obtain ⟨f', h3, h4⟩ := hr.step (m := m) hl0 (by simp; omega) (by rw [hgd]; exact h0)
      exact ⟨f', h3, h4, by omega⟩
    · have := ((hg.drewN nq).set_ 2 (.int .i64 ((at_ : Int) + 1))).drew
      simpa using this
    · exact ((hb.drewN nq).far (by simpa using Ne.symm hgb) _).drew
    · exact (((Chg.refl _ _).drewN nq).setCell (.inl (by simp)) _).drew
  have BLK : Hid (∀ nq, Row ((w.drewN nq).setCell ⟨g, 2, none⟩ (.int .i64 ((at_ : Int) + 1))).drew b t cur ∧ Blk ((w.drewN nq).setCell ⟨g, 2, none⟩ (.int .i64 ((at_ : Int) + 1))).drew g 96 #[.string s, .slice (some ad) l.length cap', .int .i64 ((at_ : Int) + 1), .bool false]) := hide fun nq =>
    ⟨((hb.drewN nq).far (by simpa using Ne.symm hgb) _).drew, by
      have := ((hg.drewN nq).set_ 2 (.int .i64 ((at_ : Int) + 1))).drew
      simpa using this⟩
  have hs2 : 0 < s.size := by omega
  clear hg hl hr hb hs1 hac hR hgd hk hv hab hl0
  generalize hj : at_ % l.length = j at hix hel hix0 hixi hrem
  clear hj
  have hq : ∃ q : Nat, (q : Int) = (if (0 : Int) < x then (if (n : Int) < x then (n : Int) else x) else 0) ∧ q ≤ n := by
    by_cases h : (0 : Int) < x
    · by_cases h2 : (n : Int) < x
      · exact ⟨n, by rw [if_pos h, if_pos h2], by omega⟩
      · exact ⟨x.toNat, by rw [if_pos h, if_neg h2]; omega, by omega⟩
    · exact ⟨0, by rw [if_neg h]; rfl, by omega⟩
  obtain ⟨q, hq, hqn⟩ := hq
  have hqc : q ≤ cap := by omega
  obtain ⟨m, hm⟩ : ∃ m, m = min s.size q := ⟨_, rfl⟩
  have HM : Hid (m = min s.size q) := hide hm
  have HQ : Hid (m = 0 → ¬ (0 : Int) < x) := hide (by
    intro h0 hx
    rw [if_pos hx] at hq
    split at hq <;> omega)
  clear hm
  have HCP : Hid (∀ W, Row W b t cur → (Builtin.copy_ #[38, 9] 3 #[.slice (some ⟨b, o, none⟩) q cap, .string s]).run Tryd.prog W = .ok (goInt m) (W.setRow b (ovr cur o (bs (s.data.toList.take m))))) := hide fun W hb =>
    run_copy_str (P := Tryd.prog) W 38 9 3 5 b o q cap m s cur t Tryd.underlying38 (by kernel_rfl) hb (by have := HM.out; show min s.size q = m; omega) (by have := HM.out; omega)
  have hms : m ≤ s.size := by have := HM.out; omega
  have E3 := hide (fun nq W => END.out m nq (by have := HM.out; omega) hms HQ.out W)
  clear END
  have HX0 := HX.out
  rcases (by omega : x ≤ 0 ∨ (0 < x ∧ x ≤ n) ∨ (n : Int) < x) with hc | ⟨hc, hc2⟩ | hc
  · rw [if_neg (by omega)] at hq
    obtain rfl : q = 0 := by omega
    obtain rfl : m = 0 := by have := HM.out; omega
    clear hq HX HX0
    go_enter Tryd.func88, Tryd.ntmps88
    go_wp2
    go_quiet (fail)
    go_wp2
    have hcp := HCP.out _ (BLK.out nq).1
    have fr1 := ((BLK.out nq).2.setRow_far hgb (ovr cur o (bs (s.data.toList.take 0)))).frozen 0
    have cc0 := (BLK.out nq).2.cell 0
    simp only [List.getElem?_toArray, List.getElem?_cons_zero] at cc0
    have cc1 := ((BLK.out nq).2.setRow_far hgb (ovr cur o (bs (s.data.toList.take 0)))).cell 0
    simp only [List.getElem?_toArray, List.getElem?_cons_zero] at cc1
    have E4 := hide (E3.out nq _ rfl)
    clear E3 BLK HCP HQ HM
    generalize ovr cur o (bs (s.data.toList.take 0)) = RW at *
    generalize (w.drewN nq).setCell ⟨g, 2, none⟩ (.int .i64 ((at_ : Int) + 1)) = W at *
    refine wp_region_quiet_tail 10 (by kernel_rfl) (by kernel_rfl) ?_
    simp only [List.take_succ_cons, List.take_zero, List.drop_succ_cons, List.drop_zero]
    repeat go_big_quiet_step (fail)
    refine wpQuiet_nil ?_
    go_wp2
    go_ret2
    have h := E4.out
    rw [show s.extract 0 s.size = s by simp] at h
    exact h
  · rw [if_pos hc, if_neg (by omega)] at hq
    subst hq
    clear HX HX0
    go_enter Tryd.func88, Tryd.ntmps88
    go_wp2
    go_quiet (fail)
    go_wp2
    have hcp := HCP.out _ (BLK.out nq).1
    have fr1 := ((BLK.out nq).2.setRow_far hgb (ovr cur o (bs (s.data.toList.take m)))).frozen 0
    have cc0 := (BLK.out nq).2.cell 0
    simp only [List.getElem?_toArray, List.getElem?_cons_zero] at cc0
    have cc1 := ((BLK.out nq).2.setRow_far hgb (ovr cur o (bs (s.data.toList.take m)))).cell 0
    simp only [List.getElem?_toArray, List.getElem?_cons_zero] at cc1
    have E4 := hide (E3.out nq _ rfl)
    clear E3 BLK HCP HQ HM
    generalize ovr cur o (bs (s.data.toList.take m)) = RW at *
    generalize (w.drewN nq).setCell ⟨g, 2, none⟩ (.int .i64 ((at_ : Int) + 1)) = W at *
    refine wp_region_quiet_tail 10 (by kernel_rfl) (by kernel_rfl) ?_
    simp only [List.take_succ_cons, List.take_zero, List.drop_succ_cons, List.drop_zero]
    repeat go_big_quiet_step (fail)
    refine wpQuiet_nil ?_
    go_wp2
    go_ret2
    exact E4.out
  · rw [if_pos (by omega), if_pos hc] at hq
    obtain rfl : q = n := by omega
    clear hq HX HX0
    go_enter Tryd.func88, Tryd.ntmps88
    go_wp2
    go_quiet (fail)
    go_wp2
    have hcp := HCP.out _ (BLK.out nq).1
    have fr1 := ((BLK.out nq).2.setRow_far hgb (ovr cur o (bs (s.data.toList.take m)))).frozen 0
    have cc0 := (BLK.out nq).2.cell 0
    simp only [List.getElem?_toArray, List.getElem?_cons_zero] at cc0
    have cc1 := ((BLK.out nq).2.setRow_far hgb (ovr cur o (bs (s.data.toList.take m)))).cell 0
    simp only [List.getElem?_toArray, List.getElem?_cons_zero] at cc1
    have E4 := hide (E3.out nq _ rfl)
    clear E3 BLK HCP HQ HM
    generalize ovr cur o (bs (s.data.toList.take m)) = RW at *
    generalize (w.drewN nq).setCell ⟨g, 2, none⟩ (.int .i64 ((at_ : Int) + 1)) = W at *
    refine wp_region_quiet_tail 10 (by kernel_rfl) (by kernel_rfl) ?_
    simp only [List.take_succ_cons, List.take_zero, List.drop_succ_cons, List.drop_zero]
    repeat go_big_quiet_step (fail)
    refine wpQuiet_nil ?_
    go_wp2
    go_ret2
    exact E4.out

/-- A read that asks for something, where something is left. -/
theorem read_more (B g f b o n cap : Nat) (t : TypeId) (cur : Array Value) (c : UInt8) (left : List UInt8) (w : World) (hR : Rdr w B g (c :: left) f) (hb : Row w b t cur) (hgb : g ≠ b) (hB : B ≤ b) (hfit : o + n ≤ cur.size) (hn : 0 < n) (hnc : n ≤ cap) :
    Calls Tryd.prog 88 #[.pointer (some ⟨g, 0, none⟩), .slice (some ⟨b, o, none⟩) n cap] w (Red w B g b o n t cur (c :: left) f) := by
  obtain ⟨⟨s, A, cap', at_, l, hg, hl, hr, h4, h5, h6, h7⟩, hle, hsz⟩ := hR
  by_cases hl0 : l = []
  · subst hl0
    exact read_all B g f b o n cap t cur c left w hb hgb hB hfit hn hnc hle hsz s A cap' at_ hg hl h4 h5
  · exact read_some B g f b o n cap t cur c left w hb hgb hB hfit hn hnc hle hsz s A cap' at_ l hg hl h4 h5 hr h6 h7 hl0

theorem take_snoc_ {α : Type} (l : List α) (k : Nat) (h : k < l.length) : l.take (k + 1) = l.take k ++ [l[k]] := List.take_succ_eq_append_getElem h
/-- Some size is above 0. -/
def anyPos (l : List Int) : Bool := l.any fun x => decide (0 < x)
theorem anyPos_snoc (l : List Int) (x : Int) : anyPos (l ++ [x]) = (anyPos l || decide (0 < x)) := by simp [anyPos]
theorem rf_start (l : List Int) (n : Nat) (h : anyPos l = true) (hn : n ≤ 1048576) (hl : l.length ≤ 1000) : ∃ f, RF l 0 n f ∧ 0 + f ≤ 1099511627776 := by
  obtain ⟨x, hx, hp⟩ := List.any_eq_true.1 h
  obtain ⟨i, hi, rfl⟩ := List.mem_iff_getElem.1 hx
  have hp : 0 < l[i] := by simpa using hp
  have e : l.getD i 0 = l[i] := by rw [List.getD_eq_getElem?_getD, List.getElem?_eq_getElem hi]; rfl
  refine ⟨n * l.length + i, .inr ⟨⟨i, hi, by rw [e]; exact hp⟩, i, hi, by rw [Nat.zero_add, Nat.mod_eq_of_lt hi, e]; exact hp, Nat.le_refl _⟩, ?_⟩
  have h1 : n * l.length ≤ 1048576 * 1000 := Nat.mul_le_mul hn hl
  omega

def NewRdr (w : World) (B : Nat) (text : List UInt8) (e : Ending) (w' : World) : Prop := ∃ g f, w.heap.size ≤ g ∧ e = .returned (.pointer (some ⟨g, 0, none⟩)) ∧ Rdr w' B g text f ∧ Chg [] w w'
set_option maxRecDepth 100000 in
set_option maxHeartbeats 1000000 in
theorem newReader_any (B : Nat) (s : ByteArray) (A : Option Addr) (cap : Nat) (l : List Int) (w : World) (hR : Reads w B 1 A l.length (is_ l)) (hB : B ≤ w.heap.size) (hll : l.length ≤ 1000) (hs : s.size ≤ 1048576) (hv : ∀ x ∈ l, -9223372036854775808 ≤ x ∧ x ≤ 9223372036854775807) :
    Calls Tryd.prog 22 #[.string s, .slice A l.length cap, .bool false] w (NewRdr w B s.data.toList) := by
  go_enter Tryd.func22, Tryd.ntmps22
  go_wp2
  go_loop [7, 9, 12] (fun s7 s9 s12 => ∃ k : Nat, k ≤ l.length ∧ s12 = .int .i64 k ∧ s7 = .bool (anyPos (l.take k))) (fun _ _ s12 => l.length - (intOf s12).toNat)
  case atStart => exact ⟨0, by omega, rfl, by simp [anyPos]⟩
  case round =>
    obtain ⟨k, hk, rfl, rfl⟩ := hrel
    by_cases hlt : k < l.length
    · have hA : ∃ ad, A = some ad ∧ w.cell? (ad.add k) = some (.int .i64 l[k]) := by
        obtain ⟨ad, h1, _, h2⟩ := hR.2 (by omega)
        exact ⟨ad, h1, h2 k _ (by simp [is_, hlt])⟩
      obtain ⟨ad, rfl, hc⟩ := hA
      have HS := hide (take_snoc_ l k hlt)
      have HP : Hid (anyPos (l.take (k + 1)) = (anyPos (l.take k) || decide (0 < l[k]))) := hide (by rw [unhide HS, anyPos_snoc])
      generalize l[k] = x at HP hc
      generalize anyPos (l.take k) = V at HP ⊢
      clear HS
      by_cases hp : 0 < x
      · have HP2 : Hid (anyPos (l.take (k + 1)) = true) := hide (by rw [HP.out]; simp [hp])
        clear HP
        cases V <;>
        · go_wp2
          go_round
          case rel => exact ⟨k + 1, by omega, by go_num, by rw [HP2.out]⟩
          case measure => simp [intOf]; omega
      · have hpd : decide (0 < x) = false := decide_eq_false hp
        have HP2 : Hid (anyPos (l.take (k + 1)) = V) := hide (by rw [HP.out, hpd]; simp)
        clear HP
        cases V <;>
        · go_wp2
          go_round
          case rel => exact ⟨k + 1, by omega, by go_num, by rw [HP2.out]⟩
          case measure => simp [intOf]; omega
    · obtain rfl : k = l.length := by omega
      have HT := hide (List.take_length (l := l))
      rw [HT.out]
      cases hV : anyPos l with
      | true =>
        have HF := hide (rf_start l s.size hV (by omega) hll)
        have HV := hide hV
        clear hV
        go_wp2
        go_ret
        obtain ⟨f, h1, h2⟩ := HF.out
        refine ⟨_, f, Nat.le_refl _, rfl, ⟨⟨s, A, cap, 0, l, ?_, rfl, ?_, by rw [size_data]; exact h1, h2, hv, by omega⟩, hB, by rw [size_data]; omega⟩, (Chg.refl _ _).alloc _⟩
        · exact Blk.new w _ _
        · exact hR.alloc hB _
      | false =>
        go_wp2
        go_ret
        refine ⟨_, s.size, Nat.le_refl _, rfl, ⟨⟨s, none, 0, 0, [], ?_, rfl, ⟨by simp [is_], fun h => absurd h (by simp)⟩, .inl ⟨rfl, by rw [size_data]; exact Nat.le_refl _⟩, by omega, by simp, by simp⟩, hB, by rw [size_data]; omega⟩, (Chg.refl _ _).alloc _⟩
        exact Blk.new w _ _
end Go.Proofs.YtnenjkngimfdgaaDoor
