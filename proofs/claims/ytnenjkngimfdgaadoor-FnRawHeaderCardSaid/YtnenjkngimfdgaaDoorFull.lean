/-
  io.ReadAtLeast, io.ReadFull over whatever reader whose reads are known.
-/
import Derived.Test.YtnenjkngimfdgaaDoorReader
import Derived.Deep.LoopGhost
import Derived.LaidEql
namespace Go.Proofs.YtnenjkngimfdgaaDoor
open Go.RowKit
set_option linter.unusedVariables false
set_option linter.unusedSimpArgs false

/-- What a read of n bytes into block b from place o on gives, over a reader known by R whose own blocks are S. -/
def RedS (R : World → List UInt8 → Nat → Prop) (S : List Nat) (w : World) (b o n : Nat) (t : TypeId) (cur : Array Value) (left : List UInt8) (f : Nat) (e : Ending) (w' : World) : Prop :=
  ∃ m f', m ≤ n ∧ m ≤ left.length ∧ f' < f ∧ e = .returned (.tuple #[.int .i64 (m : Nat), .nilIface]) ∧ R w' (left.drop m) f' ∧ Row w' b t (ovr cur o (bs (left.take m))) ∧ Chg (b :: S) w w'
def EofS (R : World → List UInt8 → Nat → Prop) (S : List Nat) (w : World) (ad : Addr) (e : Ending) (w' : World) : Prop :=
  ∃ f', e = .returned (.tuple #[.int .i64 0, .iface 146 (.pointer (some ad))]) ∧ R w' [] f' ∧ Chg S w w'

/-- A reader: an interface value of type RT, its method, what its reads give. -/
structure Src (RT : TypeId) (rd : Value) (B : Nat) (ad : Addr) (S : List Nat) (R : World → List UInt8 → Nat → Prop) (K : FuncId) : Prop where
  nil : ∀ w, (nilAhead 286 RT rd "Read").run Tryd.prog w = .ok (some false) w
  meth : ∀ w, (method 286 RT rd "Read").run Tryd.prog w = .ok (K, rd) w
  enter : ∀ args w, (callFunc K args).run Tryd.prog w = .ok (.enter K args) w
  step : ∀ w c left f b o n cap cur t, R w (c :: left) f → Row w b t cur → b ∉ S → B ≤ b → o + n ≤ cur.size → 0 < n → n ≤ cap → n ≤ 1099511627776 →
    Calls Tryd.prog K #[rd, .slice (some ⟨b, o, none⟩) n cap] w (RedS R S w b o n t cur (c :: left) f)
  stop : ∀ w f A n cap, R w [] f → EofAt w B ad → 0 < n → Calls Tryd.prog K #[rd, .slice A n cap] w (EofS R S w ad)
  frame : ∀ w w' l f S', R w l f → Chg S' w w' → (∀ i ∈ S', i ∉ S ∧ B ≤ i) → R w' l f
  base : ∀ i ∈ S, B ≤ i
  lt : ∀ w l f, R w l f → ∀ i ∈ S, i < w.heap.size

theorem ovr_nil (cur : Array Value) (o : Nat) : ovr cur o [] = cur := by simp [ovr]
theorem ovr_ovr {cur : Array Value} {o : Nat} {l m : List Value} (h : o + l.length + m.length ≤ cur.size) : ovr (ovr cur o l) (o + l.length) m = ovr cur o (l ++ m) := by
  apply Array.ext_getElem?
  intro j
  have h1 : o + l.length + m.length ≤ (ovr cur o l).size := by rw [ovr_size (by omega)]; exact h
  have h2 : o + (l ++ m).length ≤ cur.size := by simp; omega
  by_cases hj : j < o + l.length
  · rw [ovr_lo h1 hj]
    by_cases hj2 : j < o
    · rw [ovr_lo (by omega) hj2, ovr_lo h2 hj2]
    · obtain ⟨k, rfl⟩ : ∃ k, j = o + k := ⟨j - o, by omega⟩
      rw [ovr_in (by omega) (by omega), ovr_in h2 (by simp; omega), List.getElem?_append_left (by omega)]
  · by_cases hj2 : j < o + l.length + m.length
    · obtain ⟨k, rfl⟩ : ∃ k, j = o + l.length + k := ⟨j - (o + l.length), by omega⟩
      rw [ovr_in h1 (by omega), show o + l.length + k = o + (l.length + k) by omega, ovr_in h2 (by simp; omega), List.getElem?_append_right (by omega)]
      congr 1; omega
    · rw [ovr_hi h1 (by omega), ovr_hi (by omega) (by omega), ovr_hi h2 (by simp; omega)]

/-- What ReadFull tells. -/
def FullS (R : World → List UInt8 → Nat → Prop) (S : List Nat) (w : World) (b o n : Nat) (t : TypeId) (cur : Array Value) (left : List UInt8) (e : Ending) (w' : World) : Prop :=
  ∃ f', R w' (left.drop n) f' ∧ Row w' b t (ovr cur o (bs (left.take n))) ∧ Chg (b :: S) w w' ∧
    ((n ≤ left.length ∧ e = .returned (.tuple #[.int .i64 (n : Nat), .nilIface])) ∨ (left.length < n ∧ ∃ k a, e = .returned (.tuple #[.int .i64 k, .iface 146 (.pointer (some a))])))

/-- io.ErrUnexpectedEOF as the program's text lays it. -/
def UeofAt (w : World) (B : Nat) (ad : Addr) : Prop := 2 < B ∧ B ≤ w.heap.size ∧ w.cell? ⟨2, 0, none⟩ = some (.iface 146 (.pointer (some ad)))
theorem UeofAt.chg {w w' : World} {B : Nat} {ad : Addr} {S : List Nat} (h : UeofAt w B ad) (hc : Chg S w w') (hS : ∀ i ∈ S, B ≤ i) : UeofAt w' B ad :=
  ⟨h.1, Nat.le_trans h.2.1 hc.size, cell_chg h.2.2 hc (fun hm => by have h1 := hS _ hm; have h2 := h.1; show False; exact absurd h1 (by show ¬ B ≤ 2; omega))⟩

/-- An error of errors.New's make is itself. -/
theorem run_eql_err (a : Addr) (w : World) : (binOp .eql 54 (.iface 146 (.pointer (some a))) (.iface 146 (.pointer (some a)))).run Tryd.prog w = .ok (.bool true) w :=
  have h1 : (Tryd.prog.info? 146).isSome = true := by kernel_rfl
  have h2 : (Tryd.prog.info? 148).isSome = true := by kernel_rfl
  run_eql_iface_ptr_same (i := (Tryd.prog.info? 146).get h1) (j := (Tryd.prog.info? 148).get h2) w a Tryd.underlying54 Tryd.underlying146 (Option.some_get h1).symm (by kernel_rfl) (Option.some_get h2).symm

/-- Where the loop of ReadAtLeast stands: j bytes have come. -/
def AtJ (R : World → List UInt8 → Nat → Prop) (S : List Nat) (w : World) (B b o n : Nat) (t : TypeId) (cur : Array Value) (left : List UInt8) (ad ad2 : Addr) (g j : Nat) (wx : World) : Prop :=
  j ≤ n ∧ j ≤ left.length ∧ R wx (left.drop j) g ∧ Row wx b t (ovr cur o (bs (left.take j))) ∧ Chg (b :: S) w wx ∧ EofAt wx B ad ∧ UeofAt wx B ad2

set_option maxRecDepth 100000 in
set_option maxHeartbeats 2000000 in
theorem readAtLeast_any {RT : TypeId} {rd : Value} {B : Nat} {ad ad2 : Addr} {S : List Nat} {R : World → List UInt8 → Nat → Prop} {K : FuncId} (hS : Src RT rd B ad S R K) (b o n cap : Nat) (t : TypeId) (cur : Array Value) (left : List UInt8) (f : Nat) (w : World)
    (hR : R w left f) (hb : Row w b t cur) (hbS : b ∉ S) (hbB : B ≤ b) (hfit : o + n ≤ cur.size) (hn : n ≤ cap) (hcm : n ≤ 1099511627776) (hE : EofAt w B ad) (hU : UeofAt w B ad2) :
    Calls Tryd.prog 68 #[.iface RT rd, .slice (some ⟨b, o, none⟩) n cap, .int .i64 (n : Nat)] w (FullS R S w b o n t cur left) := by
  have HS := hide hS
  have hnil := hS.nil
  have hmeth := hS.meth
  have hent := hS.enter
  have H0 : AtJ R S w B b o n t cur left ad ad2 f 0 w := ⟨by omega, by omega, hR, by simpa [bs, ovr_nil] using hb, Chg.refl _ _, hE, hU⟩
  have H0 := hide H0
  clear hS hR hb hE hU
  go_enter Tryd.func68, Tryd.ntmps68
  go_wp2
  go_loopg [6, 7, 8] (f + 1) (fun g s6 s7 s8 wx => ∃ j : Nat, j ≤ n ∧ s6 = .int .i64 j ∧ ((s7 = .nilIface ∧ ∃ g', g' < g ∧ AtJ R S w B b o n t cur left ad ad2 g' j wx) ∨ (s7 = .iface 146 (.pointer (some ad)) ∧ j < n ∧ ∃ g', left.length = j ∧ AtJ R S w B b o n t cur left ad ad2 g' j wx)))
  case atStart => exact ⟨0, by omega, rfl, .inl ⟨rfl, f, by omega, H0.out⟩⟩
  case round =>
    obtain ⟨j, hj, rfl, hrel⟩ := hrel
    rcases hrel with ⟨rfl, g', hg, H⟩ | ⟨rfl, hjn, g', hle, H⟩
    · have H := hide H
      clear H0
      by_cases hlt : j < n
      · have hcj : ¬ cap = j := by omega
        by_cases hl : j < left.length
        · have CALL : Hid (∀ W, W = wr.drew → Calls Tryd.prog K #[rd, .slice (some ⟨b, o + j, none⟩) (n - j) (cap - j)] W (RedS R S W b (o + j) (n - j) t (ovr cur o (bs (left.take j))) (left.drop j) g')) := hide (by
            rintro W rfl
            obtain ⟨h1, h2, h3, h4, h5, h6, h7⟩ := H.out
            have hd := List.drop_eq_getElem_cons hl
            have hs : (ovr cur o (bs (left.take j))).size = cur.size := ovr_size (by rw [bs_length, List.length_take]; omega)
            rw [hd] at h3 ⊢
            exact HS.out.step _ _ _ _ b (o + j) (n - j) (cap - j) _ t (HS.out.frame _ _ _ _ [] h3 ((Chg.refl _ _).drew) (by simp)) h4.drew hbS hbB (by rw [hs]; omega) (by omega) (by omega) (by omega))
          have hn2 : n ≤ 1099511627776 := by omega
          have ONE : Hid (∀ m f' W w2, m ≤ n - j → m ≤ (left.drop j).length → f' < g' → W = wr.drew → R w2 ((left.drop j).drop m) f' → Row w2 b t (ovr (ovr cur o (bs (left.take j))) (o + j) (bs ((left.drop j).take m))) → Chg (b :: S) W w2 →
              j + m ≤ n ∧ Hid (AtJ R S w B b o n t cur left ad ad2 f' (j + m) w2)) := hide (by
            rintro m f' W w2 hm1 hm2 hf rfl hR2 hB2 hC2
            obtain ⟨h1, h2, h3, h4, h5, h6, h7⟩ := H.out
            rw [List.length_drop] at hm2
            have hSB : ∀ i ∈ b :: S, B ≤ i := by
              intro i hi
              rcases List.mem_cons.1 hi with rfl | hi
              · exact hbB
              · exact HS.out.base i hi
            have hC3 := ((Chg.refl (b :: S) wr).drew).trans hC2
            refine ⟨by omega, hide ⟨by omega, by omega, by rw [List.drop_drop] at hR2; exact hR2, ?_, h5.trans hC3, h6.chg hC3 hSB, h7.chg hC3 hSB⟩⟩
            have hlen : (bs (left.take j)).length = j := by rw [bs_length, List.length_take]; omega
            have e := ovr_ovr (cur := cur) (o := o) (l := bs (left.take j)) (m := bs ((left.drop j).take m)) (by rw [hlen, bs_length, List.length_take, List.length_drop]; omega)
            rw [hlen] at e
            rw [e, ← bs_append] at hB2
            rwa [List.take_add])
          clear H
          go_wp2
          go_region_with (first | (refine (CALL.out _ rfl).mono ?_; rintro e w2 ⟨m, f', hm1, hm2, hf, rfl, hR2, hB2, hC2⟩; obtain ⟨hjm, X⟩ := ONE.out _ _ _ _ hm1 hm2 hf rfl hR2 hB2 hC2; clear hR2 hB2 hC2 hm1 hm2))
          clear CALL ONE
          go_wp2
          go_roundg g'
          case measure => exact hg
          case rel => exact ⟨j + m, hjm, by go_num, .inl ⟨rfl, f', hf, X.out⟩⟩
        · have STOP : Hid (∀ W, W = wr.drew → Calls Tryd.prog K #[rd, .slice (some ⟨b, o + j, none⟩) (n - j) (cap - j)] W (EofS R S W ad)) := hide (by
            rintro W rfl
            obtain ⟨h1, h2, h3, h4, h5, h6, h7⟩ := H.out
            rw [List.drop_eq_nil_of_le (by omega)] at h3
            exact HS.out.stop _ _ _ _ _ (HS.out.frame _ _ _ _ [] h3 ((Chg.refl _ _).drew) (by simp)) (h6.chg ((Chg.refl [] _).drew) (by simp)) (by omega))
          have ONE : Hid (∀ f' W w2, W = wr.drew → R w2 [] f' → Chg S W w2 → left.length = j ∧ AtJ R S w B b o n t cur left ad ad2 f' j w2) := hide (by
            rintro f' W w2 rfl hR2 hC2
            obtain ⟨h1, h2, h3, h4, h5, h6, h7⟩ := H.out
            have hC3 := ((Chg.refl S wr).drew).trans hC2
            refine ⟨by omega, h1, h2, by rw [List.drop_eq_nil_of_le (by omega)]; exact hR2, h4.chg hC3 hbS, h5.trans (hC3.more (fun i hi => .inl (List.mem_cons_of_mem _ hi))), h6.chg hC3 HS.out.base, h7.chg hC3 HS.out.base⟩)
          have hn2 : n ≤ 1099511627776 := by omega
          clear H
          go_wp2
          go_region_with (first | (refine (STOP.out _ rfl).mono ?_; rintro e w2 ⟨f', rfl, hR2, hC2⟩; have X := hide (ONE.out _ _ _ rfl hR2 hC2); clear hR2 hC2))
          clear STOP ONE
          go_wp2
          go_roundg g'
          case measure => exact hg
          case rel => exact ⟨j, hj, by go_num, .inr ⟨rfl, hlt, f', X.out⟩⟩
      · have hjn : j = n := by omega
        have hlt : ¬ (j : Int) < (n : Int) := by omega
        subst hjn
        go_wp2
        go_ret2
        obtain ⟨h1, h2, h3, h4, h5, h6, h7⟩ := H.out
        exact ⟨g', h3, h4, h5, .inl ⟨h2, rfl⟩⟩
    · have H := hide H
      clear H0
      have ce := H.out.2.2.2.2.2.1.2.2
      have cu := H.out.2.2.2.2.2.2.2.2
      have END : Hid (∀ k a, FullS R S w b o n t cur left (.returned (.tuple #[.int .i64 k, .iface 146 (.pointer (some a))])) wr) := hide fun k a => by
        obtain ⟨h1, h2, h3, h4, h5, h6, h7⟩ := H.out
        refine ⟨g', by rw [List.drop_eq_nil_of_le (by omega)] at h3 ⊢; exact h3, ?_, h5, .inr ⟨by omega, k, a, rfl⟩⟩
        rw [List.take_of_length_le (by omega)] at h4 ⊢
        exact h4
      clear H hle
      have heq := run_eql_err ad
      by_cases h0 : 0 < j
      · go_wp2
        go_ret2
        exact END.out _ _
      · obtain rfl : j = 0 := by omega
        go_wp2
        go_ret2
        exact END.out _ _
end Go.Proofs.YtnenjkngimfdgaaDoor
