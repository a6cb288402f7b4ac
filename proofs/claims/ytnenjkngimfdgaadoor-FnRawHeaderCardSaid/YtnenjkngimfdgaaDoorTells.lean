/-
  resp3.RawMessage: IsNull, IsEmpty, IsStreamedHeader of a streamed header; impl.RawTells.
-/
import Derived.Test.YtnenjkngimfdgaaDoorUnm
import Derived.Test.YtnenjkngimfdgaaDoorTwo
import Derived.RegionTactic
import Derived.Shelf.Bytes.SlEqualAll
namespace Go.Proofs.YtnenjkngimfdgaaDoor
open Go.RowKit
set_option linter.unusedVariables false
set_option linter.unusedSimpArgs false

/-- Bytes that lie in a row, as the shelf says it. -/
def InB (w : World) (A : Option Addr) (n : Nat) (l : List UInt8) : Prop := Lib.BytesIn w A n (nums l) ∧ l.length = n
theorem equal_any (A1 A2 : Option Addr) (n c m d : Nat) (l1 l2 : List UInt8) (w : World) (h1 : InB w A1 n l1) (h2 : InB w A2 m l2) :
    Calls Tryd.prog 61 #[.slice A1 n c, .slice A2 m d] w fun e w' => e = .returned (.bool (l1 == l2)) ∧ w' = w := by
  have h := Tryd.bytes_Equal_all A1 A2 n c m d (nums l1) (nums l2) w (by simp [nums, h1.2]) (by simp [nums, h2.2]) h1.1 h2.1
  rw [bytesOf_nums, bytesOf_nums] at h
  exact h
theorem conv_mark (w : World) (cs : Array Value) (a c : Nat) : (convert 38 38 (.slice (some ⟨w.heap.size, 0, none⟩) a c)).run Tryd.prog (w.alloc (.cells cs 5)) = .ok (.slice (some ⟨w.heap.size, 0, none⟩) a c) ((w.alloc (.cells cs 5)).freeze ⟨w.heap.size, cs.size, none⟩ 1) := by
  have hsh : (w.alloc (.cells cs 5)).shape? w.heap.size = some (5, cs.size) := by simp [World.shape?, World.alloc, -World.alloc_eq]
  simp [convert, run_underlying Tryd.underlying38, run_underlying Tryd.underlying5, markStringish, hsh, Result.andThen]
theorem mark_heap (w : World) (cs : Array Value) (n : Nat) (k : Nat) : ((w.alloc (.cells cs 5)).freeze ⟨w.heap.size, n, none⟩ 1).heap[k]? = if k = w.heap.size then some (.cells cs 5 (n, n + 1)) else w.heap[k]? := by
  by_cases h : k = w.heap.size
  · subst h
    simp [World.freeze, World.alloc, -World.alloc_eq, Array.getElem?_modify]
    rw [Array.getElem_modify_self]
    simp
  · have h2 := Ne.symm h
    simp [World.freeze, World.alloc, -World.alloc_eq, Array.getElem?_modify, Array.getElem?_push, h, h2]
theorem mark_ext (w : World) (cs : Array Value) (n : Nat) : Ext w ((w.alloc (.cells cs 5)).freeze ⟨w.heap.size, n, none⟩ 1) :=
  ⟨rfl, rfl, rfl, by simp [World.freeze, World.alloc, -World.alloc_eq], fun k hk => by rw [mark_heap, if_neg (by omega)]⟩
theorem mark_in (w : World) (a b c n : Int) (m : Nat) (x y z : UInt8) (h1 : a = x.toNat) (h2 : b = y.toNat) (h3 : c = z.toNat) : InB ((w.alloc (.cells #[.int .u8 a, .int .u8 b, .int .u8 c] 5)).freeze ⟨w.heap.size, m, none⟩ 1) (some ⟨w.heap.size, 0, none⟩) 3 [x, y, z] := by
  subst h1 h2 h3
  refine ⟨fun _ => ⟨w.heap.size, 0, rfl, fun i hi => ?_⟩, rfl⟩
  rw [Nat.zero_add]
  unfold World.cell?
  rw [mark_heap, if_pos rfl]
  have : i = 0 ∨ i = 1 ∨ i = 2 := by omega
  rcases this with rfl | rfl | rfl <;> rfl
set_option maxRecDepth 100000 in
theorem null_any (w : World) : Calls Tryd.prog 62 #[] w fun e w' => ∃ g c, e = .returned (.slice (some ⟨g, 0, none⟩) 3 c) ∧ InB w' (some ⟨g, 0, none⟩) 3 [95, 13, 10] ∧ Ext w w' := by
  have cv := conv_mark w #[.int .u8 95, .int .u8 13, .int .u8 10] 3 3
  have X := hide (And.intro (mark_in w 95 13 10 0 3 95 13 10 rfl rfl rfl) (mark_ext w #[.int .u8 95, .int .u8 13, .int .u8 10] 3))
  have hsz : (#[.int .u8 95, .int .u8 13, .int .u8 10] : Array Value).size = 3 := rfl
  rw [hsz] at cv
  generalize (w.alloc (.cells #[.int .u8 95, .int .u8 13, .int .u8 10] 5)).freeze ⟨w.heap.size, 3, none⟩ 1 = W1 at cv X
  go_enter Tryd.func62, Tryd.ntmps62
  go_wp2
  go_ret
  exact ⟨_, _, rfl, X.out.1, X.out.2⟩
set_option maxRecDepth 100000 in
theorem null2_any (w : World) : Calls Tryd.prog 63 #[] w fun e w' => ∃ g c, e = .returned (.slice (some ⟨g, 0, none⟩) 3 c) ∧ InB w' (some ⟨g, 0, none⟩) 3 [45, 49, 13] ∧ Ext w w' := by
  have cv := conv_mark w #[.int .u8 45, .int .u8 49, .int .u8 13] 3 3
  have X := hide (And.intro (mark_in w 45 49 13 0 3 45 49 13 rfl rfl rfl) (mark_ext w #[.int .u8 45, .int .u8 49, .int .u8 13] 3))
  have hsz : (#[.int .u8 45, .int .u8 49, .int .u8 13] : Array Value).size = 3 := rfl
  rw [hsz] at cv
  generalize (w.alloc (.cells #[.int .u8 45, .int .u8 49, .int .u8 13] 5)).freeze ⟨w.heap.size, 3, none⟩ 1 = W1 at cv X
  go_enter Tryd.func63, Tryd.ntmps63
  go_wp2
  go_ret
  exact ⟨_, _, rfl, X.out.1, X.out.2⟩
set_option maxRecDepth 100000 in
theorem agg0_any (w : World) : Calls Tryd.prog 64 #[] w fun e w' => ∃ g c, e = .returned (.slice (some ⟨g, 0, none⟩) 3 c) ∧ InB w' (some ⟨g, 0, none⟩) 3 [48, 13, 10] ∧ Ext w w' := by
  have cv := conv_mark w #[.int .u8 48, .int .u8 13, .int .u8 10] 3 3
  have X := hide (And.intro (mark_in w 48 13 10 0 3 48 13 10 rfl rfl rfl) (mark_ext w #[.int .u8 48, .int .u8 13, .int .u8 10] 3))
  have hsz : (#[.int .u8 48, .int .u8 13, .int .u8 10] : Array Value).size = 3 := rfl
  rw [hsz] at cv
  generalize (w.alloc (.cells #[.int .u8 48, .int .u8 13, .int .u8 10] 5)).freeze ⟨w.heap.size, 3, none⟩ 1 = W1 at cv X
  go_enter Tryd.func64, Tryd.ntmps64
  go_wp2
  go_ret
  exact ⟨_, _, rfl, X.out.1, X.out.2⟩
set_option maxRecDepth 100000 in
theorem strm_any (w : World) : Calls Tryd.prog 65 #[] w fun e w' => ∃ g c, e = .returned (.slice (some ⟨g, 0, none⟩) 3 c) ∧ InB w' (some ⟨g, 0, none⟩) 3 [63, 13, 10] ∧ Ext w w' := by
  have cv := conv_mark w #[.int .u8 63, .int .u8 13, .int .u8 10] 3 3
  have X := hide (And.intro (mark_in w 63 13 10 0 3 63 13 10 rfl rfl rfl) (mark_ext w #[.int .u8 63, .int .u8 13, .int .u8 10] 3))
  have hsz : (#[.int .u8 63, .int .u8 13, .int .u8 10] : Array Value).size = 3 := rfl
  rw [hsz] at cv
  generalize (w.alloc (.cells #[.int .u8 63, .int .u8 13, .int .u8 10] 5)).freeze ⟨w.heap.size, 3, none⟩ 1 = W1 at cv X
  go_enter Tryd.func65, Tryd.ntmps65
  go_wp2
  go_ret
  exact ⟨_, _, rfl, X.out.1, X.out.2⟩
/-- The header, as a slice. -/
def HdrB (w : World) (b n : Nat) (c : UInt8) : Prop := InB w (some ⟨b, 0, none⟩) 4 (hdr c)
theorem InB.ext {w w' : World} {A : Option Addr} {n : Nat} {l : List UInt8} (h : InB w A n l) (hx : Ext w w') : InB w' A n l := ⟨fun h0 => by
  obtain ⟨b, o, e, hc⟩ := h.1 h0
  exact ⟨b, o, e, fun i hi => hx.cellOf (hc i hi)⟩, h.2⟩
theorem InB.cell {w : World} {b o n : Nat} {l : List UInt8} (h : InB w (some ⟨b, o, none⟩) n l) (i : Nat) (hi : i < n) (hl : i < l.length) : w.cell? ⟨b, o + i, none⟩ = some (.int .u8 (l[i].toNat)) := by
  obtain ⟨b2, o2, e, hc⟩ := h.1 (by omega)
  injection e with e
  injection e with e1 e2
  subst e1 e2
  rw [hc i hi]
  simp [nums, List.getD_eq_getElem?_getD, hl]
theorem InB.sub {w : World} {b o n : Nat} {l : List UInt8} (h : InB w (some ⟨b, o, none⟩) n l) (k m : Nat) (hk : k + m ≤ n) : InB w (some ⟨b, o + k, none⟩) m ((l.drop k).take m) := by
  have hl := h.2
  refine ⟨fun h0 => ⟨b, o + k, rfl, fun i hi => ?_⟩, by rw [List.length_take, List.length_drop]; omega⟩
  have hk2 : k + i < l.length := by omega
  have h2 := h.cell (k + i) (by omega) hk2
  rw [Nat.add_assoc, h2]
  simp [nums, List.getD_eq_getElem?_getD, hi, hk2]
set_option maxRecDepth 100000 in
set_option maxHeartbeats 1000000 in
theorem isNull_any (b cap : Nat) (c : UInt8) (w : World) (hc4 : 4 ≤ cap) (h : InB w (some ⟨b, 0, none⟩) 4 (hdr c)) :
    Calls Tryd.prog 34 #[.slice (some ⟨b, 0, none⟩) 4 cap] w fun e w' => e = .returned (.bool false) ∧ Ext w w' := by
  have N1 := hide (fun W => null_any W)
  have N2 := hide (fun W => null2_any W)
  have E1 : Hid (∀ W g cc, Ext w W → InB W (some ⟨g, 0, none⟩) 3 [95, 13, 10] → Calls Tryd.prog 61 #[.slice (some ⟨b, 0, none⟩) 4 cap, .slice (some ⟨g, 0, none⟩) 3 cc] W fun e w' => e = .returned (.bool false) ∧ w' = W) := hide fun W g cc hx hg => by
    have h2 := equal_any _ _ 4 cap 3 cc _ _ W (h.ext hx) hg
    have e : (hdr c == [95, 13, 10]) = false := by rw [beq_eq_false_iff_ne]; intro e; have := congrArg List.length e; simp [hdr] at this
    rw [e] at h2
    exact h2
  have E2 : Hid (∀ W g cc, Ext w W → InB W (some ⟨g, 0, none⟩) 3 [45, 49, 13] → Calls Tryd.prog 61 #[.slice (some ⟨b, 1, none⟩) 3 (cap - 1), .slice (some ⟨g, 0, none⟩) 3 cc] W fun e w' => e = .returned (.bool false) ∧ w' = W) := hide fun W g cc hx hg => by
    have h2 := equal_any _ _ 3 (cap - 1) 3 cc _ _ W ((h.sub 1 3 (by omega)).ext hx) hg
    have e : (((hdr c).drop 1).take 3 == [45, 49, 13]) = false := by show (([63, 13, 10] : List UInt8) == [45, 49, 13]) = false; decide
    rw [e] at h2
    exact h2
  have hcz : (4 : Int) ≤ (cap : Int) := by omega
  have hw4 : IntKind.i64.wrap 4 = 4 := rfl
  have hc1 : ¬ cap = 1 := by omega
  clear h
  go_enter Tryd.func34, Tryd.ntmps34
  go_wp2_with fail
  refine (N1.out _).mono ?_
  rintro e w1 ⟨g1, c1, rfl, hI1, hx1⟩
  have HX1 := hide hx1
  have HI1 := hide hI1
  clear hx1 hI1 N1
  go_wp2_with fail
  refine (E1.out _ _ _ HX1.out HI1.out).mono ?_
  rintro e w2 ⟨rfl, rfl⟩
  clear E1 HI1
  go_wp2_with fail
  refine (N2.out _).mono ?_
  rintro e w3 ⟨g2, c2, rfl, hI2, hx2⟩
  have HX2 := hide (HX1.out.trans hx2)
  clear hI2 hx2 HX1
  go_wp2_with fail
  refine wp_region_any (by kernel_rfl) ?_
  change wpAny _ _ _ _ _ _ _ (World.drew _)
  refine wpAny_take (i := 0) (v := ?_) rfl (by kernel_rfl) (by kernel_rfl) (by kernel_rfl) (fun _ _ _ h => h) (Or.inl ⟨by rfl, ?_⟩) ?_
  rotate_left
  · (intro w; go_simp <;> with_reducible rfl)
  refine wpAny_ready (rs := [1]) (by kernel_rfl) (by simp) ?_
  refine AllReady.cons rfl (fun K0 hK => ?_) AllReady.nil
  go_simp
  go_wp2_with (go_at_call 63; refine (N2.out _).mono ?_; rintro e wA ⟨gA, cA, rfl, hIA, hxA⟩)
  have HXA := hide (((HX2.out.drew)).trans hxA)
  have HIA := hide hIA
  clear hIA hxA
  try (refine hK _ _ ?_; clear hK K0)
  refine wpAny_take (i := 2) (v := ?_) rfl (by kernel_rfl) (by kernel_rfl) (by kernel_rfl) (fun _ _ _ h => h) (Or.inl ⟨by rfl, ?_⟩) ?_
  rotate_left
  · (intro w; go_simp <;> with_reducible rfl)
  refine wpAny_take (i := 3) (v := ?_) rfl (by kernel_rfl) (by kernel_rfl) (by kernel_rfl) (fun _ _ _ h => h) (Or.inl ⟨by rfl, ?_⟩) ?_
  rotate_left
  · (intro w; go_simp <;> with_reducible rfl)
  refine wpAny_take (i := 4) (v := ?_) rfl (by kernel_rfl) (by kernel_rfl) (by kernel_rfl) (fun _ _ _ h => h) (Or.inl ⟨by rfl, ?_⟩) ?_
  rotate_left
  · (intro w; go_simp <;> with_reducible rfl)
  refine wpAny_ready (rs := [5]) (by kernel_rfl) (by simp) ?_
  refine AllReady.cons rfl (fun K0 hK => ?_) AllReady.nil
  go_simp
  go_wp2_with (go_at_call 63; refine (N2.out _).mono ?_; rintro e wB ⟨gB, cB, rfl, hIB, hxB⟩)
  have HXB := hide (HXA.out.trans hxB)
  have HIB := hide hIB
  clear hIB hxB
  try (refine hK _ _ ?_; clear hK K0)
  refine wpAny_ready (rs := [6]) (by kernel_rfl) (by simp) ?_
  refine AllReady.cons rfl (fun K0 hK => ?_) AllReady.nil
  go_simp
  go_wp2_with (go_at_call 61; refine (E2.out _ _ _ HXB.out HIB.out).mono ?_; rintro e wE ⟨rfl, rfl⟩)
  try (refine hK _ _ ?_; clear hK K0)
  refine wpAny_ready (rs := [7]) (by kernel_rfl) (by simp) ?_
  refine AllReady.cons rfl (fun K0 hK => ?_) AllReady.nil
  go_simp
  try (refine hK _ _ ?_; clear hK K0)
  refine wpAny_done (by kernel_rfl) ?_ _
  go_wp2
  go_ret
  exact ⟨rfl, HXB.out⟩
set_option maxRecDepth 100000 in
set_option maxHeartbeats 2000000 in
theorem isEmpty_any (b cap : Nat) (c : UInt8) (w : World) (hp : Pfx c) (hc4 : 4 ≤ cap) (h : InB w (some ⟨b, 0, none⟩) 4 (hdr c)) :
    Calls Tryd.prog 35 #[.slice (some ⟨b, 0, none⟩) 4 cap] w fun e w' => e = .returned (.bool false) ∧ Ext w w' := by
  have N2 := hide (fun W => agg0_any W)
  have E2 : Hid (∀ W g cc, Ext w W → InB W (some ⟨g, 0, none⟩) 3 [48, 13, 10] → Calls Tryd.prog 61 #[.slice (some ⟨b, 1, none⟩) 3 (cap - 1), .slice (some ⟨g, 0, none⟩) 3 cc] W fun e w' => e = .returned (.bool false) ∧ w' = W) := hide fun W g cc hx hg => by
    have h2 := equal_any _ _ 3 (cap - 1) 3 cc _ _ W ((h.sub 1 3 (by omega)).ext hx) hg
    have e : (((hdr c).drop 1).take 3 == [48, 13, 10]) = false := by show (([63, 13, 10] : List UInt8) == [48, 13, 10]) = false; decide
    rw [e] at h2
    exact h2
  have hcz : (4 : Int) ≤ (cap : Int) := by omega
  have hw4 : IntKind.i64.wrap 4 = 4 := rfl
  have hc1 : ¬ cap = 1 := by omega
  have hcz1 : (1 : Int) ≤ (cap : Int) := by omega
  have k0 := h.cell 0 (by omega) (by simp [hdr])
  have k0 : w.cell? ⟨b, 0, none⟩ = some (.int .u8 c.toNat) := k0
  have HW : Hid (Ext w w) := hide (Ext.refl w)
  clear h
  rcases hp with rfl | rfl | rfl | rfl | rfl
  · go_enter Tryd.func35, Tryd.ntmps35
    go_wp2
    go_ret
    exact ⟨rfl, Ext.refl w⟩
  · go_enter Tryd.func35, Tryd.ntmps35
    go_wp2_with fail
    refine wp_region_any (by kernel_rfl) ?_
    change wpAny _ _ _ _ _ _ _ (World.drew _)
    refine wpAny_take (i := 0) (v := ?_) rfl (by kernel_rfl) (by kernel_rfl) (by kernel_rfl) (fun _ _ _ h => h) (Or.inl ⟨by rfl, ?_⟩) ?_
    rotate_left
    · (intro w; go_simp <;> with_reducible rfl)
    refine wpAny_take (i := 1) (v := ?_) rfl (by kernel_rfl) (by kernel_rfl) (by kernel_rfl) (fun _ _ _ h => h) (Or.inl ⟨by rfl, ?_⟩) ?_
    rotate_left
    · (intro w; go_simp <;> with_reducible rfl)
    refine wpAny_ready (rs := [2]) (by kernel_rfl) (by simp) ?_
    refine AllReady.cons rfl (fun K0 hK => ?_) AllReady.nil
    go_simp
    go_wp2_with (go_at_call 64; refine (N2.out _).mono ?_; rintro e wA ⟨gA, cA, rfl, hIA, hxA⟩)
    have HXA := hide (((HW.out.drew)).trans hxA)
    have HIA := hide hIA
    clear hIA hxA
    try (refine hK _ _ ?_; clear hK K0)
    refine wpAny_ready (rs := [3]) (by kernel_rfl) (by simp) ?_
    refine AllReady.cons rfl (fun K0 hK => ?_) AllReady.nil
    go_simp
    go_wp2_with (go_at_call 61; refine (E2.out _ _ _ HXA.out HIA.out).mono ?_; rintro e wE ⟨rfl, rfl⟩)
    try (refine hK _ _ ?_; clear hK K0)
    refine wpAny_ready (rs := [4]) (by kernel_rfl) (by simp) ?_
    refine AllReady.cons rfl (fun K0 hK => ?_) AllReady.nil
    go_simp
    try (refine hK _ _ ?_; clear hK K0)
    refine wpAny_done (by kernel_rfl) ?_ _
    go_wp2
    go_ret
    exact ⟨rfl, HXA.out⟩
  · go_enter Tryd.func35, Tryd.ntmps35
    go_wp2_with fail
    refine wp_region_any (by kernel_rfl) ?_
    change wpAny _ _ _ _ _ _ _ (World.drew _)
    refine wpAny_take (i := 0) (v := ?_) rfl (by kernel_rfl) (by kernel_rfl) (by kernel_rfl) (fun _ _ _ h => h) (Or.inl ⟨by rfl, ?_⟩) ?_
    rotate_left
    · (intro w; go_simp <;> with_reducible rfl)
    refine wpAny_take (i := 1) (v := ?_) rfl (by kernel_rfl) (by kernel_rfl) (by kernel_rfl) (fun _ _ _ h => h) (Or.inl ⟨by rfl, ?_⟩) ?_
    rotate_left
    · (intro w; go_simp <;> with_reducible rfl)
    refine wpAny_ready (rs := [2]) (by kernel_rfl) (by simp) ?_
    refine AllReady.cons rfl (fun K0 hK => ?_) AllReady.nil
    go_simp
    go_wp2_with (go_at_call 64; refine (N2.out _).mono ?_; rintro e wA ⟨gA, cA, rfl, hIA, hxA⟩)
    have HXA := hide (((HW.out.drew)).trans hxA)
    have HIA := hide hIA
    clear hIA hxA
    try (refine hK _ _ ?_; clear hK K0)
    refine wpAny_ready (rs := [3]) (by kernel_rfl) (by simp) ?_
    refine AllReady.cons rfl (fun K0 hK => ?_) AllReady.nil
    go_simp
    go_wp2_with (go_at_call 61; refine (E2.out _ _ _ HXA.out HIA.out).mono ?_; rintro e wE ⟨rfl, rfl⟩)
    try (refine hK _ _ ?_; clear hK K0)
    refine wpAny_ready (rs := [4]) (by kernel_rfl) (by simp) ?_
    refine AllReady.cons rfl (fun K0 hK => ?_) AllReady.nil
    go_simp
    try (refine hK _ _ ?_; clear hK K0)
    refine wpAny_done (by kernel_rfl) ?_ _
    go_wp2
    go_ret
    exact ⟨rfl, HXA.out⟩
  · go_enter Tryd.func35, Tryd.ntmps35
    go_wp2_with fail
    refine wp_region_any (by kernel_rfl) ?_
    change wpAny _ _ _ _ _ _ _ (World.drew _)
    refine wpAny_take (i := 0) (v := ?_) rfl (by kernel_rfl) (by kernel_rfl) (by kernel_rfl) (fun _ _ _ h => h) (Or.inl ⟨by rfl, ?_⟩) ?_
    rotate_left
    · (intro w; go_simp <;> with_reducible rfl)
    refine wpAny_take (i := 1) (v := ?_) rfl (by kernel_rfl) (by kernel_rfl) (by kernel_rfl) (fun _ _ _ h => h) (Or.inl ⟨by rfl, ?_⟩) ?_
    rotate_left
    · (intro w; go_simp <;> with_reducible rfl)
    refine wpAny_ready (rs := [2]) (by kernel_rfl) (by simp) ?_
    refine AllReady.cons rfl (fun K0 hK => ?_) AllReady.nil
    go_simp
    go_wp2_with (go_at_call 64; refine (N2.out _).mono ?_; rintro e wA ⟨gA, cA, rfl, hIA, hxA⟩)
    have HXA := hide (((HW.out.drew)).trans hxA)
    have HIA := hide hIA
    clear hIA hxA
    try (refine hK _ _ ?_; clear hK K0)
    refine wpAny_ready (rs := [3]) (by kernel_rfl) (by simp) ?_
    refine AllReady.cons rfl (fun K0 hK => ?_) AllReady.nil
    go_simp
    go_wp2_with (go_at_call 61; refine (E2.out _ _ _ HXA.out HIA.out).mono ?_; rintro e wE ⟨rfl, rfl⟩)
    try (refine hK _ _ ?_; clear hK K0)
    refine wpAny_ready (rs := [4]) (by kernel_rfl) (by simp) ?_
    refine AllReady.cons rfl (fun K0 hK => ?_) AllReady.nil
    go_simp
    try (refine hK _ _ ?_; clear hK K0)
    refine wpAny_done (by kernel_rfl) ?_ _
    go_wp2
    go_ret
    exact ⟨rfl, HXA.out⟩
  · go_enter Tryd.func35, Tryd.ntmps35
    go_wp2_with fail
    refine wp_region_any (by kernel_rfl) ?_
    change wpAny _ _ _ _ _ _ _ (World.drew _)
    refine wpAny_take (i := 0) (v := ?_) rfl (by kernel_rfl) (by kernel_rfl) (by kernel_rfl) (fun _ _ _ h => h) (Or.inl ⟨by rfl, ?_⟩) ?_
    rotate_left
    · (intro w; go_simp <;> with_reducible rfl)
    refine wpAny_take (i := 1) (v := ?_) rfl (by kernel_rfl) (by kernel_rfl) (by kernel_rfl) (fun _ _ _ h => h) (Or.inl ⟨by rfl, ?_⟩) ?_
    rotate_left
    · (intro w; go_simp <;> with_reducible rfl)
    refine wpAny_ready (rs := [2]) (by kernel_rfl) (by simp) ?_
    refine AllReady.cons rfl (fun K0 hK => ?_) AllReady.nil
    go_simp
    go_wp2_with (go_at_call 64; refine (N2.out _).mono ?_; rintro e wA ⟨gA, cA, rfl, hIA, hxA⟩)
    have HXA := hide (((HW.out.drew)).trans hxA)
    have HIA := hide hIA
    clear hIA hxA
    try (refine hK _ _ ?_; clear hK K0)
    refine wpAny_ready (rs := [3]) (by kernel_rfl) (by simp) ?_
    refine AllReady.cons rfl (fun K0 hK => ?_) AllReady.nil
    go_simp
    go_wp2_with (go_at_call 61; refine (E2.out _ _ _ HXA.out HIA.out).mono ?_; rintro e wE ⟨rfl, rfl⟩)
    try (refine hK _ _ ?_; clear hK K0)
    refine wpAny_ready (rs := [4]) (by kernel_rfl) (by simp) ?_
    refine AllReady.cons rfl (fun K0 hK => ?_) AllReady.nil
    go_simp
    try (refine hK _ _ ?_; clear hK K0)
    refine wpAny_done (by kernel_rfl) ?_ _
    go_wp2
    go_ret
    exact ⟨rfl, HXA.out⟩

set_option maxRecDepth 100000 in
set_option maxHeartbeats 2000000 in
theorem isStream_any (b cap : Nat) (c : UInt8) (w : World) (hp : Pfx c) (hc4 : 4 ≤ cap) (h : InB w (some ⟨b, 0, none⟩) 4 (hdr c)) :
    Calls Tryd.prog 36 #[.slice (some ⟨b, 0, none⟩) 4 cap] w fun e w' => e = .returned (.bool true) ∧ Ext w w' := by
  have N2 := hide (fun W => strm_any W)
  have E2 : Hid (∀ W g cc, Ext w W → InB W (some ⟨g, 0, none⟩) 3 [63, 13, 10] → Calls Tryd.prog 61 #[.slice (some ⟨b, 1, none⟩) 3 (cap - 1), .slice (some ⟨g, 0, none⟩) 3 cc] W fun e w' => e = .returned (.bool true) ∧ w' = W) := hide fun W g cc hx hg => by
    have h2 := equal_any _ _ 3 (cap - 1) 3 cc _ _ W ((h.sub 1 3 (by omega)).ext hx) hg
    have e : (((hdr c).drop 1).take 3 == [63, 13, 10]) = true := by show (([63, 13, 10] : List UInt8) == [63, 13, 10]) = true; decide
    rw [e] at h2
    exact h2
  have hcz : (4 : Int) ≤ (cap : Int) := by omega
  have hw4 : IntKind.i64.wrap 4 = 4 := rfl
  have hc1 : ¬ cap = 1 := by omega
  have hcz1 : (1 : Int) ≤ (cap : Int) := by omega
  have k0 := h.cell 0 (by omega) (by simp [hdr])
  have k0 : w.cell? ⟨b, 0, none⟩ = some (.int .u8 c.toNat) := k0
  have HW : Hid (Ext w w) := hide (Ext.refl w)
  clear h
  rcases hp with rfl | rfl | rfl | rfl | rfl
  · go_enter Tryd.func36, Tryd.ntmps36
    go_wp2_with fail
    refine wp_region_any (by kernel_rfl) ?_
    change wpAny _ _ _ _ _ _ _ (World.drew _)
    refine wpAny_take (i := 0) (v := ?_) rfl (by kernel_rfl) (by kernel_rfl) (by kernel_rfl) (fun _ _ _ h => h) (Or.inl ⟨by rfl, ?_⟩) ?_
    rotate_left
    · (intro w; go_simp <;> with_reducible rfl)
    refine wpAny_take (i := 1) (v := ?_) rfl (by kernel_rfl) (by kernel_rfl) (by kernel_rfl) (fun _ _ _ h => h) (Or.inl ⟨by rfl, ?_⟩) ?_
    rotate_left
    · (intro w; go_simp <;> with_reducible rfl)
    refine wpAny_ready (rs := [2]) (by kernel_rfl) (by simp) ?_
    refine AllReady.cons rfl (fun K0 hK => ?_) AllReady.nil
    go_simp
    go_wp2_with (go_at_call 65; refine (N2.out _).mono ?_; rintro e wA ⟨gA, cA, rfl, hIA, hxA⟩)
    have HXA := hide (((HW.out.drew)).trans hxA)
    have HIA := hide hIA
    clear hIA hxA
    try (refine hK _ _ ?_; clear hK K0)
    refine wpAny_ready (rs := [3]) (by kernel_rfl) (by simp) ?_
    refine AllReady.cons rfl (fun K0 hK => ?_) AllReady.nil
    go_simp
    go_wp2_with (go_at_call 61; refine (E2.out _ _ _ HXA.out HIA.out).mono ?_; rintro e wE ⟨rfl, rfl⟩)
    try (refine hK _ _ ?_; clear hK K0)
    refine wpAny_ready (rs := [4]) (by kernel_rfl) (by simp) ?_
    refine AllReady.cons rfl (fun K0 hK => ?_) AllReady.nil
    go_simp
    try (refine hK _ _ ?_; clear hK K0)
    refine wpAny_done (by kernel_rfl) ?_ _
    go_wp2
    go_ret
    exact ⟨rfl, HXA.out⟩
  · go_enter Tryd.func36, Tryd.ntmps36
    go_wp2_with fail
    refine wp_region_any (by kernel_rfl) ?_
    change wpAny _ _ _ _ _ _ _ (World.drew _)
    refine wpAny_take (i := 0) (v := ?_) rfl (by kernel_rfl) (by kernel_rfl) (by kernel_rfl) (fun _ _ _ h => h) (Or.inl ⟨by rfl, ?_⟩) ?_
    rotate_left
    · (intro w; go_simp <;> with_reducible rfl)
    refine wpAny_take (i := 1) (v := ?_) rfl (by kernel_rfl) (by kernel_rfl) (by kernel_rfl) (fun _ _ _ h => h) (Or.inl ⟨by rfl, ?_⟩) ?_
    rotate_left
    · (intro w; go_simp <;> with_reducible rfl)
    refine wpAny_ready (rs := [2]) (by kernel_rfl) (by simp) ?_
    refine AllReady.cons rfl (fun K0 hK => ?_) AllReady.nil
    go_simp
    go_wp2_with (go_at_call 65; refine (N2.out _).mono ?_; rintro e wA ⟨gA, cA, rfl, hIA, hxA⟩)
    have HXA := hide (((HW.out.drew)).trans hxA)
    have HIA := hide hIA
    clear hIA hxA
    try (refine hK _ _ ?_; clear hK K0)
    refine wpAny_ready (rs := [3]) (by kernel_rfl) (by simp) ?_
    refine AllReady.cons rfl (fun K0 hK => ?_) AllReady.nil
    go_simp
    go_wp2_with (go_at_call 61; refine (E2.out _ _ _ HXA.out HIA.out).mono ?_; rintro e wE ⟨rfl, rfl⟩)
    try (refine hK _ _ ?_; clear hK K0)
    refine wpAny_ready (rs := [4]) (by kernel_rfl) (by simp) ?_
    refine AllReady.cons rfl (fun K0 hK => ?_) AllReady.nil
    go_simp
    try (refine hK _ _ ?_; clear hK K0)
    refine wpAny_done (by kernel_rfl) ?_ _
    go_wp2
    go_ret
    exact ⟨rfl, HXA.out⟩
  · go_enter Tryd.func36, Tryd.ntmps36
    go_wp2_with fail
    refine wp_region_any (by kernel_rfl) ?_
    change wpAny _ _ _ _ _ _ _ (World.drew _)
    refine wpAny_take (i := 0) (v := ?_) rfl (by kernel_rfl) (by kernel_rfl) (by kernel_rfl) (fun _ _ _ h => h) (Or.inl ⟨by rfl, ?_⟩) ?_
    rotate_left
    · (intro w; go_simp <;> with_reducible rfl)
    refine wpAny_take (i := 1) (v := ?_) rfl (by kernel_rfl) (by kernel_rfl) (by kernel_rfl) (fun _ _ _ h => h) (Or.inl ⟨by rfl, ?_⟩) ?_
    rotate_left
    · (intro w; go_simp <;> with_reducible rfl)
    refine wpAny_ready (rs := [2]) (by kernel_rfl) (by simp) ?_
    refine AllReady.cons rfl (fun K0 hK => ?_) AllReady.nil
    go_simp
    go_wp2_with (go_at_call 65; refine (N2.out _).mono ?_; rintro e wA ⟨gA, cA, rfl, hIA, hxA⟩)
    have HXA := hide (((HW.out.drew)).trans hxA)
    have HIA := hide hIA
    clear hIA hxA
    try (refine hK _ _ ?_; clear hK K0)
    refine wpAny_ready (rs := [3]) (by kernel_rfl) (by simp) ?_
    refine AllReady.cons rfl (fun K0 hK => ?_) AllReady.nil
    go_simp
    go_wp2_with (go_at_call 61; refine (E2.out _ _ _ HXA.out HIA.out).mono ?_; rintro e wE ⟨rfl, rfl⟩)
    try (refine hK _ _ ?_; clear hK K0)
    refine wpAny_ready (rs := [4]) (by kernel_rfl) (by simp) ?_
    refine AllReady.cons rfl (fun K0 hK => ?_) AllReady.nil
    go_simp
    try (refine hK _ _ ?_; clear hK K0)
    refine wpAny_done (by kernel_rfl) ?_ _
    go_wp2
    go_ret
    exact ⟨rfl, HXA.out⟩
  · go_enter Tryd.func36, Tryd.ntmps36
    go_wp2_with fail
    refine wp_region_any (by kernel_rfl) ?_
    change wpAny _ _ _ _ _ _ _ (World.drew _)
    refine wpAny_take (i := 0) (v := ?_) rfl (by kernel_rfl) (by kernel_rfl) (by kernel_rfl) (fun _ _ _ h => h) (Or.inl ⟨by rfl, ?_⟩) ?_
    rotate_left
    · (intro w; go_simp <;> with_reducible rfl)
    refine wpAny_take (i := 1) (v := ?_) rfl (by kernel_rfl) (by kernel_rfl) (by kernel_rfl) (fun _ _ _ h => h) (Or.inl ⟨by rfl, ?_⟩) ?_
    rotate_left
    · (intro w; go_simp <;> with_reducible rfl)
    refine wpAny_ready (rs := [2]) (by kernel_rfl) (by simp) ?_
    refine AllReady.cons rfl (fun K0 hK => ?_) AllReady.nil
    go_simp
    go_wp2_with (go_at_call 65; refine (N2.out _).mono ?_; rintro e wA ⟨gA, cA, rfl, hIA, hxA⟩)
    have HXA := hide (((HW.out.drew)).trans hxA)
    have HIA := hide hIA
    clear hIA hxA
    try (refine hK _ _ ?_; clear hK K0)
    refine wpAny_ready (rs := [3]) (by kernel_rfl) (by simp) ?_
    refine AllReady.cons rfl (fun K0 hK => ?_) AllReady.nil
    go_simp
    go_wp2_with (go_at_call 61; refine (E2.out _ _ _ HXA.out HIA.out).mono ?_; rintro e wE ⟨rfl, rfl⟩)
    try (refine hK _ _ ?_; clear hK K0)
    refine wpAny_ready (rs := [4]) (by kernel_rfl) (by simp) ?_
    refine AllReady.cons rfl (fun K0 hK => ?_) AllReady.nil
    go_simp
    try (refine hK _ _ ?_; clear hK K0)
    refine wpAny_done (by kernel_rfl) ?_ _
    go_wp2
    go_ret
    exact ⟨rfl, HXA.out⟩
  · go_enter Tryd.func36, Tryd.ntmps36
    go_wp2_with fail
    refine wp_region_any (by kernel_rfl) ?_
    change wpAny _ _ _ _ _ _ _ (World.drew _)
    refine wpAny_take (i := 0) (v := ?_) rfl (by kernel_rfl) (by kernel_rfl) (by kernel_rfl) (fun _ _ _ h => h) (Or.inl ⟨by rfl, ?_⟩) ?_
    rotate_left
    · (intro w; go_simp <;> with_reducible rfl)
    refine wpAny_take (i := 1) (v := ?_) rfl (by kernel_rfl) (by kernel_rfl) (by kernel_rfl) (fun _ _ _ h => h) (Or.inl ⟨by rfl, ?_⟩) ?_
    rotate_left
    · (intro w; go_simp <;> with_reducible rfl)
    refine wpAny_ready (rs := [2]) (by kernel_rfl) (by simp) ?_
    refine AllReady.cons rfl (fun K0 hK => ?_) AllReady.nil
    go_simp
    go_wp2_with (go_at_call 65; refine (N2.out _).mono ?_; rintro e wA ⟨gA, cA, rfl, hIA, hxA⟩)
    have HXA := hide (((HW.out.drew)).trans hxA)
    have HIA := hide hIA
    clear hIA hxA
    try (refine hK _ _ ?_; clear hK K0)
    refine wpAny_ready (rs := [3]) (by kernel_rfl) (by simp) ?_
    refine AllReady.cons rfl (fun K0 hK => ?_) AllReady.nil
    go_simp
    go_wp2_with (go_at_call 61; refine (E2.out _ _ _ HXA.out HIA.out).mono ?_; rintro e wE ⟨rfl, rfl⟩)
    try (refine hK _ _ ?_; clear hK K0)
    refine wpAny_ready (rs := [4]) (by kernel_rfl) (by simp) ?_
    refine AllReady.cons rfl (fun K0 hK => ?_) AllReady.nil
    go_simp
    try (refine hK _ _ ?_; clear hK K0)
    refine wpAny_done (by kernel_rfl) ?_ _
    go_wp2
    go_ret
    exact ⟨rfl, HXA.out⟩

end Go.Proofs.YtnenjkngimfdgaaDoor
