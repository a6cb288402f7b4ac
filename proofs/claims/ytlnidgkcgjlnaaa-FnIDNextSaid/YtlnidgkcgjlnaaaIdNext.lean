/-
  impl.IDNext, IDPrev, IDBefore and the definition's Next, Prev: contracts.
-/
import Derived.Test.YtlnidgkcgjlnaaaOps
import Derived.Handy
namespace Go.Proofs.Ytlnidgkcgjlnaaa
open Go.RowKit
set_option linter.unusedVariables false
set_option linter.unusedSimpArgs false

def nextT (t s : Int) : Int := if s < 18446744073709551615 then t else if t < 18446744073709551615 then t + 1 else t
def nextS (t s : Int) : Int := if s < 18446744073709551615 then s + 1 else if t < 18446744073709551615 then 0 else s
def prevT (t s : Int) : Int := if s > 0 then t else if t > 0 then t - 1 else t
def prevS (t s : Int) : Int := if s > 0 then s - 1 else if t > 0 then 18446744073709551615 else s
def U64 (t : Int) : Prop := 0 ≤ t ∧ t ≤ 18446744073709551615

theorem nextU {t s : Int} (ht : U64 t) (hs : U64 s) : U64 (nextT t s) ∧ U64 (nextS t s) := by
  unfold U64 nextT nextS at *; constructor <;> (repeat' split) <;> omega
theorem prevU {t s : Int} (ht : U64 t) (hs : U64 s) : U64 (prevT t s) ∧ U64 (prevS t s) := by
  unfold U64 prevT prevS at *; constructor <;> (repeat' split) <;> omega

/-- A block of two cells. -/
def Two (w : World) (b : Nat) (x y : Value) : Prop := b < w.heap.size ∧ w.cell? ⟨b, 0, none⟩ = some x ∧ w.cell? ⟨b, 1, none⟩ = some y ∧ w.frozen? ⟨b, 0, none⟩ = false ∧ w.frozen? ⟨b, 1, none⟩ = false
theorem Two.ext {w w' : World} {b : Nat} {x y : Value} (h : Two w b x y) (hx : Ext w w') : Two w' b x y :=
  ⟨Nat.lt_of_lt_of_le h.1 hx.sizes, (hx.cell h.1).trans h.2.1, (hx.cell h.1).trans h.2.2.1, (hx.frozen h.1).trans h.2.2.2.1, (hx.frozen h.1).trans h.2.2.2.2⟩
theorem Two.new (w : World) (x y : Value) (T : TypeId) (k : Nat) (hk : w.heap.size = k) : Two (w.alloc (.cells #[x, y] T)) k x y := by
  subst hk
  have h := Blk.new w T #[x, y]
  exact ⟨by simp, by rw [h.cell]; rfl, by rw [h.cell]; rfl, h.frozen 0, h.frozen 1⟩

set_option maxRecDepth 100000 in
theorem radixNext_any (t s : Int) (w : World) (ht : U64 t) (hs : U64 s) :
    Calls Try.prog 28 #[.agg #[.int .u64 t, .int .u64 s]] w fun e w' => e = .returned (.agg #[.int .u64 (nextT t s), .int .u64 (nextS t s)]) ∧ Ext w w' := by
  obtain ⟨t0, t1⟩ := ht; obtain ⟨s0, s1⟩ := hs
  by_cases h : s < 18446744073709551615
  · have e1 : nextT t s = t := by unfold nextT; rw [if_pos h]
    have e2 : nextS t s = s + 1 := by unfold nextS; rw [if_pos h]
    rw [e1, e2]; clear e1 e2
    have wr : IntKind.u64.wrap (s + 1) = s + 1 := by simp [IntKind.wrap, IntKind.bits, IntKind.signed]; omega
    go_enter Try.func28, Try.ntmps28
    go_wp2
    go_returns
    refine ⟨rfl, ?_⟩
    repeat (first | exact Ext.refl _ | assumption | refine Ext.drew ?_ | refine Ext.drewN ?_ _ | refine Ext.alloc ?_ _ | refine ext_bytesWorld ?_ _ _ | refine Ext.setCell ?_ (by first | (simp; done) | (simp; omega)) _)
  · by_cases h2 : t < 18446744073709551615
    · have e1 : nextT t s = t + 1 := by unfold nextT; rw [if_neg h, if_pos h2]
      have e2 : nextS t s = 0 := by unfold nextS; rw [if_neg h, if_pos h2]
      rw [e1, e2]; clear e1 e2
      have wr : IntKind.u64.wrap (t + 1) = t + 1 := by simp [IntKind.wrap, IntKind.bits, IntKind.signed]; omega
      go_enter Try.func28, Try.ntmps28
      go_wp2
      go_returns
      refine ⟨rfl, ?_⟩
      repeat (first | exact Ext.refl _ | assumption | refine Ext.drew ?_ | refine Ext.drewN ?_ _ | refine Ext.alloc ?_ _ | refine ext_bytesWorld ?_ _ _ | refine Ext.setCell ?_ (by first | (simp; done) | (simp; omega)) _)
    · have e1 : nextT t s = t := by unfold nextT; rw [if_neg h, if_neg h2]
      have e2 : nextS t s = s := by unfold nextS; rw [if_neg h, if_neg h2]
      rw [e1, e2]; clear e1 e2
      go_enter Try.func28, Try.ntmps28
      go_wp2
      go_returns
      refine ⟨rfl, ?_⟩
      repeat (first | exact Ext.refl _ | assumption | refine Ext.drew ?_ | refine Ext.drewN ?_ _ | refine Ext.alloc ?_ _ | refine ext_bytesWorld ?_ _ _ | refine Ext.setCell ?_ (by first | (simp; done) | (simp; omega)) _)

set_option maxRecDepth 100000 in
theorem specNext_any (t s : Int) (w : World) (ht : U64 t) (hs : U64 s) :
    Calls Try.prog 14 #[.agg #[.int .u64 t, .int .u64 s]] w fun e w' => e = .returned (.agg #[.int .u64 (nextT t s), .int .u64 (nextS t s)]) ∧ Ext w w' := by
  obtain ⟨t0, t1⟩ := ht; obtain ⟨s0, s1⟩ := hs
  by_cases h : s < 18446744073709551615
  · have e1 : nextT t s = t := by unfold nextT; rw [if_pos h]
    have e2 : nextS t s = s + 1 := by unfold nextS; rw [if_pos h]
    rw [e1, e2]; clear e1 e2
    have wr : IntKind.u64.wrap (s + 1) = s + 1 := by simp [IntKind.wrap, IntKind.bits, IntKind.signed]; omega
    go_enter Try.func14, Try.ntmps14
    go_wp2
    go_returns
    refine ⟨rfl, ?_⟩
    repeat (first | exact Ext.refl _ | assumption | refine Ext.drew ?_ | refine Ext.drewN ?_ _ | refine Ext.alloc ?_ _ | refine ext_bytesWorld ?_ _ _ | refine Ext.setCell ?_ (by first | (simp; done) | (simp; omega)) _)
  · by_cases h2 : t < 18446744073709551615
    · have e1 : nextT t s = t + 1 := by unfold nextT; rw [if_neg h, if_pos h2]
      have e2 : nextS t s = 0 := by unfold nextS; rw [if_neg h, if_pos h2]
      rw [e1, e2]; clear e1 e2
      have wr : IntKind.u64.wrap (t + 1) = t + 1 := by simp [IntKind.wrap, IntKind.bits, IntKind.signed]; omega
      go_enter Try.func14, Try.ntmps14
      go_wp2
      go_returns
      refine ⟨rfl, ?_⟩
      repeat (first | exact Ext.refl _ | assumption | refine Ext.drew ?_ | refine Ext.drewN ?_ _ | refine Ext.alloc ?_ _ | refine ext_bytesWorld ?_ _ _ | refine Ext.setCell ?_ (by first | (simp; done) | (simp; omega)) _)
    · have e1 : nextT t s = t := by unfold nextT; rw [if_neg h, if_neg h2]
      have e2 : nextS t s = s := by unfold nextS; rw [if_neg h, if_neg h2]
      rw [e1, e2]; clear e1 e2
      go_enter Try.func14, Try.ntmps14
      go_wp2
      go_returns
      refine ⟨rfl, ?_⟩
      repeat (first | exact Ext.refl _ | assumption | refine Ext.drew ?_ | refine Ext.drewN ?_ _ | refine Ext.alloc ?_ _ | refine ext_bytesWorld ?_ _ _ | refine Ext.setCell ?_ (by first | (simp; done) | (simp; omega)) _)

set_option maxRecDepth 100000 in
theorem radixPrev_any (t s : Int) (w : World) (ht : U64 t) (hs : U64 s) :
    Calls Try.prog 29 #[.agg #[.int .u64 t, .int .u64 s]] w fun e w' => e = .returned (.agg #[.int .u64 (prevT t s), .int .u64 (prevS t s)]) ∧ Ext w w' := by
  obtain ⟨t0, t1⟩ := ht; obtain ⟨s0, s1⟩ := hs
  by_cases h : s > 0
  · have e1 : prevT t s = t := by unfold prevT; rw [if_pos h]
    have e2 : prevS t s = s - 1 := by unfold prevS; rw [if_pos h]
    rw [e1, e2]; clear e1 e2
    have wr : IntKind.u64.wrap (s - 1) = s - 1 := by simp [IntKind.wrap, IntKind.bits, IntKind.signed]; omega
    go_enter Try.func29, Try.ntmps29
    go_wp2
    go_returns
    refine ⟨rfl, ?_⟩
    repeat (first | exact Ext.refl _ | assumption | refine Ext.drew ?_ | refine Ext.drewN ?_ _ | refine Ext.alloc ?_ _ | refine ext_bytesWorld ?_ _ _ | refine Ext.setCell ?_ (by first | (simp; done) | (simp; omega)) _)
  · by_cases h2 : t > 0
    · have e1 : prevT t s = t - 1 := by unfold prevT; rw [if_neg h, if_pos h2]
      have e2 : prevS t s = 18446744073709551615 := by unfold prevS; rw [if_neg h, if_pos h2]
      rw [e1, e2]; clear e1 e2
      have wr : IntKind.u64.wrap (t - 1) = t - 1 := by simp [IntKind.wrap, IntKind.bits, IntKind.signed]; omega
      go_enter Try.func29, Try.ntmps29
      go_wp2
      go_returns
      refine ⟨rfl, ?_⟩
      repeat (first | exact Ext.refl _ | assumption | refine Ext.drew ?_ | refine Ext.drewN ?_ _ | refine Ext.alloc ?_ _ | refine ext_bytesWorld ?_ _ _ | refine Ext.setCell ?_ (by first | (simp; done) | (simp; omega)) _)
    · have e1 : prevT t s = t := by unfold prevT; rw [if_neg h, if_neg h2]
      have e2 : prevS t s = s := by unfold prevS; rw [if_neg h, if_neg h2]
      rw [e1, e2]; clear e1 e2
      go_enter Try.func29, Try.ntmps29
      go_wp2
      go_returns
      refine ⟨rfl, ?_⟩
      repeat (first | exact Ext.refl _ | assumption | refine Ext.drew ?_ | refine Ext.drewN ?_ _ | refine Ext.alloc ?_ _ | refine ext_bytesWorld ?_ _ _ | refine Ext.setCell ?_ (by first | (simp; done) | (simp; omega)) _)

set_option maxRecDepth 100000 in
theorem specPrev_any (t s : Int) (w : World) (ht : U64 t) (hs : U64 s) :
    Calls Try.prog 15 #[.agg #[.int .u64 t, .int .u64 s]] w fun e w' => e = .returned (.agg #[.int .u64 (prevT t s), .int .u64 (prevS t s)]) ∧ Ext w w' := by
  obtain ⟨t0, t1⟩ := ht; obtain ⟨s0, s1⟩ := hs
  by_cases h : s > 0
  · have e1 : prevT t s = t := by unfold prevT; rw [if_pos h]
    have e2 : prevS t s = s - 1 := by unfold prevS; rw [if_pos h]
    rw [e1, e2]; clear e1 e2
    have wr : IntKind.u64.wrap (s - 1) = s - 1 := by simp [IntKind.wrap, IntKind.bits, IntKind.signed]; omega
    go_enter Try.func15, Try.ntmps15
    go_wp2
    go_returns
    refine ⟨rfl, ?_⟩
    repeat (first | exact Ext.refl _ | assumption | refine Ext.drew ?_ | refine Ext.drewN ?_ _ | refine Ext.alloc ?_ _ | refine ext_bytesWorld ?_ _ _ | refine Ext.setCell ?_ (by first | (simp; done) | (simp; omega)) _)
  · by_cases h2 : t > 0
    · have e1 : prevT t s = t - 1 := by unfold prevT; rw [if_neg h, if_pos h2]
      have e2 : prevS t s = 18446744073709551615 := by unfold prevS; rw [if_neg h, if_pos h2]
      rw [e1, e2]; clear e1 e2
      have wr : IntKind.u64.wrap (t - 1) = t - 1 := by simp [IntKind.wrap, IntKind.bits, IntKind.signed]; omega
      go_enter Try.func15, Try.ntmps15
      go_wp2
      go_returns
      refine ⟨rfl, ?_⟩
      repeat (first | exact Ext.refl _ | assumption | refine Ext.drew ?_ | refine Ext.drewN ?_ _ | refine Ext.alloc ?_ _ | refine ext_bytesWorld ?_ _ _ | refine Ext.setCell ?_ (by first | (simp; done) | (simp; omega)) _)
    · have e1 : prevT t s = t := by unfold prevT; rw [if_neg h, if_neg h2]
      have e2 : prevS t s = s := by unfold prevS; rw [if_neg h, if_neg h2]
      rw [e1, e2]; clear e1 e2
      go_enter Try.func15, Try.ntmps15
      go_wp2
      go_returns
      refine ⟨rfl, ?_⟩
      repeat (first | exact Ext.refl _ | assumption | refine Ext.drew ?_ | refine Ext.drewN ?_ _ | refine Ext.alloc ?_ _ | refine ext_bytesWorld ?_ _ _ | refine Ext.setCell ?_ (by first | (simp; done) | (simp; omega)) _)

set_option maxRecDepth 100000 in
theorem implNext_any (t s : Int) (w : World) (ht : U64 t) (hs : U64 s) :
    Calls Try.prog 12 #[.agg #[.int .u64 t, .int .u64 s]] w fun e w' => e = .returned (.agg #[.int .u64 (nextT t s), .int .u64 (nextS t s)]) ∧ Ext w w' := by
  go_enter Try.func12, Try.ntmps12
  go_wp2_with fail
  refine (radixNext_any t s _ ht hs).mono ?_; rintro e w1 ⟨rfl, hx1⟩
  have hb := (Two.new (w.alloc (.cells #[.int .u64 t, .int .u64 s] 31)) (.int .u64 0) (.int .u64 0) 31 (w.heap.size + 1) (by simp)).ext hx1
  have HX : Hid (Ext w w1) := hide (Ext.trans (by repeat (first | exact Ext.refl _ | assumption | refine Ext.drew ?_ | refine Ext.drewN ?_ _ | refine Ext.alloc ?_ _ | refine ext_bytesWorld ?_ _ _ | refine Ext.setCell ?_ (by first | (simp; done) | (simp; omega)) _)) hx1)
  clear hx1
  obtain ⟨b1, b2, b3, b4, b5⟩ := hb
  go_wp2
  refine bodyPost_ret (by simp [results, Try.results12, go_sem, b2, b3]; try rfl) rfl ?_
  have HX := HX.out
  refine ⟨rfl, ?_⟩
  repeat (first | exact Ext.refl _ | assumption | refine Ext.drew ?_ | refine Ext.drewN ?_ _ | refine Ext.alloc ?_ _ | refine ext_bytesWorld ?_ _ _ | refine Ext.setCell ?_ (by first | (simp; done) | (simp; omega)) _)

set_option maxRecDepth 100000 in
theorem implPrev_any (t s : Int) (w : World) (ht : U64 t) (hs : U64 s) :
    Calls Try.prog 13 #[.agg #[.int .u64 t, .int .u64 s]] w fun e w' => e = .returned (.agg #[.int .u64 (prevT t s), .int .u64 (prevS t s)]) ∧ Ext w w' := by
  go_enter Try.func13, Try.ntmps13
  go_wp2_with fail
  refine (radixPrev_any t s _ ht hs).mono ?_; rintro e w1 ⟨rfl, hx1⟩
  have hb := (Two.new (w.alloc (.cells #[.int .u64 t, .int .u64 s] 31)) (.int .u64 0) (.int .u64 0) 31 (w.heap.size + 1) (by simp)).ext hx1
  have HX : Hid (Ext w w1) := hide (Ext.trans (by repeat (first | exact Ext.refl _ | assumption | refine Ext.drew ?_ | refine Ext.drewN ?_ _ | refine Ext.alloc ?_ _ | refine ext_bytesWorld ?_ _ _ | refine Ext.setCell ?_ (by first | (simp; done) | (simp; omega)) _)) hx1)
  clear hx1
  obtain ⟨b1, b2, b3, b4, b5⟩ := hb
  go_wp2
  refine bodyPost_ret (by simp [results, Try.results13, go_sem, b2, b3]; try rfl) rfl ?_
  have HX := HX.out
  refine ⟨rfl, ?_⟩
  repeat (first | exact Ext.refl _ | assumption | refine Ext.drew ?_ | refine Ext.drewN ?_ _ | refine Ext.alloc ?_ _ | refine ext_bytesWorld ?_ _ _ | refine Ext.setCell ?_ (by first | (simp; done) | (simp; omega)) _)

def before (t s t' s' : Int) : Bool := decide (t < t') || (decide (t = t') && decide (s < s'))

set_option maxRecDepth 100000 in
theorem radixBefore_any (t s t' s' : Int) (w : World) :
    Calls Try.prog 30 #[.agg #[.int .u64 t, .int .u64 s], .agg #[.int .u64 t', .int .u64 s']] w fun e w' => e = .returned (.bool (before t s t' s')) ∧ Ext w w' := by
  by_cases h : t = t'
  · have e1 : before t s t' s' = decide (s < s') := by unfold before; subst h; simp
    rw [e1]; clear e1; subst h
    have hb : (t != t) = false := by simp
    go_enter Try.func30, Try.ntmps30
    go_wp2
    go_ret
    refine ⟨rfl, ?_⟩
    repeat (first | exact Ext.refl _ | assumption | refine Ext.drew ?_ | refine Ext.drewN ?_ _ | refine Ext.alloc ?_ _ | refine ext_bytesWorld ?_ _ _ | refine Ext.setCell ?_ (by first | (simp; done) | (simp; omega)) _)
  · have e1 : before t s t' s' = decide (t < t') := by unfold before; simp [h]
    rw [e1]; clear e1
    have hb : (t != t') = true := by simp [h]
    go_enter Try.func30, Try.ntmps30
    go_wp2
    go_ret
    refine ⟨rfl, ?_⟩
    repeat (first | exact Ext.refl _ | assumption | refine Ext.drew ?_ | refine Ext.drewN ?_ _ | refine Ext.alloc ?_ _ | refine ext_bytesWorld ?_ _ _ | refine Ext.setCell ?_ (by first | (simp; done) | (simp; omega)) _)

set_option maxRecDepth 100000 in
theorem implBefore_any (t s t' s' : Int) (w : World) :
    Calls Try.prog 16 #[.agg #[.int .u64 t, .int .u64 s], .agg #[.int .u64 t', .int .u64 s']] w fun e w' => e = .returned (.bool (before t s t' s')) ∧ Ext w w' := by
  go_enter Try.func16, Try.ntmps16
  go_wp2_with fail
  refine (radixBefore_any t s t' s' _).mono ?_; rintro e w1 ⟨rfl, hx1⟩
  have HX : Hid (Ext w w1) := hide (Ext.trans (by repeat (first | exact Ext.refl _ | assumption | refine Ext.drew ?_ | refine Ext.drewN ?_ _ | refine Ext.alloc ?_ _ | refine ext_bytesWorld ?_ _ _ | refine Ext.setCell ?_ (by first | (simp; done) | (simp; omega)) _)) hx1)
  clear hx1
  go_wp2
  go_ret
  exact ⟨rfl, HX.out⟩
end Go.Proofs.Ytlnidgkcgjlnaaa
