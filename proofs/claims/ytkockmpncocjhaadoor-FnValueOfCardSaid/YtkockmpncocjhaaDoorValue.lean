/-
  impl.value, impl.anyOf, lineprotocol.NewValue: a value made by its kind's constructor, and by the one for all.
-/
import Derived.Test.YtkockmpncocjhaaDoorStrB
import Derived.Test.YtkockmpncocjhaaDoorPlain
namespace Go.Proofs.YtkockmpncocjhaaDoor
open Go.RowKit Go.Lib Go.Shelf
set_option linter.unusedVariables false
set_option linter.unusedSimpArgs false

/-- The package's value of a value as data. -/
def LpOf (w : World) (B : Nat) (x : Value) (k : Int) (s : ByteArray) (N U : Int) (F : Nat) (b : Bool) : Prop :=
  (k = 1 ∧ StrOf w B x s) ∨ (k = 2 ∧ x = lpV (N % 18446744073709551616) none 0 0 2) ∨ (k = 3 ∧ x = lpV U none 0 0 3) ∨ (k = 4 ∧ x = lpV F none 0 0 4) ∨ (k = 5 ∧ x = lpV (if b then 1 else 0) none 0 0 5)
theorem LpOf.ext {w w' : World} {B : Nat} {x : Value} {k : Int} {s : ByteArray} {N U : Int} {F : Nat} {b : Bool} (h : LpOf w B x k s N U F b) (hx : Ext w w') : LpOf w' B x k s N U F b := by
  rcases h with ⟨h1, h2⟩ | h | h | h | h
  · exact .inl ⟨h1, h2.ext hx⟩
  · exact .inr (.inl h)
  · exact .inr (.inr (.inl h))
  · exact .inr (.inr (.inr (.inl h)))
  · exact .inr (.inr (.inr (.inr h)))
theorem LpOf.store {w : World} {B : Nat} {x : Value} {k : Int} {s : ByteArray} {N U : Int} {F : Nat} {b : Bool} (h : LpOf w B x k s N U F b) {p : Addr} (hp : p.block < B) (u : Value) : LpOf (w.setCell p u) B x k s N U F b := by
  rcases h with ⟨h1, h2⟩ | h | h | h | h
  · exact .inl ⟨h1, h2.store hp u⟩
  · exact .inr (.inl h)
  · exact .inr (.inr (.inl h))
  · exact .inr (.inr (.inr (.inl h)))
  · exact .inr (.inr (.inr (.inr h)))
theorem LpOf.less {w : World} {B B' : Nat} {x : Value} {k : Int} {s : ByteArray} {N U : Int} {F : Nat} {b : Bool} (h : LpOf w B x k s N U F b) (hB : B' ≤ B) : LpOf w B' x k s N U F b := by
  rcases h with ⟨h1, h2⟩ | h | h | h | h
  · exact .inl ⟨h1, h2.less hB⟩
  · exact .inr (.inl h)
  · exact .inr (.inr (.inl h))
  · exact .inr (.inr (.inr (.inl h)))
  · exact .inr (.inr (.inr (.inr h)))
theorem LpOf.form {w : World} {B : Nat} {x : Value} {k : Int} {s : ByteArray} {N U : Int} {F : Nat} {b : Bool} (h : LpOf w B x k s N U F b) : ∃ num A n c j, x = lpV num A n c j := by
  rcases h with ⟨_, A, n, c, rfl, _⟩ | ⟨_, rfl⟩ | ⟨_, rfl⟩ | ⟨_, rfl⟩ | ⟨_, rfl⟩ <;> exact ⟨_, _, _, _, _, rfl⟩
/-- What a constructor's call leaves: a value as data says, or none. -/
def Made (B : Nat) (k : Int) (s : ByteArray) (N U : Int) (F : Nat) (b : Bool) (ok : Bool) (w' : World) (x : Value) : Prop := (∃ num A n c j, x = lpV num A n c j) ∧ (ok = true → LpOf w' B x k s N U F b)
theorem Made.ext {w w' : World} {B : Nat} {x : Value} {k : Int} {s : ByteArray} {N U : Int} {F : Nat} {b ok : Bool} (h : Made B k s N U F b ok w x) (hx : Ext w w') : Made B k s N U F b ok w' x := ⟨h.1, fun e => (h.2 e).ext hx⟩
theorem Made.store {w : World} {B : Nat} {x : Value} {k : Int} {s : ByteArray} {N U : Int} {F : Nat} {b ok : Bool} (h : Made B k s N U F b ok w x) {p : Addr} (hp : p.block < B) (u : Value) : Made B k s N U F b ok (w.setCell p u) x := ⟨h.1, fun e => (h.2 e).store hp u⟩
theorem Made.less {w : World} {B B' : Nat} {x : Value} {k : Int} {s : ByteArray} {N U : Int} {F : Nat} {b ok : Bool} (h : Made B k s N U F b ok w x) (hB : B' ≤ B) : Made B' k s N U F b ok w x := ⟨h.1, fun e => (h.2 e).less hB⟩
/-- Whether a value can be made. -/
def canB (k : Int) (s : ByteArray) (F : Nat) : Bool := if k = 1 then validD s.data.toList else if k = 4 then finB F else decide (k = 2 ∨ k = 3 ∨ k = 5)
theorem ctor1 (s : ByteArray) (N U : Int) (F : Nat) (b : Bool) (w : World) (hs : s.size ≤ 1000000) (hU0 : 0 ≤ U) (hU1 : U < 18446744073709551616) (hF : F < 18446744073709551616) (hT : TabsV w) (ok : Bool) (hok : ok = canB 1 s F) :
    Calls Tryd.prog 18 #[.string s] w fun e w' => (∃ x, e = .returned (.tuple #[x, .bool ok]) ∧ Made w.heap.size 1 s N U F b ok w' x) ∧ Ext w w' := by
  have hok : ok = validD s.data.toList := hok
  by_cases hv : validD s.data.toList = true
  · refine (strVal_ok s w hs hT hv).mono ?_
    rintro e w' ⟨⟨x, rfl, h⟩, hx⟩
    have h2 := h
    obtain ⟨A, n, c, e1, _⟩ := h2
    exact ⟨⟨x, by rw [hok, hv], ⟨⟨_, _, _, _, _, e1⟩, fun _ => .inl ⟨rfl, h⟩⟩⟩, hx⟩
  · have hv : validD s.data.toList = false := by simpa using hv
    refine (strVal_bad s w hs hT hv).mono ?_
    rintro e w' ⟨rfl, hx⟩
    exact ⟨⟨_, by rw [hok, hv], ⟨⟨_, _, _, _, _, rfl⟩, fun e => by rw [hok, hv] at e; cases e⟩⟩, hx⟩
theorem ctor2 (s : ByteArray) (N U : Int) (F : Nat) (b : Bool) (w : World) (hs : s.size ≤ 1000000) (hU0 : 0 ≤ U) (hU1 : U < 18446744073709551616) (hF : F < 18446744073709551616) (hT : TabsV w) (ok : Bool) (hok : ok = canB 2 s F) :
    Calls Tryd.prog 19 #[.int .i64 N] w fun e w' => (∃ x, e = .returned (x) ∧ Made w.heap.size 2 s N U F b ok w' x) ∧ Ext w w' := by
  have hok : ok = true := hok
  refine (intVal_any N w).mono ?_
  rintro e w' ⟨rfl, hx⟩
  exact ⟨⟨_, rfl, ⟨⟨_, _, _, _, _, rfl⟩, fun e => .inr (.inl ⟨rfl, rfl⟩)⟩⟩, hx⟩
theorem ctor3 (s : ByteArray) (N U : Int) (F : Nat) (b : Bool) (w : World) (hs : s.size ≤ 1000000) (hU0 : 0 ≤ U) (hU1 : U < 18446744073709551616) (hF : F < 18446744073709551616) (hT : TabsV w) (ok : Bool) (hok : ok = canB 3 s F) :
    Calls Tryd.prog 20 #[.int .u64 U] w fun e w' => (∃ x, e = .returned (x) ∧ Made w.heap.size 3 s N U F b ok w' x) ∧ Ext w w' := by
  have hok : ok = true := hok
  refine (uintVal_any U w hU0 hU1).mono ?_
  rintro e w' ⟨rfl, hx⟩
  exact ⟨⟨_, rfl, ⟨⟨_, _, _, _, _, rfl⟩, fun e => .inr (.inr (.inl ⟨rfl, rfl⟩))⟩⟩, hx⟩
theorem ctor4 (s : ByteArray) (N U : Int) (F : Nat) (b : Bool) (w : World) (hs : s.size ≤ 1000000) (hU0 : 0 ≤ U) (hU1 : U < 18446744073709551616) (hF : F < 18446744073709551616) (hT : TabsV w) (ok : Bool) (hok : ok = canB 4 s F) :
    Calls Tryd.prog 21 #[.float .f64 F] w fun e w' => (∃ x, e = .returned (.tuple #[x, .bool ok]) ∧ Made w.heap.size 4 s N U F b ok w' x) ∧ Ext w w' := by
  have hok : ok = finB F := hok
  refine (floatVal_any F w hF).mono ?_
  rintro e w' ⟨he, hx⟩
  cases hf : finB F
  · rw [hf] at he
    exact ⟨⟨_, by rw [he, hok, hf]; rfl, ⟨⟨_, _, _, _, _, rfl⟩, fun e => by rw [hok, hf] at e; cases e⟩⟩, hx⟩
  · rw [hf] at he
    exact ⟨⟨_, by rw [he, hok, hf]; rfl, ⟨⟨_, _, _, _, _, rfl⟩, fun e => .inr (.inr (.inr (.inl ⟨rfl, rfl⟩)))⟩⟩, hx⟩
theorem ctor5 (s : ByteArray) (N U : Int) (F : Nat) (b : Bool) (w : World) (hs : s.size ≤ 1000000) (hU0 : 0 ≤ U) (hU1 : U < 18446744073709551616) (hF : F < 18446744073709551616) (hT : TabsV w) (ok : Bool) (hok : ok = canB 5 s F) :
    Calls Tryd.prog 22 #[.bool b] w fun e w' => (∃ x, e = .returned (x) ∧ Made w.heap.size 5 s N U F b ok w' x) ∧ Ext w w' := by
  have hok : ok = true := hok
  refine (boolVal_any b w).mono ?_
  rintro e w' ⟨rfl, hx⟩
  exact ⟨⟨_, rfl, ⟨⟨_, _, _, _, _, rfl⟩, fun e => .inr (.inr (.inr (.inr ⟨rfl, rfl⟩)))⟩⟩, hx⟩
theorem ctorB (a : Addr) (c0 : Nat) (s : ByteArray) (N U : Int) (F : Nat) (b : Bool) (w : World) (hs : s.size ≤ 1000000) (hU0 : 0 ≤ U) (hU1 : U < 18446744073709551616) (hF : F < 18446744073709551616) (hT : TabsV w) (ok : Bool) (hok : ok = canB 1 s F) (hc : s.size ≤ c0) (hR : RBytes w (some a) s.data.toList) (hA : ∀ W, Ext w W → ∀ j (hj : j < s.data.toList.length), W.cell? (a.add j) = some (.int .u8 (s.data.toList[j].toNat))) :
    Calls Tryd.prog 25 #[.slice (some a) s.size c0] w fun e w' => (∃ x, e = .returned (.tuple #[x, .bool ok]) ∧ Made w.heap.size 1 s N U F b ok w' x) ∧ Ext w w' := by
  have hok : ok = validD s.data.toList := hok
  by_cases hv : validD s.data.toList = true
  · refine (strB_ok a c0 s w hc hs hR hA hT hv).mono ?_
    rintro e w' ⟨⟨x, rfl, h⟩, hx⟩
    have h2 := h
    obtain ⟨A, n, c, e1, _⟩ := h2
    exact ⟨⟨x, by rw [hok, hv], ⟨⟨_, _, _, _, _, e1⟩, fun _ => .inl ⟨rfl, h⟩⟩⟩, hx⟩
  · have hv : validD s.data.toList = false := by simpa using hv
    refine (strB_bad a c0 s w hc hs hR hT hv).mono ?_
    rintro e w' ⟨rfl, hx⟩
    exact ⟨⟨_, by rw [hok, hv], ⟨⟨_, _, _, _, _, rfl⟩, fun e => by rw [hok, hv] at e; cases e⟩⟩, hx⟩
set_option maxRecDepth 100000 in
set_option maxHeartbeats 1000000 in
theorem value1 (s : ByteArray) (N U : Int) (F : Nat) (b : Bool) (w : World) (hs : s.size ≤ 1000000) (hU0 : 0 ≤ U) (hU1 : U < 18446744073709551616) (hF : F < 18446744073709551616) (hT : TabsV w) (ok : Bool) (hok : ok = canB 1 s F) :
    Calls Tryd.prog 12 #[ivV 1 s N U F b] w fun e w' => (∃ x, e = .returned (.tuple #[x, .bool ok]) ∧ Made w.heap.size 1 s N U F b ok w' x) ∧ Ext w w' := by
  have VC : Hid (∀ W, Ext w W → Calls Tryd.prog 18 #[.string s] W fun e w' => (∃ x, e = .returned (.tuple #[x, .bool ok]) ∧ Made W.heap.size 1 s N U F b ok w' x) ∧ Ext W w') := hide fun W hx => ctor1 s N U F b W hs hU0 hU1 hF (hT.ext hx) ok hok
  clear hok hT hs hF hU0 hU1
  unfold ivV
  go_enter Tryd.func12, Tryd.ntmps12
  go_wp2_with fail
  refine (VC.out _ (((Ext.refl w).alloc _).alloc _)).mono ?_
  rintro e w1 ⟨⟨x, rfl, hM⟩, hx⟩
  obtain ⟨num, A, n, c, j, rfl⟩ := hM.1
  have hb := (Blk.new_at (w.alloc (.cells #[.int .i64 1, .string s, .int .i64 N, .int .u64 U, .float .f64 F, .bool b] 25)) 38 #[.int .u64 0, .slice none 0 0, .int .u8 0] (k := w.heap.size + 1) (by simp)).chg (Chg.of_ext hx []) (by simp)
  have c0 := hb.cell 0
  have f0 := hb.frozen 0
  have c1 := hb.cell 1
  have f1 := hb.frozen 1
  have c2 := hb.cell 2
  have f2 := hb.frozen 2
  simp at c0 c1 c2
  have HX : Hid (Ext w w1) := hide ((((Ext.refl w).alloc _).alloc _).trans hx)
  have HM := hide hM
  clear hx hb VC hM
  unfold lpV
  go_wp2
  refine bodyPost_ret (v := .tuple #[lpV num A n c j, .bool ok]) (by simp [results, Tryd.results12, go_sem, lpV, c0, c1, c2, f0, f1, f2]) rfl ⟨⟨_, rfl, (((HM.out.store (by simp) _).store (by simp) _).store (by simp) _).less (by simp; omega)⟩, ?_⟩
  exact ((HX.out.setCell (by simp) _).setCell (by simp) _).setCell (by simp) _
set_option maxRecDepth 100000 in
set_option maxHeartbeats 1000000 in
theorem value2 (s : ByteArray) (N U : Int) (F : Nat) (b : Bool) (w : World) (hs : s.size ≤ 1000000) (hU0 : 0 ≤ U) (hU1 : U < 18446744073709551616) (hF : F < 18446744073709551616) (hT : TabsV w) (ok : Bool) (hok : ok = canB 2 s F) :
    Calls Tryd.prog 12 #[ivV 2 s N U F b] w fun e w' => (∃ x, e = .returned (.tuple #[x, .bool ok]) ∧ Made w.heap.size 2 s N U F b ok w' x) ∧ Ext w w' := by
  have VC : Hid (∀ W, Ext w W → Calls Tryd.prog 19 #[.int .i64 N] W fun e w' => (∃ x, e = .returned (x) ∧ Made W.heap.size 2 s N U F b ok w' x) ∧ Ext W w') := hide fun W hx => ctor2 s N U F b W hs hU0 hU1 hF (hT.ext hx) ok hok
  replace hok : ok = true := hok
  subst hok
  clear hT hs hF hU0 hU1
  unfold ivV
  go_enter Tryd.func12, Tryd.ntmps12
  go_wp2_with fail
  refine (VC.out _ (((Ext.refl w).alloc _).alloc _)).mono ?_
  rintro e w1 ⟨⟨x, rfl, hM⟩, hx⟩
  obtain ⟨num, A, n, c, j, rfl⟩ := hM.1
  have hb := (Blk.new_at (w.alloc (.cells #[.int .i64 2, .string s, .int .i64 N, .int .u64 U, .float .f64 F, .bool b] 25)) 38 #[.int .u64 0, .slice none 0 0, .int .u8 0] (k := w.heap.size + 1) (by simp)).chg (Chg.of_ext hx []) (by simp)
  have c0 := hb.cell 0
  have f0 := hb.frozen 0
  have c1 := hb.cell 1
  have f1 := hb.frozen 1
  have c2 := hb.cell 2
  have f2 := hb.frozen 2
  simp at c0 c1 c2
  have HX : Hid (Ext w w1) := hide ((((Ext.refl w).alloc _).alloc _).trans hx)
  have HM := hide hM
  clear hx hb VC hM
  unfold lpV
  go_wp2
  refine bodyPost_ret (v := .tuple #[lpV num A n c j, .bool true]) (by simp [results, Tryd.results12, go_sem, lpV, c0, c1, c2, f0, f1, f2]) rfl ⟨⟨_, rfl, (((HM.out.store (by simp) _).store (by simp) _).store (by simp) _).less (by simp; omega)⟩, ?_⟩
  exact ((HX.out.setCell (by simp) _).setCell (by simp) _).setCell (by simp) _
set_option maxRecDepth 100000 in
set_option maxHeartbeats 1000000 in
theorem value3 (s : ByteArray) (N U : Int) (F : Nat) (b : Bool) (w : World) (hs : s.size ≤ 1000000) (hU0 : 0 ≤ U) (hU1 : U < 18446744073709551616) (hF : F < 18446744073709551616) (hT : TabsV w) (ok : Bool) (hok : ok = canB 3 s F) :
    Calls Tryd.prog 12 #[ivV 3 s N U F b] w fun e w' => (∃ x, e = .returned (.tuple #[x, .bool ok]) ∧ Made w.heap.size 3 s N U F b ok w' x) ∧ Ext w w' := by
  have VC : Hid (∀ W, Ext w W → Calls Tryd.prog 20 #[.int .u64 U] W fun e w' => (∃ x, e = .returned (x) ∧ Made W.heap.size 3 s N U F b ok w' x) ∧ Ext W w') := hide fun W hx => ctor3 s N U F b W hs hU0 hU1 hF (hT.ext hx) ok hok
  replace hok : ok = true := hok
  subst hok
  clear hT hs hF hU0 hU1
  unfold ivV
  go_enter Tryd.func12, Tryd.ntmps12
  go_wp2_with fail
  refine (VC.out _ (((Ext.refl w).alloc _).alloc _)).mono ?_
  rintro e w1 ⟨⟨x, rfl, hM⟩, hx⟩
  obtain ⟨num, A, n, c, j, rfl⟩ := hM.1
  have hb := (Blk.new_at (w.alloc (.cells #[.int .i64 3, .string s, .int .i64 N, .int .u64 U, .float .f64 F, .bool b] 25)) 38 #[.int .u64 0, .slice none 0 0, .int .u8 0] (k := w.heap.size + 1) (by simp)).chg (Chg.of_ext hx []) (by simp)
  have c0 := hb.cell 0
  have f0 := hb.frozen 0
  have c1 := hb.cell 1
  have f1 := hb.frozen 1
  have c2 := hb.cell 2
  have f2 := hb.frozen 2
  simp at c0 c1 c2
  have HX : Hid (Ext w w1) := hide ((((Ext.refl w).alloc _).alloc _).trans hx)
  have HM := hide hM
  clear hx hb VC hM
  unfold lpV
  go_wp2
  refine bodyPost_ret (v := .tuple #[lpV num A n c j, .bool true]) (by simp [results, Tryd.results12, go_sem, lpV, c0, c1, c2, f0, f1, f2]) rfl ⟨⟨_, rfl, (((HM.out.store (by simp) _).store (by simp) _).store (by simp) _).less (by simp; omega)⟩, ?_⟩
  exact ((HX.out.setCell (by simp) _).setCell (by simp) _).setCell (by simp) _
set_option maxRecDepth 100000 in
set_option maxHeartbeats 1000000 in
theorem value4 (s : ByteArray) (N U : Int) (F : Nat) (b : Bool) (w : World) (hs : s.size ≤ 1000000) (hU0 : 0 ≤ U) (hU1 : U < 18446744073709551616) (hF : F < 18446744073709551616) (hT : TabsV w) (ok : Bool) (hok : ok = canB 4 s F) :
    Calls Tryd.prog 12 #[ivV 4 s N U F b] w fun e w' => (∃ x, e = .returned (.tuple #[x, .bool ok]) ∧ Made w.heap.size 4 s N U F b ok w' x) ∧ Ext w w' := by
  have VC : Hid (∀ W, Ext w W → Calls Tryd.prog 21 #[.float .f64 F] W fun e w' => (∃ x, e = .returned (.tuple #[x, .bool ok]) ∧ Made W.heap.size 4 s N U F b ok w' x) ∧ Ext W w') := hide fun W hx => ctor4 s N U F b W hs hU0 hU1 hF (hT.ext hx) ok hok
  clear hok hT hs hF hU0 hU1
  unfold ivV
  go_enter Tryd.func12, Tryd.ntmps12
  go_wp2_with fail
  refine (VC.out _ (((Ext.refl w).alloc _).alloc _)).mono ?_
  rintro e w1 ⟨⟨x, rfl, hM⟩, hx⟩
  obtain ⟨num, A, n, c, j, rfl⟩ := hM.1
  have hb := (Blk.new_at (w.alloc (.cells #[.int .i64 4, .string s, .int .i64 N, .int .u64 U, .float .f64 F, .bool b] 25)) 38 #[.int .u64 0, .slice none 0 0, .int .u8 0] (k := w.heap.size + 1) (by simp)).chg (Chg.of_ext hx []) (by simp)
  have c0 := hb.cell 0
  have f0 := hb.frozen 0
  have c1 := hb.cell 1
  have f1 := hb.frozen 1
  have c2 := hb.cell 2
  have f2 := hb.frozen 2
  simp at c0 c1 c2
  have HX : Hid (Ext w w1) := hide ((((Ext.refl w).alloc _).alloc _).trans hx)
  have HM := hide hM
  clear hx hb VC hM
  unfold lpV
  go_wp2
  refine bodyPost_ret (v := .tuple #[lpV num A n c j, .bool ok]) (by simp [results, Tryd.results12, go_sem, lpV, c0, c1, c2, f0, f1, f2]) rfl ⟨⟨_, rfl, (((HM.out.store (by simp) _).store (by simp) _).store (by simp) _).less (by simp; omega)⟩, ?_⟩
  exact ((HX.out.setCell (by simp) _).setCell (by simp) _).setCell (by simp) _
set_option maxRecDepth 100000 in
set_option maxHeartbeats 1000000 in
theorem value5 (s : ByteArray) (N U : Int) (F : Nat) (b : Bool) (w : World) (hs : s.size ≤ 1000000) (hU0 : 0 ≤ U) (hU1 : U < 18446744073709551616) (hF : F < 18446744073709551616) (hT : TabsV w) (ok : Bool) (hok : ok = canB 5 s F) :
    Calls Tryd.prog 12 #[ivV 5 s N U F b] w fun e w' => (∃ x, e = .returned (.tuple #[x, .bool ok]) ∧ Made w.heap.size 5 s N U F b ok w' x) ∧ Ext w w' := by
  have VC : Hid (∀ W, Ext w W → Calls Tryd.prog 22 #[.bool b] W fun e w' => (∃ x, e = .returned (x) ∧ Made W.heap.size 5 s N U F b ok w' x) ∧ Ext W w') := hide fun W hx => ctor5 s N U F b W hs hU0 hU1 hF (hT.ext hx) ok hok
  replace hok : ok = true := hok
  subst hok
  clear hT hs hF hU0 hU1
  unfold ivV
  go_enter Tryd.func12, Tryd.ntmps12
  go_wp2_with fail
  refine (VC.out _ (((Ext.refl w).alloc _).alloc _)).mono ?_
  rintro e w1 ⟨⟨x, rfl, hM⟩, hx⟩
  obtain ⟨num, A, n, c, j, rfl⟩ := hM.1
  have hb := (Blk.new_at (w.alloc (.cells #[.int .i64 5, .string s, .int .i64 N, .int .u64 U, .float .f64 F, .bool b] 25)) 38 #[.int .u64 0, .slice none 0 0, .int .u8 0] (k := w.heap.size + 1) (by simp)).chg (Chg.of_ext hx []) (by simp)
  have c0 := hb.cell 0
  have f0 := hb.frozen 0
  have c1 := hb.cell 1
  have f1 := hb.frozen 1
  have c2 := hb.cell 2
  have f2 := hb.frozen 2
  simp at c0 c1 c2
  have HX : Hid (Ext w w1) := hide ((((Ext.refl w).alloc _).alloc _).trans hx)
  have HM := hide hM
  clear hx hb VC hM
  unfold lpV
  go_wp2
  refine bodyPost_ret (v := .tuple #[lpV num A n c j, .bool true]) (by simp [results, Tryd.results12, go_sem, lpV, c0, c1, c2, f0, f1, f2]) rfl ⟨⟨_, rfl, (((HM.out.store (by simp) _).store (by simp) _).store (by simp) _).less (by simp; omega)⟩, ?_⟩
  exact ((HX.out.setCell (by simp) _).setCell (by simp) _).setCell (by simp) _
set_option maxRecDepth 100000 in
set_option maxHeartbeats 1000000 in
theorem value0 (k : Int) (s : ByteArray) (N U : Int) (F : Nat) (b : Bool) (w : World) (hs : s.size ≤ 1000000) (hU0 : 0 ≤ U) (hU1 : U < 18446744073709551616) (hF : F < 18446744073709551616) (hT : TabsV w) (h1 : k ≠ 1) (h2 : k ≠ 2) (h3 : k ≠ 3) (h4 : k ≠ 4) (h5 : k ≠ 5) :
    Calls Tryd.prog 12 #[ivV k s N U F b] w fun e w' => (∃ x, e = .returned (.tuple #[x, .bool false]) ∧ Made w.heap.size k s N U F b false w' x) ∧ Ext w w' := by
  clear hT hs hF hU0 hU1
  have g1 : (k == 1) = false := by simp [h1]
  have g2 : (k == 2) = false := by simp [h2]
  have g3 : (k == 3) = false := by simp [h3]
  have g4 : (k == 4) = false := by simp [h4]
  have g5 : (k == 5) = false := by simp [h5]
  unfold ivV
  go_enter Tryd.func12, Tryd.ntmps12
  go_wp2
  refine bodyPost_ret (v := .tuple #[lpV 0 none 0 0 0, .bool false]) (by simp [results, Tryd.results12, go_sem, lpV]) rfl ⟨⟨_, rfl, ⟨⟨_, _, _, _, _, rfl⟩, fun e => by cases e⟩⟩, ?_⟩
  repeat (first | exact Ext.refl _ | refine Ext.alloc ?_ _ | refine Ext.setCell ?_ (by first | (simp; done) | (simp; omega)) _)
end Go.Proofs.YtkockmpncocjhaaDoor
