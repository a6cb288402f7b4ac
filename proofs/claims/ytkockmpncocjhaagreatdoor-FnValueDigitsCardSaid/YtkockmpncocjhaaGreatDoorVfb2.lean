/-
  lineprotocol.NewValueFromBytes and impl.ValueFromBytes for whole numbers.
-/
import Derived.Test.YtkockmpncocjhaaGreatDoorVfb
namespace Go.Proofs.YtkockmpncocjhaaGreatDoor
open Go.RowKit Go.Lib
set_option linter.unusedVariables false
set_option linter.unusedSimpArgs false

theorem Open.set {w : World} {b : Nat} (h : Open w b) (a : Addr) (u : Value) : Open (w.setCell a u) b := by
  obtain ⟨c, t, h⟩ := h
  by_cases hb : b = a.block
  · subst hb
    refine ⟨if a.spot.isSome then c else c.setIfInBounds a.off u, t, ?_⟩
    unfold World.setCell
    simp [Array.getElem?_modify, h]
  · exact ⟨c, t, (Below.heap_setCell w a u b hb).trans h⟩
/-- A text's bytes as a slice. -/
def BytesAt (w : World) (A : Option Addr) (n : Nat) (s : ByteArray) : Prop := n = s.size ∧ RBytes w A s.data.toList ∧ s.size ≤ 1000000
theorem BytesAt.ext {w w' : World} {A : Option Addr} {n : Nat} {s : ByteArray} (h : BytesAt w A n s) (hx : Ext w w') : BytesAt w' A n s := ⟨h.1, h.2.1.chg (Chg.of_ext hx []) (by simp), h.2.2⟩
theorem BytesAt.conv {w : World} {A : Option Addr} {n : Nat} {s : ByteArray} (h : BytesAt w A n s) (c : Nat) : (convert 31 9 (.slice A n c)).run Tryz.prog w = .ok (.string s) w := by
  have h2 := run_string_n (P := Tryz.prog) w _ _ _ Tryz.underlying31 Tryz.underlying5 Tryz.underlying9 (A := A) (l := s.data.toList) n c (by rw [Array.length_toList]; exact h.1.symm) h.2.1
  rw [h2]
theorem ext_or {w w' : World} (h : w' = w ∨ ∃ t, w' = Lib.bytesWorld w 5 t) : Ext w w' := by
  rcases h with rfl | ⟨t, rfl⟩
  · exact Ext.refl _
  · exact ext_bytesWorld (Ext.refl _) _ _
theorem ext_or1 {w w' : World} {t : ByteArray} (h : w' = w ∨ w' = Lib.bytesWorld w 5 t) : Ext w w' := ext_or (h.imp id fun h => ⟨t, h⟩)
set_option maxRecDepth 100000 in
theorem pib_ok (A : Option Addr) (n c : Nat) (s : ByteArray) (w : World) (hB : BytesAt w A n s) (v : Int) (h : parseIntB 64 s.data.toList = .ok v) :
    Calls Tryz.prog 24 #[.slice A n c, .int .i64 10, .int .i64 64] w fun e w' => e = .returned (.tuple #[.int .i64 v, .nilIface]) ∧ Ext w w' := by
  have cv := hB.conv c
  have PI : Hid (Calls Tryz.prog 41 #[.string s, .int .i64 10, .int .i64 64] w fun e w' => e = .returned (.tuple #[.int .i64 v, .nilIface]) ∧ Ext w w') := hide ((Tryz.strconv_ParseInt_10_at64_ok s (by have := hB.2.2; omega) v h w).mono fun e w' ⟨h1, h2⟩ => ⟨h1, ext_or h2⟩)
  clear hB h
  skip
  go_enter Tryz.func24, Tryz.ntmps24
  go_wp2_with fail
  refine PI.out.mono ?_
  rintro e w1 ⟨h, hx⟩
  subst h
  clear PI
  go_wp2
  refine bodyPost_ret (v := .tuple #[.int .i64 v, .nilIface]) (by simp [results, Tryz.results24, go_sem]) rfl ?_
  exact ⟨rfl, hx⟩
set_option maxRecDepth 100000 in
theorem pib_range (A : Option Addr) (n c : Nat) (s : ByteArray) (w : World) (hB : BytesAt w A n s) (a1 a2 a3 : Addr) (hE : ErrsW w a1 a2 a3) (h : parseIntB 64 s.data.toList = .range) :
    Calls Tryz.prog 24 #[.slice A n c, .int .i64 10, .int .i64 64] w fun e w' => (∃ N sat f, e = .returned (.tuple #[.int .i64 sat, .iface 80 (.pointer (some ⟨N, 0, none⟩))]) ∧ NumAt w' N f s a1) ∧ Ext w w' := by
  have cv := hB.conv c
  have PI : Hid (Calls Tryz.prog 41 #[.string s, .int .i64 10, .int .i64 64] w fun e w' => (∃ N sat f, e = .returned (.tuple #[.int .i64 sat, .iface 80 (.pointer (some ⟨N, 0, none⟩))]) ∧ NumAt w' N f s a1) ∧ Ext w w') := hide ((Tryz.strconv_ParseInt_10_at64_range s (by have := hB.2.2; omega) h (erV a1) w hE.1 (.inr ⟨_, _, rfl⟩)).mono fun e w' ⟨N, h1, h2, h3, h4⟩ => ⟨⟨N, _, _, h1, h3⟩, h4⟩)
  clear hB h hE
  skip
  go_enter Tryz.func24, Tryz.ntmps24
  go_wp2_with fail
  refine PI.out.mono ?_
  rintro e w1 ⟨h, hx⟩
  obtain ⟨N, sat, f, rfl, hN⟩ := h
  have HN := hide hN
  clear PI hN
  go_wp2
  refine bodyPost_ret (v := .tuple #[.int .i64 sat, .iface 80 (.pointer (some ⟨N, 0, none⟩))]) (by simp [results, Tryz.results24, go_sem]) rfl ?_
  exact ⟨⟨N, sat, f, rfl, HN.out⟩, hx⟩
set_option maxRecDepth 100000 in
theorem pub_ok (A : Option Addr) (n c : Nat) (s : ByteArray) (w : World) (hB : BytesAt w A n s) (v : Nat) (h : parseUintB 64 s.data.toList = .ok v) :
    Calls Tryz.prog 26 #[.slice A n c, .int .i64 10, .int .i64 64] w fun e w' => e = .returned (.tuple #[.int .u64 (v : Nat), .nilIface]) ∧ Ext w w' := by
  have cv := hB.conv c
  have PI : Hid (Calls Tryz.prog 42 #[.string s, .int .i64 10, .int .i64 64] w fun e w' => e = .returned (.tuple #[.int .u64 (v : Nat), .nilIface]) ∧ Ext w w') := hide ((Tryz.strconv_ParseUint_10_at64_ok s (by have := hB.2.2; omega) v h w).mono fun e w' ⟨h1, h2⟩ => ⟨h1, ext_or1 h2⟩)
  clear hB h
  skip
  go_enter Tryz.func26, Tryz.ntmps26
  go_wp2_with fail
  refine PI.out.mono ?_
  rintro e w1 ⟨h, hx⟩
  subst h
  clear PI
  go_wp2
  refine bodyPost_ret (v := .tuple #[.int .u64 (v : Nat), .nilIface]) (by simp [results, Tryz.results26, go_sem]) rfl ?_
  exact ⟨rfl, hx⟩
set_option maxRecDepth 100000 in
theorem pub_syntax (A : Option Addr) (n c : Nat) (s : ByteArray) (w : World) (hB : BytesAt w A n s) (a1 a2 a3 : Addr) (hE : ErrsW w a1 a2 a3) (h : parseUintB 64 s.data.toList = .«syntax») :
    Calls Tryz.prog 26 #[.slice A n c, .int .i64 10, .int .i64 64] w fun e w' => (∃ N f, e = .returned (.tuple #[.int .u64 0, .iface 80 (.pointer (some ⟨N, 0, none⟩))]) ∧ NumAt w' N f s a2) ∧ Ext w w' := by
  have cv := hB.conv c
  have PI : Hid (Calls Tryz.prog 42 #[.string s, .int .i64 10, .int .i64 64] w fun e w' => (∃ N f, e = .returned (.tuple #[.int .u64 0, .iface 80 (.pointer (some ⟨N, 0, none⟩))]) ∧ NumAt w' N f s a2) ∧ Ext w w') := hide ((Tryz.strconv_ParseUint_10_at64_syntax s (by have := hB.2.2; omega) h (erV a2) w hE.2.1 (.inr ⟨_, _, rfl⟩)).mono fun e w' ⟨N, h1, h2, h3, h4⟩ => ⟨⟨N, _, h1, h3⟩, h4⟩)
  clear hB h hE
  skip
  go_enter Tryz.func26, Tryz.ntmps26
  go_wp2_with fail
  refine PI.out.mono ?_
  rintro e w1 ⟨h, hx⟩
  obtain ⟨N, f, rfl, hN⟩ := h
  have HN := hide hN
  clear PI hN
  go_wp2
  refine bodyPost_ret (v := .tuple #[.int .u64 0, .iface 80 (.pointer (some ⟨N, 0, none⟩))]) (by simp [results, Tryz.results26, go_sem]) rfl ?_
  exact ⟨⟨N, f, rfl, HN.out⟩, hx⟩
set_option maxRecDepth 100000 in
theorem nv2_ok (A : Option Addr) (n c : Nat) (s : ByteArray) (w : World) (hB : BytesAt w A n s) (v : Int) (h : parseIntB 64 s.data.toList = .ok v) :
    Calls Tryz.prog 16 #[.int .u8 2, .slice A n c, .bool true] w fun e w' => e = .returned (.tuple #[lpV (v % 18446744073709551616) none 0 0 2, .nilIface]) ∧ Ext w w' := by
  have PI : Hid (∀ W, Ext w W → Calls Tryz.prog 24 #[.slice A n c, .int .i64 10, .int .i64 64] W fun e w' => e = .returned (.tuple #[.int .i64 v, .nilIface]) ∧ Ext W w') := hide fun W hx => pib_ok A n c s W (hB.ext hx) v h
  clear hB h
  unfold lpV
  go_enter Tryz.func16, Tryz.ntmps16
  go_wp2_with fail
  refine (PI.out _ ((Ext.refl w).alloc _)).mono ?_
  rintro e w1 ⟨rfl, hx⟩
  have hb := (Blk.new w 35 #[.int .u64 0, .slice none 0 0, .int .u8 0]).chg (Chg.of_ext hx []) (by simp)
  have c0 := hb.cell 0
  have f0 := hb.frozen 0
  have c1 := hb.cell 1
  have f1 := hb.frozen 1
  have c2 := hb.cell 2
  have f2 := hb.frozen 2
  simp at c0 c1 c2
  have HX := hide (((Ext.refl w).alloc (.cells #[.int .u64 0, .slice none 0 0, .int .u8 0] 35)).trans hx)
  clear hx hb PI
  go_wp2
  refine bodyPost_ret (v := .tuple #[.agg #[.int .u64 (v % 18446744073709551616), .slice none 0 0, .int .u8 2], .nilIface]) (by simp [results, Tryz.results16, go_sem, wrapU, c0, c1, c2, f0, f1, f2]) rfl ⟨rfl, ?_⟩
  exact ((HX.out.setCell (by simp) _).setCell (by simp) _).setCell (by simp) _
set_option maxRecDepth 100000 in
theorem nv3_ok (A : Option Addr) (n c : Nat) (s : ByteArray) (w : World) (hB : BytesAt w A n s) (v : Nat) (h : parseUintB 64 s.data.toList = .ok v) (hv : v < 18446744073709551616) :
    Calls Tryz.prog 16 #[.int .u8 3, .slice A n c, .bool true] w fun e w' => e = .returned (.tuple #[lpV (v : Nat) none 0 0 3, .nilIface]) ∧ Ext w w' := by
  have PI : Hid (∀ W, Ext w W → Calls Tryz.prog 26 #[.slice A n c, .int .i64 10, .int .i64 64] W fun e w' => e = .returned (.tuple #[.int .u64 (v : Nat), .nilIface]) ∧ Ext W w') := hide fun W hx => pub_ok A n c s W (hB.ext hx) v h
  clear hB h
  unfold lpV
  go_enter Tryz.func16, Tryz.ntmps16
  go_wp2_with fail
  refine (PI.out _ ((Ext.refl w).alloc _)).mono ?_
  rintro e w1 ⟨rfl, hx⟩
  have hb := (Blk.new w 35 #[.int .u64 0, .slice none 0 0, .int .u8 0]).chg (Chg.of_ext hx []) (by simp)
  have c0 := hb.cell 0
  have f0 := hb.frozen 0
  have c1 := hb.cell 1
  have f1 := hb.frozen 1
  have c2 := hb.cell 2
  have f2 := hb.frozen 2
  simp at c0 c1 c2
  have HX := hide (((Ext.refl w).alloc (.cells #[.int .u64 0, .slice none 0 0, .int .u8 0] 35)).trans hx)
  clear hx hb PI
  go_wp2
  refine bodyPost_ret (v := .tuple #[.agg #[.int .u64 (v : Nat), .slice none 0 0, .int .u8 3], .nilIface]) (by simp [results, Tryz.results16, go_sem, wrapU, c0, c1, c2, f0, f1, f2]) rfl ⟨rfl, ?_⟩
  exact ((HX.out.setCell (by simp) _).setCell (by simp) _).setCell (by simp) _
set_option maxRecDepth 100000 in
theorem nv2_err (A : Option Addr) (n c : Nat) (s : ByteArray) (w : World) (hB : BytesAt w A n s) (a1 a2 a3 : Addr) (hE : ErrsW w a1 a2 a3) (h : parseIntB 64 s.data.toList = .range) :
    Calls Tryz.prog 16 #[.int .u8 2, .slice A n c, .bool true] w fun e w' => (∃ p, e = .returned (.tuple #[lpV 0 none 0 0 0, erV p]) ∧ Open w' p.block ∧ p = a3) ∧ Ext w w' := by
  have PI : Hid (∀ W, Ext w W → Calls Tryz.prog 24 #[.slice A n c, .int .i64 10, .int .i64 64] W fun e w' => (∃ N sat f, e = .returned (.tuple #[.int .i64 sat, .iface 80 (.pointer (some ⟨N, 0, none⟩))]) ∧ NumAt w' N f s a1) ∧ Ext W w') := hide fun W hx => pib_range A n c s W (hB.ext hx) a1 a2 a3 (hE.ext hx) h
  have MO : Hid (∀ W N f x, Ext w W → NumAt W N f s a1 → Calls Tryz.prog 25 #[.iface 80 (.pointer (some ⟨N, 0, none⟩)), .string x] W fun e w' => (∃ p, e = .returned (erV p) ∧ Open w' p.block ∧ p = a3) ∧ Ext W w') := hide fun W N f x hx hN => by
    have hW := hE.ext hx
    exact (mor_range N f s x a1 a2 a3 W hW hN).mono fun e w' ⟨h1, h2⟩ => ⟨⟨a3, h1, hW.2.2.2.2.2.2.ext h2, rfl⟩, h2⟩
  have q0 := run_neq_nil
  clear hB h hE
  unfold lpV
  go_enter Tryz.func16, Tryz.ntmps16
  go_wp2_with fail
  refine (PI.out _ ((Ext.refl w).alloc _)).mono ?_
  rintro e w1 ⟨⟨N, sat, f, rfl, hN⟩, hx⟩
  have hx1 := ((Ext.refl w).alloc (.cells #[.int .u64 0, .slice none 0 0, .int .u8 0] 35)).trans hx
  have hb := (Blk.new w 35 #[.int .u64 0, .slice none 0 0, .int .u8 0]).chg (Chg.of_ext hx []) (by simp)
  have HN := hide hN
  have HX := hide hx1
  have HB := hide hb
  clear hx hN hb PI hx1
  go_wp2_with fail
  refine (MO.out _ N f _ HX.out HN.out).mono ?_
  rintro e w2 ⟨⟨p, rfl, hO, hq⟩, hx⟩
  have hb := HB.out.chg (Chg.of_ext hx []) (by simp)
  have c0 := hb.cell 0
  have f0 := hb.frozen 0
  have c1 := hb.cell 1
  have f1 := hb.frozen 1
  have c2 := hb.cell 2
  have f2 := hb.frozen 2
  simp at c0 c1 c2
  have HX2 := hide (HX.out.trans hx)
  have HO := hide (And.intro hO hq)
  clear hx hb HX HB HN MO hO hq
  unfold erV
  go_wp2
  refine bodyPost_ret (v := .tuple #[.agg #[.int .u64 0, .slice none 0 0, .int .u8 0], .iface 87 (.pointer (some p))]) (by simp [results, Tryz.results16, go_sem, c0, c1, c2, f0, f1, f2]) rfl ⟨⟨p, rfl, ((HO.out.1.set _ _).set _ _).set _ _, HO.out.2⟩, ?_⟩
  exact ((HX2.out.setCell (by simp) _).setCell (by simp) _).setCell (by simp) _
set_option maxRecDepth 100000 in
theorem nv3_err (A : Option Addr) (n c : Nat) (s : ByteArray) (w : World) (hB : BytesAt w A n s) (a1 a2 a3 : Addr) (hE : ErrsW w a1 a2 a3) (h : parseUintB 64 s.data.toList = .«syntax») :
    Calls Tryz.prog 16 #[.int .u8 3, .slice A n c, .bool true] w fun e w' => (∃ p, e = .returned (.tuple #[lpV 0 none 0 0 0, erV p]) ∧ Open w' p.block ∧ p ≠ a3) ∧ Ext w w' := by
  have PI : Hid (∀ W, Ext w W → Calls Tryz.prog 26 #[.slice A n c, .int .i64 10, .int .i64 64] W fun e w' => (∃ N f, e = .returned (.tuple #[.int .u64 0, .iface 80 (.pointer (some ⟨N, 0, none⟩))]) ∧ NumAt w' N f s a2) ∧ Ext W w') := hide fun W hx => pub_syntax A n c s W (hB.ext hx) a1 a2 a3 (hE.ext hx) h
  have MO : Hid (∀ W N f x, Ext w W → NumAt W N f s a2 → Calls Tryz.prog 25 #[.iface 80 (.pointer (some ⟨N, 0, none⟩)), .string x] W fun e w' => (∃ p, e = .returned (erV p) ∧ Open w' p.block ∧ p ≠ a3) ∧ Ext W w') := hide fun W N f x hx hN => by
    have hW := hE.ext hx
    exact (mor_syntax N f s x a1 a2 a3 W hW hN).mono fun e w' ⟨⟨p, h1, h2, h3⟩, h4⟩ => ⟨⟨p, h1, h3, fun e => by subst e; exact absurd hW.2.2.2.2.2.2.lt (Nat.not_lt_of_le h2)⟩, h4⟩
  have q0 := run_neq_nil
  clear hB h hE
  unfold lpV
  go_enter Tryz.func16, Tryz.ntmps16
  go_wp2_with fail
  refine (PI.out _ ((Ext.refl w).alloc _)).mono ?_
  rintro e w1 ⟨⟨N, f, rfl, hN⟩, hx⟩
  have hx1 := ((Ext.refl w).alloc (.cells #[.int .u64 0, .slice none 0 0, .int .u8 0] 35)).trans hx
  have hb := (Blk.new w 35 #[.int .u64 0, .slice none 0 0, .int .u8 0]).chg (Chg.of_ext hx []) (by simp)
  have HN := hide hN
  have HX := hide hx1
  have HB := hide hb
  clear hx hN hb PI hx1
  go_wp2_with fail
  refine (MO.out _ N f _ HX.out HN.out).mono ?_
  rintro e w2 ⟨⟨p, rfl, hO, hq⟩, hx⟩
  have hb := HB.out.chg (Chg.of_ext hx []) (by simp)
  have c0 := hb.cell 0
  have f0 := hb.frozen 0
  have c1 := hb.cell 1
  have f1 := hb.frozen 1
  have c2 := hb.cell 2
  have f2 := hb.frozen 2
  simp at c0 c1 c2
  have HX2 := hide (HX.out.trans hx)
  have HO := hide (And.intro hO hq)
  clear hx hb HX HB HN MO hO hq
  unfold erV
  go_wp2
  refine bodyPost_ret (v := .tuple #[.agg #[.int .u64 0, .slice none 0 0, .int .u8 0], .iface 87 (.pointer (some p))]) (by simp [results, Tryz.results16, go_sem, c0, c1, c2, f0, f1, f2]) rfl ⟨⟨p, rfl, ((HO.out.1.set _ _).set _ _).set _ _, HO.out.2⟩, ?_⟩
  exact ((HX2.out.setCell (by simp) _).setCell (by simp) _).setCell (by simp) _
end Go.Proofs.YtkockmpncocjhaaGreatDoor
