/-
  The tables of unicode/utf8, as a world has them.
-/
import Derived.Test.YtkockmpncocjhaaDoorVal3
import Derived.Test.YtkockmpncocjhaaDoorShelf
import Derived.Shelf.Unicode.ValidAny
namespace Go.Proofs.YtkockmpncocjhaaDoor
open Go.RowKit Go.Lib Go.Shelf
set_option linter.unusedVariables false
set_option linter.unusedSimpArgs false

def TabsV (w : World) : Prop := Lib.Utf8Tabs (Tryd.laysValid_ren.g 3) (Tryd.laysValid_ren.g 4) w
theorem TabsV.ext {w w' : World} (h : TabsV w) (hx : Ext w w') : TabsV w' := by
  unfold TabsV Lib.Utf8Tabs at *
  exact ⟨fun c hc => hx.cellOf (h.1 c hc), fun i hi => ⟨hx.cellOf (h.2 i hi).1, hx.cellOf (h.2 i hi).2⟩⟩
/-- A text as the value holds it: its row lies in a block from B on. -/
def StrOf (w : World) (B : Nat) (x : Value) (s : ByteArray) : Prop := ∃ A n c, x = lpV 0 A n c 0 ∧ n = s.size ∧ RBytes w A s.data.toList ∧ ∀ ad, A = some ad → B ≤ ad.block
theorem StrOf.ext {w w' : World} {B : Nat} {x : Value} {s : ByteArray} (h : StrOf w B x s) (hx : Ext w w') : StrOf w' B x s := by
  obtain ⟨A, n, c, h1, h2, h3, h4⟩ := h
  exact ⟨A, n, c, h1, h2, h3.chg (Chg.of_ext hx []) (by simp), h4⟩
theorem StrOf.store {w : World} {B : Nat} {x : Value} {s : ByteArray} (h : StrOf w B x s) {p : Addr} (hp : p.block < B) (u : Value) : StrOf (w.setCell p u) B x s := by
  obtain ⟨A, n, c, h1, h2, h3, h4⟩ := h
  exact ⟨A, n, c, h1, h2, h3.chg ((Chg.refl [p.block] w).setCell (.inl (by simp)) u) (fun ad e => by have := h4 ad e; simp; omega), h4⟩
theorem StrOf.less {w : World} {B B' : Nat} {x : Value} {s : ByteArray} (h : StrOf w B x s) (hB : B' ≤ B) : StrOf w B' x s := by
  obtain ⟨A, n, c, h1, h2, h3, h4⟩ := h
  exact ⟨A, n, c, h1, h2, h3, fun ad e => Nat.le_trans hB (h4 ad e)⟩
set_option maxRecDepth 100000 in
theorem strVal_ok (s : ByteArray) (w : World) (hs : s.size ≤ 1000000) (hT : TabsV w) (hv : validD s.data.toList = true) :
    Calls Tryd.prog 18 #[.string s] w fun e w' => (∃ x, e = .returned (.tuple #[x, .bool true]) ∧ StrOf w' w.heap.size x s) ∧ Ext w w' := by
  have HU : Hid (∀ w', Ext w w' → Calls Tryd.prog 26 #[.string s] w' fun e w'' => e = .returned (.bool true) ∧ Ext w' w'') := hide fun w' hx => by
    have h := Any.utf8_ValidString Tryd.laysValid s w' (by omega) (hT.ext hx)
    rw [hv] at h
    exact h
  have CV : Hid (∀ wx, (convert 9 35 (.string s)).run Tryd.prog wx = .ok (.slice (some ⟨wx.heap.size, 0, none⟩) s.size (grownCap wx s.size 0 5)) (Lib.bytesWorld wx 5 s)) := hide fun wx => Lib.run_convert_string_bytes wx _ _ _ s Tryd.underlying9 Tryd.underlying35 Tryd.underlying5
  clear hT hv
  go_enter Tryd.func18, Tryd.ntmps18
  go_wp2_with fail
  refine (HU.out _ ((Ext.refl w).alloc _)).mono ?_
  rintro e w1 ⟨rfl, hx⟩
  have cv := CV.out w1
  have hb := ((Blk.new w 38 #[.int .u64 0, .slice none 0 0, .int .u8 0]).chg (Chg.of_ext hx []) (by simp)).chg (Chg.of_ext (ext_bytesWorld (Ext.refl w1) 5 s) []) (by simp)
  have c0 := hb.cell 0
  have c1 := hb.cell 1
  have c2 := hb.cell 2
  have f0 := hb.frozen 0
  have f1 := hb.frozen 1
  have f2 := hb.frozen 2
  simp at c0 c1 c2
  have HX : Hid (Ext w (Lib.bytesWorld w1 5 s)) := hide (ext_bytesWorld (((Ext.refl w).alloc _).trans hx) _ _)
  have HR := hide (rbytes_bytesWorld w1 5 s)
  have hlt : w.heap.size < w1.heap.size := by have := hx.sizes; simp at this; omega
  have hlt := hide hlt
  generalize grownCap w1 s.size 0 5 = cap at cv HR
  generalize Lib.bytesWorld w1 5 s = W1 at cv c0 c1 c2 f0 f1 f2 HX HR
  clear hx hb CV HU hs
  go_wp2
  refine bodyPost_ret (v := .tuple #[lpV 0 (some ⟨w1.heap.size, 0, none⟩) s.size cap 0, .bool true]) (by simp [results, Tryd.results18, go_sem, lpV, c0, c1, c2, f0, f1, f2]) rfl ⟨⟨_, rfl, ⟨_, _, _, rfl, rfl, HR.out.chg ((((Chg.refl [w.heap.size] W1).setCell (.inl (by simp)) _).setCell (.inl (by simp)) _).setCell (.inl (by simp)) _) (fun ad h => by injection h with h; subst h; have := hlt.out; simp; omega), fun ad h => by injection h with h; subst h; exact Nat.le_of_lt hlt.out⟩⟩, ?_⟩
  exact ((HX.out.setCell (by simp) _).setCell (by simp) _).setCell (by simp) _
set_option maxRecDepth 100000 in
theorem strVal_bad (s : ByteArray) (w : World) (hs : s.size ≤ 1000000) (hT : TabsV w) (hv : validD s.data.toList = false) :
    Calls Tryd.prog 18 #[.string s] w fun e w' => e = .returned (.tuple #[lpV 0 none 0 0 0, .bool false]) ∧ Ext w w' := by
  have HU : Hid (∀ w', Ext w w' → Calls Tryd.prog 26 #[.string s] w' fun e w'' => e = .returned (.bool false) ∧ Ext w' w'') := hide fun w' hx => by
    have h := Any.utf8_ValidString Tryd.laysValid s w' (by omega) (hT.ext hx)
    rw [hv] at h
    exact h
  clear hT hv
  go_enter Tryd.func18, Tryd.ntmps18
  go_wp2_with fail
  refine (HU.out _ ((Ext.refl w).alloc _)).mono ?_
  rintro e w1 ⟨rfl, hx⟩
  have hb := (Blk.new w 38 #[.int .u64 0, .slice none 0 0, .int .u8 0]).chg (Chg.of_ext hx []) (by simp)
  have c0 := hb.cell 0
  have c1 := hb.cell 1
  have c2 := hb.cell 2
  have f0 := hb.frozen 0
  have f1 := hb.frozen 1
  have f2 := hb.frozen 2
  simp at c0 c1 c2
  have HX : Hid (Ext w w1) := hide (((Ext.refl w).alloc _).trans hx)
  clear hx hb HU hs
  go_wp2
  refine bodyPost_ret (v := .tuple #[lpV 0 none 0 0 0, .bool false]) (by simp [results, Tryd.results18, go_sem, lpV, c0, c1, c2, f0, f1, f2]) rfl ⟨rfl, ?_⟩
  exact ((HX.out.setCell (by simp) _).setCell (by simp) _).setCell (by simp) _
end Go.Proofs.YtkockmpncocjhaaDoor
