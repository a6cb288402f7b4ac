/-
  impl.decoder: a decoder over the text itself, or over a reader of it.
-/
import Derived.Test.YtejngpbeogaapaaDoorNewDec
namespace Go.Proofs.YtejngpbeogaapaaDoor
open Go.RowKit
set_option linter.unusedVariables false
set_option linter.unusedSimpArgs false

theorem NewD.chg {w w' : World} {rd A : Value} {cp : Bool} {e : Ending} (h : NewD w rd A cp e w') : Chg [] w w' := by
  obtain ⟨Z, rfl, -⟩ := h
  exact ((Chg.refl _ _).alloc _).alloc _
theorem not_set {w : World} {g : Nat} {t : TypeId} {cs : Array Value} {fz : Nat × Nat} {fs : Nat → Bool} (h : w.heap[g]? = some (.cells cs t fz)) (ht : t ≠ 129) : ¬ SetAt w g fs := fun hS => by
  have h2 : w.heap[g]? = some (.cells (setArr fs) 129 (0, 0)) := hS
  rw [h] at h2
  injection h2 with h3
  injection h3 with _ h4 _
  exact ht h4
/-- A decoder's beginning. -/
def DecNew (w : World) (B : Nat) (text : List UInt8) (e : Ending) (w' : World) : Prop :=
  ∃ d S av cp esc f, e = .returned (.pointer (some ⟨d, 0, none⟩)) ∧ Dec w' B d S text 0 av cp 5 false esc 1 .nilIface f ∧ Ext w w' ∧ (∀ i ∈ S, w.heap.size ≤ i) ∧ ∀ i ∈ S, ∀ fs, ¬ SetAt w' i fs
theorem decNew_B {w0 w w' : World} {B k cap : Nat} {text : List UInt8} {e : Ending} (hx : Ext w0 w) (hk : w0.heap.size ≤ k) (hkw : k < w.heap.size) (hB : B ≤ w0.heap.size) (hR : RBytes w (some ⟨k, 0, none⟩) text) (hc : text.length ≤ cap) (ht : text.length ≤ 1048576) (hky : ∃ cs fz, w.heap[k]? = some (.cells cs 5 fz))
    (h : NewD w .nilIface (.slice (some ⟨k, 0, none⟩) text.length cap) true e w') : DecNew w0 B text e w' := by
  have hC := h.chg
  obtain ⟨Z, hw, rfl⟩ := h
  have hsz : w'.heap.size = w.heap.size + 2 := by rw [hw]; simp
  have hx0 := hx.sizes
  refine ⟨w.heap.size + 1, [w.heap.size + 1, k], text.length, true, .slice (some ⟨w.heap.size, 0, none⟩) 0 512, 0, rfl, ⟨.nilIface, some ⟨k, 0, none⟩, cap, 0, text, [], ⟨?_, Nat.le_refl _, Nat.zero_le _, hc, hR.chg hC (by simp), ?_, by simp, ?_, ?_, by simpa using ht, .inl ⟨rfl, rfl⟩⟩, by simp, by simp⟩, hx.trans (hC.ext (by simp)), ?_, ?_⟩
  · have := Blk.new (w.alloc (.cells Z 5)) 77 #[.nilIface, .slice (some ⟨k, 0, none⟩) text.length cap, .int .i64 0, .int .i64 0, .bool true, .int .u8 5, .bool false, .slice (some ⟨w.heap.size, 0, none⟩) 0 512, .int .i64 1, .nilIface]
    rw [hw]
    simpa using this
  · intro ad had
    injection had with had
    exact ⟨k, had.symm, by omega, by simp⟩
  · intro i hi
    simp at hi
    omega
  · intro i hi
    simp at hi
    omega
  · intro i hi
    simp at hi
    omega
  · intro i hi fs
    simp at hi
    rcases hi with rfl | rfl
    · have hb : Blk w' (w.heap.size + 1) 77 #[.nilIface, .slice (some ⟨k, 0, none⟩) text.length cap, .int .i64 0, .int .i64 0, .bool true, .int .u8 5, .bool false, .slice (some ⟨w.heap.size, 0, none⟩) 0 512, .int .i64 1, .nilIface] := by
        have := Blk.new (w.alloc (.cells Z 5)) 77 #[.nilIface, .slice (some ⟨k, 0, none⟩) text.length cap, .int .i64 0, .int .i64 0, .bool true, .int .u8 5, .bool false, .slice (some ⟨w.heap.size, 0, none⟩) 0 512, .int .i64 1, .nilIface]
        rw [hw]
        simpa using this
      exact not_set hb (by decide)
    · obtain ⟨cs, fz, hky⟩ := hky
      exact not_set (t := 5) ((hC.block _ hkw (by simp)).trans hky) (by decide)
theorem decNew_R {w0 w w' : World} {B g f : Nat} {text : List UInt8} {e : Ending} (hx : Ext w0 w) (hg : w0.heap.size ≤ g) (hB : B ≤ w0.heap.size) (hR : Rdr w B g text f) (ht : text.length ≤ 1048576)
    (h : NewD w (.iface 71 (.pointer (some ⟨g, 0, none⟩))) (.slice none 0 0) false e w') : DecNew w0 B text e w' := by
  have hC := h.chg
  obtain ⟨Z, hw, rfl⟩ := h
  have hsz : w'.heap.size = w.heap.size + 2 := by rw [hw]; simp
  have hx0 := hx.sizes
  have hgw := hR.lt
  refine ⟨w.heap.size + 1, [w.heap.size + 1, g], 0, false, .slice (some ⟨w.heap.size, 0, none⟩) 0 512, f, rfl, ⟨.iface 71 (.pointer (some ⟨g, 0, none⟩)), none, 0, 0, [], text, ⟨?_, Nat.le_refl _, Nat.zero_le _, Nat.le_refl _, RBytes.nil _, by simp, by simp, ?_, ?_, by simpa using ht, .inr ⟨rfl, g, rfl, hR.chg hC (by simp) (by simp), by simp, by omega, by omega, .inl ⟨rfl, rfl⟩⟩⟩, by simp, by simp⟩, hx.trans (hC.ext (by simp)), ?_, ?_⟩
  · have := Blk.new (w.alloc (.cells Z 5)) 77 #[.iface 71 (.pointer (some ⟨g, 0, none⟩)), .slice none 0 0, .int .i64 0, .int .i64 0, .bool false, .int .u8 5, .bool false, .slice (some ⟨w.heap.size, 0, none⟩) 0 512, .int .i64 1, .nilIface]
    rw [hw]
    simpa using this
  · intro i hi
    simp at hi
    omega
  · intro i hi
    simp at hi
    omega
  · intro i hi
    simp at hi
    omega
  · intro i hi fs
    simp at hi
    rcases hi with rfl | rfl
    · have hb : Blk w' (w.heap.size + 1) 77 #[.iface 71 (.pointer (some ⟨g, 0, none⟩)), .slice none 0 0, .int .i64 0, .int .i64 0, .bool false, .int .u8 5, .bool false, .slice (some ⟨w.heap.size, 0, none⟩) 0 512, .int .i64 1, .nilIface] := by
        have := Blk.new (w.alloc (.cells Z 5)) 77 #[.iface 71 (.pointer (some ⟨g, 0, none⟩)), .slice none 0 0, .int .i64 0, .int .i64 0, .bool false, .int .u8 5, .bool false, .slice (some ⟨w.heap.size, 0, none⟩) 0 512, .int .i64 1, .nilIface]
        rw [hw]
        simpa using this
      exact not_set hb (by decide)
    · obtain ⟨_, _, _, _, _, hb, _⟩ := hR.ex
      exact not_set (t := 102) ((hC.block _ hgw (by simp)).trans hb) (by decide)

set_option maxRecDepth 100000 in
set_option maxHeartbeats 1000000 in
theorem decoder_any (B : Nat) (s : ByteArray) (A : Option Addr) (cap : Nat) (l : List Int) (w : World) (hR : Reads w B 1 A l.length (is_ l)) (hB : B ≤ w.heap.size) (hll : l.length ≤ 1000) (hs : s.size ≤ 1048576) (hv : ∀ x ∈ l, -9223372036854775808 ≤ x ∧ x ≤ 9223372036854775807) :
    Calls Tryd.prog 21 #[.string s, .slice A l.length cap, .bool false] w (DecNew w B s.data.toList) := by
  by_cases hl : l.length = 0
  · have i1 : ((l.length : Nat) : Int) = 0 := by omega
    have hcv := Lib.run_convert_string_bytes (P := Tryd.prog) w 9 43 5 s Tryd.underlying9 Tryd.underlying43 Tryd.underlying5
    have FIN : Hid (∀ e w', NewD (Lib.bytesWorld w 5 s) .nilIface (.slice (some ⟨w.heap.size, 0, none⟩) s.size (grownCap w s.size 0 5)) true e w' → DecNew w B s.data.toList e w') := hide fun e w' h =>
      decNew_B (w0 := w) (w := Lib.bytesWorld w 5 s) (k := w.heap.size) (cap := grownCap w s.size 0 5) (ext_bytesWorld (Ext.refl w) _ _) (Nat.le_refl _) (by rw [Lib.bytesWorld_size]; omega) hB (rbytes_bytesWorld w _ s) (by rw [size_data]; have := grownCap_ge w s.size 0 5; omega) (by rw [size_data]; exact hs) ⟨_, _, Lib.bytesWorld_at_new _ _ _⟩ (by rw [size_data]; exact h)
    generalize grownCap w s.size 0 5 = gc at hcv FIN
    generalize Lib.bytesWorld w 5 s = W1 at hcv FIN
    rw [hl]
    clear hR hB hll hv hl i1
    go_enter Tryd.func21, Tryd.ntmps21
    go_wp2_with fail
    refine (newDecB_any _ _ _ _).mono ?_
    rintro e w2 h
    have H := FIN.out e w2 h
    obtain ⟨Z, -, rfl⟩ := h
    have HH := hide H
    clear H FIN hcv
    go_wp2
    go_ret
    exact HH.out
  · have i1 : ¬ ((l.length : Nat) : Int) = 0 := by omega
    have CALL := hide (newReader_any B s A cap l w hR hB hll hs hv)
    have hs2 : s.data.toList.length ≤ 1048576 := by rw [size_data]; exact hs
    have HB := hide (And.intro hB hs2)
    clear hR hB hll hv hl hs2
    go_enter Tryd.func21, Tryd.ntmps21
    go_wp2_with fail
    refine CALL.out.mono ?_
    rintro e w1 ⟨g, f, hg, rfl, hRd, hC⟩
    have F := hide (And.intro hg (And.intro hRd (hC.ext (by simp))))
    clear CALL hg hRd hC
    go_wp2_with fail
    refine (newDecR_any _ _ _).mono ?_
    rintro e w2 h
    have HH := hide (decNew_R F.out.2.2 F.out.1 HB.out.1 F.out.2.1 HB.out.2 h)
    obtain ⟨Z, -, rfl⟩ := h
    clear F HB
    go_wp2
    go_ret
    exact HH.out
end Go.Proofs.YtejngpbeogaapaaDoor
