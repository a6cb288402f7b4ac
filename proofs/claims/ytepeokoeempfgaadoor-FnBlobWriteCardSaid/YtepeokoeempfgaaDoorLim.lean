/-
  resp's lenReader and io.LimitedReader over impl's reader.
-/
import Derived.Test.YtepeokoeempfgaaDoorReader
import Derived.Test.YtepeokoeempfgaaDoorMid
import Derived.Deep.RegionWith
namespace Go.Proofs.YtepeokoeempfgaaDoor
open Go.RowKit
set_option linter.unusedVariables false
set_option linter.unusedSimpArgs false

/-- impl's reader that gives all at once: so much is left. -/
def RdA (w : World) (g : Nat) (left : List UInt8) : Prop := ∃ s : ByteArray, Blk w g 88 #[.string s, .slice none 0 0, .int .i64 0, .bool false] ∧ s.data.toList = left ∧ left.length ≤ 1000000
theorem RdA.blk {w : World} {g : Nat} {left : List UInt8} (h : RdA w g left) : ∃ cs, Blk w g 88 cs := by
  obtain ⟨s, hb, _⟩ := h
  exact ⟨_, hb⟩
theorem RdA.chg {w w' : World} {g : Nat} {left : List UInt8} {S : List Nat} (h : RdA w g left) (hc : Chg S w w') (hg : g ∉ S) : RdA w' g left := by
  obtain ⟨s, hb, h2⟩ := h
  exact ⟨s, hb.chg hc hg, h2⟩
theorem readA_end (g : Nat) (B : Nat) (ad : Addr) (w : World) (hR : RdA w g []) (hE : EofAt w B ad) (hgB : B ≤ g) (A : Option Addr) (n cap : Nat) :
    Calls Tryd.prog 117 #[.pointer (some ⟨g, 0, none⟩), .slice A n cap] w fun e w' => e = .returned (.tuple #[.int .i64 0, .iface 215 (.pointer (some ad))]) ∧ Chg [] w w' := by
  obtain ⟨s, hb, hl, _⟩ := hR
  exact read_end .nilIface B g 0 ad w ⟨⟨s, none, 0, 0, [], hb, hl, ⟨by simp [is_], fun h => absurd h (by simp)⟩, .inl ⟨rfl, by simp⟩, by omega, by simp, by simp⟩, hgB, by simp⟩ hE A n cap
def RedA (w : World) (g b o n : Nat) (t : TypeId) (cur : Array Value) (left : List UInt8) (e : Ending) (w' : World) : Prop :=
  ∃ m : Nat, 0 < m ∧ m ≤ n ∧ m ≤ left.length ∧ e = .returned (.tuple #[.int .i64 (m : Nat), .nilIface]) ∧ RdA w' g (left.drop m) ∧ Blk w' b t (ovr cur o (bs (left.take m))) ∧ Chg [g, b] w w'
set_option maxRecDepth 100000 in
set_option maxHeartbeats 1000000 in
theorem readA_all (g b o n cap : Nat) (t : TypeId) (cur : Array Value) (c : UInt8) (left : List UInt8) (w : World) (hb : Blk w b t cur) (hR : RdA w g (c :: left)) (hgb : g ≠ b) (hfit : o + n ≤ cur.size) (hn : 0 < n) (hnc : n ≤ cap) :
    Calls Tryd.prog 117 #[.pointer (some ⟨g, 0, none⟩), .slice (some ⟨b, o, none⟩) n cap] w (RedA w g b o n t cur (c :: left)) := by
  obtain ⟨s, hg, hl, hsz⟩ := hR
  have c0 := hg.cell 0
  have c1 := hg.cell 1
  have c3 := hg.cell 3
  have f0 := hg.frozen 0
  simp at c0 c1 c3
  have hs1 : s.size = left.length + 1 := by rw [← size_data, hl]; simp
  have hs0 : ((s.size : Int) == 0) = false := by rw [beq_eq_false_iff_ne]; omega
  have hcp : ∀ m : Nat, m ≤ s.size → m ≤ n → _ := fun m h1 h2 => run_copy_str (P := Tryd.prog) w.drew 50 9 3 5 b o m cap m s cur t Tryd.underlying50 (by kernel_rfl) (Blk.row hb) (by show min s.size m = m; omega) (by omega)
  have fr1 : ∀ cs, (w.drew.setRow b cs).frozen? ⟨g, 0, none⟩ = false := fun cs => ((hg.drew).setRow_far hgb cs).frozen 0
  have cc1 : ∀ cs, (w.drew.setRow b cs).cell? ⟨g, 0, none⟩ = some (.string s) := fun cs => by have := ((hg.drew).setRow_far hgb cs).cell 0; simpa using this
  have END : Hid (∀ m : Nat, 0 < m → m ≤ n → m ≤ s.size → RedA w g b o n t cur (c :: left) (.returned (.tuple #[.int .i64 (m : Nat), .nilIface])) ((w.drew.setRow b (ovr cur o (bs (s.data.toList.take m)))).setCell ⟨g, 0, none⟩ (.string (s.extract m s.size)))) := hide fun m h0 h1 h2 => by
    have hd : (s.extract m s.size).data.toList = (c :: left).drop m := by rw [Lib.extract_to_end, hl]
    refine ⟨m, h0, h1, by simp; omega, rfl, ⟨s.extract m s.size, ?_, hd, by rw [List.length_drop]; omega⟩, ?_, (((Chg.refl [g, b] w).drew).setRow (.inl (by simp)) _).setCell (.inl (by simp)) _⟩
    · have := ((hg.drew).setRow_far (g' := b) hgb (ovr cur o (bs (s.data.toList.take m)))).set_ 0 (.string (s.extract m s.size))
      simpa using this
    · rw [← hl]
      exact ((hb.drew).setRow_ _).far (by simpa using Ne.symm hgb) _
  have hs2 : 0 < s.size := by omega
  clear hg hl hb hs1
  rcases (by omega : n < s.size ∨ s.size ≤ n) with hc | hc
  · have hcp := hcp n (by omega) (by omega)
    have END := hide (END.out n (by omega) (by omega) (by omega))
    have hm1 : min (s.size : Int) (n : Int) = n := by omega
    go_enter Tryd.func117, Tryd.ntmps117
    go_wp2
    refine wp_region_quiet_tail 10 (by kernel_rfl) (by kernel_rfl) ?_
    simp only [List.take_succ_cons, List.take_zero, List.drop_succ_cons, List.drop_zero]
    repeat go_big_quiet_step (fail)
    refine wpQuiet_nil ?_
    go_wp2
    go_ret2
    exact END.out
  · have hcp := hcp s.size (by omega) (by omega)
    have END := hide (END.out s.size (by omega) (by omega) (by omega))
    have hsc : s.size ≤ cap := by omega
    have hm1 : min (s.size : Int) (n : Int) = s.size := by omega
    go_enter Tryd.func117, Tryd.ntmps117
    go_wp2
    refine wp_region_quiet_tail 10 (by kernel_rfl) (by kernel_rfl) ?_
    simp only [List.take_succ_cons, List.take_zero, List.drop_succ_cons, List.drop_zero]
    repeat go_big_quiet_step (fail)
    refine wpQuiet_nil ?_
    go_wp2
    go_ret2
    have h := END.out
    rw [show s.extract s.size s.size = ByteArray.empty by simp] at h
    exact h
set_option maxRecDepth 100000 in
theorem newReaderA_any (s : ByteArray) (hs : s.size ≤ 1000000) (w : World) :
    Calls Tryd.prog 25 #[.string s, .slice none 0 0, .bool false] w fun e w' => e = .returned (.pointer (some ⟨w.heap.size, 0, none⟩)) ∧ RdA w' w.heap.size s.data.toList ∧ Ext w w' := by
  go_enter Tryd.func25, Tryd.ntmps25
  go_wp2
  go_loop [7, 9, 12] (fun s7 s9 s12 => s12 = .int .i64 0 ∧ s7 = .bool false) (fun _ _ _ => 0)
  case atStart => exact ⟨rfl, rfl⟩
  case round =>
    obtain ⟨rfl, rfl⟩ := hrel
    go_wp2
    go_ret
    exact ⟨rfl, ⟨s, Blk.new w _ _, rfl, by rw [size_data]; exact hs⟩, (Ext.refl w).alloc _⟩

/-- The three readers, one over the other: N may still be read, L is told to be left, left is left. -/
structure Lim (w : World) (B q k g : Nat) (N L : Int) (left : List UInt8) : Prop where
  q_ : Blk w q 147 #[.iface 83 (.pointer (some ⟨k, 0, none⟩)), .int .i64 N]
  k_ : Blk w k 85 #[.iface 60 (.pointer (some ⟨g, 0, none⟩)), .int .i64 L]
  r_ : RdA w g left
  bq : B ≤ q
  bk : B ≤ k
  bg : B ≤ g
theorem Lim.chg {w w' : World} {B q k g : Nat} {N L : Int} {left : List UInt8} {S : List Nat} (h : Lim w B q k g N L left) (hc : Chg S w w') (h1 : q ∉ S) (h2 : k ∉ S) (h3 : g ∉ S) : Lim w' B q k g N L left :=
  ⟨h.q_.chg hc h1, h.k_.chg hc h2, h.r_.chg hc h3, h.bq, h.bk, h.bg⟩

theorem meth_len (k : Nat) (w : World) : (method 347 83 (.pointer (some ⟨k, 0, none⟩)) "Len").run Tryd.prog w = .ok (130, .pointer (some ⟨k, 0, none⟩)) w := by kernel_rfl
theorem meth_lenRead (k : Nat) (w : World) : (method 347 83 (.pointer (some ⟨k, 0, none⟩)) "Read").run Tryd.prog w = .ok (131, .pointer (some ⟨k, 0, none⟩)) w := by kernel_rfl
theorem meth_limRead (k : Nat) (w : World) : (method 347 145 (.pointer (some ⟨k, 0, none⟩)) "Read").run Tryd.prog w = .ok (151, .pointer (some ⟨k, 0, none⟩)) w := by kernel_rfl
theorem meth_rdRead (k : Nat) (w : World) : (method 347 60 (.pointer (some ⟨k, 0, none⟩)) "Read").run Tryd.prog w = .ok (117, .pointer (some ⟨k, 0, none⟩)) w := by kernel_rfl

/-- What a read of n bytes into block b from place o on leaves. -/
def LenS (w : World) (B k g b o n : Nat) (L : Int) (t : TypeId) (cur : Array Value) (left : List UInt8) (ad : Addr) (e : Ending) (w' : World) : Prop :=
  (left = [] ∧ e = .returned (.tuple #[.int .i64 0, .iface 215 (.pointer (some ad))]) ∧ RdA w' g [] ∧ Blk w' k 85 #[.iface 60 (.pointer (some ⟨g, 0, none⟩)), .int .i64 L] ∧ Blk w' b t cur ∧ Chg [k] w w') ∨
  ∃ m : Nat, 0 < m ∧ m ≤ n ∧ m ≤ left.length ∧ e = .returned (.tuple #[.int .i64 (m : Nat), .nilIface]) ∧ RdA w' g (left.drop m) ∧ Blk w' k 85 #[.iface 60 (.pointer (some ⟨g, 0, none⟩)), .int .i64 (L - m)] ∧ Blk w' b t (ovr cur o (bs (left.take m))) ∧ Chg [k, g, b] w w'

set_option maxRecDepth 100000 in
set_option maxHeartbeats 2000000 in
theorem lenRead_any (B k g b o n cap : Nat) (L : Int) (t : TypeId) (cur : Array Value) (left : List UInt8) (ad : Addr) (w : World) (hk : Blk w k 85 #[.iface 60 (.pointer (some ⟨g, 0, none⟩)), .int .i64 L]) (hR : RdA w g left) (hE : EofAt w B ad) (hgB : B ≤ g) (hb : Blk w b t cur)
    (hgb : g ≠ b) (hkb : k ≠ b) (hB : B ≤ b) (hkB : B ≤ k) (hfit : o + n ≤ cur.size) (hn : 0 < n) (hnc : n ≤ cap) (hL1 : -1000000 ≤ L) (hL2 : L ≤ 1000000) (hn2 : n ≤ 1000000) :
    Calls Tryd.prog 131 #[.pointer (some ⟨k, 0, none⟩), .slice (some ⟨b, o, none⟩) n cap] w (LenS w B k g b o n L t cur left ad) := by
  have MR := meth_rdRead g
  obtain ⟨rc, hrb⟩ := hR.blk
  have hkg : k ≠ g := Blk.ne_ hk hrb (by decide)
  have c0 := hk.cell 0
  simp at c0
  rcases left with _ | ⟨c, left⟩
  · have RE := hide (readA_end g B ad w hR hE hgB (some ⟨b, o, none⟩) n cap)
    have HK := hide hk
    have HR := hide hR
    have HB := hide hb
    clear hk hR hE hb hrb
    go_enter Tryd.func131, Tryd.ntmps131
    go_wp2_with fail
    refine RE.out.mono ?_
    rintro e w1 ⟨rfl, hc⟩
    have hk1 := HK.out.chg hc (by simp)
    have c1 := hk1.cell 1
    have f1 := hk1.frozen 1
    simp at c1
    have END : Hid (LenS w B k g b o n L t cur [] ad (.returned (.tuple #[.int .i64 0, .iface 215 (.pointer (some ad))])) (w1.setCell ⟨k, 1, none⟩ (.int .i64 L))) := hide (.inl ⟨rfl, rfl, (HR.out.chg hc (by simp)).chg ((Chg.refl [k] w1).setCell (.inl (by simp)) _) (by simpa using fun e => hkg e.symm), by simpa using hk1.set_ 1 (.int .i64 L), (HB.out.chg hc (by simp)).far (by simpa using fun e => hkb e.symm) _, (hc.more (by simp)).setCell (.inl (by simp)) _⟩)
    clear hk1 hc RE
    go_wp2
    go_ret2
    exact END.out
  · have RE := hide (readA_all g b o n cap t cur c left w hb hR hgb hfit hn hnc)
    have HK := hide hk
    clear hk hR hE hb hrb
    go_enter Tryd.func131, Tryd.ntmps131
    go_wp2_with fail
    refine RE.out.mono ?_
    rintro e w1 ⟨m, h0, h1, h2, rfl, h5, h6, h7⟩
    have hk1 := HK.out.chg h7 (by simp [hkg, hkb])
    have c1 := hk1.cell 1
    have f1 := hk1.frozen 1
    simp at c1
    have END : Hid (LenS w B k g b o n L t cur (c :: left) ad (.returned (.tuple #[.int .i64 (m : Nat), .nilIface])) (w1.setCell ⟨k, 1, none⟩ (.int .i64 (L - m)))) := hide (.inr ⟨m, h0, h1, h2, rfl, h5.chg ((Chg.refl [k] w1).setCell (.inl (by simp)) _) (by simpa using fun e => hkg e.symm), by simpa using hk1.set_ 1 (.int .i64 (L - m)), h6.far (by simpa using fun e => hkb e.symm) _, (h7.more (fun i hi => .inl (by simp at hi; rcases hi with rfl | rfl <;> simp))).setCell (.inl (by simp)) _⟩)
    have i1 : (m : Int) ≤ 1000000 := by omega
    clear hk1 h5 h6 h7 RE h2
    go_wp2
    go_ret2
    exact END.out

/-- What a read of at most n bytes into block b from place o on leaves. -/
def LimS (w : World) (B q k g b o n : Nat) (N L : Int) (t : TypeId) (cur : Array Value) (left : List UInt8) (ad : Addr) (e : Ending) (w' : World) : Prop :=
  ((N = 0 ∨ left = []) ∧ e = .returned (.tuple #[.int .i64 0, .iface 215 (.pointer (some ad))]) ∧ Lim w' B q k g N L left ∧ Blk w' b t cur ∧ Chg [q, k] w w') ∨
  ∃ (m : Nat), 0 < m ∧ m ≤ n ∧ (m : Int) ≤ N ∧ m ≤ left.length ∧ e = .returned (.tuple #[.int .i64 (m : Nat), .nilIface]) ∧ Lim w' B q k g (N - m) (L - m) (left.drop m) ∧ Blk w' b t (ovr cur o (bs (left.take m))) ∧ Chg [q, k, g, b] w w'

set_option maxRecDepth 100000 in
set_option maxHeartbeats 2000000 in
theorem limRead_any (B q k g b o n cap : Nat) (N : Nat) (L : Int) (t : TypeId) (cur : Array Value) (left : List UInt8) (ad : Addr) (w : World) (hq : Lim w B q k g N L left) (hE : EofAt w B ad) (hb : Blk w b t cur)
    (hgb : g ≠ b) (hkb : k ≠ b) (hqb : q ≠ b) (hB : B ≤ b) (hfit : o + n ≤ cur.size) (hn : 0 < n) (hnc : n ≤ cap) (hcm : cap ≤ 9223372036854775807) (hN : N ≤ 1000000) (hL1 : -1000000 ≤ L) (hL2 : L ≤ 1000000) :
    Calls Tryd.prog 151 #[.pointer (some ⟨q, 0, none⟩), .slice (some ⟨b, o, none⟩) n cap] w (LimS w B q k g b o n N L t cur left ad) := by
  have MR := meth_lenRead k
  obtain ⟨rc, hrb⟩ := hq.r_.blk
  have hqk : q ≠ k := Blk.ne_ hq.q_ hq.k_ (by decide)
  have hqg : q ≠ g := Blk.ne_ hq.q_ hrb (by decide)
  have c0 := hq.q_.cell 0
  have c1 := hq.q_.cell 1
  simp at c0 c1
  have i1 : (N : Int) ≤ 1000000 := by omega
  have i2 : (n : Int) ≤ cap := by omega
  have i3 : (cap : Int) ≤ 9223372036854775807 := by omega
  by_cases h0 : N = 0
  · subst h0
    have hE0 := hE.2.2
    have END : Hid (∀ j, LimS w B q k g b o n 0 L t cur left ad (.returned (.tuple #[.int .i64 0, .iface 215 (.pointer (some ad))])) (w.drewN j)) := hide fun j => .inl ⟨.inl rfl, rfl, hq.chg (((Chg.refl [] w).drewN j)) (by simp) (by simp) (by simp), hb.drewN j, (Chg.refl _ _).drewN j⟩
    clear hq hb hE hrb
    go_enter Tryd.func151, Tryd.ntmps151
    go_wp2
    go_quiet (fail)
    go_wp2
    go_ret2
    exact END.out _
  · have i4 : (1 : Int) ≤ N := by omega
    obtain ⟨n', hn', hnn⟩ : ∃ n', n' = min n N ∧ 0 < n' := ⟨_, rfl, by omega⟩
    have LR := hide (lenRead_any B k g b o n' cap L t cur left ad w hq.k_ hq.r_ hE hq.bg hb hgb hkb hB hq.bk (by omega) hnn (by omega) hL1 hL2 (by omega))
    have HQ := hide hq
    have END : Hid (∀ e w1, LenS w B k g b o n' L t cur left ad e w1 → w1.cell? ⟨q, 1, none⟩ = some (.int .i64 N) ∧ w1.frozen? ⟨q, 1, none⟩ = false ∧ ((e = .returned (.tuple #[.int .i64 0, .iface 215 (.pointer (some ad))]) ∧ LimS w B q k g b o n N L t cur left ad e (w1.setCell ⟨q, 1, none⟩ (.int .i64 N))) ∨ ∃ m : Nat, m ≤ n ∧ (m : Int) ≤ N ∧ e = .returned (.tuple #[.int .i64 (m : Nat), .nilIface]) ∧ LimS w B q k g b o n N L t cur left ad e (w1.setCell ⟨q, 1, none⟩ (.int .i64 (N - m))))) := hide (by
      rintro e w1 (⟨rfl, rfl, h2, h3, h4, h5⟩ | ⟨m, h0, h1, h2, rfl, h5, h6, h7, h8⟩)
      · have hq1 := HQ.out.q_.chg h5 (by simp [hqk])
        have d1 := hq1.cell 1
        simp at d1
        have hs : Chg [q] w1 (w1.setCell ⟨q, 1, none⟩ (.int .i64 N)) := (Chg.refl _ _).setCell (.inl (by simp)) _
        refine ⟨d1, hq1.frozen 1, .inl ⟨rfl, .inl ⟨.inr rfl, rfl, ⟨by simpa using hq1.set_ 1 (.int .i64 N), h3.chg hs (by simp [Ne.symm hqk]), h2.chg hs (by simp [Ne.symm hqg]), HQ.out.bq, HQ.out.bk, HQ.out.bg⟩, h4.chg hs (by simp [Ne.symm hqb]), ?_⟩⟩⟩
        exact (h5.more (by simp)).trans (hs.more (by simp))
      · have hq1 := HQ.out.q_.chg h8 (by simp [hqk, hqg, hqb])
        have d1 := hq1.cell 1
        simp at d1
        have hs : Chg [q] w1 (w1.setCell ⟨q, 1, none⟩ (.int .i64 (N - m))) := (Chg.refl _ _).setCell (.inl (by simp)) _
        refine ⟨d1, hq1.frozen 1, .inr ⟨m, by omega, by omega, rfl, .inr ⟨m, h0, by omega, by omega, h2, rfl, ⟨by simpa using hq1.set_ 1 (.int .i64 (N - m)), h6.chg hs (by simp [Ne.symm hqk]), h5.chg hs (by simp [Ne.symm hqg]), HQ.out.bq, HQ.out.bk, HQ.out.bg⟩, h7.chg hs (by simp [Ne.symm hqb]), ?_⟩⟩⟩
        exact (h8.more (fun i hi => .inl (by simp at hi; rcases hi with rfl | rfl | rfl <;> simp))).trans (hs.more (by simp)))
    clear hq hE hb hrb HQ
    by_cases hlt : (N : Int) < n
    · have hnN : n' = N := by omega
      subst hnN
      clear hn'
      go_enter Tryd.func151, Tryd.ntmps151
      go_wp2_with fail
      refine LR.out.mono ?_
      intro e w1 hS
      obtain ⟨d1, d2, hE2⟩ := END.out e w1 hS
      clear hS END LR
      rcases hE2 with ⟨rfl, hE2⟩ | ⟨m, hm1, hm2, rfl, hE2⟩
      · have HE := hide hE2
        clear hE2
        go_wp2
        go_ret2
        exact HE.out
      · have HE := hide hE2
        clear hE2
        go_wp2
        go_ret2
        exact HE.out
    · have hnN : n' = n := by omega
      subst hnN
      clear hn'
      go_enter Tryd.func151, Tryd.ntmps151
      go_wp2_with fail
      refine LR.out.mono ?_
      intro e w1 hS
      obtain ⟨d1, d2, hE2⟩ := END.out e w1 hS
      clear hS END LR
      rcases hE2 with ⟨rfl, hE2⟩ | ⟨m, hm1, hm2, rfl, hE2⟩
      · have HE := hide hE2
        clear hE2
        go_wp2
        go_ret2
        exact HE.out
      · have HE := hide hE2
        clear hE2
        go_wp2
        go_ret2
        exact HE.out
end Go.Proofs.YtepeokoeempfgaaDoor
