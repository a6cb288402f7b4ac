/-
  impl.RawRead of a streamed header.
-/
import Derived.Test.YtnenjkngimfdgaaDoorRawT
import Derived.Deep.RegionWith
import Derived.Deep.DeepCutAuto
import Derived.Deep.CutBlock
namespace Go.Proofs.YtnenjkngimfdgaaDoor
open Go.RowKit
set_option linter.unusedVariables false
set_option linter.unusedSimpArgs false

set_option maxRecDepth 100000 in
theorem leftE_any (q g k r n : Nat) (er lb ls : Value) (cur : Array Value) (w : World) (h : BufE w q g k r (r + n) er lb ls cur []) (hr : r + n ≤ 4096) :
    Calls Tryd.prog 29 #[pcV g q] w fun e w' => e = .returned (.int .i64 (n : Nat)) ∧ Ext w w' := by
  obtain ⟨s, hg, hs, _⟩ := h.g_
  have c2 := h.q_.cell 2
  have c3 := h.q_.cell 3
  have g0 := hg.cell 0
  simp at c2 c3 g0
  have hlt := h.q_.lt
  have hlg := hg.lt
  have hm := method_buffered q
  have hsl : s.size = 0 := by rw [← size_data, hs]; rfl
  have hse : s = ByteArray.empty := ByteArray.ext (Array.eq_empty_of_size_eq_zero hsl)
  rw [hse] at g0
  have CALL : Hid (∀ (o : Obj) nq, Calls Tryd.prog 103 #[.pointer (some ⟨q, 0, none⟩)] ((w.alloc o).drewN nq) fun e w' => e = .returned (.int .i64 (n : Nat)) ∧ ∃ m, w' = ((w.alloc o).drewN nq).drewN m) := hide fun o nq =>
    buffered_any q r n _ (by rw [World.cell?_drewN, World.cell?_alloc_lt w o _ (by simpa using hlt)]; exact c2) (by rw [World.cell?_drewN, World.cell?_alloc_lt w o _ (by simpa using hlt)]; simpa using c3) hr
  have e2 : IntKind.i64.wrap (n : Int) = (n : Int) := IntWalk.i64_in _ (by omega)
  have hn6 : (n : Int) ≤ 4096 := by omega
  clear h hg hs c2 c3 hse hsl
  unfold pcV
  go_enter Tryd.func29, Tryd.ntmps29
  go_wp2
  go_quiet ((go_at_call 103; exact Calls.quiet_of (CALL.out _ _)))
  go_wp2
  go_ret
  exact ⟨by first | rfl | simp, ((Ext.refl _).alloc _).drewN _⟩
theorem rb_of_own {w : World} {v : Value} {l : List UInt8} (h : OwnB w v l) : ∃ A c, v = .slice A l.length c ∧ RBytes w A l ∧ ∀ ad, A = some ad → v.ownBlock = some ad.block := by
  rcases h.2 with ⟨e, h0⟩ | ⟨g, cap, cur, e, hrest⟩
  · have hl : l = [] := List.length_eq_zero_iff.1 h0
    subst hl
    exact ⟨none, 0, e, RBytes.empty _ _, fun ad e2 => by cases e2⟩
  · subst e
    refine ⟨some ⟨g, 0, none⟩, cap, rfl, ⟨by simp [bs], fun _ => ⟨_, rfl, ?_, fun j u hu => World.ownsRow.cells h (g := g) rfl j u hu⟩⟩, fun ad e2 => by injection e2 with e2; subst e2; rfl⟩
    exact Blk.lt (t := 5) hrest.2.1
theorem ext_chg {a b c : World} {S : List Nat} (h : Ext a b) (k : Chg S b c) (hS : ∀ i ∈ S, a.heap.size ≤ i) : Ext a c := ((Chg.of_ext h S).trans k).ext hS
theorem rawRead_idle (args : Array Value) (w : World) : CallsD Tryd.prog 30 args .returning w fun e u' w' => e = .returned (.tuple #[]) ∧ u' = .returning ∧ w' = w :=
  idle_of w nilTest_any Tryd.func30 rfl rfl (by decide) (by decide)
set_option maxRecDepth 100000 in
theorem unmR_any (m q g k o : Nat) (lb ls : Value) (cur : Array Value) (c : UInt8) (tail : List UInt8) (w : World) (hp : Pfx c) (hm : Blk w m 71 #[.slice none 0 0]) (h : BufE w q g k 0 0 .nilIface lb ls cur (c :: 63 :: 13 :: 10 :: tail)) (hl : tail.length ≤ 1000) (hmq : m ≠ q) (hmk : m ≠ k) (hmg : m ≠ g) :
    Calls Tryd.prog 31 #[.pointer (some ⟨m, 0, none⟩), .iface 119 (.pointer (some ⟨q, 0, none⟩)), .pointer (some ⟨o, 0, none⟩)] w (UnmP w m q g k (tail.length + 4) c) := by
  have hcW : Chg [m] w (w.setCell ⟨m, 0, none⟩ (.slice none 0 0)) := (Chg.refl [m] w).setCell (.inl (by simp)) _
  have hm2 : Blk (w.setCell ⟨m, 0, none⟩ (.slice none 0 0)) m 71 #[.slice none 0 0] := by
    have h2 := hm.set_ 0 (.slice none 0 0)
    simpa using h2
  have UA := hide (unm_any m q g k lb ls cur c tail _ hp hm2 (h.chg hcW (by simp [hmq, hmk, hmg])) hl hmq hmk hmg)
  have m0 := hm.cell 0
  have fm := hm.frozen 0
  simp at m0
  have HC := hide hcW
  clear hm h hm2 hcW
  go_enter Tryd.func31, Tryd.ntmps31
  go_wp2_with fail
  refine UA.out.mono ?_
  rintro e w1 ⟨rfl, hU⟩
  have HU := hide hU
  clear hU
  go_wp2
  go_ret
  obtain ⟨h1, h2, h3⟩ := HU.out
  exact ⟨rfl, by simpa using h1, h2, (HC.out.more (by simp)).trans h3⟩
/-- What stands when the message is read: the results' cells, the pieces, the message. -/
structure FitR (w0 p m q g k n : Nat) (A : Option Addr) (c' : Nat) (c : UInt8) (W : World) : Prop where
  r1 : Blk W w0 9 #[.string .empty]
  r2 : Blk W (w0 + 1) 3 #[.int .i64 0]
  r3 : Blk W (w0 + 1 + 1) 3 #[.int .i64 0]
  p_ : Blk W p 66 #[.pointer (some ⟨g, 0, none⟩), .iface 119 (.pointer (some ⟨q, 0, none⟩))]
  m_ : Blk W m 71 #[.slice A 4 c']
  b_ : RBytes W A (hdr c)
  e_ : ∃ cur, BufE W q g k 4 (4 + n) .nilIface (.int .i64 10) (.int .i64 (-1)) cur []
theorem FitR.ext {w0 p m q g k n : Nat} {A : Option Addr} {c' : Nat} {c : UInt8} {W W' : World} (h : FitR w0 p m q g k n A c' c W) (hx : Ext W W') : FitR w0 p m q g k n A c' c W' := by
  obtain ⟨cur, he⟩ := h.e_
  exact ⟨h.r1.chg (Chg.of_ext hx []) (by simp), h.r2.chg (Chg.of_ext hx []) (by simp), h.r3.chg (Chg.of_ext hx []) (by simp), h.p_.chg (Chg.of_ext hx []) (by simp), h.m_.chg (Chg.of_ext hx []) (by simp), h.b_.chg (Chg.of_ext hx []) (by simp), cur, he.chg (Chg.of_ext hx []) (by simp)⟩
theorem FitR.facts {w0 p m q g k n : Nat} {A : Option Addr} {c' : Nat} {c : UInt8} {W : World} (h : FitR w0 p m q g k n A c' c W) : W.cell? ⟨w0, 0, none⟩ = some (.string .empty) ∧ W.frozen? ⟨w0, 0, none⟩ = false ∧ W.cell? ⟨w0 + 1, 0, none⟩ = some (.int .i64 0) ∧ W.frozen? ⟨w0 + 1, 0, none⟩ = false ∧ W.cell? ⟨w0 + 1 + 1, 0, none⟩ = some (.int .i64 0) ∧ W.frozen? ⟨w0 + 1 + 1, 0, none⟩ = false ∧
    W.cell? ⟨p, 0, none⟩ = some (.pointer (some ⟨g, 0, none⟩)) ∧ W.cell? ⟨p, 1, none⟩ = some (.iface 119 (.pointer (some ⟨q, 0, none⟩))) ∧ W.cell? ⟨m, 0, none⟩ = some (.slice A 4 c') ∧ (convert 71 9 (.slice A 4 c')).run Tryd.prog W = .ok (.string ⟨(hdr c).toArray⟩) W := by
  have h2 := run_string_n (P := Tryd.prog) W _ _ _ Tryd.underlying71 Tryd.underlying5 Tryd.underlying9 (A := A) (l := hdr c) 4 c' rfl h.b_
  exact ⟨h.r1.cell 0, h.r1.frozen 0, h.r2.cell 0, h.r2.frozen 0, h.r3.cell 0, h.r3.frozen 0, h.p_.cell 0, h.p_.cell 1, h.m_.cell 0, h2⟩
set_option maxRecDepth 100000 in
set_option maxHeartbeats 2000000 in
theorem rawRead_any (c : UInt8) (tail : List UInt8) (s : ByteArray) (w : World) (hp : Pfx c) (hs : s.data.toList = c :: 63 :: 13 :: 10 :: tail) (hl : tail.length ≤ 1000) :
    Calls Tryd.prog 14 #[.string s] w fun e w' => e = .returned (.tuple #[.string ⟨(hdr c).toArray⟩, .int .i64 (tail.length : Nat), .int .i64 0]) ∧ Ext w w' := by
  have hmf : ∀ (fn : Fn) (first cap : Array Value) (w : World), (Instr.makeFunc fn first cap).run Tryd.prog w = .ok (.func fn first cap) w := fun _ _ _ _ => rfl
  have hsz : s.size ≤ 1000000 := by rw [← size_data, hs]; simp; omega
  have NP : Hid (∀ W, Calls Tryd.prog 27 #[.string s, .slice none 0 0] W (NpA W (c :: 63 :: 13 :: 10 :: tail))) := hide fun W => by rw [← hs]; exact newPiecesA_any s W hsz
  have hp2 := hide hp
  obtain ⟨n, hn⟩ : ∃ n, n = tail.length := ⟨_, rfl⟩
  rw [← hn]
  have hn1 : (n : Int) ≤ 1000 := by omega
  clear hs hsz hp
  go_enter_defers Tryd.func14, Tryd.ntmps14
  go_wp2_with fail
  refine (NP.out _).mono ?_
  rintro e w1 ⟨q, g, k, hq, hg, hk, rfl, hB, hC⟩
  simp at hq hg hk
  have HB := hide hB
  have hx1 := hC.ext (by simp)
  have x1 := ((((Ext.refl w).alloc (.cells #[.string .empty] 9)).alloc (.cells #[.int .i64 0] 3)).alloc (.cells #[.int .i64 0] 3)).trans hx1
  have b1 : Blk w1 w.heap.size 9 #[.string .empty] := (((Blk.new w _ _).alloc _).alloc _).chg hC (by simp)
  have b2 : Blk w1 (w.heap.size + 1) 3 #[.int .i64 0] := ((Blk.new_at (w.alloc (.cells #[.string .empty] 9)) 3 #[.int .i64 0] (by simp)).alloc _).chg hC (by simp)
  have b3 : Blk w1 (w.heap.size + 1 + 1) 3 #[.int .i64 0] := (Blk.new_at ((w.alloc (.cells #[.string .empty] 9)).alloc (.cells #[.int .i64 0] 3)) 3 #[.int .i64 0] (by simp)).chg hC (by simp)
  obtain ⟨W1, hW1⟩ : ∃ W1, W1 = (w1.alloc (.cells #[.pointer (some ⟨g, 0, none⟩), .iface 119 (.pointer (some ⟨q, 0, none⟩))] 66)).alloc (.cells #[.slice none 0 0] 71) := ⟨_, rfl⟩
  have xW : Ext w1 W1 := by rw [hW1]; exact ((Ext.refl w1).alloc _).alloc _
  have bp : Blk W1 w1.heap.size 66 #[.pointer (some ⟨g, 0, none⟩), .iface 119 (.pointer (some ⟨q, 0, none⟩))] := by rw [hW1]; exact (Blk.new w1 _ _).alloc _
  have bm : Blk W1 (w1.heap.size + 1) 71 #[.slice none 0 0] := by rw [hW1]; exact Blk.new_at _ _ _ (by simp)
  have hql := hB.q_.lt
  have hkl := hB.k_.lt
  obtain ⟨rc, hrc⟩ := hB.g_.blk
  have hgl := hrc.lt
  unfold pcV
  go_upto_region 4 with fail
  rw [← hW1]
  have p1 := bp.cell 1
  simp at p1
  have UR : Hid (∀ W o, Ext W1 W → Calls Tryd.prog 31 #[.pointer (some ⟨w1.heap.size + 1, 0, none⟩), .iface 119 (.pointer (some ⟨q, 0, none⟩)), .pointer (some ⟨o, 0, none⟩)] W (UnmP W (w1.heap.size + 1) q g k (tail.length + 4) c)) := hide fun W o hx => unmR_any _ q g k o _ _ _ c tail W hp2.out (bm.chg (Chg.of_ext hx []) (by simp)) (HB.out.chg (Chg.of_ext (xW.trans hx) []) (by simp)) hl (by omega) (by omega) (by omega)
  rw [← hn] at UR
  have HBL := hide (And.intro b1 (And.intro b2 (And.intro b3 (And.intro bp (And.intro xW x1)))))
  have HLT := hide (And.intro hql (And.intro hkl (And.intro hgl (And.intro hq (And.intro hg hk)))))
  clear b1 b2 b3 bp bm xW x1 hql hkl hgl hrc hB hC hx1 HB NP hq hg hk hW1 hn hl
  refine wp_region_noPanic ?_
  refine wp_region_any (by kernel_rfl) ?_
  change wpAny _ _ _ _ _ _ _ (World.drew _)
  refine wpAny_take (i := 0) (v := ?_) rfl (by kernel_rfl) (by kernel_rfl) (by kernel_rfl) (fun _ _ _ h => h) (Or.inl ⟨by rfl, ?_⟩) ?_
  rotate_left
  · (intro w; go_simp <;> with_reducible rfl)
  refine wpAny_two (i := 1) (j := 2) (v := .iface 119 (.pointer (some ⟨q, 0, none⟩))) (Ext W1) rfl rfl (by kernel_rfl) (by kernel_rfl) (by kernel_rfl) (by kernel_rfl) (by kernel_rfl) (fun _ _ _ h => h) ((Ext.refl _).drew) ⟨by rfl, ?_⟩ (fun K0 hK => ?_)
  · intro wx hx
    have hq := hx.cellOf p1
    go_simp
  go_simp
  go_wp2_with (go_at_call 32; refine (newOpts_any _).mono ?_; rintro e wo ⟨rfl, -, hCo⟩)
  have hxo : Ext W1 wo := ((Ext.refl W1).drew).trans (hCo.ext (by simp))
  refine hK _ _ hxo ?_
  clear hK K0
  refine wpAny_ready (rs := [3]) (by kernel_rfl) (by simp) ?_
  refine AllReady.cons rfl (fun K0 hK => ?_) AllReady.nil
  go_simp
  go_wp2_with (go_at_call 31; refine (UR.out _ _ hxo).mono ?_; rintro e w3 ⟨rfl, hU, hU2, hU3⟩)
  obtain ⟨v, hv1, hv2, hv3⟩ := hU
  obtain ⟨A, c', rfl⟩ : ∃ A c', v = .slice A 4 c' := by
    obtain ⟨A', c', h, _⟩ := own_form hv2
    exact ⟨A', c', h⟩
  have HF : Hid (FitR w.heap.size w1.heap.size (w1.heap.size + 1) q g k n A c' c w3 ∧ Ext w w3) := hide (by
    obtain ⟨b1, b2, b3, bp, xW, x1⟩ := HBL.out
    obtain ⟨l1, l2, l3, l4, l5, l6⟩ := HLT.out
    have xo := xW.trans hxo
    obtain ⟨cur, he⟩ := hU2
    have hlo := xo.sizes
    have hr1 := b1.lt
    have hr3 := b3.lt
    refine ⟨⟨(b1.chg (Chg.of_ext xo []) (by simp)).chg hU3 (by simp; omega), (b2.chg (Chg.of_ext xo []) (by simp)).chg hU3 (by simp; omega), (b3.chg (Chg.of_ext xo []) (by simp)).chg hU3 (by simp; omega), (bp.chg (Chg.of_ext hxo []) (by simp)).chg hU3 (by simp; omega), hv1, ?_, cur, by rw [Nat.add_comm 4 n]; exact he⟩, ext_chg (x1.trans xo) hU3 ?_⟩
    · obtain ⟨A2, c2, e, hR, _⟩ := rb_of_own hv2
      obtain rfl := (Value.slice.inj e).1
      exact hR
    · simp; omega)
  clear hv1 hv2 hv3 hU2 hU3 UR HBL HLT hCo hxo
  try (refine hK _ _ ?_; clear hK K0)
  refine wpAny_ready (rs := [4]) (by kernel_rfl) (by simp) ?_
  refine AllReady.cons rfl (fun K0 hK => ?_) AllReady.nil
  go_simp
  try (refine hK _ _ ?_; clear hK K0)
  refine wpAny_done (by kernel_rfl) ?_ _
  refine NoPanic.normal ?_
  go_upto_region 7 with fail
  have LE : Hid (∀ W, FitR w.heap.size w1.heap.size (w1.heap.size + 1) q g k n A c' c W → Calls Tryd.prog 29 #[.agg #[.pointer (some ⟨g, 0, none⟩), .iface 119 (.pointer (some ⟨q, 0, none⟩))]] W fun e w' => e = .returned (.int .i64 (n : Nat)) ∧ Ext W w') := hide fun W F => by
    obtain ⟨cur, he⟩ := F.e_
    exact leftE_any q g k 4 n _ _ _ cur W he (by omega)
  have FA := hide (HF.out.1.ext ((Ext.refl w3).drew))
  have HXA := hide (HF.out.2.drew)
  clear HF
  obtain ⟨a1, a2, a3, a4, a5, a6, a7, a8, a9, a0⟩ := FA.out.facts
  refine wp_region_noPanic ?_
  go_region_with (first
    | (go_at_call 29; refine (LE.out _ FA.out).mono ?_; rintro e w4 ⟨rfl, hx4⟩; have FB := hide (FA.out.ext hx4); have HXB := hide (HXA.out.trans hx4); clear hx4; obtain ⟨a1, a2, a3, a4, a5, a6, a7, a8, a9, a0⟩ := FB.out.facts))
  all_goals
    refine NoPanic.normal ?_
    clear LE
    go_wp2
    refine door_idle (rawRead_idle _ _) (by simp [go_sem]) ?_
    refine ⟨.tuple #[.string ⟨(hdr c).toArray⟩, .int .i64 (n : Nat), .int .i64 0], by simp [results, Tryd.results14, go_sem, a1, a2, a3, a4, a5, a6], rfl, ?_⟩
    exact ((HXB.out.setCell (by simp) _).setCell (by simp) _).setCell (by simp; omega) _
end Go.Proofs.YtnenjkngimfdgaaDoor
