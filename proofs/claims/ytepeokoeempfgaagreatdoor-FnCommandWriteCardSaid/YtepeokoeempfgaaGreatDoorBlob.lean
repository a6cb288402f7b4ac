/-
  A message is written: (resp3.BlobString).MarshalRESP, resp3.marshalAggHeader, (resp3.ArrayHeader).MarshalRESP.
-/
import Derived.Test.YtepeokoeempfgaaGreatDoorMid
import Derived.Test.YtepeokoeempfgaaGreatDoorTwo
import Derived.Deep.RegionHeld3
import Derived.Test.YtepeokoeempfgaaGreatDoorWire
namespace Go.Proofs.YtepeokoeempfgaaGreatDoor
open Go.RowKit
set_option linter.unusedVariables false
set_option linter.unusedSimpArgs false

theorem Mid.still {B : Nat} {w w1 : World} {o p r b : Nat} {h : Option Nat} {bv : Value} {l : List UInt8} {sc : Nat} {v : Value} {li : List UInt8} (hm : Mid B w o p r b h bv l sc v li) (hg : w.grownBy w1 v.ownBlock) : w1.cell? ⟨sc, 0, none⟩ = some v ∧ w1.frozen? ⟨sc, 0, none⟩ = false := by
  have hb : Blk w1 sc 29 #[v] := hm.scr.1.chg (chg_of_grown hg) (fun hi => own_blk_ne' hm.scr.2.1 (mem_toList hi) hm.scr.1 (by decide) rfl)
  exact ⟨by rw [hb.cell]; rfl, hb.frozen 0⟩
theorem Mid.cell {B : Nat} {w : World} {o p r b : Nat} {h : Option Nat} {bv : Value} {l : List UInt8} {sc : Nat} {v : Value} {li : List UInt8} (hm : Mid B w o p r b h bv l sc v li) : w.cell? ⟨sc, 0, none⟩ = some v ∧ w.frozen? ⟨sc, 0, none⟩ = false := hm.still (grown_refl _ _)
/-- THE DOOR, with one call. -/
theorem door_call {P : Program} {g : FuncId} {fn : Func} {tmps cap dargs args : Array Value} {R : Ending → World → Prop} {w : World} {Q : World → Prop}
    (hc : CallsD P g args .returning w fun e u' w' => e = .returned (.tuple #[]) ∧ u' = .returning ∧ Q w') (hcf : (invoke (.fn (.func g) cap) dargs).run P w = .ok (.enter g args) w)
    (h : ∀ w', Q w' → ∃ v, (results fn tmps).run P w' = .ok v w' ∧ R (.returned v) w') : Leaves P fn tmps R [{ target := .fn (.func g) cap, args := dargs }] .returning w := by
  refine leaves_cons (f := g) (args := args) (by simp) hcf ?_
  refine hc.mono ?_
  rintro e u' w' ⟨rfl, rfl, hq⟩
  simpa [Leaves, settle] using h w' hq
theorem step_append {P : Program} {ops : Array Oper} {o : Oper} {a : Act} {w w' : World} {K : Act → World → Prop} {Q : Exit → Act → World → Prop} {E : Prop}
    (hgd : o.guard = none) (sl x : Operand) (t u : TypeId) (ho : o.op = .call { callee := .builtin .append, args := #[sl, x], argTypes := #[t, u] }) (v1 v2 r : Value) (hs : a.eval sl = v1) (hx : a.eval x = v2)
    (hr : (Builtin.append_ #[t, u] o.type #[v1, v2]).run P w = .ok r w') (h : K (a.put o.dst r) w') : if Region.wanted o (yielded ops a.tmps) = true then Oper.wp P o a w K Q else E := by
  have hw : Region.wanted o (yielded ops a.tmps) = true := by simp [Region.wanted, hgd]
  rw [if_pos hw]
  unfold Oper.wp execOp
  simp only [ho, resolve, invoke, builtin, Sem.run_bind, Sem.run_pure, Result.andThen_ok, List.map_toArray, List.map_cons, List.map_nil, hs, hx, hr]
  exact h

theorem Mid.keeps {B : Nat} {w w1 : World} {o p r b : Nat} {h : Option Nat} {bv : Value} {l : List UInt8} {sc : Nat} {v : Value} {li : List UInt8} (hm : Mid B w o p r b h bv l sc v li) (hg : w.grownBy w1 v.ownBlock) {k : Nat} {t : TypeId} {cs : Array Value} (hb : Blk w k t cs) (ht : 5 ≠ t) : Blk w1 k t cs :=
  hb.chg (chg_of_grown hg) (fun hi => own_blk_ne' hm.scr.2.1 (mem_toList hi) hb ht rfl)
theorem Mid.form {B : Nat} {w : World} {o p r b : Nat} {h : Option Nat} {bv : Value} {l : List UInt8} {sc : Nat} {v : Value} {li : List UInt8} (hm : Mid B w o p r b h bv l sc v li) : ∃ g n c, v = .slice (some ⟨g, 0, none⟩) n c ∧ Hid (n = li.length ∧ n ≤ c ∧ c ≤ maxLen ∧ g < w.heap.size) := by
  rcases hm.scr.2.1.2 with ⟨e, _⟩ | ⟨g, cap, cur, rfl, _, hg, h1, h2, _⟩
  · exact absurd (by rw [e]; rfl) hm.scr.2.2
  · exact ⟨g, _, cap, rfl, hide ⟨rfl, h1, h2, Blk.lt (t := 5) hg⟩⟩
theorem method_write (b : Nat) (w : World) : (method 301 37 (.pointer (some ⟨b, 0, none⟩)) "Write").run Tryz.prog w = .ok (94, .pointer (some ⟨b, 0, none⟩)) w := by kernel_rfl
/-- What one message leaves. -/
def MsgP (B o p r b : Nat) (l li : List UInt8) (w w' : World) : Prop := St B w' o p r b (l ++ li) ∧ Fr B w w'

theorem rb_at {w : World} {a : Addr} {l : List UInt8} (h : RBytes w (some a) l) : ∀ j (hj : j < l.length), w.cell? (a.add j) = some (.int .u8 (l[j].toNat)) := by
  intro j hj
  obtain ⟨ad, e, _, hc⟩ := h.2 (by omega)
  injection e with e
  subst e
  exact hc j _ (by rw [bs_getElem?, List.getElem?_eq_getElem hj]; rfl)
theorem blobW_list (s : ByteArray) : (blobW s).data.toList = ([] ++ [36]) ++ Lib.decDigits s.size ++ [13, 10] ++ s.data.toList ++ [13, 10] := by
  simp [blobW, decT, crlf, ByteArray.data_append]
theorem Mid.writes {B : Nat} {w : World} {o p r b : Nat} {h : Option Nat} {bv : Value} {l : List UInt8} {sc g n c : Nat} {li : List UInt8} (hm : Mid B w o p r b h bv l sc (.slice (some ⟨g, 0, none⟩) n c) li) (hn : n = li.length) (h1 : li ≠ []) (hl : l.length + li.length ≤ 100000000) :
    Calls Tryz.prog 94 #[.pointer (some ⟨b, 0, none⟩), .slice (some ⟨g, 0, none⟩) n c] w fun e w' => e = .returned (.tuple #[.int .i64 n, .nilIface]) ∧ WritePost w w' b bv l li := by
  obtain ⟨lr, hb⟩ := hm.rest.buf
  obtain ⟨cur, hg⟩ := own_blk hm.scr.2.1 (k := g) rfl
  have hp : 0 < li.length := List.length_pos_iff.2 h1
  exact write_any b n c bv lr l li ⟨g, 0, none⟩ w hb hm.rest.own hm.rest.hz hn.symm (by omega) (by omega) (Blk.ne_ hg hb (by decide)) hm.ne (OwnB.cells hm.scr.2.1) hg.lt
set_option maxRecDepth 100000 in
set_option maxHeartbeats 4000000 in
theorem blob_any (s : ByteArray) (hs : s.size ≤ 1000000) (B o p r b : Nat) (l : List UInt8) (hl : l.length ≤ 50000000) (w : World) (hS : St B w o p r b l) :
    Calls Tryz.prog 34 #[.agg #[.string s, .bool false], .iface 37 (.pointer (some ⟨b, 0, none⟩)), .pointer (some ⟨o, 0, none⟩)] w fun e w' => e = .returned .nilIface ∧ MsgP B o p r b l (blobW s).data.toList w w' := by
  have hmf : ∀ (fn : Fn) (first cap : Array Value) (w : World), (Instr.makeFunc fn first cap).run Tryz.prog w = .ok (.func fn first cap) w := fun _ _ _ _ => rfl
  obtain ⟨hS1, hf1⟩ := hS.chg_ext ((Ext.refl w).alloc (.cells #[.string s, .bool false] 103))
  have hbx : Blk (w.alloc (.cells #[.string s, .bool false] 103)) w.heap.size 103 #[.string s, .bool false] := Blk.new w _ _
  have GT := hide hS1.got
  have HO1 : OptsB (w.alloc (.cells #[.string s, .bool false] 103)) o p r := by obtain ⟨h, bv, q, hr, _⟩ := hS1; exact hr.opts
  have HF := hide hf1
  have HBX := hide hbx
  have DL := hide delim_any
  have hdl : (Lib.decDigits s.size).length ≤ 20 := by rw [Lib.decDigits_length]; exact Lib.nDigits_le20 _ (by omega)
  have oc0 := Blk.cell HO1 0
  simp at oc0
  clear hS hS1 hf1 hbx
  go_enter_defers Tryz.func34, Tryz.ntmps34
  go_wp2_with fail
  refine GT.out.mono ?_
  rintro e w1 ⟨sc, h, bv, v, rfl, M1, f1⟩
  have HF1 := hide (HF.out.trans f1)
  have hbx := f1.blk HBX.out (by unfold TT; decide)
  have ho1 := Blk.cell M1.rest.opts 1
  obtain ⟨s1, s2⟩ := M1.cell
  simp at ho1
  obtain ⟨v2, wa, hrun, ho, hg, hn⟩ := append_bytes (w1.alloc (.cells #[.int .u8 36] 5)) v [] [36] 1 ⟨w1.heap.size, 0, none⟩ 1 (M1.ext ((Ext.refl _).alloc _)).scr.2.1 (by
    intro j hj
    have : j = 0 := by simp at hj; omega
    subst this
    have ha : (⟨w1.heap.size, 0, none⟩ : Addr).add 0 = ⟨w1.heap.size, 0, none⟩ := by simp [Addr.add_lit]
    rw [ha, (Blk.new w1 _ _).cell]; rfl) rfl (by simp)
  obtain ⟨t1, t2⟩ := (M1.ext ((Ext.refl _).alloc _)).still hg
  obtain ⟨M2, f2⟩ := (M1.ext ((Ext.refl _).alloc _)).step ho hg hn (by simp)
  have hbxa := (M1.ext ((Ext.refl _).alloc (.cells #[.int .u8 36] 5))).keeps hg (hbx.alloc _) (by decide)
  have x1 := hbxa.cell 1
  simp at x1
  have nx : ¬ w.heap.size = sc := Blk.ne_ hbx M1.scr.1 (by decide)
  have nx' : ¬ sc = w.heap.size := fun e => nx e.symm
  obtain ⟨g2, n2, c2, rfl, h2⟩ := M2.form
  have f2' := (Fr.of_ext ((Ext.refl w1).alloc (.cells #[.int .u8 36] 5)) M1.rest.hB).trans f2
  have HM2 := hide (And.intro M2 (And.intro (HF1.out.trans f2') (f2'.blk hbx (by unfold TT; decide))))
  clear M1 M2 f1 f2 ho hg hn GT HF HO1 oc0 hbxa hbx f2' HF1
  go_wp2_with (at_builtin; refine wpList_append_run rfl _ _ _ _ rfl _ _ _ rfl rfl hrun ?_)
  generalize wa.setCell ⟨sc, 0, none⟩ (.slice (some ⟨g2, 0, none⟩) n2 c2) = w2 at HM2 ⊢
  obtain ⟨M2, fM, hbx⟩ := HM2.out
  clear HM2 hrun s1 s2 t1 t2 x1 ho1 HBX
  obtain ⟨s1, s2⟩ := M2.cell
  have x0 := hbx.cell 0
  simp at x0
  have AP := hide (appendInt_any s.size (by omega) (.slice (some ⟨g2, 0, none⟩) n2 c2) ([] ++ [36]) w2.drew (M2.ext ((Ext.refl _).drew)).scr.2.1 (by simp) ((M2.ext ((Ext.refl _).drew)).rest.tab.here))
  refine wp_region_noPanic ?_
  refine wp_region_any (by kernel_rfl) ?_
  change wpAny _ _ _ _ _ _ _ (World.drew _)
  refine wpAny_take (i := 0) (v := ?_) rfl (by kernel_rfl) (by kernel_rfl) (by kernel_rfl) (fun _ _ _ h => h) (Or.inl ⟨by rfl, ?_⟩) ?_
  rotate_left
  · (intro w; go_simp <;> with_reducible rfl)
  refine wpAny_take (i := 1) (v := ?_) rfl (by kernel_rfl) (by kernel_rfl) (by kernel_rfl) (fun _ _ _ h => h) (Or.inl ⟨by rfl, ?_⟩) ?_
  rotate_left
  · (intro w; go_simp <;> with_reducible rfl)
  refine wpAny_take (i := 2) (v := ?_) rfl (by kernel_rfl) (by kernel_rfl) (by kernel_rfl) (fun _ _ _ h => h) (Or.inl ⟨by rfl, ?_⟩) ?_
  rotate_left
  · (intro w; go_simp <;> with_reducible rfl)
  refine wpAny_take (i := 4) (v := ?_) rfl (by kernel_rfl) (by kernel_rfl) (by kernel_rfl) (fun _ _ _ h => h) (Or.inl ⟨by rfl, ?_⟩) ?_
  rotate_left
  · (intro w; go_simp <;> with_reducible rfl)
  refine wpAny_load_first (i := 5) (j := 3) (v := .string s) (u := (.slice (some ⟨g2, 0, none⟩) n2 c2)) rfl rfl (by kernel_rfl) (by kernel_rfl) (by kernel_rfl) (by kernel_rfl) (by kernel_rfl) (by decide) ⟨by rfl, ?_⟩ ⟨by rfl, ?_⟩ ?_
  · go_simp
  · go_simp
  refine wpAny_take (i := 6) (v := ?_) rfl (by kernel_rfl) (by kernel_rfl) (by kernel_rfl) (fun _ _ _ h => h) (Or.inl ⟨by rfl, ?_⟩) ?_
  rotate_left
  · (intro w; go_simp <;> with_reducible rfl)
  refine wpAny_ready (rs := [3]) (by kernel_rfl) (by simp) ?_
  refine AllReady.cons rfl (fun K0 hK => ?_) AllReady.nil
  go_simp
  refine hK _ _ ?_
  clear hK K0
  refine wpAny_ready (rs := [7]) (by kernel_rfl) (by simp) ?_
  refine AllReady.cons rfl (fun K0 hK => ?_) AllReady.nil
  go_simp
  go_wp2_with (go_at_call 42; refine AP.out.mono ?_; rintro e wa ⟨v3, rfl, ho, hg, hn⟩)
  obtain ⟨t1, t2⟩ := (M2.ext ((Ext.refl _).drew)).still hg
  obtain ⟨M3, fM3⟩ := (M2.ext ((Ext.refl _).drew)).step ho hg hn (by simp)
  obtain ⟨g3, n3, c3, rfl, h3⟩ := M3.form
  have HM3 := hide (And.intro M3 (And.intro (fM.trans ((Fr.of_ext ((Ext.refl w2).drew) M2.rest.hB).trans fM3)) (((Fr.of_ext ((Ext.refl w2).drew) M2.rest.hB).trans fM3).blk hbx (by unfold TT; decide))))
  clear M3 fM3 ho hg hn M2 fM hbx AP x0
  refine wpAny_take (i := 8) (v := ?_) rfl (by kernel_rfl) (by kernel_rfl) (by kernel_rfl) (fun _ _ _ h => h) (Or.inl ⟨by rfl, ?_⟩) ?_
  rotate_left
  · (intro w; go_simp <;> with_reducible rfl)
  refine wpAny_ready (rs := [9]) (by kernel_rfl) (by simp) ?_
  refine AllReady.cons rfl (fun K0 hK => ?_) AllReady.nil
  go_simp
  refine hK _ _ ?_
  clear hK K0
  refine wpAny_done (by kernel_rfl) ?_ _
  refine NoPanic.normal ?_
  generalize wa.setCell ⟨sc, 0, none⟩ (.slice (some ⟨g3, 0, none⟩) n3 c3) = w3 at HM3 ⊢
  obtain ⟨M3, fM, hbx⟩ := HM3.out
  clear HM3 s1 s2 t1 t2
  obtain ⟨s1, s2⟩ := M3.cell
  go_wp2
  refine wp_region_noPanic ?_
  refine wp_region_any (by kernel_rfl) ?_
  change wpAny _ _ _ _ _ _ _ (World.drew _)
  refine wpAny_take (i := 0) (v := ?_) rfl (by kernel_rfl) (by kernel_rfl) (by kernel_rfl) (fun _ _ _ h => h) (Or.inl ⟨by rfl, ?_⟩) ?_
  rotate_left
  · (intro w; go_simp <;> with_reducible rfl)
  refine wpAny_take (i := 1) (v := ?_) rfl (by kernel_rfl) (by kernel_rfl) (by kernel_rfl) (fun _ _ _ h => h) (Or.inl ⟨by rfl, ?_⟩) ?_
  rotate_left
  · (intro w; go_simp <;> with_reducible rfl)
  refine wpAny_take (i := 2) (v := ?_) rfl (by kernel_rfl) (by kernel_rfl) (by kernel_rfl) (fun _ _ _ h => h) (Or.inl ⟨by rfl, ?_⟩) ?_
  rotate_left
  · (intro w; go_simp <;> with_reducible rfl)
  refine wpAny_two (i := 3) (j := 4) (v := (.slice (some ⟨g3, 0, none⟩) n3 c3)) (Ext w3) rfl rfl (by kernel_rfl) (by kernel_rfl) (by kernel_rfl) (by kernel_rfl) (by kernel_rfl) (fun _ _ _ h => h) ((Ext.refl _).drew) ⟨by rfl, ?_⟩ (fun K0 hK => ?_)
  · intro wx hx
    have hq := hx.cellOf s1
    go_simp
  go_simp
  go_wp2_with (go_at_call 43; refine (DL.out _).mono ?_; rintro e wd ⟨gd, cd, rfl, hrb, hx, hge⟩)
  have hxd : Ext w3 wd := ((Ext.refl _).drew).trans hx
  refine hK _ _ hxd ?_
  clear hK K0
  obtain ⟨v4, wa, hrun, ho, hg, hn⟩ := append_bytes wd (.slice (some ⟨g3, 0, none⟩) n3 c3) (([] ++ [36]) ++ Lib.decDigits s.size) [13, 10] 2 ⟨gd, 0, none⟩ cd (M3.ext hxd).scr.2.1 (rb_at hrb) rfl (by simp; omega)
  obtain ⟨t1, t2⟩ := (M3.ext hxd).still hg
  obtain ⟨M4, fM4⟩ := (M3.ext hxd).step ho hg hn (by simp)
  obtain ⟨g4, n4, c4, rfl, h4⟩ := M4.form
  have HM4 := hide (And.intro M4 (And.intro (fM.trans ((Fr.of_ext hxd M3.rest.hB).trans fM4)) (((Fr.of_ext hxd M3.rest.hB).trans fM4).blk hbx (by unfold TT; decide))))
  clear M4 fM4 ho hg hn hrb hge hx hxd M3 fM hbx
  refine wpAny_ready (rs := [5]) (by kernel_rfl) (by simp) ?_
  refine AllReady.cons rfl (fun K0 hK => ?_) AllReady.nil
  refine step_append rfl _ _ _ _ rfl _ _ _ rfl rfl hrun ?_
  refine hK _ _ ?_
  clear hK K0
  refine wpAny_take (i := 6) (v := ?_) rfl (by kernel_rfl) (by kernel_rfl) (by kernel_rfl) (fun _ _ _ h => h) (Or.inl ⟨by rfl, ?_⟩) ?_
  rotate_left
  · (intro w; go_simp <;> with_reducible rfl)
  refine wpAny_ready (rs := [7]) (by kernel_rfl) (by simp) ?_
  refine AllReady.cons rfl (fun K0 hK => ?_) AllReady.nil
  go_simp
  refine hK _ _ ?_
  clear hK K0
  refine wpAny_done (by kernel_rfl) ?_ _
  refine NoPanic.normal ?_
  generalize wa.setCell ⟨sc, 0, none⟩ (.slice (some ⟨g4, 0, none⟩) n4 c4) = w4 at HM4 ⊢
  obtain ⟨M4, fM, hbx⟩ := HM4.out
  clear HM4 hrun s1 s2 t1 t2
  obtain ⟨s1, s2⟩ := M4.cell
  go_wp2
  have x0 := hbx.cell 0
  simp at x0
  obtain ⟨v5, wa, hrun, ho, hg, hn⟩ := append_str w4.drew (.slice (some ⟨g4, 0, none⟩) n4 c4) ((([] ++ [36]) ++ Lib.decDigits s.size) ++ [13, 10]) s (M4.ext ((Ext.refl _).drew)).scr.2.1 (by simp; omega)
  refine wp_region_noPanic ?_
  refine wp_region_any (by kernel_rfl) ?_
  change wpAny _ _ _ _ _ _ _ (World.drew _)
  refine wpAny_take (i := 0) (v := ?_) rfl (by kernel_rfl) (by kernel_rfl) (by kernel_rfl) (fun _ _ _ h => h) (Or.inl ⟨by rfl, ?_⟩) ?_
  rotate_left
  · (intro w; go_simp <;> with_reducible rfl)
  refine wpAny_take (i := 1) (v := ?_) rfl (by kernel_rfl) (by kernel_rfl) (by kernel_rfl) (fun _ _ _ h => h) (Or.inl ⟨by rfl, ?_⟩) ?_
  rotate_left
  · (intro w; go_simp <;> with_reducible rfl)
  refine wpAny_take (i := 2) (v := ?_) rfl (by kernel_rfl) (by kernel_rfl) (by kernel_rfl) (fun _ _ _ h => h) (Or.inl ⟨by rfl, ?_⟩) ?_
  rotate_left
  · (intro w; go_simp <;> with_reducible rfl)
  refine wpAny_take (i := 4) (v := ?_) rfl (by kernel_rfl) (by kernel_rfl) (by kernel_rfl) (fun _ _ _ h => h) (Or.inl ⟨by rfl, ?_⟩) ?_
  rotate_left
  · (intro w; go_simp <;> with_reducible rfl)
  refine wpAny_two (i := 3) (j := 5) (v := (.slice (some ⟨g4, 0, none⟩) n4 c4)) (fun w' => w' = w4.drew) rfl rfl (by kernel_rfl) (by kernel_rfl) (by kernel_rfl) (by kernel_rfl) (by kernel_rfl) (fun _ _ _ h => h) (rfl) ⟨by rfl, ?_⟩ (fun K0 hK => ?_)
  · rintro w' rfl
    go_simp
  go_simp
  refine hK _ _ rfl ?_
  clear hK K0
  obtain ⟨t1, t2⟩ := (M4.ext ((Ext.refl _).drew)).still hg
  obtain ⟨M5, fM5⟩ := (M4.ext ((Ext.refl _).drew)).step ho hg hn (by simp)
  obtain ⟨g5, n5, c5, rfl, h5⟩ := M5.form
  have HM5 := hide (And.intro M5 (And.intro (fM.trans ((Fr.of_ext ((Ext.refl w4).drew) M4.rest.hB).trans fM5)) (((Fr.of_ext ((Ext.refl w4).drew) M4.rest.hB).trans fM5).blk hbx (by unfold TT; decide))))
  clear M5 fM5 ho hg hn M4 fM hbx x0
  refine wpAny_ready (rs := [6]) (by kernel_rfl) (by simp) ?_
  refine AllReady.cons rfl (fun K0 hK => ?_) AllReady.nil
  refine step_append rfl _ _ _ _ rfl _ _ _ rfl rfl hrun ?_
  refine hK _ _ ?_
  clear hK K0
  refine wpAny_take (i := 7) (v := ?_) rfl (by kernel_rfl) (by kernel_rfl) (by kernel_rfl) (fun _ _ _ h => h) (Or.inl ⟨by rfl, ?_⟩) ?_
  rotate_left
  · (intro w; go_simp <;> with_reducible rfl)
  refine wpAny_ready (rs := [8]) (by kernel_rfl) (by simp) ?_
  refine AllReady.cons rfl (fun K0 hK => ?_) AllReady.nil
  go_simp
  refine hK _ _ ?_
  clear hK K0
  refine wpAny_done (by kernel_rfl) ?_ _
  refine NoPanic.normal ?_
  generalize wa.setCell ⟨sc, 0, none⟩ (.slice (some ⟨g5, 0, none⟩) n5 c5) = w5 at HM5 ⊢
  obtain ⟨M5, fM, hbx⟩ := HM5.out
  clear HM5 hrun s1 s2 t1 t2
  obtain ⟨s1, s2⟩ := M5.cell
  go_wp2
  refine wp_region_noPanic ?_
  refine wp_region_any (by kernel_rfl) ?_
  change wpAny _ _ _ _ _ _ _ (World.drew _)
  refine wpAny_take (i := 0) (v := ?_) rfl (by kernel_rfl) (by kernel_rfl) (by kernel_rfl) (fun _ _ _ h => h) (Or.inl ⟨by rfl, ?_⟩) ?_
  rotate_left
  · (intro w; go_simp <;> with_reducible rfl)
  refine wpAny_take (i := 1) (v := ?_) rfl (by kernel_rfl) (by kernel_rfl) (by kernel_rfl) (fun _ _ _ h => h) (Or.inl ⟨by rfl, ?_⟩) ?_
  rotate_left
  · (intro w; go_simp <;> with_reducible rfl)
  refine wpAny_take (i := 2) (v := ?_) rfl (by kernel_rfl) (by kernel_rfl) (by kernel_rfl) (fun _ _ _ h => h) (Or.inl ⟨by rfl, ?_⟩) ?_
  rotate_left
  · (intro w; go_simp <;> with_reducible rfl)
  refine wpAny_two (i := 3) (j := 4) (v := (.slice (some ⟨g5, 0, none⟩) n5 c5)) (Ext w5) rfl rfl (by kernel_rfl) (by kernel_rfl) (by kernel_rfl) (by kernel_rfl) (by kernel_rfl) (fun _ _ _ h => h) ((Ext.refl _).drew) ⟨by rfl, ?_⟩ (fun K0 hK => ?_)
  · intro wx hx
    have hq := hx.cellOf s1
    go_simp
  go_simp
  go_wp2_with (go_at_call 43; refine (DL.out _).mono ?_; rintro e wd ⟨gd, cd, rfl, hrb, hx, hge⟩)
  have hxd : Ext w5 wd := ((Ext.refl _).drew).trans hx
  refine hK _ _ hxd ?_
  clear hK K0
  obtain ⟨v6, wa, hrun, ho, hg, hn⟩ := append_bytes wd (.slice (some ⟨g5, 0, none⟩) n5 c5) (((([] ++ [36]) ++ Lib.decDigits s.size) ++ [13, 10]) ++ s.data.toList) [13, 10] 2 ⟨gd, 0, none⟩ cd (M5.ext hxd).scr.2.1 (rb_at hrb) rfl (by simp; omega)
  obtain ⟨t1, t2⟩ := (M5.ext hxd).still hg
  obtain ⟨M6, fM6⟩ := (M5.ext hxd).step ho hg hn (by simp)
  obtain ⟨g6, n6, c6, rfl, h6⟩ := M6.form
  have HM6 := hide (And.intro M6 (And.intro (fM.trans ((Fr.of_ext hxd M5.rest.hB).trans fM6)) (((Fr.of_ext hxd M5.rest.hB).trans fM6).blk hbx (by unfold TT; decide))))
  clear M6 fM6 ho hg hn hrb hge hx hxd M5 fM hbx
  refine wpAny_ready (rs := [5]) (by kernel_rfl) (by simp) ?_
  refine AllReady.cons rfl (fun K0 hK => ?_) AllReady.nil
  refine step_append rfl _ _ _ _ rfl _ _ _ rfl rfl hrun ?_
  refine hK _ _ ?_
  clear hK K0
  refine wpAny_take (i := 6) (v := ?_) rfl (by kernel_rfl) (by kernel_rfl) (by kernel_rfl) (fun _ _ _ h => h) (Or.inl ⟨by rfl, ?_⟩) ?_
  rotate_left
  · (intro w; go_simp <;> with_reducible rfl)
  refine wpAny_ready (rs := [7]) (by kernel_rfl) (by simp) ?_
  refine AllReady.cons rfl (fun K0 hK => ?_) AllReady.nil
  go_simp
  refine hK _ _ ?_
  clear hK K0
  refine wpAny_done (by kernel_rfl) ?_ _
  refine NoPanic.normal ?_
  generalize wa.setCell ⟨sc, 0, none⟩ (.slice (some ⟨g6, 0, none⟩) n6 c6) = w6 at HM6 ⊢
  obtain ⟨M6, fM, hbx⟩ := HM6.out
  clear HM6 hrun s1 s2 t1 t2
  obtain ⟨s1, s2⟩ := M6.cell
  go_wp2
  have WR := hide ((M6.ext ((Ext.refl _).drew)).writes h6.out.1 (by simp) (by simp; omega))
  have MW := method_write b
  refine wp_region_noPanic ?_
  go_region_with (go_at_call 94; refine WR.out.mono ?_; rintro e w7 ⟨rfl, hW⟩; have HW := hide hW; clear hW)
  refine NoPanic.normal ?_
  obtain ⟨bv', M7, f7⟩ := (M6.ext ((Ext.refl _).drew)).written HW.out (by simp)
  have hF7 := fM.trans ((Fr.of_ext ((Ext.refl w6).drew) M6.rest.hB).trans f7)
  clear WR HW M6 fM f7 hbx s1 s2
  go_wp2
  refine door_call (M7.putBack .returning) (by simp [go_sem]) ?_
  rintro w' ⟨hS, hF⟩
  exact ⟨.nilIface, by simp [results, Tryz.results34, go_sem], rfl, by rw [blobW_list]; exact hS, hF7.trans hF⟩
end Go.Proofs.YtepeokoeempfgaaGreatDoor
