/-
  (resp3.BlobStringWriter).MarshalRESP over impl's reader.
-/
import Derived.Test.YtepeokoeempfgaaDoorBlob
import Derived.Test.YtepeokoeempfgaaDoorCopyN
namespace Go.Proofs.YtepeokoeempfgaaDoor
open Go.RowKit
set_option linter.unusedVariables false
set_option linter.unusedSimpArgs false

theorem Mid.writesNew {B : Nat} {w w1 : World} {o p r b : Nat} {h : Option Nat} {bv : Value} {l : List UInt8} {sc gd c n : Nat} {v : Value} {li m : List UInt8} (hm : Mid B w o p r b h bv l sc v li) (hx : Ext w w1) (hge : w.heap.size ≤ gd) (hrb : RBytes w1 (some ⟨gd, 0, none⟩) m) (hn : m.length = n) (h1 : 1 ≤ n) (hl : l.length + n ≤ 100000000) :
    Calls Tryd.prog 122 #[.pointer (some ⟨b, 0, none⟩), .slice (some ⟨gd, 0, none⟩) n c] w1 fun e w' => e = .returned (.tuple #[.int .i64 n, .nilIface]) ∧ WritePost w1 w' b bv l m := by
  obtain ⟨lr0, hb0⟩ := hm.rest.buf
  have hb0' : Blk w b 54 _ := hb0
  have hlt := hb0'.lt
  have hm1 := hm.ext hx
  obtain ⟨lr, hb⟩ := hm1.rest.buf
  obtain ⟨ad, e, hb2, _⟩ := hrb.2 (by omega)
  injection e with e
  subst e
  exact write_any b n c bv lr l m ⟨gd, 0, none⟩ w1 hb hm1.rest.own hm1.rest.hz hn h1 hl (by show gd ≠ b; omega) (fun e => by have := (hm.rest.own.lt gd e).2; omega) (rb_at hrb) hb2
theorem EofAt.fr {B : Nat} {w w' : World} {ad : Addr} (h : EofAt w B ad) (hf : Fr B w w') : EofAt w' B ad :=
  ⟨h.1, Nat.le_trans h.2.1 hf.size, (hf.below.cell (p := ⟨0, 0, none⟩) h.1).trans h.2.2⟩
theorem RdA.fr {B : Nat} {w w' : World} {g : Nat} {left : List UInt8} (h : RdA w g left) (hf : Fr B w w') : RdA w' g left := by
  obtain ⟨s, hb, h2⟩ := h
  exact ⟨s, hf.blk hb (by unfold TT; decide), h2⟩
set_option maxRecDepth 100000 in
theorem lenLen_any (k : Nat) (n : Int) (x : Value) (w : World) (hk : Blk w k 85 #[x, .int .i64 n]) : Calls Tryd.prog 130 #[.pointer (some ⟨k, 0, none⟩)] w fun e w' => e = .returned (.int .i64 n) ∧ w' = w := by
  have c1 := hk.cell 1
  simp at c1
  go_enter Tryd.func130, Tryd.ntmps130
  go_wp2
  go_ret
  exact ⟨rfl, rfl⟩

/-- So many bytes of a text as a blob string. -/
def bswW (text : List UInt8) (n : Nat) : List UInt8 := ([] ++ [36]) ++ Lib.decDigits n ++ [13, 10] ++ text.take n ++ [13, 10]
def BswS (w : World) (B o p r b : Nat) (text : List UInt8) (n : Nat) (ad : Addr) (e : Ending) (w' : World) : Prop :=
  e = .returned (if n ≤ text.length then .nilIface else .iface 215 (.pointer (some ad))) ∧ (∃ l, St B w' o p r b l ∧ (n ≤ text.length → l = bswW text n)) ∧ Below B w w'

set_option maxRecDepth 100000 in
set_option maxHeartbeats 4000000 in
theorem bsw_any (B o p r b k g n : Nat) (text : List UInt8) (ad : Addr) (w : World) (hS : St B w o p r b []) (hk : Blk w k 85 #[.iface 60 (.pointer (some ⟨g, 0, none⟩)), .int .i64 n]) (hg : RdA w g text) (hkB : B ≤ k) (hgB : B ≤ g) (hE : EofAt w B ad) (hn : n ≤ 10000) (htx : text.length ≤ 10000) :
    Calls Tryd.prog 26 #[.agg #[.iface 83 (.pointer (some ⟨k, 0, none⟩))], .iface 65 (.pointer (some ⟨b, 0, none⟩)), .pointer (some ⟨o, 0, none⟩)] w (BswS w B o p r b text n ad) := by
  have hmf : ∀ (fn : Fn) (first cap : Array Value) (w : World), (Instr.makeFunc fn first cap).run Tryd.prog w = .ok (.func fn first cap) w := fun _ _ _ _ => rfl
  obtain ⟨W, hW⟩ : ∃ W, W = w.alloc (.cells #[.iface 83 (.pointer (some ⟨k, 0, none⟩))] 63) := ⟨_, rfl⟩
  have hxW : Ext w W := by rw [hW]; exact (Ext.refl w).alloc _
  obtain ⟨hS1, hf1⟩ := hS.chg_ext hxW
  have hbx : Blk W w.heap.size 63 #[.iface 83 (.pointer (some ⟨k, 0, none⟩))] := by rw [hW]; exact Blk.new w _ _
  have GT := hide hS1.got
  have HO1 : OptsB W o p r := by obtain ⟨h, bv, q, hr, _⟩ := hS1; exact hr.opts
  have HBX := hide hbx
  have HK := hide (hf1.blk hk (by unfold TT; decide))
  have HG := hide (hg.fr hf1)
  have HE := hide (hE.fr hf1)
  have HF1 := hide hf1
  have DL := hide delim_any
  have ML := meth_len k
  have MW := method_write b
  have hdl : (Lib.decDigits n).length ≤ 20 := by rw [Lib.decDigits_length]; exact Lib.nDigits_le20 _ (by omega)
  have oc0 := Blk.cell HO1 0
  simp at oc0
  rw [hW] at oc0
  clear hS hS1 hf1 hbx hk hg hE hxW
  go_enter_defers Tryd.func26, Tryd.ntmps26
  go_wp2_with fail
  rw [← hW]
  refine GT.out.mono ?_
  rintro e w1 ⟨sc, h, bv, v, rfl, M1, f1⟩
  have LL := hide (lenLen_any k n _ w1 (f1.blk HK.out (by unfold TT; decide)))
  have ho1 := Blk.cell M1.rest.opts 1
  have x0 := (f1.blk HBX.out (by unfold TT; decide)).cell 0
  obtain ⟨s1, s2⟩ := M1.cell
  simp at ho1 x0
  obtain ⟨v2, wa, hrun, ho, hg, hn1⟩ := append_bytes (w1.alloc (.cells #[.int .u8 36] 5)) v [] [36] 1 ⟨w1.heap.size, 0, none⟩ 1 (M1.ext ((Ext.refl _).alloc _)).scr.2.1 (by
    intro j hj
    have : j = 0 := by simp at hj; omega
    subst this
    have ha : (⟨w1.heap.size, 0, none⟩ : Addr).add 0 = ⟨w1.heap.size, 0, none⟩ := by simp [Addr.add_lit]
    rw [ha, (Blk.new w1 _ _).cell]; rfl) rfl (by simp)
  obtain ⟨t1, t2⟩ := (M1.ext ((Ext.refl _).alloc _)).still hg
  obtain ⟨M2, f2⟩ := (M1.ext ((Ext.refl _).alloc _)).step ho hg hn1 (by simp)
  obtain ⟨g2, n2, c2, rfl, h2⟩ := M2.form
  have f2' := (Fr.of_ext ((Ext.refl w1).alloc (.cells #[.int .u8 36] 5)) M1.rest.hB).trans f2
  have AP := hide (appendInt_any n (by omega) (.slice (some ⟨g2, 0, none⟩) n2 c2) ([] ++ [36]) (wa.setCell ⟨sc, 0, none⟩ (.slice (some ⟨g2, 0, none⟩) n2 c2)) M2.scr.2.1 (by simp) M2.rest.tab.here)
  have HM2 := hide (And.intro M2 (f1.trans f2'))
  clear M1 M2 f1 f2 ho hg hn1 GT HO1 oc0 f2'
  go_wp2_with fail
  refine LL.out.mono ?_
  rintro e wl ⟨rfl, rfl⟩
  go_wp2_with (at_builtin; refine wpList_append_run rfl _ _ _ _ rfl _ _ _ rfl rfl hrun ?_)
  refine AP.out.mono ?_
  rintro e wb ⟨v3, rfl, ho, hg, hn1⟩
  obtain ⟨M2, fM⟩ := HM2.out
  generalize wa.setCell ⟨sc, 0, none⟩ (.slice (some ⟨g2, 0, none⟩) n2 c2) = w2 at HM2 AP M2 fM ho hg hn1
  obtain ⟨x1, x2⟩ := M2.still hg
  obtain ⟨M3, fM3⟩ := M2.step ho hg hn1 (by simp)
  obtain ⟨g3, n3, c3, rfl, h3⟩ := M3.form
  have HM3 := hide (And.intro M3 (fM.trans fM3))
  clear M2 fM M3 fM3 ho hg hn1 AP HM2 hrun s1 s2 t1 t2 ho1 LL x0
  go_wp2
  generalize wb.setCell ⟨sc, 0, none⟩ (.slice (some ⟨g3, 0, none⟩) n3 c3) = w3 at HM3 ⊢
  obtain ⟨M3, fM⟩ := HM3.out
  clear HM3 x1 x2
  obtain ⟨s1, s2⟩ := M3.cell
  refine wp_region_noPanic ?_
  refine wp_region_any (by kernel_rfl) ?_
  change wpAny _ _ _ _ _ _ _ (World.drew _)
  refine wpAny_take (i := 0) (v := ?_) rfl (by kernel_rfl) (by kernel_rfl) (by kernel_rfl) (fun _ _ _ h => h) (Or.inl ⟨by rfl, ?_⟩) ?_
  rotate_left
  · (intro w; go_simp <;> with_reducible rfl)
  refine wpAny_take (i := 1) (v := ?_) rfl (by kernel_rfl) (by kernel_rfl) (by kernel_rfl) (fun _ _ _ h => h) (Or.inl ⟨by rfl, ?_⟩) ?_
  rotate_left
  · (intro w; go_simp <;> with_reducible rfl)
  refine wpAny_take (i := 2) (v := ?_) rfl (by kernel_rfl) (by kernel_rfl) (by kernel_rfl) (fun _ _ _ h => h) (Or.inl ⟨by rfl, ?_⟩) ?_
  rotate_left
  · (intro w; go_simp <;> with_reducible rfl)
  refine wpAny_two (i := 3) (j := 4) (v := (.slice (some ⟨g3, 0, none⟩) n3 c3)) (Ext w3) rfl rfl (by kernel_rfl) (by kernel_rfl) (by kernel_rfl) (by kernel_rfl) (by kernel_rfl) (fun _ _ _ h => h) ((Ext.refl _).drew) ⟨by rfl, ?_⟩ (fun K0 hK => ?_)
  · intro wx hx
    have hq := hx.cellOf s1
    go_simp
  go_simp
  go_wp2_with (go_at_call 38; refine (DL.out _).mono ?_; rintro e wd ⟨gd, cd, rfl, hrb, hx, hge⟩)
  have hxd : Ext w3 wd := ((Ext.refl _).drew).trans hx
  refine hK _ _ hxd ?_
  clear hK K0
  obtain ⟨v4, wa, hrun, ho, hg, hn⟩ := append_bytes wd (.slice (some ⟨g3, 0, none⟩) n3 c3) (([] ++ [36]) ++ Lib.decDigits n) [13, 10] 2 ⟨gd, 0, none⟩ cd (M3.ext hxd).scr.2.1 (rb_at hrb) rfl (by simp; omega)
  obtain ⟨t1, t2⟩ := (M3.ext hxd).still hg
  obtain ⟨M4, fM4⟩ := (M3.ext hxd).step ho hg hn (by simp)
  obtain ⟨g4, n4, c4, rfl, h4⟩ := M4.form
  have HM4 := hide (And.intro M4 (fM.trans ((Fr.of_ext hxd M3.rest.hB).trans fM4)))
  clear M4 fM4 ho hg hn hrb hge hx hxd M3 fM
  refine wpAny_ready (rs := [5]) (by kernel_rfl) (by simp) ?_
  refine AllReady.cons rfl (fun K0 hK => ?_) AllReady.nil
  refine step_append rfl _ _ _ _ rfl _ _ _ rfl rfl hrun ?_
  refine hK _ _ ?_
  clear hK K0
  refine wpAny_take (i := 6) (v := ?_) rfl (by kernel_rfl) (by kernel_rfl) (by kernel_rfl) (fun _ _ _ h => h) (Or.inl ⟨by rfl, ?_⟩) ?_
  rotate_left
  · (intro w; go_simp <;> with_reducible rfl)
  refine wpAny_ready (rs := [7]) (by kernel_rfl) (by simp) ?_
  refine AllReady.cons rfl (fun K0 hK => ?_) AllReady.nil
  go_simp
  refine hK _ _ ?_
  clear hK K0
  refine wpAny_done (by kernel_rfl) ?_ _
  refine NoPanic.normal ?_
  generalize wa.setCell ⟨sc, 0, none⟩ (.slice (some ⟨g4, 0, none⟩) n4 c4) = w4 at HM4 ⊢
  obtain ⟨M4, fM⟩ := HM4.out
  clear HM4 hrun s1 s2 t1 t2
  obtain ⟨s1, s2⟩ := M4.cell
  go_wp2
  have WR := hide ((M4.ext ((Ext.refl _).drew)).writes h4.out.1 (by simp) (by simp; omega))
  refine wp_region_noPanic ?_
  go_region_with (go_at_call 122; refine WR.out.mono ?_; rintro e w7 ⟨rfl, hW7⟩; have HW := hide hW7; clear hW7)
  refine NoPanic.normal ?_
  obtain ⟨bv', M7, f7⟩ := (M4.ext ((Ext.refl _).drew)).written HW.out (by simp)
  have hF7 := fM.trans ((Fr.of_ext ((Ext.refl w4).drew) M4.rest.hB).trans f7)
  have x0 := (hF7.blk HBX.out (by unfold TT; decide)).cell 0
  simp at x0
  obtain ⟨lr7, hb7⟩ := M7.rest.buf
  have CN := copyN_any B b k g bv' lr7 _ text n ad w7 hb7 M7.rest.own (by simp) (by simp; omega) hn htx M7.rest.gb M7.rest.gv M7.rest.hB (hF7.blk HK.out (by unfold TT; decide)) (HG.out.fr hF7) hkB hgB (HE.out.fr hF7)
  unfold CopyS at CN
  have RD : Hid (∀ w1 w' q j, Ext w7 w1 → w7.heap.size ≤ q → RdI w1 w' B b q k g bv' ([] ++ (([] ++ [36]) ++ Lib.decDigits n ++ [13, 10])) text n n ad j → ∃ bv2, Mid B w' o p r b h bv2 ([] ++ (([] ++ [36]) ++ Lib.decDigits n ++ [13, 10]) ++ text.take j) sc (.slice (some ⟨g4, 0, none⟩) n4 c4) (([] ++ [36]) ++ Lib.decDigits n ++ [13, 10]) ∧ Below B w w') := hide fun w1 w' q j hx hq hR => by
    obtain ⟨gc, hgb⟩ := (HG.out.fr hF7).blk
    obtain ⟨bv2, m1, m2⟩ := M7.read hx hq (hF7.blk HK.out (by unfold TT; decide)) hgb hkB hgB hR (by simp)
    exact ⟨bv2, m1, (HF1.out.trans hF7).below.trans m2⟩
  clear WR HW M4 fM f7 s1 s2 M7 hF7 hb7 HBX HK HG HE HF1
  by_cases hle : n ≤ text.length
  · rw [if_pos hle] at CN
    have CN := hide CN
    have hmin : min n text.length = n := Nat.min_eq_left hle
    rw [hmin] at CN
    go_wp2_with fail
    refine CN.out.mono ?_
    rintro e w8 ⟨rfl, wq, q, hx8, hq8, hR8⟩
    obtain ⟨bv2, M8, hB8⟩ := RD.out _ _ _ _ hx8 hq8 hR8
    have WN : Hid (∀ wd gd cd, Ext w8 wd → w8.heap.size ≤ gd → RBytes wd (some ⟨gd, 0, none⟩) [13, 10] → Calls Tryd.prog 122 #[.pointer (some ⟨b, 0, none⟩), .slice (some ⟨gd, 0, none⟩) 2 cd] wd fun e w' => e = .returned (.tuple #[.int .i64 2, .nilIface]) ∧ WritePost wd w' b bv2 ([] ++ (([] ++ [36]) ++ Lib.decDigits n ++ [13, 10]) ++ text.take n) [13, 10]) := hide fun wd gd cd hx hge hrb => M8.writesNew (n := 2) hx hge hrb rfl (by omega) (by simp; omega)
    clear hR8 hx8 hq8 CN RD x0
    go_wp2
    refine wp_region_noPanic ?_
    go_region_with (first
      | (go_at_call 38; refine (DL.out _).mono ?_; rintro e wd ⟨gd, cd, rfl, hrb, hx, hge⟩; have hxd := ((Ext.refl w8).drew).trans hx; have WR := hide (WN.out wd gd cd hxd hge hrb); have HXD := hide hxd; clear hrb hx hge hxd)
      | (go_at_call 122; refine WR.out.mono ?_; rintro e w9 ⟨rfl, hW9⟩; have HW := hide hW9; clear hW9))
    refine NoPanic.normal ?_
    obtain ⟨bv3, M9, f9⟩ := (M8.ext HXD.out).written HW.out (by simp)
    have hB9 := hB8.trans ((Fr.of_ext HXD.out M8.rest.hB).trans f9).below
    clear WR HW M8 hB8 f9 HXD WN
    go_wp2
    refine door_call (M9.putBack .returning) (by simp [go_sem]) ?_
    rintro w' ⟨hS, hF⟩
    exact ⟨.nilIface, by simp [results, Tryd.results26, go_sem], by rw [if_pos hle], ⟨_, hS, fun _ => by simp [bswW]⟩, hB9.trans hF.below⟩
  · rw [if_neg hle] at CN
    have CN := hide CN
    go_wp2_with fail
    refine CN.out.mono ?_
    rintro e w8 ⟨rfl, wq, q, hx8, hq8, hR8⟩
    obtain ⟨bv2, M8, hB8⟩ := RD.out _ _ _ _ hx8 hq8 hR8
    clear hR8 hx8 hq8 CN RD x0
    go_wp2
    refine door_call (M8.putBack .returning) (by simp [go_sem]) ?_
    rintro w' ⟨hS, hF⟩
    exact ⟨.iface 215 (.pointer (some ad)), by simp [results, Tryd.results26, go_sem], by rw [if_neg hle], ⟨_, hS, fun h => absurd h hle⟩, hB8.trans hF.below⟩
end Go.Proofs.YtepeokoeempfgaaDoor
