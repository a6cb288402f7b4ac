/-
  The header of an array; a text as a blob string.
-/
import Derived.Test.YtepeokoeempfgaaGreatDoorBlob
namespace Go.Proofs.YtepeokoeempfgaaGreatDoor
open Go.RowKit
set_option linter.unusedVariables false
set_option linter.unusedSimpArgs false

theorem aggW_list (n : Nat) : ((⟨#[42]⟩ : ByteArray) ++ decT n ++ crlf).data.toList = ([] ++ [42]) ++ Lib.decDigits n ++ [13, 10] := by
  simp [decT, crlf, ByteArray.data_append]
set_option maxRecDepth 100000 in
set_option maxHeartbeats 4000000 in
theorem agg_any (n : Nat) (hs : n ≤ 1000000) (B o p r b : Nat) (l : List UInt8) (hl : l.length ≤ 50000000) (w : World) (hS : St B w o p r b l) :
    Calls Tryz.prog 33 #[.iface 37 (.pointer (some ⟨b, 0, none⟩)), .int .u8 42, .int .i64 n, .bool false, .pointer (some ⟨o, 0, none⟩)] w fun e w' => e = .returned .nilIface ∧ MsgP B o p r b l ((⟨#[42]⟩ : ByteArray) ++ decT n ++ crlf).data.toList w w' := by
  have hmf : ∀ (fn : Fn) (first cap : Array Value) (w : World), (Instr.makeFunc fn first cap).run Tryz.prog w = .ok (.func fn first cap) w := fun _ _ _ _ => rfl
  have GT := hide hS.got
  have HO1 : OptsB w o p r := by obtain ⟨h, bv, q, hr, _⟩ := hS; exact hr.opts
  have DL := hide delim_any
  have hdl : (Lib.decDigits n).length ≤ 20 := by rw [Lib.decDigits_length]; exact Lib.nDigits_le20 _ (by omega)
  have oc0 := Blk.cell HO1 0
  simp at oc0
  clear hS
  go_enter_defers Tryz.func33, Tryz.ntmps33
  go_wp2_with fail
  refine GT.out.mono ?_
  rintro e w1 ⟨sc, h, bv, v, rfl, M1, f1⟩
  have ho1 := Blk.cell M1.rest.opts 1
  obtain ⟨s1, s2⟩ := M1.cell
  simp at ho1
  obtain ⟨v2, wa, hrun, ho, hg, hn⟩ := append_bytes (w1.alloc (.cells #[.int .u8 42] 5)) v [] [42] 1 ⟨w1.heap.size, 0, none⟩ 1 (M1.ext ((Ext.refl _).alloc _)).scr.2.1 (by
    intro j hj
    have : j = 0 := by simp at hj; omega
    subst this
    have ha : (⟨w1.heap.size, 0, none⟩ : Addr).add 0 = ⟨w1.heap.size, 0, none⟩ := by simp [Addr.add_lit]
    rw [ha, (Blk.new w1 _ _).cell]; rfl) rfl (by simp)
  obtain ⟨t1, t2⟩ := (M1.ext ((Ext.refl _).alloc _)).still hg
  obtain ⟨M2, f2⟩ := (M1.ext ((Ext.refl _).alloc _)).step ho hg hn (by simp)
  obtain ⟨g2, n2, c2, rfl, h2⟩ := M2.form
  have f2' := (Fr.of_ext ((Ext.refl w1).alloc (.cells #[.int .u8 42] 5)) M1.rest.hB).trans f2
  have AP := hide (appendInt_any n (by omega) (.slice (some ⟨g2, 0, none⟩) n2 c2) ([] ++ [42]) (wa.setCell ⟨sc, 0, none⟩ (.slice (some ⟨g2, 0, none⟩) n2 c2)) M2.scr.2.1 (by simp) M2.rest.tab.here)
  have HM2 := hide (And.intro M2 (f1.trans f2'))
  clear M1 M2 f1 f2 ho hg hn GT HO1 oc0 f2'
  go_wp2_with (at_builtin; refine wpList_append_run rfl _ _ _ _ rfl _ _ _ rfl rfl hrun ?_)
  refine AP.out.mono ?_
  rintro e wb ⟨v3, rfl, ho, hg, hn⟩
  obtain ⟨M2, fM⟩ := HM2.out
  generalize wa.setCell ⟨sc, 0, none⟩ (.slice (some ⟨g2, 0, none⟩) n2 c2) = w2 at HM2 AP M2 fM ho hg hn
  obtain ⟨x1, x2⟩ := M2.still hg
  obtain ⟨M3, fM3⟩ := M2.step ho hg hn (by simp)
  obtain ⟨g3, n3, c3, rfl, h3⟩ := M3.form
  have HM3 := hide (And.intro M3 (fM.trans fM3))
  clear M2 fM M3 fM3 ho hg hn AP HM2 hrun s1 s2 t1 t2 ho1
  go_wp2
  generalize wb.setCell ⟨sc, 0, none⟩ (.slice (some ⟨g3, 0, none⟩) n3 c3) = w3 at HM3 ⊢
  obtain ⟨M3, fM⟩ := HM3.out
  clear HM3 x1 x2
  obtain ⟨s1, s2⟩ := M3.cell
  refine wp_region_noPanic ?_
  refine wp_region_any (by kernel_rfl) ?_
  change wpAny _ _ _ _ _ _ _ (World.drew _)
  refine wpAny_take (i := 0) (v := ?_) rfl (by kernel_rfl) (by kernel_rfl) (by kernel_rfl) (fun _ _ _ h => h) (Or.inl ⟨by rfl, ?_⟩) ?_
  rotate_left
  · (intro w; go_simp <;> with_reducible rfl)
  refine wpAny_take (i := 1) (v := ?_) rfl (by kernel_rfl) (by kernel_rfl) (by kernel_rfl) (fun _ _ _ h => h) (Or.inl ⟨by rfl, ?_⟩) ?_
  rotate_left
  · (intro w; go_simp <;> with_reducible rfl)
  refine wpAny_take (i := 2) (v := ?_) rfl (by kernel_rfl) (by kernel_rfl) (by kernel_rfl) (fun _ _ _ h => h) (Or.inl ⟨by rfl, ?_⟩) ?_
  rotate_left
  · (intro w; go_simp <;> with_reducible rfl)
  refine wpAny_two (i := 3) (j := 4) (v := (.slice (some ⟨g3, 0, none⟩) n3 c3)) (Ext w3) rfl rfl (by kernel_rfl) (by kernel_rfl) (by kernel_rfl) (by kernel_rfl) (by kernel_rfl) (fun _ _ _ h => h) ((Ext.refl _).drew) ⟨by rfl, ?_⟩ (fun K0 hK => ?_)
  · intro wx hx
    have hq := hx.cellOf s1
    go_simp
  go_simp
  go_wp2_with (go_at_call 43; refine (DL.out _).mono ?_; rintro e wd ⟨gd, cd, rfl, hrb, hx, hge⟩)
  have hxd : Ext w3 wd := ((Ext.refl _).drew).trans hx
  refine hK _ _ hxd ?_
  clear hK K0
  obtain ⟨v4, wa, hrun, ho, hg, hn⟩ := append_bytes wd (.slice (some ⟨g3, 0, none⟩) n3 c3) (([] ++ [42]) ++ Lib.decDigits n) [13, 10] 2 ⟨gd, 0, none⟩ cd (M3.ext hxd).scr.2.1 (rb_at hrb) rfl (by simp; omega)
  obtain ⟨t1, t2⟩ := (M3.ext hxd).still hg
  obtain ⟨M4, fM4⟩ := (M3.ext hxd).step ho hg hn (by simp)
  obtain ⟨g4, n4, c4, rfl, h4⟩ := M4.form
  have HM4 := hide (And.intro M4 (fM.trans ((Fr.of_ext hxd M3.rest.hB).trans fM4)))
  clear M4 fM4 ho hg hn hrb hge hx hxd M3 fM
  refine wpAny_ready (rs := [5]) (by kernel_rfl) (by simp) ?_
  refine AllReady.cons rfl (fun K0 hK => ?_) AllReady.nil
  refine step_append rfl _ _ _ _ rfl _ _ _ rfl rfl hrun ?_
  refine hK _ _ ?_
  clear hK K0
  refine wpAny_take (i := 6) (v := ?_) rfl (by kernel_rfl) (by kernel_rfl) (by kernel_rfl) (fun _ _ _ h => h) (Or.inl ⟨by rfl, ?_⟩) ?_
  rotate_left
  · (intro w; go_simp <;> with_reducible rfl)
  refine wpAny_ready (rs := [7]) (by kernel_rfl) (by simp) ?_
  refine AllReady.cons rfl (fun K0 hK => ?_) AllReady.nil
  go_simp
  refine hK _ _ ?_
  clear hK K0
  refine wpAny_done (by kernel_rfl) ?_ _
  refine NoPanic.normal ?_
  generalize wa.setCell ⟨sc, 0, none⟩ (.slice (some ⟨g4, 0, none⟩) n4 c4) = w4 at HM4 ⊢
  obtain ⟨M4, fM⟩ := HM4.out
  clear HM4 hrun s1 s2 t1 t2
  obtain ⟨s1, s2⟩ := M4.cell
  go_wp2
  have WR := hide ((M4.ext ((Ext.refl _).drew)).writes h4.out.1 (by simp) (by simp; omega))
  have MW := method_write b
  refine wp_region_noPanic ?_
  go_region_with (go_at_call 94; refine WR.out.mono ?_; rintro e w7 ⟨rfl, hW⟩; have HW := hide hW; clear hW)
  refine NoPanic.normal ?_
  obtain ⟨bv', M7, f7⟩ := (M4.ext ((Ext.refl _).drew)).written HW.out (by simp)
  have hF7 := fM.trans ((Fr.of_ext ((Ext.refl w4).drew) M4.rest.hB).trans f7)
  clear WR HW M4 fM f7 s1 s2
  go_wp2
  refine door_call (M7.putBack .returning) (by simp [go_sem]) ?_
  rintro w' ⟨hS, hF⟩
  exact ⟨.nilIface, by simp [results, Tryz.results33, go_sem], rfl, by rw [aggW_list]; exact hS, hF7.trans hF⟩

set_option maxRecDepth 100000 in
theorem arrayHeader_any (n : Nat) (hs : n ≤ 1000000) (B o p r b : Nat) (l : List UInt8) (hl : l.length ≤ 50000000) (w : World) (hS : St B w o p r b l) :
    Calls Tryz.prog 28 #[.agg #[.int .i64 n, .bool false], .iface 37 (.pointer (some ⟨b, 0, none⟩)), .pointer (some ⟨o, 0, none⟩)] w fun e w' => e = .returned .nilIface ∧ MsgP B o p r b l ((⟨#[42]⟩ : ByteArray) ++ decT n ++ crlf).data.toList w w' := by
  obtain ⟨hS1, hf1⟩ := hS.chg_ext ((Ext.refl w).alloc (.cells #[.int .i64 n, .bool false] 86))
  have AG := hide (agg_any n hs B o p r b l hl _ hS1)
  have HF := hide hf1
  clear hS hS1 hf1
  go_enter Tryz.func28, Tryz.ntmps28
  go_wp2_with fail
  refine AG.out.mono ?_
  rintro e w1 ⟨rfl, hM⟩
  have HM := hide hM
  clear hM AG
  go_wp2
  go_ret
  exact ⟨rfl, HM.out.1, HF.out.trans HM.out.2⟩
set_option maxRecDepth 100000 in
theorem marshalBlob_any (s : ByteArray) (hs : s.size ≤ 1000000) (B o p r b : Nat) (l : List UInt8) (hl : l.length ≤ 50000000) (w : World) (hS : St B w o p r b l) :
    Calls Tryz.prog 29 #[.nilIface, .iface 37 (.pointer (some ⟨b, 0, none⟩)), .string s, .pointer (some ⟨o, 0, none⟩)] w fun e w' => e = .returned .nilIface ∧ MsgP B o p r b l (blobW s).data.toList w w' := by
  have AG := hide (blob_any s hs B o p r b l hl w hS)
  clear hS
  go_enter Tryz.func29, Tryz.ntmps29
  go_wp2_with fail
  refine AG.out.mono ?_
  rintro e w1 ⟨rfl, hM⟩
  have HM := hide hM
  clear hM AG
  go_wp2
  go_ret
  exact ⟨rfl, HM.out⟩
end Go.Proofs.YtepeokoeempfgaaGreatDoor
