/-
  (*bytes.Buffer).ReadFrom: the loop.
-/
import Derived.Test.YtepeokoeempfgaaDoorRdFrom
import Derived.Deep.DeepCutAuto
import Derived.Test.YtepeokoeempfgaaDoorTwo
namespace Go.Proofs.YtepeokoeempfgaaDoor
open Go.RowKit
set_option linter.unusedVariables false
set_option linter.unusedSimpArgs false

theorem run_eql_errA (a : Addr) (w : World) : (binOp .eql 56 (.iface 215 (.pointer (some a))) (.iface 215 (.pointer (some a)))).run Tryd.prog w = .ok (.bool true) w :=
  have h1 : (Tryd.prog.info? 215).isSome = true := by kernel_rfl
  have h2 : (Tryd.prog.info? 240).isSome = true := by kernel_rfl
  run_eql_iface_ptr_same (i := (Tryd.prog.info? 215).get h1) (j := (Tryd.prog.info? 240).get h2) w a Tryd.underlying56 Tryd.underlying215 (Option.some_get h1).symm (by kernel_rfl) (Option.some_get h2).symm
theorem run_eql_nilA (v : Value) (w : World) : (binOp .eql 56 .nilIface (.iface 215 v)).run Tryd.prog w = .ok (.bool false) w := by kernel_rfl
set_option maxRecDepth 100000 in
set_option maxHeartbeats 4000000 in
theorem readFrom_any (B b q k g : Nat) (bv : Value) (lr : Int) (l text : List UInt8) (n : Nat) (L : Int) (ad : Addr) (w : World) (hb : BufB w b bv lr) (ho : OwnB w bv l) (hl : 1 ≤ l.length) (hlm : l.length ≤ 50000000) (hn : n ≤ 1000000) (hL1 : -1000 ≤ L) (hL2 : L ≤ 1000000) (htx : text.length ≤ 10000)
    (hbB : B ≤ b) (hv0 : ∀ x, bv.ownBlock = some x → B ≤ x) (hwB : B ≤ w.heap.size) (hlim : Lim w B q k g n L text) (hE : EofAt w B ad) (hLn : (n : Int) = L) :
    Calls Tryd.prog 120 #[.pointer (some ⟨b, 0, none⟩), .iface 145 (.pointer (some ⟨q, 0, none⟩))] w fun e w' => e = .returned (.tuple #[.int .i64 (min n text.length : Nat), .nilIface]) ∧ RdI w w' B b q k g bv l text n L ad (min n text.length) := by
  have hmf : ∀ (fn : Fn) (first cap : Array Value) (w : World), (Instr.makeFunc fn first cap).run Tryd.prog w = .ok (.func fn first cap) w := fun _ _ _ _ => rfl
  have ML := meth_limRead q
  have E1 := run_eql_errA ad
  have E2 := run_eql_nilA (.pointer (some ad))
  have NA : ∀ w, (nilAhead 347 145 (.pointer (some ⟨q, 0, none⟩)) "Read").run Tryd.prog w = .ok (some false) w := fun w => by kernel_rfl
  have hb0 : BufB (w.setCell ⟨b, 2, none⟩ (.int .i8 0)) b bv 0 := by unfold BufB; simpa using (show Blk w b _ _ from hb).set_ 2 (.int .i8 0)
  have hc0 : Chg [b] w (w.setCell ⟨b, 2, none⟩ (.int .i8 0)) := (Chg.refl _ _).setCell (.inl (by simp)) _
  have I0 : Hid (RdI w (w.setCell ⟨b, 2, none⟩ (.int .i8 0)) B b q k g bv l text n L ad 0) := hide (by
    obtain ⟨gc, hgb⟩ := hlim.r_.blk
    have n1 : q ≠ b := Blk.ne_ hlim.q_ hb (by decide)
    have n2 : k ≠ b := Blk.ne_ hlim.k_ hb (by decide)
    have n3 : g ≠ b := Blk.ne_ hgb hb (by decide)
    refine ⟨⟨bv, 0, hb0, by unfold OwnB; simpa using own_chg ho hc0 (fun x hx => by simp; exact own_blk_ne' ho hx hb (by decide)), .inl rfl⟩, by simpa using hlim.chg hc0 (by simp [n1]) (by simp [n2]) (by simp [n3]), hE.chg hc0 (by simpa using hbB), hc0.more (fun i hi => .inl (by simp at hi; simp [hi])), by omega, by omega⟩)
  have c2 := Blk.cell hb 2
  have f2 := Blk.frozen hb 2
  simp at c2
  have HSZ : Hid (∀ x, bv.ownBlock = some x → B ≤ x) := hide hv0
  clear hb ho hb0 hc0 hlim hE hv0
  go_enter Tryd.func120, Tryd.ntmps120
  go_wp2
  go_loopg [4, 6, 7, 8] (text.length + 1) (fun gh s4 s6 s7 s8 wr => ∃ j : Nat, s4 = .int .i64 j ∧ text.length < j + gh ∧ Hid (RdI w wr B b q k g bv l text n L ad j))
  case atStart => exact ⟨0, rfl, by omega, I0⟩
  case round =>
    obtain ⟨j, rfl, hgh, H⟩ := hrel
    obtain ⟨bv1, lr1, hb1, ho1, hs1⟩ := H.out.buf
    have hjn := H.out.jn
    have hjt := H.out.jt
    obtain ⟨I, hI⟩ : ∃ I, (l ++ text.take j).length = I := ⟨_, rfl⟩
    have hI1 : 1 ≤ I := by rw [← hI, List.length_append]; omega
    have hI2 : I ≤ 51000000 := by rw [← hI, List.length_append, List.length_take]; omega
    have GA := grow_any b 512 bv1 lr1 (l ++ text.take j) wr hb1 ho1 (by omega) (by omega) (by omega)
    rw [hI] at GA
    have GA := hide GA
    have HS1 := hide hs1
    have HI := hide hI
    clear hb1 ho1 hs1 hI I0
    go_wp2_with fail
    refine GA.out.mono ?_
    rintro e w1 ⟨rfl, kk, cap, cells, hb1, hg1, hcs, htk, hcap, hmax, hsn, hch⟩
    rw [HI.out] at hb1 htk hcap hsn
    have c0 := Blk.cell hb1 0
    have f0 := Blk.frozen hb1 0
    simp at c0
    have hb2 : BufB (w1.setCell ⟨b, 0, none⟩ (.slice (some ⟨kk, 0, none⟩) I cap)) b (.slice (some ⟨kk, 0, none⟩) I cap) lr1 := by unfold BufB; simpa using (show Blk w1 b _ _ from hb1).set_ 0 (.slice (some ⟨kk, 0, none⟩) I cap)
    have ST := hide (fun e w3 hS => rd_step (m := 0) (e := e) (w3 := w3) H.out HS1.out hbB HSZ.out hwB HI.out hb1 hg1 hcs htk hcap hmax hsn hch hS)
    have hkb : kk ≠ b := Blk.ne_ hg1 hb1 (by decide)
    have LR : Hid (Calls Tryd.prog 151 #[.pointer (some ⟨q, 0, none⟩), .slice (some ⟨kk, I, none⟩) (cap - I) (cap - I)] ((w1.setCell ⟨b, 0, none⟩ (.slice (some ⟨kk, 0, none⟩) I cap)).drew) (LimS ((w1.setCell ⟨b, 0, none⟩ (.slice (some ⟨kk, 0, none⟩) I cap)).drew) B q k g kk I (cap - I) ((n - j : Nat) : Int) (L - j) 5 cells (text.drop j) ad)) := hide (by
      obtain ⟨gc, hgb⟩ := H.out.lim.r_.blk
      have hbr : ∀ {bb : Nat} {tt : TypeId} {cs : Array Value}, Blk wr bb tt cs → tt ≠ 54 → bb ≠ b := fun hx ht => by
        obtain ⟨bv', lr', hb', _⟩ := H.out.buf
        exact Blk.ne_ hx hb' ht
      have nqb := hbr H.out.lim.q_ (by decide)
      have nkb := hbr H.out.lim.k_ (by decide)
      have ngb := hbr hgb (by decide)
      have hq1 := H.out.lim.q_.chg hch (by simp [nqb])
      have hk1 := H.out.lim.k_.chg hch (by simp [nkb])
      have hg1' := hgb.chg hch (by simp [ngb])
      have hc2 : Chg [b] wr ((w1.setCell ⟨b, 0, none⟩ (.slice (some ⟨kk, 0, none⟩) I cap)).drew) := (hch.setCell (.inl (by simp)) _).drew
      have hkB : B ≤ kk := by
        rcases HS1.out.then H.out.lt hsn with e | ⟨x, e, hx⟩
        · exact HSZ.out kk (by rw [← e]; rfl)
        · injection e with e
          subst e
          exact Nat.le_trans hwB hx
      exact limRead_any B q k g kk I (cap - I) (cap - I) (n - j) (L - j) 5 cells (text.drop j) ad _ (H.out.lim.chg hc2 (by simp [nqb]) (by simp [nkb]) (by simp [ngb])) (H.out.eof.chg hc2 (by simpa using hbB)) (((hg1.far (by simpa using hkb) _)).drew) (Blk.ne_ hg1' hg1 (by decide)) (Blk.ne_ hk1 hg1 (by decide)) (Blk.ne_ hq1 hg1 (by decide)) hkB (by omega) (by omega) (by omega) (by unfold maxLen at hmax; omega) (by omega) (by omega) (by omega))
    have i3 : (I : Int) + 512 ≤ cap := by omega
    have i4 : (cap : Int) ≤ 9223372036854775807 := by unfold maxLen at hmax; omega
    have i5 : ¬ cap = I := by omega
    have i6 : ¬ (cap : Int) = I := by omega
    have i7 : (I : Int) ≤ 51000000 := by omega
    have i8 : (1 : Int) ≤ I := by omega
    have i12 : I ≤ cap := by omega
    have k0 := Blk.cell hb2 0
    have g0 := Blk.frozen hb2 0
    simp at k0
    clear hb1 hg1 hcs htk hcap hmax hsn hch hkb hb2 GA HS1 HI H
    go_wp2
    generalize w1.setCell ⟨b, 0, none⟩ (.slice (some ⟨kk, 0, none⟩) I cap) = W2 at ST LR k0 g0 ⊢
    have ST2 : Hid (∀ e w3, LimS W2.drew B q k g kk I (cap - I) ((n - j : Nat) : Int) (L - j) 5 cells (text.drop j) ad e w3 → ∃ (m : Nat) (er : Value), e = .returned (.tuple #[.int .i64 m, er]) ∧ m ≤ 1000000 ∧ I + m ≤ cap ∧ w3.cell? ⟨b, 0, none⟩ = some (.slice (some ⟨kk, 0, none⟩) I cap) ∧ w3.frozen? ⟨b, 0, none⟩ = false ∧ w3.cell? ⟨0, 0, none⟩ = some (.iface 215 (.pointer (some ad))) ∧ ¬ 0 = b ∧
        Hid ((er = .iface 215 (.pointer (some ad)) ∧ m = 0 ∧ j = min n text.length ∧ RdI w (w3.setCell ⟨b, 0, none⟩ (.slice (some ⟨kk, 0, none⟩) I cap)) B b q k g bv l text n L ad j) ∨
          (er = .nilIface ∧ 0 < m ∧ RdI w (w3.setCell ⟨b, 0, none⟩ (.slice (some ⟨kk, 0, none⟩) (I + m) cap)) B b q k g bv l text n L ad (j + m)))) := hide fun e w3 hS => by
      have far : ∀ {u : Value}, EofAt (w3.setCell ⟨b, 0, none⟩ u) B ad → w3.cell? ⟨0, 0, none⟩ = some (.iface 215 (.pointer (some ad))) ∧ ¬ 0 = b := fun {u} hE => by
        have h1 := hE.1
        have nb : ¬ 0 = b := by
          intro e
          have h2 : 0 < b := Nat.lt_of_lt_of_le h1 hbB
          rw [← e] at h2
          exact absurd h2 (Nat.lt_irrefl _)
        have e0 := hE.2.2
        rw [World.cell?_setCell_other w3 ⟨b, 0, none⟩ ⟨0, 0, none⟩ u (by intro e; injection e with e1; exact nb e1.symm)] at e0
        exact ⟨e0, nb⟩
      rcases ST.out e w3 hS with ⟨rfl, h1, h2, h3, h4⟩ | ⟨m, h0, h1, h2, h3, h4, rfl, h5, h6, h7⟩
      · exact ⟨0, _, rfl, by omega, by omega, h2, h3, (far h4.eof).1, (far h4.eof).2, hide (.inl ⟨rfl, rfl, h1, h4⟩)⟩
      · exact ⟨m, _, rfl, h1, by omega, h5, h6, (far h7.eof).1, (far h7.eof).2, hide (.inr ⟨rfl, h0, h7⟩)⟩
    clear ST
    -- REGION4
    refine wp_region_any (by kernel_rfl) ?_
    change wpAny _ _ _ _ _ _ _ (World.drew _)
    refine wpAny_take (i := 0) (v := ?_) rfl (by kernel_rfl) (by kernel_rfl) (by kernel_rfl) (fun _ _ _ h => h) (Or.inl ⟨by rfl, ?_⟩) ?_
    rotate_left
    · (intro w; go_simp <;> with_reducible rfl)
    refine wpAny_take (i := 1) (v := ?_) rfl (by kernel_rfl) (by kernel_rfl) (by kernel_rfl) (fun _ _ _ h => h) (Or.inl ⟨by rfl, ?_⟩) ?_
    rotate_left
    · (intro w; go_simp <;> with_reducible rfl)
    refine wpAny_take (i := 2) (v := ?_) rfl (by kernel_rfl) (by kernel_rfl) (by kernel_rfl) (fun _ _ _ h => h) (Or.inl ⟨by rfl, ?_⟩) ?_
    rotate_left
    · (intro w; go_simp <;> with_reducible rfl)
    refine wpAny_take (i := 3) (v := ?_) rfl (by kernel_rfl) (by kernel_rfl) (by kernel_rfl) (fun _ _ _ h => h) (Or.inl ⟨by rfl, ?_⟩) ?_
    rotate_left
    · (intro w; go_simp <;> with_reducible rfl)
    refine wpAny_take (i := 5) (v := ?_) rfl (by kernel_rfl) (by kernel_rfl) (by kernel_rfl) (fun _ _ _ h => h) (Or.inl ⟨by rfl, ?_⟩) ?_
    rotate_left
    · (intro w; go_simp <;> with_reducible rfl)
    refine wpAny_take (i := 6) (v := ?_) rfl (by kernel_rfl) (by kernel_rfl) (by kernel_rfl) (fun _ _ _ h => h) (Or.inl ⟨by rfl, ?_⟩) ?_
    rotate_left
    · (intro w; go_simp <;> with_reducible rfl)
    refine wpAny_take (i := 7) (v := ?_) rfl (by kernel_rfl) (by kernel_rfl) (by kernel_rfl) (fun _ _ _ h => h) (Or.inl ⟨by rfl, ?_⟩) ?_
    rotate_left
    · (intro w; go_simp <;> with_reducible rfl)
    refine wpAny_take (i := 8) (v := ?_) rfl (by kernel_rfl) (by kernel_rfl) (by kernel_rfl) (fun _ _ _ h => h) (Or.inl ⟨by rfl, ?_⟩) ?_
    rotate_left
    · (intro w; go_simp <;> with_reducible rfl)
    refine wpAny_take (i := 12) (v := ?_) rfl (by kernel_rfl) (by kernel_rfl) (by kernel_rfl) (fun _ _ _ h => h) (Or.inl ⟨by rfl, ?_⟩) ?_
    rotate_left
    · (intro w; go_simp <;> with_reducible rfl)
    refine wpAny_take (i := 13) (v := ?_) rfl (by kernel_rfl) (by kernel_rfl) (by kernel_rfl) (fun _ _ _ h => h) (Or.inl ⟨by rfl, ?_⟩) ?_
    rotate_left
    · (intro w; go_simp <;> with_reducible rfl)
    refine wpAny_take (i := 14) (v := ?_) rfl (by kernel_rfl) (by kernel_rfl) (by kernel_rfl) (fun _ _ _ h => h) (Or.inl ⟨by rfl, ?_⟩) ?_
    rotate_left
    · (intro w; go_simp <;> with_reducible rfl)
    refine wpAny_load_first (i := 9) (j := 4) (v := (.slice (some ⟨kk, 0, none⟩) I cap)) (u := (.slice (some ⟨kk, 0, none⟩) I cap)) rfl rfl (by kernel_rfl) (by kernel_rfl) (by kernel_rfl) (by kernel_rfl) (by kernel_rfl) (by decide) ⟨by rfl, ?_⟩ ⟨by rfl, ?_⟩ ?_
    · go_simp
    · go_simp
    refine wpAny_take (i := 10) (v := ?_) rfl (by kernel_rfl) (by kernel_rfl) (by kernel_rfl) (fun _ _ _ h => h) (Or.inl ⟨by rfl, ?_⟩) ?_
    rotate_left
    · (intro w; go_simp <;> with_reducible rfl)
    refine wpAny_ready (rs := [4]) (by kernel_rfl) (by simp) ?_
    refine AllReady.cons rfl (fun K0 hK => ?_) AllReady.nil
    go_simp
    refine hK _ _ ?_
    clear hK K0
    refine wpAny_ready (rs := [11]) (by kernel_rfl) (by simp) ?_
    refine AllReady.cons rfl (fun K0 hK => ?_) AllReady.nil
    go_simp
    refine hK _ _ ?_
    clear hK K0
    refine wpAny_ready (rs := [15]) (by kernel_rfl) (by simp) ?_
    refine AllReady.cons rfl (fun K0 hK => ?_) AllReady.nil
    go_simp
    go_wp2_with (go_at_call 151; refine LR.out.mono ?_; intro e w3 hS; obtain ⟨m, er, rfl, m1, m2, m3, m4, m5, m6, HC⟩ := ST2.out e w3 hS; clear hS)
    refine wpAny_take (i := 16) (v := ?_) rfl (by kernel_rfl) (by kernel_rfl) (by kernel_rfl) (fun _ _ _ h => h) (Or.inl ⟨by rfl, ?_⟩) ?_
    rotate_left
    · (intro w; go_simp <;> with_reducible rfl)
    refine wpAny_take (i := 17) (v := ?_) rfl (by kernel_rfl) (by kernel_rfl) (by kernel_rfl) (fun _ _ _ h => h) (Or.inl ⟨by rfl, ?_⟩) ?_
    rotate_left
    · (intro w; go_simp <;> with_reducible rfl)
    refine wpAny_take (i := 18) (v := ?_) rfl (by kernel_rfl) (by kernel_rfl) (by kernel_rfl) (fun _ _ _ h => h) (Or.inl ⟨by rfl, ?_⟩) ?_
    rotate_left
    · (intro w; go_simp <;> with_reducible rfl)
    refine wpAny_take (i := 19) (v := ?_) rfl (by kernel_rfl) (by kernel_rfl) (by kernel_rfl) (fun _ _ _ h => h) (Or.inl ⟨by rfl, ?_⟩) ?_
    rotate_left
    · (intro w; go_simp <;> with_reducible rfl)
    refine wpAny_take (i := 20) (v := ?_) rfl (by kernel_rfl) (by kernel_rfl) (by kernel_rfl) (fun _ _ _ h => h) (Or.inl ⟨by rfl, ?_⟩) ?_
    rotate_left
    · (intro w; go_simp <;> with_reducible rfl)
    refine wpAny_done (by kernel_rfl) ?_ _
    -- /REGION4
    have i9 : (m : Int) ≤ 1000000 := by omega
    have i10 : (I : Int) + m ≤ cap := by omega
    have i11 : (j : Int) ≤ 1000000 := by omega
    rcases HC.out with ⟨rfl, rfl, hj, hR⟩ | ⟨rfl, hm0, hR⟩
    · have HR := hide hR
      have HJ := hide hj
      clear hR hj HC ST2 LR
      go_wp2
      go_ret2
      have hj := HJ.out
      rw [← hj]
      exact ⟨rfl, HR.out⟩
    · have HR := hide hR
      clear hR HC ST2 LR
      go_wp2
      go_roundg (text.length + 1 - (j + m))
      case measure => omega
      case rel => exact ⟨j + m, by go_num, by omega, hide HR.out⟩
end Go.Proofs.YtepeokoeempfgaaDoor
