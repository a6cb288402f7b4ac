/-
  impl.SHA1: the sum of pieces of text.
-/
import Derived.Test.YtlnidgkcgjlnaaaShaS
namespace Go.Proofs.Ytlnidgkcgjlnaaa
open Go.RowKit
set_option linter.unusedVariables false
set_option linter.unusedSimpArgs false

theorem sha1_idle (args : Array Value) (w : World) : CallsD Try.prog 36 args .returning w fun e u' w' => e = .returned (.tuple #[]) ∧ u' = .returning ∧ w' = w :=
  idle_of w nilTest_any Try.func36 rfl rfl (by decide) (by decide)
/-- Pieces in a row of the call's own. -/
structure OwnP (W wr : World) (B : Nat) (v : Value) (ps : List (List UInt8)) : Prop where
  ext : Ext W wr
  row : ∃ xs, wr.ownsRow B 46 1 v ps.length xs ∧ ∀ (i : Nat) (p : List UInt8), ps[i]? = some p → ∃ A' c, xs[i]? = some (Value.slice A' p.length c) ∧ p.length ≤ c ∧ c ≤ maxLen ∧ RBytes wr A' p ∧ 0 < p.length ∧ ∀ ad, A' = some ad → v.ownBlock ≠ some ad.block
theorem info_sl : (Try.prog.info? 46).map (fun i => (i.zero, i.size, i.bytes)) = some (some (.slice none 0 0), 1, 24) := by kernel_rfl
theorem below_of_grown_ {w w' : World} {base : Nat} {e : TypeId} {size n : Nat} {v : Value} {xs : List Value} (hown : w.ownsRow base e size v n xs) (hg : w.grownBy w' v.ownBlock) (hb : base ≤ w.heap.size) : Below base w w' :=
  ⟨hg.os, hg.tape, hg.output, hg.size, fun i hi => hg.block i (by omega) (fun hne => by
    have := (hown.lt i hne.symm).1
    omega)⟩
theorem Ext.trans_below {a b c : World} {B : Nat} (h : Ext a b) (hB : a.heap.size = B) (k : Below B b c) : Ext a c := by
  subst hB
  exact Below.trans h k
theorem ext_size {a b : World} (h : Ext a b) : a.heap.size ≤ b.heap.size := h.sizes
set_option maxRecDepth 100000 in
/-- 'append(v, []byte(s))'. -/
theorem OwnP.add {W wr : World} {B : Nat} {v : Value} {ps : List (List UInt8)} (h : OwnP W wr B v ps) (hB : W.heap.size = B) (s : ByteArray) (hs : 0 < s.size) (hsm : s.size ≤ 1000000) (hl : ps.length ≤ 1000000) (k1 k2 : Nat) (hk1 : wr.heap.size = k1) (hk2 : wr.heap.size + 1 = k2) :
    ∃ v' w', (Builtin.append_ #[66, 66] 66 #[v, .slice (some ⟨k2, 0, none⟩) 1 1]).run Try.prog ((Lib.bytesWorld wr 5 s).alloc (.cells #[.slice (some ⟨k1, 0, none⟩) s.size (grownCap wr s.size 0 5)] 46)) = .ok v' w' ∧ OwnP W w' B v' (ps ++ [s.data.toList]) := by
  subst hk1 hk2
  obtain ⟨xs, hown, hxs⟩ := h.row
  obtain ⟨i0, hi, hz0, hz1, hz2⟩ := info_parts info_sl
  have hx1 : Ext wr (Lib.bytesWorld wr 5 s) := ext_bytesWorld (Ext.refl _) _ _
  have hsz : (Lib.bytesWorld wr 5 s).heap.size = wr.heap.size + 1 := Lib.bytesWorld_size _ _ _
  have hRB := rbytes_bytesWorld wr 5 s
  obtain ⟨W1, hW1⟩ : ∃ W1, W1 = (Lib.bytesWorld wr 5 s).alloc (.cells #[.slice (some ⟨wr.heap.size, 0, none⟩) s.size (grownCap wr s.size 0 5)] 46) := ⟨_, rfl⟩
  have hx2 : Ext wr W1 := by rw [hW1]; exact hx1.alloc _
  have hRB1 : RBytes W1 (some ⟨wr.heap.size, 0, none⟩) s.data.toList := by rw [hW1]; exact hRB.ext ((Ext.refl _).alloc _)
  have hown1 : W1.ownsRow B 46 1 v ps.length xs := own_ext hown hx2
  have hBW : B ≤ W1.heap.size := by rw [← hB]; exact Nat.le_trans h.ext.sizes hx2.sizes
  have hnb : Blk W1 (wr.heap.size + 1) 46 #[.slice (some ⟨wr.heap.size, 0, none⟩) s.size (grownCap wr s.size 0 5)] := by rw [hW1]; exact Blk.new_at _ _ _ hsz
  rw [← hW1]
  obtain ⟨v', w', h1, h2, h3, h4⟩ := append_own_more (P := Try.prog) B W1 66 66 46 i0 (.slice none 0 0) 1 24 Try.underlying66 hi hz0 hz1 hz2 rfl (by decide) v ps.length xs hown1 ⟨wr.heap.size + 1, 0, none⟩ 1 1 [.slice (some ⟨wr.heap.size, 0, none⟩) s.size (grownCap wr s.size 0 5)] rfl (fun j u hu => by
    have hj : j = 0 := by
      have := (List.getElem?_eq_some_iff.1 hu).1
      simp at this; omega
    subst hj
    simp at hu
    subst hu
    have ha : (⟨wr.heap.size + 1, 0, none⟩ : Addr).add 0 = ⟨wr.heap.size + 1, 0, none⟩ := by unfold Addr.add; simp
    rw [ha, hnb.cell]; rfl) (by simp [Value.oneCell']) (by unfold maxLen; omega) (by omega) hBW
  refine ⟨v', w', h1, ?_, xs ++ [.slice (some ⟨wr.heap.size, 0, none⟩) s.size (grownCap wr s.size 0 5)], ?_, ?_⟩
  · have hb : Below B W1 w' := below_of_grown_ hown1 h3 hBW
    exact (h.ext.trans hx2).trans_below hB hb
  · rw [List.length_append]
    exact h2
  · have hold : ∀ ad : Addr, v.ownBlock ≠ some ad.block → ad.block < W1.heap.size → w'.heap[ad.block]? = W1.heap[ad.block]? := fun ad hne hlt => h3.block _ hlt (fun e => hne e.symm)
    have hnew : ∀ ad : Addr, v.ownBlock ≠ some ad.block → ad.block < W1.heap.size → v'.ownBlock ≠ some ad.block := fun ad hne hlt e => by
      rcases h4 with h4 | ⟨j, hj, hjk⟩
      · exact hne (h4 ▸ e)
      · rw [hj] at e; injection e with e; omega
    have hl1 : xs.length = ps.length := by simpa using hown.1
    intro i p hp
    rcases (by omega : i < ps.length ∨ ps.length ≤ i) with hi | hi
    · rw [List.getElem?_append_left hi] at hp
      obtain ⟨A', c, g1, g2, g3, g4, g5, g6⟩ := hxs i p hp
      obtain ⟨ad, rfl, hlt, _⟩ := g4.addr g5
      have hlt1 : ad.block < W1.heap.size := Nat.lt_of_lt_of_le hlt hx2.sizes
      refine ⟨some ad, c, by rw [List.getElem?_append_left (by omega)]; exact g1, g2, g3, (g4.ext hx2).far (fun ad2 e => by injection e with e; subst e; exact hold ad (g6 ad rfl) hlt1) h3.size, g5, fun ad2 e => by injection e with e; subst e; exact hnew ad (g6 ad rfl) hlt1⟩
    · have hi2 : i = ps.length := by
        have := (List.getElem?_eq_some_iff.1 hp).1
        rw [List.length_append] at this
        simp at this; omega
      subst hi2
      rw [List.getElem?_append_right (Nat.le_refl _), Nat.sub_self] at hp
      simp at hp
      subst hp
      have hne : v.ownBlock ≠ some wr.heap.size := fun e => by
        have := (hown.lt _ e).2
        omega
      have hlt1 : wr.heap.size < W1.heap.size := by have := hRB1.addr (by rw [Array.length_toList]; exact hs); obtain ⟨ad, e, hb, _⟩ := this; injection e with e; subst e; exact hb
      refine ⟨some ⟨wr.heap.size, 0, none⟩, grownCap wr s.size 0 5, ?_, ?_, grownCap_le_maxLen _ _ _ _ (by unfold maxLen; omega), hRB1.far (fun ad2 e => by injection e with e; subst e; exact hold ⟨wr.heap.size, 0, none⟩ hne hlt1) h3.size, by rw [Array.length_toList]; exact hs, fun ad2 e => by injection e with e; subst e; exact hnew ⟨wr.heap.size, 0, none⟩ hne hlt1⟩
      · rw [List.getElem?_append_right (by omega), hl1, Nat.sub_self, Array.length_toList]
        rfl
      · rw [Array.length_toList]
        exact grownCap_ge wr s.size 0 5
theorem OwnP.pieces {W wr : World} {B c : Nat} {A : Option Addr} {ps : List (List UInt8)} (h : OwnP W wr B (.slice A ps.length c) ps) : PiecesAt wr A ps := by
  obtain ⟨xs, hown, hxs⟩ := h.row
  refine ⟨xs, Reads.of_own hown, fun i p hp => ?_⟩
  obtain ⟨A', c', g1, g2, g3, g4, g5, _⟩ := hxs i p hp
  exact ⟨A', c', g1, g2, g3, g4, g5⟩
theorem OwnP.form {W wr : World} {B : Nat} {v : Value} {ps : List (List UInt8)} (h : OwnP W wr B v ps) : ∃ A c, v = .slice A ps.length c ∧ ps.length ≤ c ∧ c ≤ maxLen := by
  obtain ⟨xs, hown, _⟩ := h.row
  exact own_form hown
set_option maxRecDepth 100000 in
set_option maxHeartbeats 4000000 in
theorem implSha_any (BG : BlockG) (w : World) (A : Option Addr) (n cap : Nat) (l : List ByteArray) (hR : RS w A l) (hn : l.length = n) (hc : n ≤ cap) (hcm : cap ≤ maxLen) (hl : n ≤ 1000000) (hpos : ∀ s ∈ l, 0 < s.size ∧ s.size ≤ 1000000) (hT : (l.map fun s => s.data.toList).flatten.length ≤ 100000) :
    Calls Try.prog 22 #[.slice A n cap] w fun e w' => e = .returned (.tuple #[.string ⟨(shaSum (l.map fun s => s.data.toList).flatten).toArray⟩, .bool true]) ∧ Ext w w' := by
  have hmf : ∀ (fn : Fn) (first cap : Array Value) (w : World), (Instr.makeFunc fn first cap).run Try.prog w = .ok (.func fn first cap) w := fun _ _ _ _ => rfl
  have HBG := hide BG
  have HR := hide hR
  have HN := hide hn
  have HP := hide hpos
  have HT := hide hT
  have HZ : Hid (Var ((w.alloc (.cells #[.string ⟨#[]⟩] 9)).alloc (.cells #[.bool false] 4)) w.heap.size (.string ⟨#[]⟩)) := hide ((Var.new w (.string ⟨#[]⟩) _).ext ((Ext.refl _).alloc _))
  have HY : Hid (Var ((w.alloc (.cells #[.string ⟨#[]⟩] 9)).alloc (.cells #[.bool false] 4)) (w.heap.size + 1) (.bool false)) := hide (Var.new_at _ (.bool false) _ _ (by simp))
  have HX0 : Hid (Ext w ((w.alloc (.cells #[.string ⟨#[]⟩] 9)).alloc (.cells #[.bool false] 4))) := hide (((Ext.refl w).alloc _).alloc _)
  obtain ⟨Z, hZ⟩ : ∃ Z, Z = shaSum (l.map fun s => s.data.toList).flatten := ⟨_, rfl⟩
  have HZL : Hid (Z.length = 20) := hide (by rw [hZ]; exact W5.out_length _)
  have HZE := hide hZ
  rw [← hZ]
  clear BG hR hn hpos hT hZ
  unfold maxLen at hcm
  go_enter_defers Try.func22, Try.ntmps22
  go_wp2_with fail
  generalize hW : (w.alloc (.cells #[.string ⟨#[]⟩] 9)).alloc (.cells #[.bool false] 4) = W at HZ HY HX0 ⊢
  clear hW
  obtain ⟨B, hB⟩ : ∃ B, B = W.heap.size := ⟨_, rfl⟩
  have HB := hide hB
  clear hB
  go_loopw [4, 10] (fun s4 s10 wr => ∃ k : Nat, k ≤ n ∧ s10 = .int .i64 k ∧ Hid (OwnP W wr B s4 ((l.take k).map fun s => s.data.toList))) (fun _ s10 _ => n - (intOf s10).toNat)
  case atStart => exact ⟨0, by omega, rfl, hide ⟨Ext.refl _, [], World.ownsRow_nil _ _ _ _, fun i p hp => by simp at hp⟩⟩
  case round =>
    obtain ⟨k, hk, rfl, HI⟩ := hrel
    by_cases hlt : k < n
    · have hkl : k < l.length := by rw [HN.out]; exact hlt
      have hlt' : (k : Int) < (n : Int) := by omega
      obtain ⟨ad, rfl, hab, hcell⟩ := HR.out.addr (by omega)
      have ck := (HX0.out.trans HI.out.ext).cellOf (hcell k hkl)
      have hsp := HP.out l[k] (List.getElem_mem hkl)
      have hst : ((l.take (k + 1)).map fun s => s.data.toList) = ((l.take k).map fun s => s.data.toList) ++ [l[k].data.toList] := by
        rw [List.take_succ_eq_append_getElem hkl, List.map_append]; rfl
      have HTK := hide hst
      generalize l[k] = s at ck hsp HTK
      clear hcell hst hab
      obtain ⟨v', w', hrun, hadd⟩ := HI.out.add HB.out.symm s hsp.1 hsp.2 (by rw [List.length_map, List.length_take]; omega) _ _ rfl rfl
      have HADD := hide hadd
      have hcv := Lib.run_convert_string_bytes (P := Try.prog) wr 9 46 5 s Try.underlying9 Try.underlying46 Try.underlying5
      have hsz : (Lib.bytesWorld wr 5 s).heap.size = wr.heap.size + 1 := Lib.bytesWorld_size _ _ _
      clear hadd hsp
      go_wp2_with (at_builtin; refine wpList_append_run rfl _ _ _ _ rfl _ _ _ rfl rfl hrun ?_)
      go_roundw
      case rel => exact ⟨k + 1, by omega, by go_num, hide (by rw [HTK.out]; exact HADD.out)⟩
      case measure => simp [intOf]; omega
    · have hlt' : ¬ (k : Int) < (n : Int) := by omega
      have hkn : k = n := by omega
      have HO : Hid (OwnP W wr B u4 (l.map fun s => s.data.toList)) := hide (by
        have h := HI.out
        rwa [List.take_of_length_le (by have := HN.out; omega)] at h)
      obtain ⟨A4, c4, hv, h1, h2⟩ := HO.out.form
      subst hv
      rw [List.length_map, HN.out] at h1
      have ZS := hide (zzSums_any HBG.out wr A4 n c4 _ HO.out.pieces (by rw [List.length_map, HN.out]) h1 h2 HT.out)
      rw [← HZE.out] at ZS
      have hml : (l.map fun s => s.data.toList).length = n := by rw [List.length_map, HN.out]
      rw [hml]
      have HE := hide HO.out.ext
      have HZ1 := hide (HZ.out.ext HE.out)
      have HY1 := hide (HY.out.ext HE.out)
      have HX1 := hide (HX0.out.trans HE.out)
      clear HI HO hml HZ HY HX0 HE
      unfold maxLen at h2
      go_wp2_with (go_at_call 37; refine ZS.out.mono ?_; rintro e W2 ⟨A5, c5, rfl, hR5, hX5⟩; have hst := (run_string_n W2 46 9 5 Try.underlying46 Try.underlying5 Try.underlying9 20 c5 HZL.out hR5); obtain ⟨s2, c2, f2⟩ := HZ1.out.ext hX5; obtain ⟨s3, c3, f3⟩ := HY1.out.ext hX5; have HX := hide (HX1.out.trans hX5); clear hX5 hR5)
      go_goals
      refine door_idle (sha1_idle _ _) (by simp [go_sem]) ?_
      have HXo := HX.out
      simp [results, Try.results22, go_sem, c2, c3, f2, f3]
      repeat (first | exact Ext.refl _ | assumption | refine Ext.drew ?_ | refine Ext.drewN ?_ _ | refine Ext.alloc ?_ _ | refine ext_bytesWorld ?_ _ _ | refine Ext.setCell ?_ (by first | (simp; done) | (simp; omega)) _)
end Go.Proofs.Ytlnidgkcgjlnaaa
