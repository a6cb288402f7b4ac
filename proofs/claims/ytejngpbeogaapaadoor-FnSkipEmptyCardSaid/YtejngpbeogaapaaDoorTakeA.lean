import Derived.Test.YtejngpbeogaapaaDoorTake
import Derived.Deep.LoopGhost
import Derived.Deep.RegionHeld3
import Derived.Deep.DeepCutAuto
import Derived.Deep.CutBlock
namespace Go.Proofs.YtejngpbeogaapaaDoor
open Go.RowKit
set_option linter.unusedVariables false
set_option linter.unusedSimpArgs false

theorem Dec.dS {w : World} {B d : Nat} {S : List Nat} {all : List UInt8} {p av : Nat} {cp : Bool} {sec : Int} {sk : Bool} {esc : Value} {line : Int} {er : Value} {f : Nat} (h : Dec w B d S all p av cp sec sk esc line er f) : d ∈ S := by
  obtain ⟨rd, A, cap, r0, L, rest, h1, _⟩ := h
  exact h1.dS
theorem SetAt.chg {w w' : World} {F : Nat} {fs : Nat → Bool} {S : List Nat} (h : SetAt w F fs) (hc : Chg S w w') (hF : F ∉ S) : SetAt w' F fs := Blk.chg h hc hF

/-- The view, in every later world that keeps what stood. -/
theorem Dec.view2 {w : World} {B d : Nat} {S : List Nat} {all : List UInt8} {p av : Nat} {cp : Bool} {sec : Int} {sk : Bool} {esc : Value} {line : Int} {er : Value} {f : Nat} (h : Dec w B d S all p av cp sec sk esc line er f) (hav : p < av) :
    ∃ k cap r0 r1 m, w.cell? ⟨d, 1, none⟩ = some (.slice (some ⟨k, 0, none⟩) (r1 + m) cap) ∧ w.cell? ⟨d, 2, none⟩ = some (.int .i64 (r0 : Nat)) ∧ w.cell? ⟨d, 3, none⟩ = some (.int .i64 (r1 : Nat)) ∧
      Hid (p + m = av ∧ r1 + m ≤ 1048576 ∧ r1 + m ≤ cap) ∧
      Hid (∀ wy, Ext w wy → wy.cell? ⟨d, 3, none⟩ = some (.int .i64 (r1 : Nat)) ∧ wy.frozen? ⟨d, 3, none⟩ = false ∧ (∀ j (hj2 : p + j < all.length), p + j < av → wy.cell? ⟨k, r1 + j, none⟩ = some (.int .u8 (all[p + j].toNat))) ∧
        ∀ i, p + i ≤ av → Dec (wy.setCell ⟨d, 3, none⟩ (.int .i64 ((r1 + i : Nat) : Int))) B d S all (p + i) av cp sec sk esc line er f) := by
  obtain ⟨k, cap, r0, r1, len, a1, a2, a3, a4, a5, a6, a7⟩ := h.view hav
  obtain ⟨b1, b2, b3, b4, b5, b6⟩ := a5.out
  obtain ⟨m, rfl⟩ : ∃ m, len = r1 + m := ⟨len - r1, by omega⟩
  refine ⟨k, cap, r0, r1, m, a1, a2, a3, hide ⟨by omega, b3, b4⟩, hide fun wy hx => ?_⟩
  refine ⟨hx.cellOf a3, ?_, fun j hj hj2 => hx.cellOf (a6.out j hj2 hj), fun i hi => ?_⟩
  · obtain ⟨rd, A, cap', r0', L, rest, h1, _⟩ := h.ext hx
    exact h1.blk.frozen 3
  · obtain ⟨k', cap', r0', r1', len', e1, e2, e3, e4, e5, e6, e7⟩ := (h.ext hx).view hav
    have : r1' = r1 := by
      have e := e3.symm.trans (hx.cellOf a3)
      simp at e
      omega
    subst this
    exact e7.out i hi

/-- In the outer loop. -/
def TakeI (w : World) (B d : Nat) (S : List Nat) (all : List UInt8) (p av : Nat) (sec : Int) (sk : Bool) (esc : Value) (line : Int) (er : Value) (t : List UInt8) (n : Nat) (w' : World) : Prop :=
  ∃ S' av' cp' f', Dec w' B d S' all (p + n) av' cp' sec sk esc line er f' ∧ av ≤ av' ∧ Chg S w w' ∧ (∀ i ∈ S', i ∈ S ∨ w.heap.size ≤ i) ∧ n ≤ t.length

/-- Behind the loops. -/
def TakeX (w : World) (B d : Nat) (S : List Nat) (all : List UInt8) (p av : Nat) (sec : Int) (sk : Bool) (esc : Value) (line : Int) (er : Value) (n : Nat) (w' : World) : Prop :=
  ∃ S' av' cp' f', Dec w' B d S' all (p + n) av' cp' sec sk esc line er f' ∧ av ≤ av' ∧ Chg S w w' ∧ (∀ i ∈ S', i ∈ S ∨ w.heap.size ≤ i) ∧ (p + n < all.length → p + n < av')
set_option maxRecDepth 100000 in
set_option maxHeartbeats 2000000 in
theorem take_any (B d F : Nat) (fs : Nat → Bool) (S : List Nat) (all : List UInt8) (p av : Nat) (cp : Bool) (sec : Int) (sk : Bool) (esc : Value) (line : Int) (er : Value) (f : Nat) (w : World) (ad : Addr)
    (h : Dec w B d S all p av cp sec sk esc line er f) (hE : EofAt w B ad) (hF : SetAt w F fs) (hFS : F ∉ S) :
    Calls Tryd.prog 34 #[.pointer (some ⟨d, 0, none⟩), .pointer (some ⟨F, 0, none⟩)] w (TakeP w B d S all p av sec sk esc line er ((all.drop p).takeWhile fun c => fs c.toNat)) := by
  obtain ⟨A, cap, r0, r1, len, c1, c2, c3, c4, hx⟩ := h.cells
  obtain ⟨q5, q6, q1, q2⟩ := hx.out
  have H := hide h
  have HE := hide hE
  have HF := hide (And.intro hF hFS)
  generalize ht : (all.drop p).takeWhile (fun c => fs c.toNat) = t
  have HT := hide ht
  have q3 := h.le
  have i1 : (r1 : Int) - (r0 : Int) = (p : Int) := by omega
  have q4 : p ≤ 1048576 := by omega
  have HP := hide q3
  clear h hE hF hFS hx ht q3 q5 q6
  go_enter Tryd.func34, Tryd.ntmps34
  go_wp2
  go_step3
  go_wp2
  go_quiet (fail)
  go_wp2
  clear c1 c2 c3 c4 q1 q2 i1
  go_step3
  go_upto_block 0 with fail
  go_cut [6, 7, 8] (fun _ _ _ wx => TakeX w B d S all p av sec sk esc line er t.length wx)
  case first =>
    go_wp2
    go_loopg [6, 7, 8] (all.length + 1 - p) (fun g _ _ _ wx => ∃ n, g + p + n = all.length + 1 ∧ TakeI w B d S all p av sec sk esc line er t n wx)
    case atStart => exact ⟨0, by have := HP.out; omega, S, av, cp, f, H.out.drewN nq, Nat.le_refl _, (Chg.refl S w).drewN nq, fun i hi => .inl hi, Nat.zero_le _⟩
    case round =>
      obtain ⟨n, hg, S1, av1, cp1, f1, hD1, ha1, hC1, hnew1, hnt⟩ := hrel
      have CALL := hide (ensure_any B d S1 all (p + n) av1 1 cp1 sec sk esc line er f1 wr ad hD1 (HE.out.chg hC1 (fun i hi => H.out.bS i hi)) (by omega))
      have Y := hide (And.intro hg (And.intro ha1 (And.intro hC1 (And.intro hnew1 (And.intro hnt hD1.le)))))
      clear hg hD1 ha1 hC1 hnew1 hnt
      by_cases hlt : p + n + 1 ≤ all.length
      · have hdec : decide (p + n + 1 ≤ all.length) = true := decide_eq_true hlt
        rw [hdec] at CALL
        go_wp2_with fail
        refine CALL.out.mono ?_
        rintro e w2 ⟨rfl, S2, av2, cp2, f2, hD2, ha2, hav2, _, hC2, hnew2⟩
        have hlt2 : p + n + 1 ≤ av2 := hav2 hlt
        obtain ⟨k, cap2, r02, r12, m, b1, b2, b3, hx2, hv⟩ := hD2.view2 (by omega)
        obtain ⟨x1, x2, x3⟩ := hx2.out
        have hm : 0 < m := by omega
        have hcap : ¬ cap2 = r12 := by omega
        have Z := hide (And.intro ha2 (And.intro hlt2 (And.intro hC2 (And.intro hnew2 (And.intro x1 hD2.le)))))
        have HD2 := hide hD2
        clear CALL hD2 ha2 hav2 hC2 hnew2 hx2 hdec x1 hlt2
        go_wp2
        go_quiet (fail)
        go_wp2
        obtain ⟨G, hG⟩ : ∃ G, G = gk := ⟨_, rfl⟩
        have HG := hide hG
        clear hG
        have SETW : Hid (SetAt w2 F fs) := hide (by
          obtain ⟨y1, y2, y3, y4, y5, y6⟩ := Y.out
          obtain ⟨z1, z2, z3, z4, z5, z6⟩ := Z.out
          refine (HF.out.1.chg y3 HF.out.2).chg z3 fun hm => ?_
          rcases y4 F hm with h5 | h5
          · exact HF.out.2 h5
          · exact absurd (SetAt.lt HF.out.1) (by omega))
        go_loopg [7, 8, 32] m (fun g2 _ _ s32 wy => ∃ j : Nat, j + g2 = m ∧ s32 = .int .i64 j ∧ Hid (Ext w2 wy ∧ n + j ≤ t.length))
        case atStart => exact ⟨0, by omega, rfl, hide ⟨(Ext.refl w2).drewN nq, by have := Y.out.2.2.2.2.1; omega⟩⟩
        case round =>
          obtain ⟨j, hj, rfl, HX⟩ := hrel
          by_cases hjm : j < m
          · have hb : p + n + j < av2 ∧ p + n + j < all.length := by
              obtain ⟨z1, z2, z3, z4, z5, z6⟩ := Z.out
              omega
            obtain ⟨-, -, hcl, -⟩ := hv.out wr HX.out.1
            have hcell := hcl j hb.2 hb.1
            have TW := hide (tw_next (l := all.drop p) (P := fun c => fs c.toNat) (j := n + j) (by rw [HT.out]; exact HX.out.2) (by rw [List.length_drop]; omega))
            rw [HT.out, List.getElem_drop] at TW
            have e1 : all[p + (n + j)]'(by omega) = all[p + n + j]'hb.2 := by congr 1; omega
            simp only [e1] at TW
            generalize all[p + n + j]'hb.2 = c at hcell TW
            have GET := hide (get_any wr F fs c (SETW.out.ext HX.out.1))
            have hj32 : (r12 : Int) + (j : Int) ≤ 1048576 := by omega
            clear hcl e1 hb
            go_wp2_with fail
            refine GET.out.mono ?_
            rintro e w3 ⟨rfl, hx3⟩
            have HX3 : Hid (Ext w2 w3) := hide (HX.out.1.trans hx3)
            clear hx3 hcell GET
            cases hV : fs c.toNat with
            | true =>
              have HJ : Hid (n + (j + 1) ≤ t.length) := hide (by have := TW.out.1 hV; omega)
              clear TW hV
              go_wp2
              go_roundg (gk - 1)
              case measure => omega
              case rel => exact ⟨j + 1, by omega, by first | rfl | simp, hide ⟨HX3.out, HJ.out⟩⟩
            | false =>
              obtain ⟨d1, d2, -, hst⟩ := hv.out w3 HX3.out
              have R : Hid (TakeX w B d S all p av sec sk esc line er t.length (w3.setCell ⟨d, 3, none⟩ (.int .i64 ((r12 : Int) + (j : Int))))) := hide (by
                obtain ⟨y1, y2, y3, y4, y5, y6⟩ := Y.out
                obtain ⟨z1, z2, z3, z4, z5, z6⟩ := Z.out
                have e : t.length = n + j := TW.out.2 hV
                have h1 := hst j (by omega)
                rw [Int.natCast_add, Nat.add_assoc p n j, ← e] at h1
                refine ⟨S2, av2, cp2, f2, h1, by omega, (y3.then (z3.then (Chg.of_ext HX3.out S2) z4) y4).setCell (.inl H.out.dS) _, fun i hi => ?_, fun _ => by omega⟩
                rcases z4 i hi with h5 | h5
                · exact y4 i h5
                · exact .inr (Nat.le_trans y3.size h5))
              clear TW hV hst
              go_wp2
              go_meet
              case rel => exact R.out
          · obtain rfl : j = m := by omega
            obtain ⟨d1, d2, -, hst⟩ := hv.out wr HX.out.1
            have hj32 : (r12 : Int) + (j : Int) ≤ 1048576 := by omega
            have R : Hid (∃ n', (G - j) + p + n' = all.length + 1 ∧ TakeI w B d S all p av sec sk esc line er t n' (wr.setCell ⟨d, 3, none⟩ (.int .i64 ((r12 : Int) + (j : Int))))) := hide (by
              obtain ⟨y1, y2, y3, y4, y5, y6⟩ := Y.out
              obtain ⟨z1, z2, z3, z4, z5, z6⟩ := Z.out
              have h1 := hst j (by omega)
              have hG := HG.out
              rw [Int.natCast_add, Nat.add_assoc p n j] at h1
              refine ⟨n + j, by omega, S2, av2, cp2, f2, h1, by omega, (y3.then (z3.then (Chg.of_ext HX.out.1 S2) z4) y4).setCell (.inl H.out.dS) _, fun i hi => ?_, HX.out.2⟩
              rcases z4 i hi with h5 | h5
              · exact y4 i h5
              · exact .inr (Nat.le_trans y3.size h5))
            have M : Hid (G - j < G) := hide (by
              obtain ⟨y1, y2, y3, y4, y5, y6⟩ := Y.out
              have hG := HG.out
              omega)
            clear hst
            go_wp2
            go_roundg (G - j)
            case measure => rw [← HG.out]; exact M.out
            case rel => exact R.out
      · have hdec : decide (p + n + 1 ≤ all.length) = false := decide_eq_false hlt
        rw [hdec] at CALL
        go_wp2_with fail
        refine CALL.out.mono ?_
        rintro e w2 ⟨rfl, S2, av2, cp2, f2, hD2, ha2, _, _, hC2, hnew2⟩
        have R : Hid (TakeX w B d S all p av sec sk esc line er t.length w2) := hide (by
          obtain ⟨y1, y2, y3, y4, y5, y6⟩ := Y.out
          have hl := tw_le (all.drop p) (fun c => fs c.toNat)
          rw [HT.out, List.length_drop] at hl
          have e : t.length = n := by omega
          rw [e]
          refine ⟨S2, av2, cp2, f2, hD2, by omega, y3.then hC2 y4, fun i hi => ?_, fun h => by omega⟩
          rcases hnew2 i hi with h5 | h5
          · exact y4 i h5
          · exact .inr (Nat.le_trans y3.size h5))
        clear CALL Y hD2 ha2 hC2 hnew2 hdec
        go_wp2
        go_meet
        case rel => exact R.out
  case rest =>
    obtain ⟨S1, av1, cp1, f1, hD1, ha1, hC1, hnew1, hfin⟩ := hcut
    have X : ∃ A cap r0 s T len, t.length = T ∧ wc.cell? ⟨d, 1, none⟩ = some (.slice A len cap) ∧ wc.cell? ⟨d, 2, none⟩ = some (.int .i64 (r0 : Nat)) ∧ wc.cell? ⟨d, 3, none⟩ = some (.int .i64 ((s + T : Nat) : Int)) ∧
        s = r0 + p ∧ s + T ≤ len ∧ len ≤ cap ∧ len ≤ 1048576 ∧ (∀ a, A = some a → ∃ k, a = ⟨k, 0, none⟩) ∧ Hid (RBytes wc (if cap = s then A else A.map (·.add s)) t) := by
      obtain ⟨rd, A, cap, r0, L, rest, h1, h2, h3⟩ := hD1
      have c1 := h1.blk.cell 1
      have c2 := h1.blk.cell 2
      have c3 := h1.blk.cell 3
      simp only [List.getElem?_toArray, List.getElem?_cons_zero, List.getElem?_cons_succ] at c1 c2 c3
      rw [← Nat.add_assoc] at c3
      have l1 := h1.le1
      refine ⟨A, cap, r0, r0 + p, t.length, L.length, rfl, c1, c2, c3, rfl, by omega, h1.lec, by have := h1.tot; omega, fun a ha => by obtain ⟨k, hk, _⟩ := h1.abl a ha; exact ⟨k, hk⟩, hide ?_⟩
      have := (h1.bytes.cut (k := r0 + p) (by omega) h1.lec).take t.length
      have e : (L.drop (r0 + p)).take t.length = t := by
        have e1 : t = (all.drop p).take t.length := by
          have := List.takeWhile_prefix (fun c : UInt8 => fs c.toNat) (l := all.drop p)
          rw [HT.out] at this
          exact List.prefix_iff_eq_take.1 this
        have e2 : all.drop p = L.drop (r0 + p) ++ rest := by
          rw [h2, List.drop_append_of_le_length (by rw [List.length_drop]; omega), List.drop_drop]
        rw [e2, List.take_append_of_le_length (by rw [List.length_drop]; omega)] at e1
        exact e1.symm
      rwa [e] at this
    obtain ⟨A1, cap1, r01, s, T, len1, hT, c1, c2, c3, hs, hle, hlc, hl1, hA, hRB⟩ := X
    have i1 : (r01 : Int) + (p : Int) = (s : Int) := by omega
    have X2 : Hid (∀ nq, Dec (wc.drewN nq) B d S1 all (p + t.length) av1 cp1 sec sk esc line er f1 ∧ av ≤ av1 ∧ Chg S w (wc.drewN nq) ∧ (∀ i ∈ S1, i ∈ S ∨ w.heap.size ≤ i) ∧ (p + t.length < all.length → p + t.length < av1)) := hide fun nq => ⟨hD1.drewN nq, ha1, hC1.drewN nq, hnew1, hfin⟩
    have hs6 : s + T ≤ 1048576 := by omega
    have HS := hide hs
    clear hD1 ha1 hC1 hnew1 hs hfin
    by_cases hcs : cap1 = s
    · obtain rfl : T = 0 := by omega
      obtain rfl : len1 = s := by omega
      subst hcs
      go_wp2
      go_quiet (fail)
      go_wp2
      go_ret
      obtain ⟨z1, z2, z3, z4⟩ := X2.out nq
      refine ⟨S1, av1, cp1, f1, A1, 0, by rw [hT]; rfl, ?_, z1, z2, z3, z4⟩
      have := hRB.out
      rw [if_pos trivial] at this
      exact this.ext ((Ext.refl wc).drewN nq)
    · go_wp2
      go_quiet (fail)
      go_wp2
      go_ret
      obtain ⟨z1, z2, z3, z4⟩ := X2.out nq
      refine ⟨S1, av1, cp1, f1, A1.map (·.add s), cap1 - s, by rw [hT]; show Ending.returned (.slice _ (s + T - s) _) = _; rw [Nat.add_sub_cancel_left], ?_, z1, z2, z3, z4⟩
      have := hRB.out
      first
        | (rw [if_neg hcs] at this; exact this.ext ((Ext.refl wc).drewN nq))
        | (simp only [hcs, if_false] at this; exact this.ext ((Ext.refl wc).drewN nq))
end Go.Proofs.YtejngpbeogaapaaDoor
