/-
  skipEmptyLines: empty lines, blanks and comments are gone by.
-/
import Derived.Test.YtejngpbeogaapaaDoorDecIn
import Derived.Test.YtejngpbeogaapaaDoorSpecSkip
namespace Go.Proofs.YtejngpbeogaapaaDoor
open Go.RowKit
set_option linter.unusedVariables false
set_option linter.unusedSimpArgs false

theorem step_end (l : List UInt8) (h : l.length = tl (doorF 0) l) : skipStep l = (tl (doorF 0) l, 0, false) := by
  unfold skipStep
  simp only
  rw [List.drop_eq_nil_of_le (by omega)]
theorem step_at (l : List UInt8) (c : UInt8) (r : List UInt8) (h : l.drop (tl (doorF 0) l) = c :: r) : skipStep l =
    if c = 35 then (if (eolAt ((c :: r).drop (tl (doorF 11) (c :: r)))).2.2 then (tl (doorF 0) l + tl (doorF 11) (c :: r) + (eolAt ((c :: r).drop (tl (doorF 11) (c :: r)))).1, (eolAt ((c :: r).drop (tl (doorF 11) (c :: r)))).2.1, true) else (0, 0, false))
    else (if (eolAt (c :: r)).2.2 then (tl (doorF 0) l + (eolAt (c :: r)).1, (eolAt (c :: r)).2.1, true) else (tl (doorF 0) l, 0, false)) := by
  unfold skipStep
  simp only
  rw [h]
theorem step_N (all : List UInt8) (q N : Nat) (hq : q ≤ all.length) (hN : q + fin (all.drop q) = N) (x : Nat × Nat × Bool) (hx : skipStep (all.drop q) = x) :
    lfs (all.take (q + x.1)) = lfs (all.take q) + x.2.1 ∧ q + x.1 ≤ all.length ∧ (x.2.2 = true → q + x.1 + fin (all.drop (q + x.1)) = N ∧ 0 < x.1) ∧ (x.2.2 = false → q + x.1 = N) := by
  subst hx
  have h1 := step_le (all.drop q)
  rw [List.length_drop] at h1
  refine ⟨lfs_next all q, by omega, fun h => ⟨?_, step_pos _ h⟩, fun h => ?_⟩
  · rw [fin_more _ h, List.drop_drop] at hN
    omega
  · rw [fin_end _ h] at hN
    exact hN

/-- Between the rounds. -/
def SkipI (w : World) (B d : Nat) (S : List Nat) (all : List UInt8) (sec : Int) (sk : Bool) (esc : Value) (L0 : Int) (er : Value) (N q : Nat) (w' : World) : Prop :=
  q + fin (all.drop q) = N ∧ DecIn w B d S all q q sec sk esc (L0 + (lfs (all.take q) : Nat)) er w'
/-- What a round leaves. -/
def SkipR (w : World) (B d : Nat) (S : List Nat) (all : List UInt8) (sec : Int) (sk : Bool) (esc : Value) (L0 : Int) (er : Value) (N q : Nat) (x : Nat × Nat × Bool) (w' : World) : Prop :=
  DecIn w B d S all (q + x.1) (q + x.1) sec sk esc (L0 + (lfs (all.take q) : Nat) + (x.2.1 : Nat)) er w'
theorem SkipR.end_ {w w' : World} {B d : Nat} {S : List Nat} {all : List UInt8} {sec : Int} {sk : Bool} {esc : Value} {L0 : Int} {er : Value} {N q : Nat} {x : Nat × Nat × Bool} (hq : q ≤ all.length) (hN : q + fin (all.drop q) = N) (hx : skipStep (all.drop q) = x) (h2 : x.2.2 = false)
    (h : SkipR w B d S all sec sk esc L0 er N q x w') : DecIn w B d S all N N sec sk esc (L0 + (lfs (all.take N) : Nat)) er w' := by
  obtain ⟨s1, s2, s3, s4⟩ := step_N all q N hq hN x hx
  have e := s4 h2
  unfold SkipR at h
  rw [e] at h s1
  exact h.line_eq (by rw [s1]; omega)
theorem SkipR.more {w w' : World} {B d : Nat} {S : List Nat} {all : List UInt8} {sec : Int} {sk : Bool} {esc : Value} {L0 : Int} {er : Value} {N q : Nat} {x : Nat × Nat × Bool} (hq : q ≤ all.length) (hN : q + fin (all.drop q) = N) (hx : skipStep (all.drop q) = x) (h2 : x.2.2 = true)
    (h : SkipR w B d S all sec sk esc L0 er N q x w') : SkipI w B d S all sec sk esc L0 er N (q + x.1) w' ∧ 0 < x.1 ∧ q + x.1 ≤ all.length := by
  obtain ⟨s1, s2, s3, s4⟩ := step_N all q N hq hN x hx
  obtain ⟨s5, s6⟩ := s3 h2
  exact ⟨⟨s5, DecIn.line_eq h (by rw [s1]; omega)⟩, s6, s2⟩

set_option maxRecDepth 100000 in
set_option maxHeartbeats 2000000 in
theorem skip_in {w w0 : World} {B d : Nat} {S : List Nat} {all : List UInt8} {p0 : Nat} {sec : Int} {sk : Bool} {esc : Value} {L0 : Int} {er : Value} {ad : Addr}
    (h : DecIn w B d S all p0 p0 sec sk esc (L0 + (lfs (all.take p0) : Nat)) er w0) (hB : DecB w B S ad) (hl0 : 0 ≤ L0) (hl1 : L0 ≤ 10000000) :
    Calls Tryd.prog 39 #[.pointer (some ⟨d, 0, none⟩)] w0 fun e w' => e = .returned (.tuple #[]) ∧
      DecIn w B d S all (p0 + fin (all.drop p0)) (p0 + fin (all.drop p0)) sec sk esc (L0 + (lfs (all.take (p0 + fin (all.drop p0))) : Nat)) er w' := by
  generalize hN : p0 + fin (all.drop p0) = N
  have START : Hid (∃ q, (all.length - p0) + q = all.length ∧ SkipI w B d S all sec sk esc L0 er N q w0) := hide ⟨p0, by have := h.le; omega, hN, h⟩
  have HB := hide hB
  have HLL := hide (And.intro hl0 hl1)
  clear h hB hN hl0 hl1
  go_enter Tryd.func39, Tryd.ntmps39
  go_wp2
  go_loopg [2] (all.length - p0) (fun g _ wr => ∃ q, g + q = all.length ∧ SkipI w B d S all sec sk esc L0 er N q wr)
  case atStart => exact START.out
  case round =>
    clear START
    obtain ⟨q, hg, hfin, hD1⟩ := hrel
    obtain ⟨r0, c2, c3, -, hr, -⟩ := hD1.seek
    have hle := hD1.le
    have hl := lfs_le (all.take q)
    rw [List.length_take] at hl
    obtain ⟨r1, hr1⟩ : ∃ r1, r1 = r0 + q := ⟨_, rfl⟩
    rw [← hr1] at c3
    have i1 : (r1 : Int) - (r0 : Int) = (q : Int) := by omega
    have i2 : q ≤ 4194304 := by omega
    obtain ⟨line, hline⟩ : ∃ line, line = L0 + ((lfs (all.take q) : Nat) : Int) := ⟨_, rfl⟩
    have HLN : Hid (0 ≤ line ∧ line ≤ 20000000) := hide (by have := HLL.out; omega)
    have END : Hid (∀ x w', skipStep (all.drop q) = x → x.2.2 = false → DecIn w B d S all (q + x.1) (q + x.1) sec sk esc (line + (x.2.1 : Nat)) er w' → DecIn w B d S all N N sec sk esc (L0 + (lfs (all.take N) : Nat)) er w') := hide fun x w' h1 h2 h3 =>
      SkipR.end_ hle.1 hfin h1 h2 (by unfold SkipR; rw [← hline]; exact h3)
    have MORE : Hid (∀ x w', skipStep (all.drop q) = x → x.2.2 = true → DecIn w B d S all (q + x.1) (q + x.1) sec sk esc (line + (x.2.1 : Nat)) er w' → (∃ q', gk - x.1 + q' = all.length ∧ SkipI w B d S all sec sk esc L0 er N q' w') ∧ gk - x.1 < gk) := hide fun x w' h1 h2 h3 => by
      obtain ⟨m1, m2, m3⟩ := SkipR.more hle.1 hfin h1 h2 (show SkipR w B d S all sec sk esc L0 er N q x w' by unfold SkipR; rw [← hline]; exact h3)
      exact ⟨⟨q + x.1, by omega, m1⟩, by omega⟩
    rw [← hline] at hD1
    have HD1 := hide hD1
    have HLE := hide hle
    clear hg hfin hD1 hr1 hl hline hr hle
    go_wp2
    go_quiet (fail)
    clear c2 c3 i1
    go_wp2_with fail
    refine (fSpace_any _).mono ?_
    rintro e w1 ⟨F, rfl, hx, hF, hN⟩
    have TK := hide (take_in (HD1.out.ext ((Ext.refl wr).drewN nq)) HB.out hx hF hN)
    clear hx hF hN
    have hqn := tl_le fSpace (all.drop q)
    rw [List.length_drop] at hqn
    have HNE : Hid (tl fSpace (all.drop q) = tl (doorF 0) (all.drop q)) := hide rfl
    generalize hn : tl fSpace (all.drop q) = n at TK HNE
    have HN : Hid (n ≤ all.length - q) := hide (by omega)
    clear hn hqn
    go_wp2_with fail
    refine TK.out.mono ?_
    rintro e w2 ⟨A, cap, rfl, -, hqn, hD2⟩
    have HD2 := hide hD2
    have HQN := hide hqn
    clear TK hD2 hqn
    by_cases hend : q + n < all.length
    · have hdr := byteAt_in hend
      have AT := hide (at_in' 0 (by omega) HD2.out (Nat.le_refl _))
      rw [Nat.add_zero] at AT
      have hdr2 : (all.drop q).drop (tl (doorF 0) (all.drop q)) = byteAt all (q + n) :: all.drop (q + n + 1) := by rw [← HNE.out, List.drop_drop]; exact hdr
      have STEP := hide (step_at (all.drop q) _ _ hdr2)
      rw [← HNE.out] at STEP
      generalize byteAt all (q + n) = c at AT hdr STEP
      have HDR := hide hdr
      clear hdr hdr2
      by_cases h35 : c = 35
      · subst h35
        have HTE : Hid (tl fComment (all.drop (q + n)) = tl (doorF 11) (35 :: all.drop (q + n + 1))) := hide (by rw [HDR.out]; rfl)
        rw [if_pos rfl, ← HTE.out] at STEP
        have hdt : (35 :: all.drop (q + n + 1)).drop (tl fComment (all.drop (q + n))) = all.drop (q + n + tl fComment (all.drop (q + n))) := by
          rw [← HDR.out, List.drop_drop]
        rw [hdt] at STEP
        clear hdt HTE
        generalize ht : tl fComment (all.drop (q + n)) = t at STEP
        have HT := hide ht
        clear ht
        have HF := hide (eolAt_false (all.drop (q + n + t)))
        generalize hxx : eolAt (all.drop (q + n + t)) = x at STEP HF
        have HX := hide hxx
        clear hxx
        go_wp2_with fail
        refine AT.out.mono ?_
        rintro e w3 ⟨rfl, hx3⟩
        have HD3 := hide (HD2.out.ext hx3)
        clear hx3 AT HD2
        go_wp2_with fail
        refine (fComment_any _).mono ?_
        rintro e w4 ⟨F2, rfl, hx4, hF4, hN4⟩
        have TK2 := hide (take_in HD3.out HB.out hx4 hF4 hN4)
        clear hx4 hF4 hN4
        rw [HT.out] at TK2
        go_wp2_with fail
        refine TK2.out.mono ?_
        rintro e w5 ⟨A2, cap2, rfl, -, hqt, hD5⟩
        have EOL := hide (takeEOL_in hD5 HB.out HLN.out.1 (by have := HLN.out.2; omega))
        have HQT := hide hqt
        clear TK2 HD3 hD5 hqt
        rw [HX.out] at EOL
        clear HX
        obtain ⟨x1, x2, x3⟩ := x
        cases x3 with
        | true =>
          go_wp2_with fail
          refine EOL.out.mono ?_
          rintro e w6 ⟨rfl, hD6⟩
          have M := hide (MORE.out (n + t + x1, x2, true) w6 (by rw [STEP.out]; rfl) rfl (by
            have e : q + (n + t + x1) = q + n + t + x1 := by omega
            show DecIn w B d S all (q + (n + t + x1)) (q + (n + t + x1)) sec sk esc (line + (x2 : Nat)) er w6
            rw [e]
            exact hD6.self.weak (by omega)))
          clear EOL hD6 END MORE HD1 HLE HB HLL HLN STEP HQT HQN HDR HNE HN
          go_wp2
          go_roundg (gk - (n + t + x1))
          case measure => exact M.out.2
          case rel => exact M.out.1
        | false =>
          go_wp2_with fail
          refine EOL.out.mono ?_
          rintro e w6 ⟨rfl, hD6⟩
          obtain ⟨r0', d2, d3, d4, d5, d6⟩ := hD6.seek
          have R := hide (END.out (0, 0, false) _ (by rw [STEP.out]; rfl) rfl (((d6.out q (by have := HQT.out; have := HQN.out; omega)).weak (lo' := q + 0) (by have := HQT.out; have := HQN.out; omega)).line_eq (by
            have := HF.out (by simp)
            injection this with _ h2
            injection h2 with h2 _
            rw [h2])))
          rw [Int.natCast_add] at R
          have i3 : (r0' : Int) + (q : Int) ≤ 8388608 := by omega
          clear d5 d6 HF EOL hD6 END MORE HD1 HLE HB HLL HLN STEP HQT HQN HDR HNE HN
          go_wp2
          exact bodyPost_ret (v := .tuple #[]) (results_none rfl _ _ _) rfl ⟨rfl, R.out⟩
      · have b35 : ((c.toNat : Int) == 35) = false := (byte_is c 35 (by omega)).trans (decide_eq_false h35)
        rw [if_neg h35, ← HDR.out] at STEP
        go_wp2_with fail
        refine AT.out.mono ?_
        rintro e w3 ⟨rfl, hx3⟩
        have HD3 := hide (HD2.out.ext hx3)
        clear hx3 AT HD2 h35
        by_cases h10 : c = 10
        · subst h10
          have hx0 : eolAt (all.drop (q + n)) = (1, 1, true) := by rw [HDR.out]; rfl
          have STEP2 : Hid (skipStep (all.drop q) = (n + 1, 1, true)) := hide (by rw [STEP.out, hx0]; rfl)
          obtain ⟨l1, l2, l3⟩ := HD3.out.lineAt
          have ADV : Hid (∀ w4, w4 = w3.setCell ⟨d, 8, none⟩ (.int .i64 (line + 1)) → Calls Tryd.prog 66 #[.pointer (some ⟨d, 0, none⟩), .int .i64 1] w4 fun e w' => e = .returned (.tuple #[]) ∧ DecIn w B d S all (q + n + 1) (min all.length (q + n + 1)) sec sk esc (line + 1) er w') := hide fun w4 h4 => by
            subst h4
            exact advance_in 1 (l3.out (line + 1)) (by omega)
          have hl1 : line ≤ 20000000 := HLN.out.2
          have hl0 : 0 ≤ line := HLN.out.1
          clear hx0 l3 HD3 STEP HD1 HLE HB HLL HLN HNE HN
          go_wp2_with fail
          refine (ADV.out _ rfl).mono ?_
          rintro e w5 ⟨rfl, hD5⟩
          have M := hide (MORE.out (n + 1, 1, true) w5 STEP2.out rfl (by
            have e : q + (n + 1) = q + n + 1 := by omega
            show DecIn w B d S all (q + (n + 1)) (q + (n + 1)) sec sk esc (line + 1) er w5
            rw [e]
            exact hD5.self.weak (by omega)))
          clear hD5 ADV END MORE STEP2 HQN HDR
          go_wp2
          go_roundg (gk - (n + 1))
          case measure => exact M.out.2
          case rel => exact M.out.1
        · have b10 : ((c.toNat : Int) == 10) = false := (byte_is c 10 (by omega)).trans (decide_eq_false h10)
          by_cases h13 : c = 13
          · subst h13
            have EOL := hide (takeEOL_in HD3.out HB.out HLN.out.1 (by have := HLN.out.2; omega))
            have HF := hide (eolAt_false (all.drop (q + n)))
            generalize eolAt (all.drop (q + n)) = x at EOL STEP HF
            obtain ⟨x1, x2, x3⟩ := x
            cases x3 with
            | true =>
              have STEP2 : Hid (skipStep (all.drop q) = (n + x1, x2, true)) := hide (by rw [STEP.out]; rfl)
              clear STEP HF
              go_wp2_with fail
              refine EOL.out.mono ?_
              rintro e w6 ⟨rfl, hD6⟩
              have M := hide (MORE.out (n + x1, x2, true) w6 STEP2.out rfl (by
                have e : q + (n + x1) = q + n + x1 := by omega
                show DecIn w B d S all (q + (n + x1)) (q + (n + x1)) sec sk esc (line + (x2 : Nat)) er w6
                rw [e]
                exact hD6.self.weak (by omega)))
              clear EOL hD6 END MORE HD1 HLE HB HLL HLN STEP2 HQN HDR HNE HN HD3
              go_wp2
              go_roundg (gk - (n + x1))
              case measure => exact M.out.2
              case rel => exact M.out.1
            | false =>
              have STEP2 : Hid (skipStep (all.drop q) = (n, 0, false)) := hide (by rw [STEP.out]; rfl)
              have HX := HF.out rfl
              injection HX with hx1 hx2
              injection hx2 with hx2 _
              subst hx1 hx2
              clear STEP HF
              go_wp2_with fail
              refine EOL.out.mono ?_
              rintro e w6 ⟨rfl, hD6⟩
              have R := hide (END.out (n, 0, false) w6 STEP2.out rfl (hD6.weak (by have := HQN.out; omega)))
              clear EOL hD6 END MORE HD1 HLE HB HLL HLN STEP2 HQN HDR HNE HN HD3
              go_wp2
              exact bodyPost_ret (v := .tuple #[]) (results_none rfl _ _ _) rfl ⟨rfl, R.out⟩
          · have b13 : ((c.toNat : Int) == 13) = false := (byte_is c 13 (by omega)).trans (decide_eq_false h13)
            have he0 : eolAt (all.drop (q + n)) = (0, 0, false) := by rw [HDR.out]; simp [eolAt, h10, h13]
            have R := hide (END.out (n, 0, false) w3 (by rw [STEP.out, he0]; rfl) rfl ((HD3.out.weak (by have := HQN.out; omega)).line_eq (by simp)))
            clear he0 h10 h13 HD3 END MORE HD1 HLE HB HLL HLN STEP HQN HNE HN HDR
            go_wp2
            exact bodyPost_ret (v := .tuple #[]) (results_none rfl _ _ _) rfl ⟨rfl, R.out⟩
    · have he : all.length = q + n := by have := HQN.out; omega
      have STEP := hide (step_end (all.drop q) (by rw [List.length_drop, ← HNE.out]; omega))
      rw [← HNE.out] at STEP
      have AT := hide (at_in' 0 (by omega) HD2.out (Nat.le_refl _))
      rw [Nat.add_zero, byteAt_out (by omega)] at AT
      go_wp2_with fail
      refine AT.out.mono ?_
      rintro e w3 ⟨rfl, hx3⟩
      have R := hide (END.out _ w3 STEP.out rfl ((HD2.out.ext hx3).weak (by omega) |>.line_eq (by simp)))
      clear hx3 AT HD2 END MORE HD1 HLE HB HLL HLN STEP HQN HNE HN
      go_wp2
      exact bodyPost_ret (v := .tuple #[]) (results_none rfl _ _ _) rfl ⟨rfl, R.out⟩
end Go.Proofs.YtejngpbeogaapaaDoor
