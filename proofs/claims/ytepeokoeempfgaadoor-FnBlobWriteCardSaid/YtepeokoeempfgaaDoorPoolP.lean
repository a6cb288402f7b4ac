/-
  resp's pool of bytes: get where one waits, put; the frame of the types that are written.
-/
import Derived.Test.YtepeokoeempfgaaDoorPool
namespace Go.Proofs.YtepeokoeempfgaaDoor
open Go.RowKit
set_option linter.unusedVariables false
set_option linter.unusedSimpArgs false

/-- The pool, and what waits in it. -/
def PoolW (w : World) (p : Nat) (h q : Option Nat) : Prop := ∃ used ps, PoolB w p used ps ∧ ps.ownBlock = h ∧
  match q with
  | none => w.ownsRow 0 91 1 ps 0 []
  | some sc => w.ownsRow 0 91 1 ps 1 [.pointer (some ⟨sc, 0, none⟩)]
/-- A scratch: a cell that holds a slice of bytes with a row of its own. -/
def Scr (w : World) (sc : Nat) (v : Value) (l : List UInt8) : Prop := Blk w sc 50 #[v] ∧ OwnB w v l ∧ v.ownBlock ≠ none

theorem own_keep {w w' : World} {B e size n : Nat} {v : Value} {xs : List Value} (h : w.ownsRow B e size v n xs) (hs : ∀ k, v.ownBlock = some k → w'.heap[k]? = w.heap[k]?) : w'.ownsRow B e size v n xs := by
  refine ⟨h.1, ?_⟩
  rcases h.2 with hn | ⟨g, cap, cur, rfl, hb, hg, rest⟩
  · exact .inl hn
  · exact .inr ⟨g, cap, cur, rfl, hb, (hs g rfl).trans hg, rest⟩
theorem own_chg {S : List Nat} {w w' : World} {B e size n : Nat} {v : Value} {xs : List Value} (h : w.ownsRow B e size v n xs) (hc : Chg S w w') (hS : ∀ k, v.ownBlock = some k → k ∉ S) : w'.ownsRow B e size v n xs :=
  own_keep h fun k hk => hc.block k (h.lt k hk).2 (hS k hk)
theorem own_blk {w : World} {B e size n : Nat} {v : Value} {xs : List Value} (h : w.ownsRow B e size v n xs) {k : Nat} (hk : v.ownBlock = some k) : ∃ cur, Blk w k e cur := by
  rcases h.2 with ⟨rfl, _⟩ | ⟨g, cap, cur, rfl, hb, hg, rest⟩
  · simp [Value.ownBlock] at hk
  · simp [Value.ownBlock] at hk
    subst hk
    exact ⟨cur, hg⟩
theorem own_blk_ne' {w : World} {B e size n k : Nat} {v : Value} {xs : List Value} (h : w.ownsRow B e size v n xs) (hk : v.ownBlock = some k) {g : Nat} {t : TypeId} {cs : Array Value} (hg : Blk w g t cs) (hne : e ≠ t) : k ≠ g := by
  obtain ⟨cur, hb⟩ := own_blk h hk
  exact Blk.ne_ hb hg hne
theorem chg_of_grown {w w' : World} {r : Option Nat} (h : w.grownBy w' r) : Chg r.toList w w' := ⟨h.os, h.tape, h.output, h.size, fun k hk hn => h.block k hk (fun e => hn (by subst e; simp))⟩

set_option maxRecDepth 100000 in
set_option maxHeartbeats 1000000 in
theorem get_some (p sc : Nat) (h : Option Nat) (w : World) (hP : PoolW w p h (some sc)) : Calls Tryd.prog 42 #[.pointer (some ⟨p, 0, none⟩)] w fun e w' => e = .returned (.pointer (some ⟨sc, 0, none⟩)) ∧ PoolW w' p h none ∧ Chg [p] w w' := by
  obtain ⟨used, ps, hp, hh, ho⟩ := hP
  rcases ho.2 with ⟨_, hbad⟩ | ⟨g, c, cur, rfl, _, hg, hle, hc, hcs, htk⟩
  · exact absurd hbad (by omega)
  have hgB : Blk w g 91 cur := hg
  have q0 : w.cell? ⟨g, 0, none⟩ = some (.pointer (some ⟨sc, 0, none⟩)) := by
    rw [hgB.cell]
    have : cur.toList[0]? = some (.pointer (some ⟨sc, 0, none⟩)) := by
      have e := congrArg (fun l => l[0]?) htk
      simpa using e
    simpa using this
  have q2 := hp.cell 2
  have f2 := hp.frozen 2
  have hpg : ¬ p = g := Blk.ne_ hp hgB (by decide)
  have hgp : ¬ g = p := fun e => hpg e.symm
  simp at q2
  have END : Hid (∀ n, PoolW ((w.drewN n).setCell ⟨p, 2, none⟩ (.slice (some ⟨g, 0, none⟩) 0 c)) p h none ∧ Chg [p] w ((w.drewN n).setCell ⟨p, 2, none⟩ (.slice (some ⟨g, 0, none⟩) 0 c))) := hide fun n =>
    ⟨⟨used, .slice (some ⟨g, 0, none⟩) 0 c, (by unfold PoolB; simpa using (Blk.drewN hp n).set_ 2 (.slice (some ⟨g, 0, none⟩) 0 c)), hh, ⟨by simp, .inr ⟨g, c, cur, rfl, Nat.zero_le _, (Blk.drewN hgB n).far (by simpa using hgp) _, Nat.zero_le _, hc, hcs, by simp⟩⟩⟩, ((Chg.refl _ _).drewN n).setCell (.inl (by simp)) _⟩
  have hc' : (c : Int) ≤ 9223372036854775807 := by have := hc; unfold maxLen at this; omega
  have hc1 : (1 : Int) ≤ c := by omega
  clear hp hg hgB ho htk hh hcs hc hle
  go_enter Tryd.func42, Tryd.ntmps42
  go_wp2
  go_quiet (fail)
  go_wp2
  refine wp_region_quiet_tail 12 (by kernel_rfl) (by kernel_rfl) ?_
  simp only [List.take_succ_cons, List.take_zero, List.drop_succ_cons, List.drop_zero]
  repeat go_big_quiet_step (fail)
  refine wpQuiet_nil ?_
  go_wp2
  go_ret
  first
    | exact ⟨rfl, END.out _⟩
    | exact ⟨rfl, END.out 0⟩

theorem info_pb : (Tryd.prog.info? 91).map (fun i => (i.zero, i.size, i.bytes)) = some (some (.pointer none), 1, 8) := by kernel_rfl
/-- 'append(pool, b)', the one new pointer in a block of its own. -/
theorem append_ptr (w : World) (ps : Value) (sc : Nat) (ho : w.ownsRow 0 91 1 ps 0 []) (n : Nat) (hn : w.cell? ⟨n, 0, none⟩ = some (.pointer (some ⟨sc, 0, none⟩))) :
    ∃ v' w', (Builtin.append_ #[131, 131] 131 #[ps, .slice (some ⟨n, 0, none⟩) 1 1]).run Tryd.prog w = .ok v' w' ∧ w'.ownsRow 0 91 1 v' 1 [.pointer (some ⟨sc, 0, none⟩)] ∧ w.grownBy w' ps.ownBlock ∧ SameOrNew w ps v' := by
  obtain ⟨i0, hi, hz0, hz1, hz2⟩ := info_parts info_pb
  exact append_own_more (P := Tryd.prog) 0 w 131 131 91 i0 (.pointer none) 1 8 Tryd.underlying131 hi hz0 hz1 hz2 rfl (by decide) ps 0 [] ho ⟨n, 0, none⟩ 1 1 [.pointer (some ⟨sc, 0, none⟩)] (by simp) (fun j u hu => by
    match j, hu with
    | 0, hu =>
      have ha : (⟨n, 0, none⟩ : Addr).add 0 = ⟨n, 0, none⟩ := by simp [Addr.add_lit]
      rw [ha, hn]; simpa using hu
    | j + 1, hu => simp at hu) (by intro u hu; simp at hu; subst hu; rfl) (by unfold maxLen; omega) (by omega) (Nat.zero_le _)

set_option maxRecDepth 100000 in
set_option maxHeartbeats 1000000 in
theorem put_any (p sc : Nat) (h : Option Nat) (v : Value) (l : List UInt8) (u : FrameMode) (w : World) (hP : PoolW w p h none) (hS : Scr w sc v l) :
    CallsD Tryd.prog 43 #[.pointer (some ⟨p, 0, none⟩), .pointer (some ⟨sc, 0, none⟩)] u w fun e u' w' => u' = u ∧ e = .returned (.tuple #[]) ∧ ∃ h' q, PoolW w' p h' q ∧ (q = none ∨ (q = some sc ∧ ∃ v', Scr w' sc v' [] ∧ v'.ownBlock = v.ownBlock)) ∧ (h' = h ∨ ∃ k, h' = some k ∧ w.heap.size ≤ k) ∧ Chg (p :: sc :: h.toList) w w' := by
  obtain ⟨used, ps, hp, hh, ho⟩ := hP
  obtain ⟨hb, hv, hvn⟩ := hS
  rcases hv.2 with ⟨rfl, _⟩ | ⟨g, cap, cur, rfl, _, hg, hle, hc, hcs, htk⟩
  · exact absurd rfl hvn
  have hps : ¬ p = sc := Blk.ne_ hp hb (by decide)
  have hsp : ¬ sc = p := fun e => hps e.symm
  obtain ⟨U, hU⟩ : ∃ U, U = wrap64 (used + cap) := ⟨_, rfl⟩
  have hp1 : PoolB (w.setCell ⟨p, 0, none⟩ (.int .i64 U)) p U ps := by unfold PoolB; simpa using (show Blk w p _ _ from hp).set_ 0 (.int .i64 U)
  have hb1 : Blk (w.setCell ⟨p, 0, none⟩ (.int .i64 U)) sc 50 #[.slice (some ⟨g, 0, none⟩) l.length cap] := hb.far (by simpa using hsp) _
  have hC1 : Chg [p] w (w.setCell ⟨p, 0, none⟩ (.int .i64 U)) := (Chg.refl _ _).setCell (.inl (by simp)) _
  have HP := hide hp
  have HC := hide hC1
  have HH := hide hh
  have HO := hide ho
  have HV := hide hv
  have HB1 := hide hb1
  have HB := hide hb
  have HP1 := hide hp1
  have c0 := hp.cell 0
  have f0 := hp.frozen 0
  have s0 := hb.cell 0
  have p0 := hp1.cell 0
  have p1 := hp1.cell 1
  have p2 := hp1.cell 2
  have x0 := hp1.frozen 0
  have t0 := hb1.cell 0
  have g0 := hb1.frozen 0
  simp at c0 s0 p0 p1 p2 t0
  have hle' : (0 : Int) ≤ cap := by omega
  have hc' : (cap : Int) ≤ 9223372036854775807 := by unfold maxLen at hc; omega
  clear hp ho hh hv hg htk hcs hvn hp1 hb1 hb hC1
  go_enter_d Tryd.func43, Tryd.ntmps43
  go_wp2
  refine wp_region_quiet_tail 9 (by kernel_rfl) (by kernel_rfl) ?_
  simp only [List.take_succ_cons, List.take_zero, List.drop_succ_cons, List.drop_zero]
  repeat go_big_quiet_step (fail)
  refine wpQuiet_nil ?_
  go_wp2
  rw [← hU]
  generalize w.setCell ⟨p, 0, none⟩ (.int .i64 U) = W1 at *
  go_wp2
  go_quiet (fail)
  by_cases hUU : U > 10000000
  · have END : Hid (∀ n, ∃ h' q, PoolW ((W1.drewN n).setCell ⟨p, 0, none⟩ (.int .i64 0)) p h' q ∧ (q = none ∨ (q = some sc ∧ ∃ v', Scr ((W1.drewN n).setCell ⟨p, 0, none⟩ (.int .i64 0)) sc v' [] ∧ v'.ownBlock = (Value.slice (some ⟨g, 0, none⟩) l.length cap).ownBlock)) ∧ (h' = h ∨ ∃ k, h' = some k ∧ w.heap.size ≤ k) ∧ Chg (p :: sc :: h.toList) w ((W1.drewN n).setCell ⟨p, 0, none⟩ (.int .i64 0))) := hide fun n => by
      have hC2 : Chg [p] w ((W1.drewN n).setCell ⟨p, 0, none⟩ (.int .i64 0)) := (HC.out.drewN n).setCell (.inl (by simp)) _
      refine ⟨h, none, ⟨0, ps, by unfold PoolB; simpa using (Blk.drewN (show Blk W1 p _ _ from HP1.out) n).set_ 0 (.int .i64 0), HH.out, ?_⟩, .inl rfl, .inl rfl, hC2.more (fun i hi => .inl (by simp at hi; simp [hi]))⟩
      exact own_chg HO.out hC2 (fun k hk => by
        simp
        exact own_blk_ne' HO.out hk HP.out (by decide))
    go_wp2
    refine bodyPost_ret (v := .tuple #[]) (results_none rfl _ _ _) rfl ⟨rfl, ?_⟩
    first
      | exact END.out _
      | exact END.out 0
  · have hC2 : ∀ n, Chg [p, sc] w (((W1.drewN n).setCell ⟨sc, 0, none⟩ (.slice (some ⟨g, 0, none⟩) 0 cap)).alloc (.cells #[.pointer (some ⟨sc, 0, none⟩)] 91)) := fun n =>
      ((((HC.out.more (S' := [p, sc]) (by simp)).drewN n).setCell (.inl (by simp)) _).alloc _)
    have AO : Hid (∀ n, (((W1.drewN n).setCell ⟨sc, 0, none⟩ (.slice (some ⟨g, 0, none⟩) 0 cap)).alloc (.cells #[.pointer (some ⟨sc, 0, none⟩)] 91)).ownsRow 0 91 1 ps 0 [] ∧ (((W1.drewN n).setCell ⟨sc, 0, none⟩ (.slice (some ⟨g, 0, none⟩) 0 cap)).alloc (.cells #[.pointer (some ⟨sc, 0, none⟩)] 91)).cell? ⟨W1.heap.size, 0, none⟩ = some (.pointer (some ⟨sc, 0, none⟩))) := hide fun n =>
      ⟨own_chg HO.out (hC2 n) (fun k hk => by
        simp
        exact ⟨own_blk_ne' HO.out hk HP.out (by decide), own_blk_ne' HO.out hk HB.out (by decide)⟩), by rw [(Blk.new_at _ _ _ (by simp [World.setCell])).cell]; rfl⟩
    have BB : Hid (∀ n, PoolB (((W1.drewN n).setCell ⟨sc, 0, none⟩ (.slice (some ⟨g, 0, none⟩) 0 cap)).alloc (.cells #[.pointer (some ⟨sc, 0, none⟩)] 91)) p U ps ∧ Blk (((W1.drewN n).setCell ⟨sc, 0, none⟩ (.slice (some ⟨g, 0, none⟩) 0 cap)).alloc (.cells #[.pointer (some ⟨sc, 0, none⟩)] 91)) sc 50 #[.slice (some ⟨g, 0, none⟩) 0 cap] ∧ OwnB (((W1.drewN n).setCell ⟨sc, 0, none⟩ (.slice (some ⟨g, 0, none⟩) 0 cap)).alloc (.cells #[.pointer (some ⟨sc, 0, none⟩)] 91)) (.slice (some ⟨g, 0, none⟩) 0 cap) []) := hide fun n =>
      ⟨((Blk.drewN (show Blk W1 p _ _ from HP1.out) n).far (by simpa using hps) _).alloc _, by simpa using ((HB1.out.drewN n).set_ 0 (.slice (some ⟨g, 0, none⟩) 0 cap)).alloc (.cells #[.pointer (some ⟨sc, 0, none⟩)] 91), by
        obtain ⟨cur2, hg2⟩ := own_blk HV.out (k := g) rfl
        have hv3 := own_chg HV.out (hC2 n) (fun k hk => by
          simp
          exact ⟨own_blk_ne' HV.out hk HP.out (by decide), own_blk_ne' HV.out hk HB.out (by decide)⟩)
        rcases hv3.2 with ⟨e, _⟩ | ⟨g3, cap3, cur3, e, _, hg3, hle3, hc3, hcs3, _⟩
        · cases e
        · injection e with e1 e2 e3
          injection e1 with e1
          injection e1 with e1
          subst e1 e3
          exact ⟨by simp [bs], .inr ⟨g, cap, cur3, rfl, Nat.zero_le _, hg3, Nat.zero_le _, hc3, hcs3, by simp [bs]⟩⟩⟩
    have END : Hid (∀ n v2 w2, AppR 91 ps 1 [.pointer (some ⟨sc, 0, none⟩)] (((W1.drewN n).setCell ⟨sc, 0, none⟩ (.slice (some ⟨g, 0, none⟩) 0 cap)).alloc (.cells #[.pointer (some ⟨sc, 0, none⟩)] 91)) v2 w2 → w2.cell? ⟨p, 2, none⟩ = some ps ∧ w2.frozen? ⟨p, 2, none⟩ = false ∧
        ∃ h' q, PoolW (w2.setCell ⟨p, 2, none⟩ v2) p h' q ∧ (q = none ∨ (q = some sc ∧ ∃ v', Scr (w2.setCell ⟨p, 2, none⟩ v2) sc v' [] ∧ v'.ownBlock = (Value.slice (some ⟨g, 0, none⟩) l.length cap).ownBlock)) ∧ (h' = h ∨ ∃ k, h' = some k ∧ w.heap.size ≤ k) ∧ Chg (p :: sc :: h.toList) w (w2.setCell ⟨p, 2, none⟩ v2)) := hide (by
      intro n v2 w2 hA
      obtain ⟨hown2, hgr2, hsn2⟩ := hA
      obtain ⟨b1, b2, b3⟩ := BB.out n
      have ao := (AO.out n).1
      have cc := hC2 n
      generalize (((W1.drewN n).setCell ⟨sc, 0, none⟩ (.slice (some ⟨g, 0, none⟩) 0 cap)).alloc (.cells #[.pointer (some ⟨sc, 0, none⟩)] 91)) = W4 at *
      have hch := chg_of_grown hgr2
      have hn1 : p ∉ ps.ownBlock.toList := fun hm => by
        have e : ps.ownBlock = some p := by cases hq : ps.ownBlock with
          | none => rw [hq] at hm; simp at hm
          | some k => rw [hq] at hm; simp at hm; rw [hm]
        exact own_blk_ne' ao e b1 (by decide) rfl
      have hn2 : sc ∉ ps.ownBlock.toList := fun hm => by
        have e : ps.ownBlock = some sc := by cases hq : ps.ownBlock with
          | none => rw [hq] at hm; simp at hm
          | some k => rw [hq] at hm; simp at hm; rw [hm]
        exact own_blk_ne' ao e b2 (by decide) rfl
      have hn3 : g ∉ ps.ownBlock.toList := fun hm => by
        obtain ⟨cur3, hg3⟩ := own_blk b3 (k := g) rfl
        have e : ps.ownBlock = some g := by cases hq : ps.ownBlock with
          | none => rw [hq] at hm; simp at hm
          | some k => rw [hq] at hm; simp at hm; rw [hm]
        exact own_blk_ne' ao e hg3 (by decide) rfl
      have b1' : Blk w2 p _ _ := Blk.chg (show Blk W4 p _ _ from b1) hch hn1
      have b2' := b2.chg hch hn2
      have b3' : OwnB w2 _ _ := own_chg b3 hch (fun k hk => by injection hk with hk; subst hk; exact hn3)
      have hx2 : Chg (p :: sc :: h.toList) w w2 := (cc.more (S' := p :: sc :: h.toList) (fun i hi => .inl (by simp at hi ⊢; rcases hi with h1 | h1 <;> simp [h1]))).trans (hch.more (fun i hi => .inl (by rw [HH.out] at hi; simp at hi ⊢; simp [hi])))
      have e2 := b1'.cell 2
      simp at e2
      refine ⟨e2, b1'.frozen 2, v2.ownBlock, some sc, ⟨U, v2, by unfold PoolB; simpa using b1'.set_ 2 v2, rfl, ?_⟩, .inr ⟨rfl, _, ⟨b2'.far (by simpa using hsp) _, ?_, by simp [Value.ownBlock]⟩, rfl⟩, ?_, hx2.setCell (.inl (by simp)) _⟩
      · exact own_keep hown2 (fun k hk => Below.heap_setCell w2 _ _ k (own_blk_ne' hown2 hk b1' (by decide)))
      · exact own_keep b3' (fun k hk => Below.heap_setCell w2 _ _ k (own_blk_ne' b3' hk b1' (by decide)))
      · rcases hsn2 with e | ⟨k, e, hk⟩
        · exact .inl (by rw [e, HH.out])
        · exact .inr ⟨k, e, Nat.le_trans cc.size hk⟩)
    clear hC2 BB
    go_wp2_with (at_builtin; refine wpList_append_ex rfl _ _ _ _ rfl _ _ rfl rfl (AppR 91 ps 1 [.pointer (some ⟨sc, 0, none⟩)]) (hide (append_ptr _ ps sc (AO.out _).1 _ (AO.out _).2)) ?_)
    rintro v2 w2 hA
    obtain ⟨e2, e3, hE⟩ := END.out _ _ _ hA
    obtain ⟨A2, c2, rfl, _, _⟩ := own_form hA.1
    have HE := hide hE
    clear hA hE
    go_wp2
    go_end0
    exact ⟨rfl, HE.out⟩
end Go.Proofs.YtepeokoeempfgaaDoor
