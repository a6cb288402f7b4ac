/-
  The walk of laws.FnCommandWrite: a command is written as an array of blob strings.
-/
import Derived.Test.YtepeokoeempfgaaGreatDoorImplCW
import Derived.Test.YtepeokoeempfgaaGreatDoorTexts
namespace Go.Proofs.YtepeokoeempfgaaGreatDoor
open Go.RowKit
set_option linter.unusedVariables false
set_option linter.unusedSimpArgs false

theorem wpList_append_run_w {P : Program} {w w' : World} {ops : Array Oper} {rest : List Oper} {o : Oper} {a : Act} {Q : Exit → Act → World → Prop} (hw : Region.wanted o (yielded ops a.tmps) = true) (sl x : Operand) (t u : TypeId)
    (ho : o.op = .call { callee := .builtin .append, args := #[sl, x], argTypes := #[t, u] }) (v1 v2 r : Value) (hs : a.eval sl = v1) (hx : a.eval x = v2)
    (hr : (Builtin.append_ #[t, u] o.type #[v1, v2]).run P w = .ok r w') (h : wpList P ops Q rest (a.put o.dst r) w') : wpList P ops Q (o :: rest) a w := by
  unfold wpList
  rw [if_pos hw]
  left
  unfold Oper.wp execOp
  simp only [ho, resolve, invoke, builtin, Sem.run_bind, Sem.run_pure, Result.andThen_ok, List.map_toArray, List.map_cons, List.map_nil, hs, hx, hr]
  exact h
/-- 'append([]string{s}, l...)'. -/
theorem run_cons_strs (w : World) (b : Nat) (s : ByteArray) (A : Option Addr) (cap n : Nat) (l : List ByteArray) (hb : Blk w b 9 #[.string s]) (hR : RS w A l) (hn : l.length = n) (hl : n ≤ 1000000) :
    ∃ A' cap' w', (Builtin.append_ #[22, 22] 22 #[.slice (some ⟨b, 0, none⟩) 1 1, .slice A n cap]).run Tryz.prog w = .ok (.slice (some A') (1 + n) cap') w' ∧ RS w' (some A') (s :: l) ∧ Ext w w' := by
  subst hn
  obtain ⟨i0, hi, hz0, hz1, hz2⟩ := info_parts info_str
  by_cases h0 : l.length = 0
  · have : l = [] := List.eq_nil_of_length_eq_zero h0
    subst this
    have hs : Src Tryz.prog i0.size 22 (.slice A 0 cap) 0 [] w := by
      rcases A with _ | ad
      · exact Src.ofNil w Tryz.underlying22 cap
      · exact Src.ofSlice w Tryz.underlying22 ad 0 cap [] (by simp) (by simp) (by simp)
    have h := run_append_room_src w 22 22 22 9 i0 Tryz.underlying22 hi b 0 1 1 _ 0 [] hs (by omega) (by simp) (by simp)
    refine ⟨_, _, _, h, ⟨by simp [ss], fun _ => ⟨_, rfl, ?_, fun j u hu => ?_⟩⟩, ?_⟩
    · simpa [World.setCells] using hb.lt
    · match j, hu with
      | 0, hu =>
        have ha : (⟨b, 0, none⟩ : Addr).add 0 = ⟨b, 0, none⟩ := by simp [Addr.add_lit]
        simp [ss] at hu
        subst hu
        rw [ha]
        simp [World.setCells]
        rw [hb.cell]; rfl
      | j + 1, hu => simp [ss] at hu
    · simp [World.setCells]
      exact Ext.refl w
  · obtain ⟨ad, rfl, hab, hac⟩ := hR.addr (by omega)
    have hs : Src Tryz.prog i0.size 22 (.slice (some ad) l.length cap) l.length (ss l) w := Src.ofSlice w Tryz.underlying22 ad l.length cap (ss l) (by rw [hz1, ss_length]; omega) (fun j u hu => by
      have hj : j < l.length := by
        have := (List.getElem?_eq_some_iff.1 hu).1
        rwa [ss_length] at this
      rw [ss_getElem?, List.getElem?_eq_getElem hj] at hu
      simp at hu
      rw [hac j hj, hu]) (ss_one l)
    have h := run_append_grow_src w 22 22 22 9 i0 _ Tryz.underlying22 hi hz0 (some ⟨b, 0, none⟩) 1 1 [.string s] (by
      rw [hz1]
      exact run_firstCells_some w.drew 1 1 ⟨b, 0, none⟩ 1 1 [.string s] (by simp) (fun j v hv => by
        match j, hv with
        | 0, hv =>
          have ha : (⟨b, 0, none⟩ : Addr).add 0 = ⟨b, 0, none⟩ := by simp [Addr.add_lit]
          simp at hv
          subst hv
          rw [ha, (hb.drew).cell]; rfl
        | j + 1, hv => simp at hv)) _ l.length (ss l) hs (by omega) (by omega) (by
      rw [hz2]
      have h1 : Builtin.nextslicecap (1 + l.length) 1 ≤ 1000100 := by
        unfold Builtin.nextslicecap
        split
        · omega
        · split <;> omega
      omega)
    refine ⟨_, _, _, h, ⟨by simp [ss], fun _ => ⟨_, rfl, by simp, fun j u hu => ?_⟩⟩, ((Ext.refl w).drew).alloc _⟩
    have hj : j < (s :: l).length := by
      have := (List.getElem?_eq_some_iff.1 hu).1
      rwa [ss_length] at this
    have ha : (⟨w.heap.size, 0, none⟩ : Addr).add j = ⟨w.heap.size, j, none⟩ := by unfold Addr.add; split <;> simp_all
    rw [ha, (Blk.new_at _ _ _ (by simp)).cell]
    rw [Array.getElem?_append_left (by simp [ss] at hj ⊢; omega)]
    simpa [ss] using hu

set_option maxRecDepth 100000 in
set_option maxHeartbeats 2000000 in
theorem fnCommandWrite_walk (s : ByteArray) (A : Option Addr) (cap : Nat) (l : List ByteArray) (_hs : s.size ≤ maxLen) (hc : l.length ≤ cap) (hm : cap ≤ maxLen) (hz : ∀ s ∈ l, s.size ≤ maxLen) (w : World) (hT : TabsU w) (hP : Tab10 w.heap.size w) (hR : RS w A l) :
    Calls Tryz.prog 3 #[.string s, .slice A l.length cap] w fun e w' => e = .returned (.bool true) ∧ Below w.heap.size w w' := by
  by_cases h1 : 2147483647 < (s.size : Int)
  · have d1 := decide_eq_true h1
    clear hR hz hT hP
    go_enter Tryz.func3, Tryz.ntmps3
    go_wp2
    go_ret
    exact ⟨rfl, Below.refl _ _⟩
  have d1 := decide_eq_false h1
  have FI := hide (fits_any A cap l w hR hc hm hz)
  cases hF : fitsB l with
  | false =>
    rw [hF] at FI
    clear hR hz hF hT hP
    go_enter Tryz.func3, Tryz.ntmps3
    go_wp2_with fail
    refine FI.out.mono ?_
    rintro e w1 ⟨rfl, rfl⟩
    go_wp2
    go_ret
    exact ⟨rfl, Below.refl _ _⟩
  | true =>
    rw [hF] at FI
    have hf2 : l.length ≤ 2147483647 ∧ ∀ s ∈ l, s.size ≤ 2147483647 := by
      unfold fitsB at hF
      rw [Bool.and_eq_true, decide_eq_true_eq, List.all_eq_true] at hF
      exact ⟨hF.1, fun s hs => by simpa using hF.2 s hs⟩
    have RI := right_any ⟨#[]⟩ A cap l w hR (by decide) hf2.1 hf2.2
    have RI := hide RI
    cases hV : rightB ⟨#[]⟩ l with
    | false =>
      rw [hV] at RI
      clear hR hz hF hV hT hP
      go_enter Tryz.func3, Tryz.ntmps3
      go_wp2_with fail
      refine FI.out.mono ?_
      rintro e w1 ⟨rfl, rfl⟩
      go_wp2_with fail
      refine RI.out.mono ?_
      rintro e w1 ⟨rfl, rfl⟩
      go_wp2
      go_ret
      exact ⟨rfl, Below.refl _ _⟩
    | true =>
      rw [hV] at RI
      have hr2 : l.length ≤ 50 ∧ ∀ s ∈ l, s.size ≤ 200 := by
        unfold rightB at hV
        simp only [Bool.and_eq_true, decide_eq_true_eq, List.all_eq_true] at hV
        exact ⟨hV.1.1.1, hV.1.1.2⟩
      by_cases h2 : 200 < (s.size : Int)
      · have d2 := decide_eq_true h2
        clear hR hz hF hV hT hP
        go_enter Tryz.func3, Tryz.ntmps3
        go_wp2_with fail
        refine FI.out.mono ?_
        rintro e w1 ⟨rfl, rfl⟩
        go_wp2_with fail
        refine RI.out.mono ?_
        rintro e w1 ⟨rfl, rfl⟩
        go_wp2
        go_ret
        exact ⟨rfl, Below.refl _ _⟩
      have d2 := decide_eq_false h2
      obtain ⟨n, hn⟩ : ∃ n, l.length = n := ⟨_, rfl⟩
      have IM := hide (implCW_any s A cap n l w hT hP hR hn (by omega) (by omega) (fun x hx => by have := hr2.2 x hx; omega))
      have HR := hide hR
      have HL : Hid (∀ x ∈ s :: l, x.size ≤ 1000) := hide fun x hx => by
        rw [List.mem_cons] at hx
        rcases hx with rfl | hx
        · omega
        · have := hr2.2 x hx; omega
      have HN : Hid ((s :: l).length = 1 + n) := hide (by simp; omega)
      rw [hn] at FI RI ⊢
      have hn50 : n ≤ 50 := by omega
      clear hR hz hF hV hT hP hr2 hf2 hc hm
      go_enter Tryz.func3, Tryz.ntmps3
      go_wp2_with fail
      refine FI.out.mono ?_
      rintro e w1 ⟨rfl, rfl⟩
      go_wp2_with fail
      refine RI.out.mono ?_
      rintro e w1 ⟨rfl, rfl⟩
      go_wp2_with fail
      refine IM.out.mono ?_
      rintro e w1 ⟨rfl, hx1⟩
      obtain ⟨A2, c2, w2, hrun, hR2, hx2⟩ := run_cons_strs (w1.alloc (.cells #[.string s] 9)) w1.heap.size s A cap n l (Blk.new _ _ _) (HR.out.ext (hx1.alloc _)) hn (by omega)
      have TX := hide (texts_any (some A2) c2 (s :: l) (1 + n) w2 HN.out hR2 (by omega) HL.out)
      have HX := hide ((hx1.alloc (.cells #[.string s] 9)).trans hx2)
      generalize textsW (s :: l) = T at TX ⊢
      clear hR2 hx1 hx2 FI RI IM HR HL HN hn
      go_wp2_with (at_builtin; refine wpList_append_run_w (by rfl) _ _ _ _ rfl _ _ _ rfl rfl hrun ?_)
      refine TX.out.mono ?_
      rintro e w3 ⟨rfl, hx⟩
      have HE := hide (HX.out.trans hx)
      clear hx TX HX
      go_wp2
      go_ret
      exact ⟨by simp, HE.out⟩
end Go.Proofs.YtepeokoeempfgaaGreatDoor
