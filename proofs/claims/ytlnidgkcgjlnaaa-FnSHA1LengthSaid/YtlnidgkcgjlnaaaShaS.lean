/-
  (*sha1.digest).Sum, sha1.#[.int .u8 0, .int .u8 0, .int .u8 0, .int .u8 0, .int .u8 0, .int .u8 0, .int .u8 0, .int .u8 0, .int .u8 0, .int .u8 0, .int .u8 0, .int .u8 0, .int .u8 0, .int .u8 0, .int .u8 0, .int .u8 0, .int .u8 0, .int .u8 0, .int .u8 0, .int .u8 0]Sums: the sum of pieces.
-/
import Derived.Test.YtlnidgkcgjlnaaaShaN
import Derived.Test.YtlnidgkcgjlnaaaGrow
namespace Go.Proofs.Ytlnidgkcgjlnaaa
open Go.RowKit
set_option linter.unusedVariables false
set_option linter.unusedSimpArgs false

section
variable {P : Program} {ops : Array Oper} {rest : List Oper} {o : Oper} {a : Act} {Q : Exit → Act → World → Prop} {w w' : World}
theorem wpL_val {v : Value} (hg : o.guard = none) (hr : (execOp a.eval o).run P w = .ok (.value v) w') (h : wpList P ops Q rest (a.put o.dst v) w') : wpList P ops Q (o :: rest) a w :=
  wpList_plain hg fun K hK => by unfold Oper.wp; rw [hr]; exact hK _ _ h
theorem wpL_call {f : FuncId} {args : Array Value} (R : Value → World → Prop) (hg : o.guard = none) (hr : (execOp a.eval o).run P w = .ok (.enter f args) w) (hc : Calls P f args w fun e w' => ∃ v, e = .returned v ∧ R v w') (h : ∀ v w', R v w' → wpList P ops Q rest (a.put o.dst v) w') : wpList P ops Q (o :: rest) a w :=
  wpList_plain hg fun K hK => by
    unfold Oper.wp
    rw [hr]
    simp only [Oper.upon]
    exact hc.mono (by
      rintro e w' ⟨v, rfl, hR⟩
      exact hK _ _ (h v w' hR))
end
theorem digC_one (s : W5) (x : Nat → Int) (nx len : Int) : (digC s x nx len).all (·.oneCell') = true := by
  rw [Array.all_eq_true_iff_forall_mem]
  intro v hv
  unfold digC at hv
  simp only [List.mem_toArray, List.mem_map] at hv
  obtain ⟨i, _, rfl⟩ := hv
  unfold digF
  repeat' split
  all_goals rfl
theorem ext_of_grown_none {w w' : World} (h : w.grownBy w' none) : Ext w w' := ⟨h.os, h.tape, h.output, h.size, fun i hi => h.block i hi (by simp)⟩
theorem digC_zsize : Try.zeroCells94.size = 71 := by kernel_rfl
set_option maxRecDepth 100000 in
set_option maxHeartbeats 4000000 in
theorem sum_any (BG : BlockG) (w : World) (d : Nat) (l : List UInt8) (hs : ShaX w d l l.length) (hl : l.length ≤ 100000) :
    Calls Try.prog 47 #[.pointer (some ⟨d, 0, none⟩), .slice none 0 0] w fun e w' => ∃ A c, e = .returned (.slice A 20 c) ∧ RBytes w' A (shaSum l) ∧ Ext w w' := by
  have HBG := hide BG
  obtain ⟨x, hD, hx⟩ := hs
  have HD := hide hD
  have HX := hide hx
  clear hD hx BG
  go_enter Try.func47, Try.ntmps47
  go_upto_region 1 with fail
  refine wp_region_lit ?_
  refine wpL_val rfl (w' := w) (v := .pointer (some ⟨d, 0, none⟩)) rfl ?_
  refine wpL_val rfl (w' := w) (v := .pointer (some ⟨d, 0, none⟩)) rfl ?_
  refine wpList_load_row rfl 94 _ rfl d rfl 94 (digC (shaState l) x ((l.length % 64 : Nat) : Int) (l.length : Int)) (0, 0) _ HD.out Try.underlying94 rfl (by rw [digC_size]; kernel_rfl) ?_
  refine wpL_val rfl (w' := w.alloc (.cells Try.zeroCells94 94)) (v := .pointer (some ⟨w.heap.size, 0, none⟩)) (by kernel_rfl) ?_
  refine wpList_store_row rfl 94 _ _ rfl w.heap.size (digC (shaState l) x ((l.length % 64 : Nat) : Int) (l.length : Int)) rfl rfl 94 _ (Blk.new w _ _) (by rw [digC_size]; kernel_rfl) (by rw [digC_size, digC_zsize]) (digC_one _ _ _ _) ?_
  have HS : Hid (ShaX ((w.alloc (.cells Try.zeroCells94 94)).setRow w.heap.size (digC (shaState l) x ((l.length % 64 : Nat) : Int) (l.length : Int))) w.heap.size l l.length) := hide ⟨x, Blk.setRow_ (Blk.new w _ _) _, HX.out⟩
  have HE : Hid (Ext w ((w.alloc (.cells Try.zeroCells94 94)).setRow w.heap.size (digC (shaState l) x ((l.length % 64 : Nat) : Int) (l.length : Int)))) := hide (Chg.ext (((Chg.of_ext ((Ext.refl w).alloc _) [w.heap.size]).setRow (.inl (by simp)) _)) (by simp))
  generalize (w.alloc (.cells Try.zeroCells94 94)).setRow w.heap.size (digC (shaState l) x ((l.length % 64 : Nat) : Int) (l.length : Int)) = W1 at HS HE ⊢
  simp only [Act.put]
  generalize Value.agg (digC (shaState l) x ((l.length % 64 : Nat) : Int) (l.length : Int)) = VD
  go_upto_region 2 with fail
  have CS := hide (checkSum_any HBG.out W1 w.heap.size l HS.out hl)
  refine wp_region_lit ?_
  refine wpL_call (f := 54) (args := #[.pointer (some ⟨w.heap.size, 0, none⟩)]) (fun v w' => v = .agg (kArr .u8 20 (lb (shaSum l))) ∧ Chg [w.heap.size] W1 w') rfl (by kernel_rfl) (CS.out.mono (by rintro e w' ⟨rfl, h⟩; exact ⟨_, rfl, rfl, h⟩)) ?_
  rintro v W2 ⟨rfl, hC⟩
  refine wpL_val rfl (w' := W2.alloc (.cells #[.int .u8 0, .int .u8 0, .int .u8 0, .int .u8 0, .int .u8 0, .int .u8 0, .int .u8 0, .int .u8 0, .int .u8 0, .int .u8 0, .int .u8 0, .int .u8 0, .int .u8 0, .int .u8 0, .int .u8 0, .int .u8 0, .int .u8 0, .int .u8 0, .int .u8 0, .int .u8 0] 96)) (v := .pointer (some ⟨W2.heap.size, 0, none⟩)) (by kernel_rfl) ?_
  refine wpList_store_row rfl 96 _ _ rfl W2.heap.size (kArr .u8 20 (lb (shaSum l))) rfl rfl 96 _ (Blk.new W2 _ _) (by rw [kArr_size]; kernel_rfl) (by rw [kArr_size]; rfl) (by simp [kArr, Value.oneCell']) ?_
  have HK : Hid (KAt ((W2.alloc (.cells #[.int .u8 0, .int .u8 0, .int .u8 0, .int .u8 0, .int .u8 0, .int .u8 0, .int .u8 0, .int .u8 0, .int .u8 0, .int .u8 0, .int .u8 0, .int .u8 0, .int .u8 0, .int .u8 0, .int .u8 0, .int .u8 0, .int .u8 0, .int .u8 0, .int .u8 0, .int .u8 0] 96)).setRow W2.heap.size (kArr .u8 20 (lb (shaSum l)))) W2.heap.size 96 .u8 20 (lb (shaSum l))) := hide (Blk.setRow_ (Blk.new W2 _ _) _)
  have HE2 : Hid (Ext w ((W2.alloc (.cells #[.int .u8 0, .int .u8 0, .int .u8 0, .int .u8 0, .int .u8 0, .int .u8 0, .int .u8 0, .int .u8 0, .int .u8 0, .int .u8 0, .int .u8 0, .int .u8 0, .int .u8 0, .int .u8 0, .int .u8 0, .int .u8 0, .int .u8 0, .int .u8 0, .int .u8 0, .int .u8 0] 96)).setRow W2.heap.size (kArr .u8 20 (lb (shaSum l))))) := hide (by
    have h1 : Ext w W2 := Chg.ext ((Chg.of_ext HE.out [w.heap.size]).trans hC) (by simp)
    exact h1.trans (Chg.ext (((Chg.of_ext ((Ext.refl W2).alloc _) [W2.heap.size]).setRow (.inl (by simp)) _)) (by simp)))
  generalize (W2.alloc (.cells #[.int .u8 0, .int .u8 0, .int .u8 0, .int .u8 0, .int .u8 0, .int .u8 0, .int .u8 0, .int .u8 0, .int .u8 0, .int .u8 0, .int .u8 0, .int .u8 0, .int .u8 0, .int .u8 0, .int .u8 0, .int .u8 0, .int .u8 0, .int .u8 0, .int .u8 0, .int .u8 0] 96)).setRow W2.heap.size (kArr .u8 20 (lb (shaSum l))) = W3 at HK HE2 ⊢
  generalize W2.heap.size = g at HK ⊢
  simp only [Act.put]
  generalize Value.agg (kArr .u8 20 (lb (shaSum l))) = VS
  clear CS HS HE hC
  have hsl : (shaSum l).length = 20 := W5.out_length _
  obtain ⟨v', w', hrun, hown, hgr, hsn⟩ := append_bytes W3 (.slice none 0 0) [] (shaSum l) 20 ⟨g, 0, none⟩ 20 (World.ownsRow_nil _ _ _ _) (fun j hj => by
    have ha : (⟨g, 0, none⟩ : Addr).add j = ⟨g, j, none⟩ := by unfold Addr.add; split <;> simp_all
    rw [ha, HK.out.cell (by omega), lb_at hj]) hsl (by simp)
  obtain ⟨A', c', hv, _, _⟩ := own_form hown
  rw [List.nil_append, hsl] at hv
  subst hv
  have HR : Hid (RBytes w' A' (shaSum l) ∧ Ext w w') := hide ⟨by
    have h := Reads.of_own (show w'.ownsRow 0 5 1 (.slice A' (shaSum l).length c') (shaSum l).length (bs (shaSum l)) from by rw [List.nil_append] at hown; rw [hsl]; rw [← hsl]; rw [hsl]; simpa [OwnB, hsl] using hown)
    exact h, HE2.out.trans (ext_of_grown_none hgr)⟩
  clear hown hgr hsn HK HE2
  go_wp2_with (at_builtin; refine wpList_append_run rfl _ _ _ _ rfl _ _ _ rfl rfl hrun ?_)
  go_ret
  exact ⟨A', c', rfl, HR.out.1, HR.out.2⟩
/-- A slice of slices of bytes, none of them empty. -/
def PiecesAt (w : World) (A : Option Addr) (ps : List (List UInt8)) : Prop :=
  ∃ xs : List Value, Reads w w.heap.size 1 A ps.length xs ∧ ∀ (i : Nat) (p : List UInt8), ps[i]? = some p → ∃ A' c, xs[i]? = some (Value.slice A' p.length c) ∧ p.length ≤ c ∧ c ≤ maxLen ∧ RBytes w A' p ∧ 0 < p.length
theorem flatten_snoc {ps : List (List UInt8)} {k : Nat} {p : List UInt8} (h : ps[k]? = some p) : (ps.take (k + 1)).flatten = (ps.take k).flatten ++ p := by
  obtain ⟨hk, e⟩ := List.getElem?_eq_some_iff.1 h
  rw [List.take_succ_eq_append_getElem hk, List.flatten_append, e]
  simp
theorem flatten_take_le (ps : List (List UInt8)) (k : Nat) : (ps.take k).flatten.length ≤ ps.flatten.length := by
  have h : (ps.take k ++ ps.drop k).flatten.length = ps.flatten.length := by rw [List.take_append_drop]
  rw [List.flatten_append, List.length_append] at h
  omega
set_option maxRecDepth 100000 in
set_option maxHeartbeats 4000000 in
theorem zzSums_any (BG : BlockG) (w : World) (A : Option Addr) (n cap : Nat) (ps : List (List UInt8)) (h : PiecesAt w A ps) (hn : ps.length = n) (hc : n ≤ cap) (hcm : cap ≤ maxLen) (hT : ps.flatten.length ≤ 100000) :
    Calls Try.prog 37 #[.slice A n cap, .slice none 0 0] w fun e w' => ∃ A c, e = .returned (.slice A 20 c) ∧ RBytes w' A (shaSum ps.flatten) ∧ Ext w w' := by
  have HBG := hide BG
  have HP := hide h
  have HT := hide hT
  have HN := hide hn
  unfold maxLen at hcm
  clear BG h hT hn
  go_enter Try.func37, Try.ntmps37
  go_wp2_with (go_at_call 45; refine (new_any w).mono ?_; rintro e W1 ⟨rfl, hS, hX⟩)
  have HI : Hid (ShaX W1 w.heap.size (ps.take 0).flatten ((ps.take 0).flatten.length : Int) ∧ Ext w W1) := hide ⟨by simpa using hS, hX⟩
  obtain ⟨d, hd⟩ : ∃ d, d = w.heap.size := ⟨_, rfl⟩
  rw [← hd] at HI
  rw [← hd]
  have HD := hide hd
  clear hS hX hd
  go_loopw [11] (fun s11 wr => ∃ k : Nat, k ≤ n ∧ s11 = .int .i64 k ∧ Hid (ShaX wr d (ps.take k).flatten ((ps.take k).flatten.length : Int) ∧ Ext w wr)) (fun s11 _ => n - (intOf s11).toNat)
  case atStart => exact ⟨0, by omega, rfl, HI⟩
  case round =>
    clear HI
    obtain ⟨k, hk, rfl, HI⟩ := hrel
    by_cases hlt : k < n
    · obtain ⟨xs, hR, hxs⟩ := HP.out
      have hkp : k < ps.length := by rw [HN.out]; exact hlt
      obtain ⟨A', c, hx, hpc, hcm', hRB, hpos⟩ := hxs k ps[k] (List.getElem?_eq_getElem hkp)
      obtain ⟨ad, u, rfl, hab, hu, hcell⟩ := Reads.at_ hR hkp
      rw [hx] at hu
      injection hu with hu
      subst hu
      have HF := hide (flatten_snoc (List.getElem?_eq_getElem hkp))
      have HTL := hide (flatten_take_le ps (k + 1))
      generalize ps[k] = p at hcell hpc hRB hpos HF
      have ck := HI.out.2.cellOf hcell
      have HRB := hide (hRB.ext HI.out.2)
      have HNE : Hid (∀ ad, A' = some ad → ad.block ≠ d) := hide (by
        rintro ad rfl
        obtain ⟨ad2, e, hb, _⟩ := hRB.addr hpos
        injection e with e
        subst e
        have := HD.out
        omega)
      obtain ⟨P, hP⟩ : ∃ P, P = p.length := ⟨_, rfl⟩
      rw [← hP] at ck hpc hpos
      have HPL := hide hP.symm
      have HWR := hide (write_any HBG.out wr d (ps.take k).flatten p P c A' HI.out.1 hP.symm HRB.out HNE.out hpos hpc hcm' (by
        have h1 := HTL.out
        rw [HF.out, List.length_append, ← hP] at h1
        have := HT.out
        omega))
      unfold maxLen at hcm'
      clear hx hxs hRB hcell hR hab hkp hP
      have hlt' : (k : Int) < (n : Int) := by omega
      go_wp2_with (go_at_call 46; refine HWR.out.mono ?_; rintro e W2 ⟨rfl, hS2, hC2⟩)
      go_roundw
      case rel =>
        refine ⟨k + 1, by omega, by go_num, hide ⟨?_, ?_⟩⟩
        · rw [HF.out, List.length_append, HPL.out]
          simpa using hS2
        · exact Chg.ext ((Chg.of_ext HI.out.2 [d]).trans hC2) (by simp; have := HD.out; omega)
      case measure => simp [intOf]; omega
    · have hlt' : ¬ (k : Int) < (n : Int) := by omega
      have HS : Hid (ShaX wr d ps.flatten (ps.flatten.length : Int) ∧ Ext w wr) := hide (by
        have h := HI.out
        rwa [List.take_of_length_le (by have := HN.out; omega)] at h)
      clear HI
      have SM := hide (sum_any HBG.out wr d ps.flatten HS.out.1 HT.out)
      go_wp2_with (go_at_call 47; refine SM.out.mono ?_; rintro e W2 ⟨A2, c2, rfl, hR2, hX2⟩)
      go_ret
      exact ⟨A2, c2, rfl, hR2, HS.out.2.trans hX2⟩
end Go.Proofs.Ytlnidgkcgjlnaaa
