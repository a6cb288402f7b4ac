/-
  radix.CRC16: its contract.
-/
import Derived.Test.YtlnidgkcgjlnaaaOps
import Derived.Shelf.Bytes.SlIndexAt
import Derived.Deep.DeepCutAuto
import Derived.Deep.WholeRow
import Derived.Laws.Closers25b
namespace Go.Proofs.Ytlnidgkcgjlnaaa
open Go.RowKit
set_option linter.unusedVariables false
set_option linter.unusedSimpArgs false

/-- The builds in a piece of code, in the order of the text. -/
def buildsIn : Code → List Op
  | .region _ ops _ => ops.toList.filterMap fun o => match o.op with | .build t ps => some (.build t ps) | _ => none
  | .seq a b => buildsIn a ++ buildsIn b
  | .cond _ a b => buildsIn a ++ buildsIn b
  | .block _ b => buildsIn b
  | .loop b => buildsIn b
  | .scope b => buildsIn b
  | _ => []
def partsOf : Op → List Value
  | .build _ ps => ps.toList.map fun p => match p.2 with | .const v => v | _ => undef
  | _ => []
/-- The table, as the code builds it. -/
noncomputable def crcOp : Op := ((buildsIn (Try.f43.body.getD .skip)).head?).getD (.move (.const undef))
noncomputable def crcV : Array Value := (partsOf crcOp).toArray
noncomputable def crcT (i : Nat) : Int := match crcV[i]? with | some (.int _ n) => n | _ => 0

theorem crcV_size : crcV.size = 256 := by kernel_rfl
def isU16 (v : Option Value) (n : Int) : Bool := match v with | some (.int .u16 m) => decide (m = n) && decide (0 ≤ m) && decide (m ≤ 65535) | _ => false
theorem isU16_spec {v : Option Value} {n : Int} (h : isU16 v n = true) : v = some (.int .u16 n) ∧ 0 ≤ n ∧ n ≤ 65535 := by
  unfold isU16 at h
  split at h
  · simp only [Bool.and_eq_true, decide_eq_true_eq] at h
    obtain ⟨⟨rfl, h2⟩, h3⟩ := h
    exact ⟨rfl, h2, h3⟩
  · cases h
theorem crcV_all : ((List.range 256).all fun i => isU16 crcV[i]? (crcT i)) = true := by decide +kernel
theorem crcT_spec {i : Nat} (hi : i < 256) : crcV[i]? = some (.int .u16 (crcT i)) ∧ 0 ≤ crcT i ∧ crcT i ≤ 65535 :=
  isU16_spec (List.all_eq_true.1 crcV_all i (List.mem_range.2 hi))

noncomputable def crcStep (c : Int) (b : UInt8) : Int := bits .xor .u16 (IntKind.u16.wrap (c * 256)) (crcT (bits .xor .u8 (c / 256 % 256) b.toNat).toNat)
noncomputable def crcOf (l : List UInt8) : Int := l.foldl crcStep 0
def CrcRange (c : Int) : Prop := 0 ≤ c ∧ c ≤ 65535
theorem crcOf_snoc (l : List UInt8) (b : UInt8) : crcOf (l ++ [b]) = crcStep (crcOf l) b := by simp [crcOf]
theorem crcOf_range (l : List UInt8) : CrcRange (crcOf l) := by
  induction l using snoc_ind with
  | h0 => exact ⟨Int.le_refl _, by decide⟩
  | h1 l b ih => rw [crcOf_snoc]; exact bits_within .xor .u16 _ _

section
variable {P : Program} {ops : Array Oper} {rest : List Oper} {o : Oper} {a : Act} {Q : Exit → Act → World → Prop} {w w' : World}
theorem wpList_val {v : Value} (hg : o.guard = none) (hr : (execOp a.eval o).run P w = .ok (.value v) w') (h : wpList P ops Q rest (a.put o.dst v) w') : wpList P ops Q (o :: rest) a w :=
  wpList_plain hg fun K hK => by unfold Oper.wp; rw [hr]; exact hK _ _ h
theorem wpList_skip (hg : o.guard = none) (hr : (execOp a.eval o).run P w = .ok .skip w') (h : wpList P ops Q rest (a.put o.dst undef) w') : wpList P ops Q (o :: rest) a w :=
  wpList_plain hg fun K hK => by unfold Oper.wp; rw [hr]; exact hK _ _ h
end

set_option maxRecDepth 100000 in
set_option maxHeartbeats 1000000 in
theorem crc_any (w : World) (A : Option Addr) (cap : Nat) (l : List UInt8) (hl : l.length ≤ 5000) (h : RBytes w A l) :
    Calls Try.prog 43 #[.slice A l.length cap] w fun e w' => e = .returned (.int .u16 (crcOf l)) ∧ Ext w w' := by
  go_enter Try.func43, Try.ntmps43
  generalize hob : Op.build 88 _ = ob
  obtain rfl : ob = crcOp := hob.symm.trans (by kernel_rfl)
  clear hob
  go_upto_region 1 with fail
  refine wp_region_lit ?_
  refine wpList_val rfl (w' := w) (v := .agg crcV) (by kernel_rfl) ?_
  refine wpList_val rfl (w' := w.alloc (.cells (Array.replicate 256 (.int .u16 0)) 88)) (v := .pointer (some ⟨w.heap.size, 0, none⟩)) (by kernel_rfl) ?_
  refine wpList_skip rfl (w' := w.alloc (.cells crcV 88)) (by
    have h := run_storeAt_new (P := Try.prog) w 88 (Array.replicate 256 (.int .u16 0)) crcV (by kernel_rfl) (by rw [crcV_size]; rfl) (by kernel_rfl)
    simp only [execOp, Act.eval, Act.put, Sem.run_bind]
    exact Eq.trans (congrArg (fun r => Result.andThen r _) h) rfl) ?_
  have hx : Ext w (w.alloc (.cells crcV 88)) := (Ext.refl w).alloc _
  have hr := h.ext hx
  have HT : Hid (∀ i, i < 256 → (w.alloc (.cells crcV 88)).cell? ⟨w.heap.size, i, none⟩ = some (.int .u16 (crcT i))) := hide fun i hi => by
    rw [(Blk.new w _ _).cell]; exact (crcT_spec hi).1
  generalize w.alloc (.cells crcV 88) = W at hx hr HT
  have HX := hide hx
  have HR := hide hr
  clear hx hr h
  generalize w.heap.size = g at HT
  simp only [Act.put]
  generalize Value.agg crcV = vt
  go_wp2_with fail
  go_loop [4, 11] (fun s4 s11 => ∃ k : Nat, ∃ c : Int, k ≤ l.length ∧ s11 = .int .i64 k ∧ s4 = .int .u16 c ∧ Hid (c = crcOf (l.take k))) (fun _ s11 => l.length - (intOf s11).toNat)
  case atStart => exact ⟨0, 0, by omega, rfl, rfl, hide (by simp [crcOf])⟩
  case round =>
    obtain ⟨k, c, hk, rfl, rfl, HC⟩ := hrel
    by_cases hlt : k < l.length
    · obtain ⟨ad, had, hb, hc⟩ := HR.out.at_ hlt
      subst had
      have hj0 : 0 ≤ bits .xor .u8 (c / 256 % 256) (l[k].toNat : Int) := (bits_within .xor .u8 _ _).1
      have hj1 : bits .xor .u8 (c / 256 % 256) (l[k].toNat : Int) ≤ 255 := (bits_within .xor .u8 _ _).2
      have hT := HT.out (bits .xor .u8 (c / 256 % 256) (l[k].toNat : Int)).toNat (by omega)
      go_wp2
      go_round
      case rel =>
        refine ⟨k + 1, _, by omega, by go_num, rfl, hide ?_⟩
        rw [List.take_succ_eq_append_getElem hlt, crcOf_snoc, ← HC.out]
        rfl
      case measure => simp [intOf]; omega
    · have he : k = l.length := by omega
      have HC : Hid (c = crcOf l) := hide (by have h := HC.out; rwa [he, List.take_length] at h)
      go_wp2
      go_ret
      exact ⟨by rw [HC.out]; rfl, HX.out⟩

theorem crc_foo : crcOf [102, 111, 111] % 16384 = 12182 := by decide +kernel
end Go.Proofs.Ytlnidgkcgjlnaaa
