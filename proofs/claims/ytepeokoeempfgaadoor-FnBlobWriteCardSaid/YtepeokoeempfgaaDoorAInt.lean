/-
  strconv.AppendInt at base 10, of a number that is not below 0: the frame is the row itself and new blocks.
-/
import Derived.Test.YtepeokoeempfgaaDoorShelf
import Derived.Test.YtepeokoeempfgaaDoorGrow
import Derived.Lib.ItoaMem
import Derived.Lib.AppendIntMem
import Derived.Lib.ItoaWalk
import Derived.Lib.ItoaLen
namespace Go.Proofs.YtepeokoeempfgaaDoor
open Go.RowKit Go.Sort Go.Lib
set_option linter.unusedVariables false
set_option linter.unusedSimpArgs false

set_option maxRecDepth 100000 in
set_option maxHeartbeats 1000000 in
theorem appendUint_small (u : Nat) (hu : u < 100) (v : Value) (l : List UInt8) (w : World) (hown : OwnB w v l) (hl : l.length ≤ 1000000) :
    Calls Tryd.prog 60 #[v, .int .u64 u, .int .i64 10] w fun e w' => ∃ v', e = .returned v' ∧ OwnB w' v' (l ++ Lib.decDigits u) ∧ w.grownBy w' v.ownBlock ∧ SameOrNew w v v' := by
  have hsz : (⟨(Lib.decDigits u).toArray⟩ : ByteArray).size = (Lib.decDigits u).length := by simp [ByteArray.size]
  have hlen : (Lib.decDigits u).length ≤ 20 := by rw [Lib.decDigits_length]; exact Lib.nDigits_le20 u (by omega)
  obtain ⟨v', w', hrun, ho, hg, hn⟩ := append_str w v l ⟨(Lib.decDigits u).toArray⟩ hown (by rw [hsz]; omega)
  have HO := hide ho
  have HG := hide hg
  have HN := hide hn
  have SM := hide fun w => Tryd.internal_strconv_small u hu w
  have hu' : (u : Int) < 100 := by omega
  clear ho hg hn hsz hlen hown
  go_enter Tryd.func60, Tryd.ntmps60
  go_wp2_with fail
  refine (SM.out _).mono ?_
  rintro e w1 ⟨rfl, rfl⟩
  go_wp2_with (at_builtin; refine wpList_append_run rfl _ _ _ _ rfl _ _ _ rfl rfl hrun ?_)
  go_ret
  exact ⟨v', rfl, by simpa using HO.out, HG.out, HN.out⟩

set_option maxRecDepth 100000 in
set_option maxHeartbeats 4000000 in
theorem appendUint_big (u : Nat) (hu : 100 ≤ u) (hu64 : u < 18446744073709551616) (v : Value) (l : List UInt8) (w : World) (hown : OwnB w v l) (hl : l.length ≤ 1000000)
    (htab : Lib.TabIs Tryd.prog w "internal/strconv.uint64pow10" .u64 Lib.pow10Tab) :
    Calls Tryd.prog 60 #[v, .int .u64 u, .int .i64 10] w fun e w' => ∃ v', e = .returned v' ∧ OwnB w' v' (l ++ Lib.decDigits u) ∧ w.grownBy w' v.ownBlock ∧ SameOrNew w v v' := by
  have hu1 : 1 ≤ u := by omega
  have hnd20 : Lib.nDigits u ≤ 20 := Lib.nDigits_le20 u hu64
  have hsl : ∀ W, (Instr.sliceAt 165 (.pointer (some ⟨w.heap.size, 0, none⟩)) none (some (.int .i64 (Lib.nDigits u : Int))) none).run Tryd.prog W = .ok (.slice (some ⟨w.heap.size, 0, none⟩) (Lib.nDigits u) 24) W := fun W => by
    rw [run_sliceAt_array_h W 165 ⟨w.heap.size, 0, none⟩ (by simp [Program.arrayLen, Program.elem, Tryd.underlying165]) .i64 (Lib.nDigits u : Int) (by omega) (by simp [Program.arrayLen, Tryd.underlying165]; omega)]
    go_simp
  have hH0 := Lib.holds_zero0 w 165 (Lib.nDigits u) (by omega)
  have hfmt := Tryd.internal_strconv_formatBase10 w.heap.size 0 24 u (Array.replicate (Lib.nDigits u) 0) (w.alloc (.cells Lib.zeros24 165)) hH0 (by rw [Array.size_replicate]; exact Lib.lt_pow_nDigits u) hu64 (by rw [Array.size_replicate]; omega)
  rw [Array.size_replicate] at hfmt
  have HH0 := hide hH0
  have FM := hide hfmt
  have HT := hide htab
  have ND := hide fun w ht => Tryd.internal_strconv_numDigits u hu1 hu64 w ht
  have iu : (100 : Int) ≤ (u : Int) := by omega
  have HOW := hide hown
  clear hH0 hfmt htab hown
  go_enter Tryd.func60, Tryd.ntmps60
  go_wp2_with (first
    | (go_at_call 75; refine (ND.out _ (Lib.tabIs_alloc HT.out _)).mono ?_; rintro e w' ⟨rfl, rfl⟩))
  refine FM.out.mono ?_
  rintro e w' ⟨rfl, k, v', dk, rfl, hF⟩
  have hcells : ∀ j (hj : j < (Lib.decDigits u).length), ((putRow (fun (b : UInt8) => Value.int .u8 (b.toNat : Int)) (w.alloc (.cells Lib.zeros24 165)) w.heap.size 0 dk).drewN k).cell? ((⟨w.heap.size, 0, none⟩ : Addr).add j) = some (.int .u8 ((Lib.decDigits u)[j].toNat)) := by
    intro j hjl
    rw [Lib.row_is_numeral hF j hjl, Lib.add_plain, World.cell?_drewN]
    exact cell?_putRow (fun (b : UInt8) => Value.int .u8 (b.toNat : Int)) _ w.heap.size 0 _ dk HH0.out (by rw [hF.size, Array.size_replicate]) j (by rw [hF.size]; rw [Lib.decDigits_length] at hjl; exact hjl)
  obtain ⟨os, eo⟩ := Lib.fin_at w (.cells Lib.zeros24 165) dk k 0
  have hown2 : OwnB ((putRow (fun (b : UInt8) => Value.int .u8 (b.toNat : Int)) (w.alloc (.cells Lib.zeros24 165)) w.heap.size 0 dk).drewN k) v l := by rw [eo]; exact Lib.ownsRow_grow HOW.out k os
  have hnx2 : Ext w ((putRow (fun (b : UInt8) => Value.int .u8 (b.toNat : Int)) (w.alloc (.cells Lib.zeros24 165)) w.heap.size 0 dk).drewN k) := by rw [eo]; exact Lib.below_grow w.heap.size w (Nat.le_refl _) k os
  generalize (putRow (fun (b : UInt8) => Value.int .u8 (b.toNat : Int)) (w.alloc (.cells Lib.zeros24 165)) w.heap.size 0 dk).drewN k = W2 at hcells hown2 hnx2 ⊢
  obtain ⟨v2, w3, hrun, ho, hg, hn⟩ := append_bytes W2 v l (Lib.decDigits u) (Lib.nDigits u) ⟨w.heap.size, 0, none⟩ 24 hown2 hcells (Lib.decDigits_length u) (by omega)
  have HO := hide ho
  have HG := hide ((grown_then (only_of_below hnx2 v.ownBlock) (.inl rfl) hg))
  have HN := hide ((SameOrNew.rfl_ w v).then hnx2.sizes hn)
  clear eo HH0 FM ho hg hn hcells hown2 hnx2
  go_wp2_with (at_builtin; refine wpList_append_run rfl _ _ _ _ rfl _ _ _ rfl rfl hrun ?_)
  go_ret
  exact ⟨v2, rfl, HO.out, HG.out, HN.out⟩

set_option maxRecDepth 100000 in
theorem appendInt_in (u : Nat) (hu : u < 9223372036854775808) (v : Value) (l : List UInt8) (w : World) (hown : OwnB w v l) (hl : l.length ≤ 1000000)
    (htab : Lib.TabIs Tryd.prog w "internal/strconv.uint64pow10" .u64 Lib.pow10Tab) :
    Calls Tryd.prog 52 #[v, .int .i64 u, .int .i64 10] w fun e w' => ∃ v', e = .returned v' ∧ OwnB w' v' (l ++ Lib.decDigits u) ∧ w.grownBy w' v.ownBlock ∧ SameOrNew w v v' := by
  have HC : Hid (Calls Tryd.prog 60 #[v, .int .u64 u, .int .i64 10] w fun e w' => ∃ v', e = .returned v' ∧ OwnB w' v' (l ++ Lib.decDigits u) ∧ w.grownBy w' v.ownBlock ∧ SameOrNew w v v') := hide (by
    by_cases h : u < 100
    · exact appendUint_small u h v l w hown hl
    · exact appendUint_big u (by omega) (by omega) v l w hown hl htab)
  clear hown htab
  have hu0 : (0 : Int) ≤ (u : Int) := by omega
  have hu1 : (u : Int) ≤ 9223372036854775807 := by omega
  have hw : wrap64 (u : Int) = (u : Int) := by simp [wrap64]; omega
  go_enter Tryd.func52, Tryd.ntmps52
  go_wp2_with fail
  refine HC.out.mono ?_
  rintro e w1 ⟨v', rfl, h1, h2, h3⟩
  have H := hide (And.intro h1 (And.intro h2 h3))
  clear h1 h2 h3
  go_wp2
  go_ret
  exact ⟨v', rfl, H.out.1, H.out.2.1, H.out.2.2⟩
set_option maxRecDepth 100000 in
theorem appendInt_any (u : Nat) (hu : u < 9223372036854775808) (v : Value) (l : List UInt8) (w : World) (hown : OwnB w v l) (hl : l.length ≤ 1000000)
    (htab : Lib.TabIs Tryd.prog w "internal/strconv.uint64pow10" .u64 Lib.pow10Tab) :
    Calls Tryd.prog 37 #[v, .int .i64 u, .int .i64 10] w fun e w' => ∃ v', e = .returned v' ∧ OwnB w' v' (l ++ Lib.decDigits u) ∧ w.grownBy w' v.ownBlock ∧ SameOrNew w v v' := by
  have HC := hide (appendInt_in u hu v l w hown hl htab)
  clear hown htab
  go_enter Tryd.func37, Tryd.ntmps37
  go_wp2_with fail
  refine HC.out.mono ?_
  rintro e w1 ⟨v', rfl, h1, h2, h3⟩
  have H := hide (And.intro h1 (And.intro h2 h3))
  clear h1 h2 h3
  go_wp2
  go_ret
  exact ⟨v', rfl, H.out.1, H.out.2.1, H.out.2.2⟩
end Go.Proofs.YtepeokoeempfgaaDoor
