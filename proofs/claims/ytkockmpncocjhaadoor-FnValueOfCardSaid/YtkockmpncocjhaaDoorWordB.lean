/-
  utf8.word[[]byte]: eight bytes as one number.
-/
import Derived.Test.YtkockmpncocjhaaDoorChg
import Derived.Shelf.Unicode.WordAny
import Derived.Deep.DeepBigQuietO
namespace Go.Proofs.YtkockmpncocjhaaDoor
open Go.RowKit Go.Lib Go.Shelf
set_option linter.unusedVariables false
set_option linter.unusedSimpArgs false

/-- A slice of bytes that reads as t. -/
def SlB (w : World) (A : Option Addr) (t : ByteArray) : Prop := RBytes w A t.data.toList
theorem SlB.at_ {w : World} {A : Option Addr} {t : ByteArray} (h : SlB w A t) (h0 : 0 < t.size) : ∃ ad, A = some ad ∧ ∀ k (hk : k < t.size), w.cell? (ad.add k) = some (.int .u8 ((t.get! k).toNat)) := by
  obtain ⟨ad, e, _, hc⟩ := h.2 (by rw [Array.length_toList]; exact h0)
  refine ⟨ad, e, fun k hk => hc k _ ?_⟩
  have hk2 : k < t.data.toList.length := by rw [Array.length_toList]; exact hk
  rw [bs_getElem?, List.getElem?_eq_getElem hk2, Utf8W.get!_of_lt t k hk]
  rfl

theorem add_zero_ (a : Addr) : a.add 0 = a := by simp [Addr.add]
set_option maxRecDepth 1000000 in
set_option maxHeartbeats 4000000 in
theorem wordB_any (A : Option Addr) (c : Nat) (t : ByteArray) (n : Nat) (w : World) (hR : SlB w A t) (hn : n = t.size) (hs : 8 ≤ n) :
    Calls Tryd.prog 40 #[.slice A n c] w fun e w' => e = .returned (.int .u64 (Lib.leNat [t.get! 0, t.get! 1, t.get! 2, t.get! 3, t.get! 4, t.get! 5, t.get! 6, t.get! 7])) ∧ ∃ q, w' = w.drewN q := by
  subst hn
  obtain ⟨ad, rfl, hc⟩ := hR.at_ (by omega)
  have c0 := hc 0 (by omega)
  have c1 := hc 1 (by omega)
  rw [show ad.add 1 = ⟨ad.block, ad.off + 1, none⟩ from by simp [Addr.add]] at c1
  have c2 := hc 2 (by omega)
  rw [show ad.add 2 = ⟨ad.block, ad.off + 2, none⟩ from by simp [Addr.add]] at c2
  have c3 := hc 3 (by omega)
  rw [show ad.add 3 = ⟨ad.block, ad.off + 3, none⟩ from by simp [Addr.add]] at c3
  have c4 := hc 4 (by omega)
  rw [show ad.add 4 = ⟨ad.block, ad.off + 4, none⟩ from by simp [Addr.add]] at c4
  have c5 := hc 5 (by omega)
  rw [show ad.add 5 = ⟨ad.block, ad.off + 5, none⟩ from by simp [Addr.add]] at c5
  have c6 := hc 6 (by omega)
  rw [show ad.add 6 = ⟨ad.block, ad.off + 6, none⟩ from by simp [Addr.add]] at c6
  have c7 := hc 7 (by omega)
  rw [show ad.add 7 = ⟨ad.block, ad.off + 7, none⟩ from by simp [Addr.add]] at c7
  rw [add_zero_] at c0
  generalize t.get! 0 = x0 at c0 ⊢
  have h0 : x0.toNat < 256 := x0.toNat_lt
  generalize t.get! 1 = x1 at c1 ⊢
  have h1 : x1.toNat < 256 := x1.toNat_lt
  generalize t.get! 2 = x2 at c2 ⊢
  have h2 : x2.toNat < 256 := x2.toNat_lt
  generalize t.get! 3 = x3 at c3 ⊢
  have h3 : x3.toNat < 256 := x3.toNat_lt
  generalize t.get! 4 = x4 at c4 ⊢
  have h4 : x4.toNat < 256 := x4.toNat_lt
  generalize t.get! 5 = x5 at c5 ⊢
  have h5 : x5.toNat < 256 := x5.toNat_lt
  generalize t.get! 6 = x6 at c6 ⊢
  have h6 : x6.toNat < 256 := x6.toNat_lt
  generalize t.get! 7 = x7 at c7 ⊢
  have h7 : x7.toNat < 256 := x7.toNat_lt
  have hv : ((Lib.leNat [x0, x1, x2, x3, x4, x5, x6, x7] : Nat) : Int) = (x0.toNat : Int) + (x1.toNat : Int) * 256 + (x2.toNat : Int) * 65536 + (x3.toNat : Int) * 16777216 + (x4.toNat : Int) * 4294967296 + (x5.toNat : Int) * 1099511627776 + (x6.toNat : Int) * 281474976710656 + (x7.toNat : Int) * 72057594037927936 := by
    simp only [Lib.leNat]
    push_cast
    omega
  have q0 : (0 : Int) < (t.size : Int) := by omega
  have p0 : 0 < t.size := by omega
  have q1 : (1 : Int) < (t.size : Int) := by omega
  have p1 : 1 < t.size := by omega
  have q2 : (2 : Int) < (t.size : Int) := by omega
  have p2 : 2 < t.size := by omega
  have q3 : (3 : Int) < (t.size : Int) := by omega
  have p3 : 3 < t.size := by omega
  have q4 : (4 : Int) < (t.size : Int) := by omega
  have p4 : 4 < t.size := by omega
  have q5 : (5 : Int) < (t.size : Int) := by omega
  have p5 : 5 < t.size := by omega
  have q6 : (6 : Int) < (t.size : Int) := by omega
  have p6 : 6 < t.size := by omega
  have q7 : (7 : Int) < (t.size : Int) := by omega
  have p7 : 7 < t.size := by omega
  clear hR hc
  go_enter Tryd.func40, Tryd.ntmps40
  go_wp2
  go_quiet (fail)
  go_wp2
  go_ret
  refine ⟨?_, _, rfl⟩
  simp (disch := omega) only [u64_wrap_id, u64_or8, u64_or16, u64_or24, u64_or32, u64_or40, u64_or48, u64_or56]
  rw [hv]
  rfl
end Go.Proofs.YtkockmpncocjhaaDoor
