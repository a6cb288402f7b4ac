/-
  Numbers out of digits: bytesutil.ParseUint, ParseInt, impl.ParseInt, impl.ParseUint, spec.Parsed: what they tell of any bytes.
-/
import Derived.Test.YtnenjkngimfdgaaDoorOps
namespace Go.Proofs.YtnenjkngimfdgaaDoor
open Go.RowKit
set_option linter.unusedVariables false

/-- Digits alone. -/
def digs (l : List UInt8) : Bool := l.all fun c => decide (48 ≤ (c.toNat : Int)) && decide ((c.toNat : Int) ≤ 57)
/-- Their number, in 64 bits. -/
def dval (l : List UInt8) : Int := l.foldl (fun n c => (n * 10 + ((c.toNat : Int) - 48)) % 18446744073709551616) 0
theorem dval_snoc (l : List UInt8) (c : UInt8) : dval (l ++ [c]) = (dval l * 10 + ((c.toNat : Int) - 48)) % 18446744073709551616 := by simp [dval]
theorem dval_bd (l : List UInt8) : 0 ≤ dval l ∧ dval l < 18446744073709551616 := by
  rcases List.eq_nil_or_concat l with rfl | ⟨m, c, rfl⟩
  · simp [dval]
  · rw [List.concat_eq_append, dval_snoc]; omega
theorem digs_snoc (l : List UInt8) (c : UInt8) : digs (l ++ [c]) = (digs l && (decide (48 ≤ (c.toNat : Int)) && decide ((c.toNat : Int) ≤ 57))) := by simp [digs]
theorem take_snoc (l : List UInt8) (k : Nat) (h : k < l.length) : l.take (k + 1) = l.take k ++ [l[k]] := List.take_succ_eq_append_getElem h

/-- What ParseUint answers. -/
def PU (l : List UInt8) (v : Value) : Prop := (l ≠ [] ∧ digs l = true ∧ v = .tuple #[.int .u64 (dval l), .nilIface]) ∨ (¬ (l ≠ [] ∧ digs l = true) ∧ ∃ x, v = .tuple #[.int .u64 0, .iface 146 x])

theorem PU.bad {l : List UInt8} (h : ¬ (l ≠ [] ∧ digs l = true)) (x : Value) : PU l (.tuple #[.int .u64 0, .iface 146 x]) := .inr ⟨h, x, rfl⟩
theorem PU.good {l : List UInt8} (h : l ≠ []) (hd : digs l = true) : PU l (.tuple #[.int .u64 (dval l), .nilIface]) := .inl ⟨h, hd, rfl⟩
theorem u64_step (n d : Int) : IntKind.u64.wrap (IntKind.u64.wrap (n * 10) + d) = (n * 10 + d) % 18446744073709551616 := by
  have h : ∀ x, IntKind.u64.wrap x = x % 18446744073709551616 := fun x => by simp [IntKind.wrap, IntKind.bits, IntKind.signed]
  rw [h, h]
  omega
theorem not_digs {l : List UInt8} {k : Nat} (hk : k < l.length) (h : ¬ (48 ≤ (l[k].toNat : Int) ∧ (l[k].toNat : Int) ≤ 57)) : ¬ (l ≠ [] ∧ digs l = true) := by
  rintro ⟨_, hd⟩
  have := List.all_eq_true.1 hd _ (List.getElem_mem hk)
  simp only [Bool.and_eq_true, decide_eq_true_eq] at this
  exact h this

set_option maxHeartbeats 400000 in
theorem parseUint_any (A : Option Addr) (cap : Nat) (l : List UInt8) (w : World) (h : RBytes w A l) (hl : l.length ≤ 1048576) :
    Calls Tryd.prog 48 #[.slice A l.length cap] w fun e w' => ∃ v, e = .returned v ∧ PU l v ∧ Ext w w' := by
  rcases Nat.eq_zero_or_pos l.length with h0 | h0
  · obtain rfl : l = [] := List.eq_nil_of_length_eq_zero h0
    clear h h0 hl
    go_enter Tryd.func48, Tryd.ntmps48
    go_wp2
    go_ret2
    refine ⟨_, rfl, PU.bad (by simp) _, ?_⟩
    repeat (first | exact Ext.refl _ | assumption | refine Ext.drew ?_ | refine Ext.drewN ?_ _ | refine Ext.alloc ?_ _ | refine ext_bytesWorld ?_ _ _ | refine Ext.setCell ?_ (by first | (simp; done) | (simp; omega)) _)
  · obtain ⟨ad, rfl, hb, hc⟩ := h.addr h0
    have hc0 : ((l.length : Int) == 0) = false := by rw [beq_eq_false_iff_ne]; omega
    go_enter Tryd.func48, Tryd.ntmps48
    go_wp2
    go_loop [4, 13] (fun n i => ∃ k : Nat, k ≤ l.length ∧ i = .int .i64 k ∧ n = .int .u64 (dval (l.take k)) ∧ Hid (digs (l.take k) = true)) (fun _ i => l.length - (intOf i).toNat)
    case atStart => exact ⟨0, by omega, rfl, by simp [dval], hide (by simp [digs])⟩
    case round =>
      obtain ⟨k, hk, rfl, rfl, hd⟩ := hrel
      by_cases hlt : k < l.length
      · have hcell := hc k hlt
        have hbd := dval_bd (l.take k)
        by_cases hdig : 48 ≤ (l[k].toNat : Int) ∧ (l[k].toNat : Int) ≤ 57
        · have HT := hide (take_snoc l k hlt)
          obtain ⟨hd0, hd1⟩ := hdig
          go_wp2
          go_round
          case rel =>
            refine ⟨k + 1, by omega, by go_num, ?_, hide ?_⟩
            · rw [unhide HT, dval_snoc, u64_step]
            · rw [unhide HT, digs_snoc, hd.out]; simp [hd0, hd1]
          case measure => simp [intOf]; omega
        · have HB := hide (not_digs hlt hdig)
          by_cases hlo : (l[k].toNat : Int) < 48
          all_goals
            go_wp2
            go_ret2
            refine ⟨_, rfl, PU.bad HB.out _, ?_⟩
            repeat (first | exact Ext.refl _ | assumption | refine Ext.drew ?_ | refine Ext.drewN ?_ _ | refine Ext.alloc ?_ _ | refine ext_bytesWorld ?_ _ _ | refine Ext.setCell ?_ (by first | (simp; done) | (simp; omega)) _)
      · have hkl : l.take k = l := List.take_of_length_le (by omega)
        rw [hkl] at hd ⊢
        clear hkl
        go_wp2
        go_ret2
        exact ⟨_, rfl, PU.good (by intro h; simp [h] at h0) hd.out, Ext.refl _⟩

/-- A whole number's text: one sign or none. -/
def unsign (l : List UInt8) : List UInt8 := match l with
  | c :: r => if c = 45 ∨ c = 43 then r else c :: r
  | [] => []
def neg (l : List UInt8) : Bool := l.head? == some 45
/-- Its number, in 64 bits. -/
def ival (l : List UInt8) : Int := if neg l then wrap64 (- wrap64 (dval (unsign l))) else wrap64 (dval (unsign l))
def PI (l : List UInt8) (v : Value) : Prop := (unsign l ≠ [] ∧ digs (unsign l) = true ∧ v = .tuple #[.int .i64 (ival l), .nilIface]) ∨ (¬ (unsign l ≠ [] ∧ digs (unsign l) = true) ∧ ∃ x, v = .tuple #[.int .i64 0, .iface 146 x])

theorem parseUint_n (A : Option Addr) (n cap : Nat) (l : List UInt8) (w : World) (hn : l.length = n) (h : RBytes w A l) (hl : l.length ≤ 1048576) :
    Calls Tryd.prog 48 #[.slice A n cap] w fun e w' => ∃ v, e = .returned v ∧ PU l v ∧ Ext w w' := by
  subst hn; exact parseUint_any A cap l w h hl

theorem unsign_sign {l : List UInt8} (h0 : 0 < l.length) (h : (l[0].toNat : Int) = 45 ∨ (l[0].toNat : Int) = 43) : unsign l = l.drop 1 := by
  rcases l with _ | ⟨c, r⟩
  · simp at h0
  · have hc : c = 45 ∨ c = 43 := by
      rcases h with h | h
      · left; apply UInt8.toNat_inj.1; simp at h; simpa using (by omega : c.toNat = 45)
      · right; apply UInt8.toNat_inj.1; simp at h; simpa using (by omega : c.toNat = 43)
    simp [unsign, hc]
theorem unsign_none {l : List UInt8} (h0 : 0 < l.length) (h : (l[0].toNat : Int) ≠ 45) (h' : (l[0].toNat : Int) ≠ 43) : unsign l = l := by
  rcases l with _ | ⟨c, r⟩
  · simp at h0
  · have hc : ¬ (c = 45 ∨ c = 43) := by rintro (rfl | rfl) <;> simp_all
    simp [unsign, hc]
theorem neg_of {l : List UInt8} (h0 : 0 < l.length) : neg l = decide ((l[0].toNat : Int) = 45) := by
  rcases l with _ | ⟨c, r⟩
  · simp at h0
  · rw [Bool.eq_iff_iff]
    simp [neg]
    constructor
    · rintro rfl; rfl
    · intro h; apply UInt8.toNat_inj.1; simpa using (by omega : c.toNat = 45)

set_option maxHeartbeats 1000000 in
theorem parseInt_any (A : Option Addr) (cap : Nat) (l : List UInt8) (w : World) (h : RBytes w A l) (hl : l.length ≤ 1048576) (hcap : l.length ≤ cap) (hcm : cap ≤ maxLen) :
    Calls Tryd.prog 47 #[.slice A l.length cap] w fun e w' => ∃ v, e = .returned v ∧ PI l v ∧ Ext w w' := by
  unfold maxLen at hcm
  rcases Nat.eq_zero_or_pos l.length with h0 | h0
  · obtain rfl : l = [] := List.eq_nil_of_length_eq_zero h0
    clear h h0 hl
    go_enter Tryd.func47, Tryd.ntmps47
    go_wp2
    go_ret2
    refine ⟨_, rfl, .inr ⟨by simp [unsign], _, rfl⟩, ?_⟩
    repeat (first | exact Ext.refl _ | assumption | refine Ext.drew ?_ | refine Ext.drewN ?_ _ | refine Ext.alloc ?_ _ | refine ext_bytesWorld ?_ _ _ | refine Ext.setCell ?_ (by first | (simp; done) | (simp; omega)) _)
  · obtain ⟨ad, rfl, hb, hc⟩ := h.addr h0
    have hc1 := hc 0 h0
    rw [show ad.add 0 = ad from rfl] at hc1
    have hc0 : ((l.length : Int) == 0) = false := by rw [beq_eq_false_iff_ne]; omega
    have hng := neg_of h0
    have hcut := h.cut (k := 1) (cap := cap) h0 hcap
    by_cases hs : (l[0].toNat : Int) = 45 ∨ (l[0].toNat : Int) = 43
    · have hun := unsign_sign h0 hs
      have hPI : ∀ v, PU (l.drop 1) v → (∃ _ : Nat, digs (l.drop 1) = true ∧ l.drop 1 ≠ [] ∧ v = .tuple #[.int .u64 (dval (l.drop 1)), .nilIface]) ∨ (¬ (unsign l ≠ [] ∧ digs (unsign l) = true) ∧ ∃ x, v = .tuple #[.int .u64 0, .iface 146 x]) := by
        intro v hv
        rcases hv with ⟨h1, h2, h3⟩ | ⟨h1, h2⟩
        · exact .inl ⟨0, h2, h1, h3⟩
        · exact .inr ⟨by rw [hun]; exact h1, h2⟩
      have HPI := hide hPI
      have HUN := hide hun
      have HCUT := hide hcut
      clear hun hPI hc hcut
      rcases hs with hs | hs
      all_goals
        have HNG := hide hng
        clear hng
        by_cases hcap1 : cap = 1
        · subst hcap1
          have hl1 : l.length = 1 := by omega
          go_enter Tryd.func47, Tryd.ntmps47
          go_wp2_with fail
          refine (parseUint_n _ 0 0 [] w rfl (RBytes.empty _ _) (by simp)).mono ?_
          rintro e w1 ⟨v, rfl, hv, hx⟩
          rcases hv with ⟨h1, _, _⟩ | ⟨h1, x, rfl⟩
          · exact absurd rfl h1
          · go_wp2
            go_ret2
            have e1 : unsign l = [] := by rw [HUN.out]; exact List.eq_nil_of_length_eq_zero (by simp; omega)
            exact ⟨_, rfl, .inr ⟨by rw [e1]; simp, _, rfl⟩, hx⟩
        · go_enter Tryd.func47, Tryd.ntmps47
          go_wp2_with fail
          refine (parseUint_n _ _ _ (l.drop 1) w (by simp) (by have := HCUT.out; rw [if_neg hcap1] at this; exact this) (by simp; omega)).mono ?_
          rintro e w1 ⟨v, rfl, hv, hx⟩
          rcases HPI.out v hv with ⟨_, h2, h1, rfl⟩ | ⟨h1, x, rfl⟩
          all_goals
            go_wp2
            go_ret2
          · refine ⟨_, rfl, .inl ⟨by rw [HUN.out]; exact h1, by rw [HUN.out]; exact h2, ?_⟩, hx⟩
            simp [ival, HUN.out, HNG.out, hs]
          · exact ⟨_, rfl, .inr ⟨h1, _, rfl⟩, hx⟩
    · obtain ⟨hs1, hs2⟩ : ¬ (l[0].toNat : Int) = 45 ∧ ¬ (l[0].toNat : Int) = 43 := by omega
      have hun := unsign_none h0 hs1 hs2
      have HUN := hide hun
      have HNG := hide hng
      have HS1 := hide hs1
      have hb1 : ((l[0].toNat : Int) == 45) = false := by rw [beq_eq_false_iff_ne]; exact hs1
      have hb2 : ((l[0].toNat : Int) == 43) = false := by rw [beq_eq_false_iff_ne]; exact hs2
      have HR := h
      clear hun hc hcut hng hs hs1 hs2
      go_enter Tryd.func47, Tryd.ntmps47
      go_wp2_with fail
      refine (parseUint_any _ _ l w HR hl).mono ?_
      rintro e w1 ⟨v, rfl, hv, hx⟩
      rcases hv with ⟨h1, h2, rfl⟩ | ⟨h1, x, rfl⟩
      all_goals
        go_wp2
        go_ret2
      · refine ⟨_, rfl, .inl ⟨by rw [HUN.out]; exact h1, by rw [HUN.out]; exact h2, ?_⟩, hx⟩
        simp [ival, HUN.out, HNG.out, HS1.out]
      · exact ⟨_, rfl, .inr ⟨by rw [HUN.out]; exact h1, _, rfl⟩, hx⟩

theorem parseInt_n (A : Option Addr) (n cap : Nat) (l : List UInt8) (w : World) (hn : l.length = n) (h : RBytes w A l) (hl : l.length ≤ 1048576) (hcap : n ≤ cap) (hcm : cap ≤ maxLen) :
    Calls Tryd.prog 47 #[.slice A n cap] w fun e w' => ∃ v, e = .returned v ∧ PI l v ∧ Ext w w' := by
  subst hn; exact parseInt_any A cap l w h hl hcap hcm

end Go.Proofs.YtnenjkngimfdgaaDoor
