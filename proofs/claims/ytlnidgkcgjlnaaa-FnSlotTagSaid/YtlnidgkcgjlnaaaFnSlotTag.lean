/-
  The walk of laws.FnSlotTag.
-/
import Derived.Test.YtlnidgkcgjlnaaaCluster
namespace Go.Proofs.Ytlnidgkcgjlnaaa
open Go.RowKit
set_option linter.unusedVariables false
set_option linter.unusedSimpArgs false

theorem hasnt_snoc (s : ByteArray) (k : Nat) (h : k < s.size) (c : UInt8) : (s.data.toList.take (k + 1)).contains c = ((s.data.toList.take k).contains c || c == s[k]) := by
  rw [List.take_succ_eq_append_getElem (by simpa using h)]
  simp; rfl

/-- A text has a byte. -/
def hasB (s : ByteArray) (c : UInt8) : Bool := s.data.toList.contains c

set_option maxRecDepth 100000 in
theorem holds_any (s : ByteArray) (c : UInt8) (w : World) (hs : s.size ≤ 2147483647) :
    Calls Try.prog 17 #[.string s, .int .u8 c.toNat] w fun e w' => e = .returned (.bool (hasB s c)) ∧ Ext w w' := by
  go_enter Try.func17, Try.ntmps17
  go_wp2_with fail
  go_loop [5] (fun s5 => ∃ k : Nat, k ≤ s.size ∧ s5 = .int .i64 k ∧ Hid ((s.data.toList.take k).contains c = false)) (fun s5 => s.size - (intOf s5).toNat)
  case atStart => exact ⟨0, by omega, rfl, hide (by simp)⟩
  case round =>
    obtain ⟨k, hk, rfl, HK⟩ := hrel
    by_cases hlt : k < s.size
    · by_cases he : (c == s[k]) = true
      · have he2 : c = s[k] := by simpa using he
        have HR : Hid (hasB s c = true) := hide (by
          unfold hasB
          rw [he2, List.contains_iff_mem]
          exact List.mem_iff_getElem.2 ⟨k, by simpa using hlt, rfl⟩)
        have hb : ((s[k].toNat : Int) == (c.toNat : Int)) = true := by rw [he2]; simp
        clear he he2
        go_wp2
        go_ret
        exact ⟨by rw [HR.out]; rfl, Ext.refl _⟩
      · have hne : ¬ c = s[k] := by simpa using he
        have hb : ((s[k].toNat : Int) == (c.toNat : Int)) = false := by
          have : s[k].toNat ≠ c.toNat := fun h => hne (UInt8.toNat_inj.1 h.symm)
          simp; omega
        have HE : Hid ((c == s[k]) = false) := hide (by simpa using he)
        clear he hne
        go_wp2
        go_round
        case rel =>
          refine ⟨k + 1, by omega, by go_num, hide ?_⟩
          rw [hasnt_snoc s k hlt, HK.out, HE.out]; rfl
        case measure => simp [intOf]; omega
    · have HR : Hid (hasB s c = false) := hide (by
        unfold hasB
        have h := HK.out
        rwa [List.take_of_length_le (by rw [size_data]; omega)] at h)
      go_wp2
      go_ret
      exact ⟨by rw [HR.out]; rfl, Ext.refl _⟩

theorem slotOf_range (l : List UInt8) : 0 ≤ slotOf l ∧ slotOf l < 16384 := by
  unfold slotOf; have := crcOf_range (slotKey l); unfold CrcRange at this; omega

set_option maxRecDepth 100000 in
theorem implSlot_any (s : ByteArray) (w : World) (hl : s.size ≤ 5000) :
    Calls Try.prog 18 #[.string s] w fun e w' => e = .returned (.int .i64 (slotOf s.data.toList)) ∧ Ext w w' := by
  have hcv := fun (w : World) (s : ByteArray) => Lib.run_convert_string_bytes (P := Try.prog) w 9 46 5 s Try.underlying9 Try.underlying46 Try.underlying5
  go_enter Try.func18, Try.ntmps18
  go_wp2_with fail
  refine (radixSlot_any _ _ _ _ s.data.toList (by rw [size_data]; exact hl) (size_data s) (grownCap_ge _ _ _ _) (rbytes_bytesWorld _ _ _)).mono ?_
  rintro e w1 ⟨rfl, hx⟩
  have HX : Hid (Ext w w1) := hide ((ext_bytesWorld (Ext.refl w) _ _).trans hx)
  obtain ⟨g0, g1⟩ := slotOf_range s.data.toList
  generalize hc : slotOf s.data.toList = c at g0 g1
  have HC := hide hc
  clear hx hcv hc
  go_wp2
  go_ret
  exact ⟨by rw [HC.out]; rfl, HX.out⟩

/-! ### What it computes -/
theorem indexByte_behind (a r : List UInt8) (c : UInt8) (h : a.contains c = false) : Lib.indexByte (a ++ c :: r) c = a.length := by
  induction a with
  | nil => simp [Lib.indexByte]
  | cons b a ih =>
    simp only [List.contains_cons, Bool.or_eq_false_iff] at h
    have hb : (b == c) = false := by
      have h1 : ¬ c = b := by simpa using h.1
      simp; exact fun e => h1 e.symm
    have := ih h.2
    simp only [List.cons_append, Lib.indexByte, hb, this, List.length_cons]
    have h2 : ((a.length : Int) == -1) = false := by simp; try omega
    simp [h2]
theorem indexByte_not (a : List UInt8) (c : UInt8) (h : a.contains c = false) : Lib.indexByte a c = -1 := by
  induction a with
  | nil => rfl
  | cons b a ih =>
    simp only [List.contains_cons, Bool.or_eq_false_iff] at h
    have hb : (b == c) = false := by
      have h1 : ¬ c = b := by simpa using h.1
      simp; exact fun e => h1 e.symm
    simp [Lib.indexByte, hb, ih h.2]
theorem slotKey_plain (l : List UInt8) (h : l.contains 123 = false) : slotKey l = l := by
  unfold slotKey; rw [indexByte_not l 123 h]; rfl
theorem slotKey_tag (a t c : List UInt8) (ha : a.contains 123 = false) (ht : t.contains 125 = false) (hne : 0 < t.length) : slotKey (a ++ 123 :: (t ++ 125 :: c)) = t := by
  have hd : (a ++ 123 :: (t ++ 125 :: c)).drop (a.length + 1) = t ++ 125 :: c := by
    rw [List.drop_append, List.drop_of_length_le (by omega)]
    simp
  unfold slotKey
  rw [indexByte_behind a _ 123 ha, if_pos (by omega)]
  simp only [Int.toNat_natCast]
  rw [hd, indexByte_behind t _ 125 ht, if_pos (by omega)]
  simp

theorem slot_tagged (a t c : ByteArray) (ha : hasB a 123 = false) (ht : hasB t 125 = false) (hne : 0 < t.size) :
    slotOf (a ++ ⟨#[123]⟩ ++ t ++ ⟨#[125]⟩ ++ c).data.toList = crcOf t.data.toList % 16384 := by
  unfold slotOf
  have : (a ++ ⟨#[123]⟩ ++ t ++ ⟨#[125]⟩ ++ c).data.toList = a.data.toList ++ 123 :: (t.data.toList ++ 125 :: c.data.toList) := by
    simp [ByteArray.data_append]
  rw [this, slotKey_tag _ _ _ ha ht (by rw [size_data]; exact hne)]
theorem slot_plain (t : ByteArray) (h : hasB t 123 = false) : slotOf t.data.toList = crcOf t.data.toList % 16384 := by
  unfold slotOf; rw [slotKey_plain _ h]
theorem slot_foo : slotOf (⟨#[102, 111, 111]⟩ : ByteArray).data.toList = 12182 := (slot_plain _ (by decide +kernel)).trans crc_foo

/-- The greatest of two. -/
def mx (x y : Int) : Int := if x < y then y else x
theorem mx_le (x y b : Int) : mx x y ≤ b ↔ x ≤ b ∧ y ≤ b := by unfold mx; split <;> omega
theorem max2_mx (x y : Int) : Builtin.max2 (.int .i64 x) (.int .i64 y) = pure (.int .i64 (mx x y)) := by simp only [Builtin.max2, gt_iff_lt, mx]
theorem run_max5 {P : Program} (ats : Array TypeId) (ty : TypeId) (x0 x1 x2 x3 x4 : Int) (w : World) :
    (Builtin.max_ ats ty #[.int .i64 x0, .int .i64 x1, .int .i64 x2, .int .i64 x3, .int .i64 x4]).run P w = .ok (.int .i64 (mx (mx (mx (mx x0 x1) x2) x3) x4)) w := by
  simp [Builtin.max_, List.foldlM_cons, List.foldlM_nil, max2_mx, Sem.run_bind, Sem.run_pure, Result.andThen]

set_option maxRecDepth 100000 in
set_option maxHeartbeats 1000000 in
theorem fnSlotTag_walk (tag a b c d : ByteArray) (h0 : tag.size ≤ maxLen) (h1 : a.size ≤ maxLen) (h2 : b.size ≤ maxLen) (h3 : c.size ≤ maxLen) (h4 : d.size ≤ maxLen) (w : World) :
    Calls Try.prog 6 #[.string tag, .string a, .string b, .string c, .string d] w fun e w' => e = .returned (.bool true) ∧ Below w.heap.size w w' := by
  unfold maxLen at *
  by_cases hbig : tag.size ≤ 2147483647 ∧ a.size ≤ 2147483647 ∧ b.size ≤ 2147483647 ∧ c.size ≤ 2147483647 ∧ d.size ≤ 2147483647
  · obtain ⟨b0, b1, b2, b3, b4⟩ := hbig
    by_cases hmid : 0 < tag.size ∧ tag.size ≤ 100 ∧ a.size ≤ 100 ∧ b.size ≤ 100 ∧ c.size ≤ 100 ∧ d.size ≤ 100
    · obtain ⟨m, m0, m1, m2, m3, m4⟩ := hmid
      have HM := hide (run_max5 (P := Try.prog) · · tag.size a.size b.size c.size d.size ·)
      have hM : mx (mx (mx (mx tag.size a.size) b.size) c.size) d.size ≤ 100 := by simp only [mx_le]; omega
      generalize mx (mx (mx (mx tag.size a.size) b.size) c.size) d.size = M at hM HM
      have hne : ¬ tag = ByteArray.empty := fun h => by rw [h] at m; simp at m
      have dM : decide (100 < M) = false := by simp; omega
      have k0 : (tag.size : Int) ≤ 2147483647 := by omega
      have k1 : (a.size : Int) ≤ 2147483647 := by omega
      have k2 : (b.size : Int) ≤ 2147483647 := by omega
      have k3 : (c.size : Int) ≤ 2147483647 := by omega
      have k4 : (d.size : Int) ≤ 2147483647 := by omega
      have d0 : decide (2147483647 < (tag.size : Int)) = false := by simp; omega
      have d1 : decide (2147483647 < (a.size : Int)) = false := by simp; omega
      have d2 : decide (2147483647 < (b.size : Int)) = false := by simp; omega
      have d3 : decide (2147483647 < (c.size : Int)) = false := by simp; omega
      have d4 : decide (2147483647 < (d.size : Int)) = false := by simp; omega
      have HH1 := hide (holds_any tag 125 · b0)
      have HH2 := hide (holds_any a 123 · b1)
      have HH3 := hide (holds_any b 123 · b2)
      have HH4 := hide (holds_any tag 123 · b0)
      have z1 : (⟨#[123]⟩ : ByteArray).size = 1 := rfl
      have z2 : (⟨#[125]⟩ : ByteArray).size = 1 := rfl
      have HS1 : hasB a 123 = false → hasB tag 125 = false → Hid (∀ w, Calls Try.prog 18 #[.string (a ++ ⟨#[123]⟩ ++ tag ++ ⟨#[125]⟩ ++ c)] w fun e w' => e = .returned (.int .i64 (crcOf tag.data.toList % 16384)) ∧ Ext w w') := fun g1 g2 => hide fun w => by
        have h := implSlot_any (a ++ ⟨#[123]⟩ ++ tag ++ ⟨#[125]⟩ ++ c) w (by simp only [ByteArray.size_append, z1, z2]; omega)
        rwa [slot_tagged a tag c g1 g2 m] at h
      have HS2 : hasB b 123 = false → hasB tag 125 = false → Hid (∀ w, Calls Try.prog 18 #[.string (b ++ ⟨#[123]⟩ ++ tag ++ ⟨#[125]⟩ ++ d)] w fun e w' => e = .returned (.int .i64 (crcOf tag.data.toList % 16384)) ∧ Ext w w') := fun g1 g2 => hide fun w => by
        have h := implSlot_any (b ++ ⟨#[123]⟩ ++ tag ++ ⟨#[125]⟩ ++ d) w (by simp only [ByteArray.size_append, z1, z2]; omega)
        rwa [slot_tagged b tag d g1 g2 m] at h
      have HS3 : hasB tag 123 = false → Hid (∀ w, Calls Try.prog 18 #[.string tag] w fun e w' => e = .returned (.int .i64 (crcOf tag.data.toList % 16384)) ∧ Ext w w') := fun g1 => hide fun w => by
        have h := implSlot_any tag w (by omega)
        rwa [slot_plain tag g1] at h
      have HS4 : Hid (∀ w, Calls Try.prog 18 #[.string ⟨#[102, 111, 111]⟩] w fun e w' => e = .returned (.int .i64 12182) ∧ Ext w w') := hide fun w => by
        have h := implSlot_any ⟨#[102, 111, 111]⟩ w (by decide)
        rwa [slot_foo] at h
      obtain ⟨v0, v1⟩ : 0 ≤ crcOf tag.data.toList % 16384 ∧ crcOf tag.data.toList % 16384 < 16384 := by omega
      generalize crcOf tag.data.toList % 16384 = v at v0 v1 HS1 HS2 HS3
      generalize hasB tag 125 = t1 at HH1 HS1 HS2
      generalize hasB a 123 = t2 at HH2 HS1
      generalize hasB b 123 = t3 at HH3 HS2
      generalize hasB tag 123 = t4 at HH4 HS3
      clear z1 z2 b0 b1 b2 b3 b4 h0 h1 h2 h3 h4
      cases t1
      case true =>
        clear HS1 HS2 HS3 HS4 HH2 HH3 HH4
        go_enter Try.func6, Try.ntmps6
        have hmax := HM.out
        go_wp2_with fail
        refine (HH1.out _).mono ?_; rintro e w1 ⟨rfl, hx1⟩
        have X1 := hide hx1
        clear hx1
        go_wp2_with fail
        go_ret
        exact ⟨rfl, X1.out⟩
      case false =>
        cases t2
        case true =>
          clear HS1 HS2 HS3 HS4 HH3 HH4
          go_enter Try.func6, Try.ntmps6
          have hmax := HM.out
          go_wp2_with fail
          refine (HH1.out _).mono ?_; rintro e w1 ⟨rfl, hx1⟩
          have X1 := hide hx1
          clear hx1
          go_wp2_with fail
          refine (HH2.out _).mono ?_; rintro e w2 ⟨rfl, hx2⟩
          have X2 := hide hx2
          clear hx2
          go_wp2_with fail
          go_ret
          exact ⟨rfl, X1.out.trans X2.out⟩
        case false =>
          cases t3
          case true =>
            clear HS1 HS2 HS3 HS4 HH4
            go_enter Try.func6, Try.ntmps6
            have hmax := HM.out
            go_wp2_with fail
            refine (HH1.out _).mono ?_; rintro e w1 ⟨rfl, hx1⟩
            have X1 := hide hx1
            clear hx1
            go_wp2_with fail
            refine (HH2.out _).mono ?_; rintro e w2 ⟨rfl, hx2⟩
            have X2 := hide hx2
            clear hx2
            go_wp2_with fail
            refine (HH3.out _).mono ?_; rintro e w3 ⟨rfl, hx3⟩
            have X3 := hide hx3
            clear hx3
            go_wp2_with fail
            go_ret
            exact ⟨rfl, (X1.out.trans X2.out).trans X3.out⟩
          case false =>
            replace HS1 := HS1 rfl rfl
            replace HS2 := HS2 rfl rfl
            cases t4
            case true =>
              clear HS3
              go_enter Try.func6, Try.ntmps6
              have hmax := HM.out
              go_wp2_with fail
              refine (HH1.out _).mono ?_; rintro e w1 ⟨rfl, hx1⟩
              have X1 := hide hx1
              clear hx1
              go_wp2_with fail
              refine (HH2.out _).mono ?_; rintro e w2 ⟨rfl, hx2⟩
              have X2 := hide hx2
              clear hx2
              go_wp2_with fail
              refine (HH3.out _).mono ?_; rintro e w3 ⟨rfl, hx3⟩
              have X3 := hide hx3
              clear hx3
              go_wp2_with fail
              refine (HS1.out _).mono ?_; rintro e w4 ⟨rfl, hx4⟩
              have X4 := hide hx4
              clear hx4
              go_wp2_with fail
              refine (HS2.out _).mono ?_; rintro e w5 ⟨rfl, hx5⟩
              have X5 := hide hx5
              clear hx5
              go_wp2_with fail
              refine (HH4.out _).mono ?_; rintro e w6 ⟨rfl, hx6⟩
              have X6 := hide hx6
              clear hx6
              go_wp2_with fail
              refine (HS4.out _).mono ?_; rintro e w7 ⟨rfl, hx7⟩
              have X7 := hide hx7
              clear hx7
              go_wp2_with fail
              go_ret
              exact ⟨rfl, (((((X1.out.trans X2.out).trans X3.out).trans X4.out).trans X5.out).trans X6.out).trans X7.out⟩
            case false =>
              replace HS3 := HS3 rfl
              go_enter Try.func6, Try.ntmps6
              have hmax := HM.out
              go_wp2_with fail
              refine (HH1.out _).mono ?_; rintro e w1 ⟨rfl, hx1⟩
              have X1 := hide hx1
              clear hx1
              go_wp2_with fail
              refine (HH2.out _).mono ?_; rintro e w2 ⟨rfl, hx2⟩
              have X2 := hide hx2
              clear hx2
              go_wp2_with fail
              refine (HH3.out _).mono ?_; rintro e w3 ⟨rfl, hx3⟩
              have X3 := hide hx3
              clear hx3
              go_wp2_with fail
              refine (HS1.out _).mono ?_; rintro e w4 ⟨rfl, hx4⟩
              have X4 := hide hx4
              clear hx4
              go_wp2_with fail
              refine (HS2.out _).mono ?_; rintro e w5 ⟨rfl, hx5⟩
              have X5 := hide hx5
              clear hx5
              go_wp2_with fail
              refine (HH4.out _).mono ?_; rintro e w6 ⟨rfl, hx6⟩
              have X6 := hide hx6
              clear hx6
              go_wp2_with fail
              refine (HS3.out _).mono ?_; rintro e w7 ⟨rfl, hx7⟩
              have X7 := hide hx7
              clear hx7
              go_wp2_with fail
              refine (HS4.out _).mono ?_; rintro e w8 ⟨rfl, hx8⟩
              have X8 := hide hx8
              clear hx8
              go_wp2_with fail
              go_ret
              exact ⟨rfl, ((((((X1.out.trans X2.out).trans X3.out).trans X4.out).trans X5.out).trans X6.out).trans X7.out).trans X8.out⟩
    · have k0 : (tag.size : Int) ≤ 2147483647 := by omega
      have k1 : (a.size : Int) ≤ 2147483647 := by omega
      have k2 : (b.size : Int) ≤ 2147483647 := by omega
      have k3 : (c.size : Int) ≤ 2147483647 := by omega
      have k4 : (d.size : Int) ≤ 2147483647 := by omega
      have d0 : decide (2147483647 < (tag.size : Int)) = false := by simp; omega
      have d1 : decide (2147483647 < (a.size : Int)) = false := by simp; omega
      have d2 : decide (2147483647 < (b.size : Int)) = false := by simp; omega
      have d3 : decide (2147483647 < (c.size : Int)) = false := by simp; omega
      have d4 : decide (2147483647 < (d.size : Int)) = false := by simp; omega
      by_cases hz : tag = ByteArray.empty
      · subst hz
        clear hmid
        go_enter Try.func6, Try.ntmps6
        go_wp2
        go_ret
        exact ⟨rfl, Below.refl _ _⟩
      · have HM := hide (run_max5 (P := Try.prog) · · tag.size a.size b.size c.size d.size ·)
        have m : 0 < tag.size := by
          rcases Nat.eq_zero_or_pos tag.size with h | h
          · exact absurd (ByteArray.ext (Array.eq_empty_of_size_eq_zero h)) hz
          · exact h
        have hM : 100 < mx (mx (mx (mx tag.size a.size) b.size) c.size) d.size := by
          rcases (by omega : mx (mx (mx (mx tag.size a.size) b.size) c.size) d.size ≤ 100 ∨ 100 < mx (mx (mx (mx tag.size a.size) b.size) c.size) d.size) with h | h
          · simp only [mx_le] at h; omega
          · exact h
        generalize mx (mx (mx (mx tag.size a.size) b.size) c.size) d.size = M at hM HM
        have dM : decide (100 < M) = true := by simp; omega
        clear hmid
        go_enter Try.func6, Try.ntmps6
        have hmax := HM.out
        go_wp2
        go_ret
        exact ⟨rfl, Below.refl _ _⟩
  · rcases (by omega : 2147483647 < (tag.size : Int) ∨ ((tag.size : Int) ≤ 2147483647 ∧ 2147483647 < (a.size : Int)) ∨ ((tag.size : Int) ≤ 2147483647 ∧ (a.size : Int) ≤ 2147483647 ∧ 2147483647 < (b.size : Int)) ∨
        ((tag.size : Int) ≤ 2147483647 ∧ (a.size : Int) ≤ 2147483647 ∧ (b.size : Int) ≤ 2147483647 ∧ 2147483647 < (c.size : Int)) ∨
        ((tag.size : Int) ≤ 2147483647 ∧ (a.size : Int) ≤ 2147483647 ∧ (b.size : Int) ≤ 2147483647 ∧ (c.size : Int) ≤ 2147483647 ∧ 2147483647 < (d.size : Int))) with
      h | ⟨k0, h⟩ | ⟨k0, k1, h⟩ | ⟨k0, k1, k2, h⟩ | ⟨k0, k1, k2, k3, h⟩
    all_goals
      have dd := decide_eq_true h
      clear hbig
      try have d0 : decide (2147483647 < (tag.size : Int)) = false := by simp; omega
      try have d1 : decide (2147483647 < (a.size : Int)) = false := by simp; omega
      try have d2 : decide (2147483647 < (b.size : Int)) = false := by simp; omega
      try have d3 : decide (2147483647 < (c.size : Int)) = false := by simp; omega
      go_enter Try.func6, Try.ntmps6
      go_wp2
      go_ret
      exact ⟨rfl, Below.refl _ _⟩
end Go.Proofs.Ytlnidgkcgjlnaaa
