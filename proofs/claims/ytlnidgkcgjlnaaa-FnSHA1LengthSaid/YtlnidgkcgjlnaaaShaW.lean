/-
  SHA-1 in plain words: the functions of the rounds told two ways, the words of a block in a ring of sixteen, blocks of bytes, the padding, the sum. No program in sight. Nothing is assumed.
-/
import Derived.Test.YtlnidgkcgjlnaaaBase
namespace Go.Proofs.Ytlnidgkcgjlnaaa
open Go
set_option linter.unusedVariables false
set_option linter.unusedSimpArgs false

theorem wrap32_toNat (v : BitVec 32) : IntKind.u32.wrap (v.toNat : Int) = (v.toNat : Int) := by
  have h := v.isLt
  simp only [IntKind.wrap, IntKind.signed, IntKind.bits, Bool.false_and, Bool.false_eq_true, if_false]
  omega
theorem bits_and32 (x y : Int) : bits .and .u32 x y = ((BitVec.ofInt 32 x &&& BitVec.ofInt 32 y).toNat : Int) := wrap32_toNat _
theorem bits_or32 (x y : Int) : bits .or .u32 x y = ((BitVec.ofInt 32 x ||| BitVec.ofInt 32 y).toNat : Int) := wrap32_toNat _
theorem bits_xor32 (x y : Int) : bits .xor .u32 x y = ((BitVec.ofInt 32 x ^^^ BitVec.ofInt 32 y).toNat : Int) := wrap32_toNat _
theorem ofInt_toNat32 (v : BitVec 32) : BitVec.ofInt 32 (v.toNat : Int) = v := by simp
theorem ones32 : BitVec.ofInt 32 4294967295 = BitVec.allOnes 32 := by decide
theorem bv_maj (b c d : BitVec 32) : ((b ||| c) &&& d) ||| (b &&& c) = ((b &&& c) ^^^ (b &&& d)) ^^^ (c &&& d) := by
  apply BitVec.eq_of_getLsbD_eq
  intro i hi
  simp only [BitVec.getLsbD_or, BitVec.getLsbD_and, BitVec.getLsbD_xor]
  cases b.getLsbD i <;> cases c.getLsbD i <;> cases d.getLsbD i <;> rfl
theorem bv_cho (b c d : BitVec 32) : (b &&& c) ||| ((BitVec.allOnes 32 ^^^ b) &&& d) = (b &&& c) ^^^ ((BitVec.allOnes 32 ^^^ b) &&& d) := by
  apply BitVec.eq_of_getLsbD_eq
  intro i hi
  simp only [BitVec.getLsbD_or, BitVec.getLsbD_and, BitVec.getLsbD_xor, BitVec.getLsbD_allOnes, hi, decide_true]
  cases b.getLsbD i <;> cases c.getLsbD i <;> cases d.getLsbD i <;> rfl
/-- The choice between two words by a third, with or, and with exclusive or. -/
theorem sha_cho (b c d : Int) : bits .or .u32 (bits .and .u32 b c) (bits .and .u32 (bits .xor .u32 4294967295 b) d) = bits .xor .u32 (bits .and .u32 b c) (bits .and .u32 (bits .xor .u32 4294967295 b) d) := by
  simp only [bits_and32, bits_or32, bits_xor32, ofInt_toNat32, ones32, bv_cho]
/-- The majority of three words. -/
theorem sha_maj (b c d : Int) : bits .or .u32 (bits .and .u32 (bits .or .u32 b c) d) (bits .and .u32 b c) = bits .xor .u32 (bits .xor .u32 (bits .and .u32 b c) (bits .and .u32 b d)) (bits .and .u32 c d) := by
  simp only [bits_and32, bits_or32, bits_xor32, ofInt_toNat32, bv_maj]
theorem bits32_lt (op : BinOp) (x y : Int) : 0 ≤ bits op .u32 x y ∧ bits op .u32 x y ≤ 4294967295 := by
  unfold bits
  simp only [IntKind.wrap, IntKind.signed, IntKind.bits, Bool.false_and, Bool.false_eq_true, if_false]
  omega
theorem bits_and15 (x : Int) (h : 0 ≤ x) : bits .and .i64 x 15 = x % 16 := by
  obtain ⟨n, rfl⟩ := Int.eq_ofNat_of_zero_le h
  have hb : bits .and .i64 (n : Int) 15 = IntKind.i64.wrap ((BitVec.ofInt 64 (n : Int) &&& BitVec.ofInt 64 15).toNat : Int) := rfl
  have e : BitVec.ofInt 64 (n : Int) &&& BitVec.ofInt 64 15 = BitVec.ofNat 64 (n % 16) := by
    apply BitVec.eq_of_toNat_eq
    have e15 : (BitVec.ofInt 64 15).toNat = 15 := by decide
    rw [BitVec.toNat_and, e15, Nat.and_two_pow_sub_one_eq_mod _ 4]
    simp
    omega
  rw [hb, e]
  have e2 : (BitVec.ofNat 64 (n % 16)).toNat = n % 16 := by
    rw [BitVec.toNat_ofNat]; omega
  rw [e2]
  simp only [IntKind.wrap, IntKind.signed, IntKind.bits]
  have h3 : ¬ ((n % 16 : Nat) : Int) % 2 ^ 64 ≥ 2 ^ (64 - 1) := by omega
  simp only [h3, decide_false, Bool.and_false, Bool.false_eq_true, if_false]
  omega

/-! ### Rounds -/
def rot5 (x : Int) : Int := bits .or .u32 (x * 32 % 4294967296) (x / 134217728)
def rot30 (x : Int) : Int := bits .or .u32 (x * 1073741824 % 4294967296) (x / 4)
def rot1 (x : Int) : Int := bits .or .u32 (x * 2 % 4294967296) (x / 2147483648)
/-- The words of a block: sixteen of its own, the others out of four earlier ones. -/
def sched (M : Nat → Int) (t : Nat) : Int :=
  if h : t < 16 then M t else rot1 (bits .xor .u32 (bits .xor .u32 (bits .xor .u32 (sched M (t - 3)) (sched M (t - 8))) (sched M (t - 14))) (sched M (t - 16)))
termination_by t
decreasing_by all_goals omega
theorem sched_lo (M : Nat → Int) {t : Nat} (h : t < 16) : sched M t = M t := by rw [sched, dif_pos h]
theorem sched_hi (M : Nat → Int) {t : Nat} (h : 16 ≤ t) : sched M t = rot1 (bits .xor .u32 (bits .xor .u32 (bits .xor .u32 (sched M (t - 3)) (sched M (t - 8))) (sched M (t - 14))) (sched M (t - 16))) := by rw [sched, dif_neg (by omega)]
theorem sched_congr {M M' : Nat → Int} (h : ∀ t, t < 16 → M t = M' t) : ∀ t, sched M t = sched M' t := by
  intro t
  induction t using Nat.strongRecOn with
  | _ t ih =>
    by_cases ht : t < 16
    · rw [sched_lo M ht, sched_lo M' ht, h t ht]
    · rw [sched_hi M (by omega), sched_hi M' (by omega), ih (t - 3) (by omega), ih (t - 8) (by omega), ih (t - 14) (by omega), ih (t - 16) (by omega)]
/-- A word of 32 bits. -/
def W32 (x : Int) : Prop := 0 ≤ x ∧ x ≤ 4294967295
theorem rot1_w (x : Int) : W32 (rot1 x) := bits32_lt _ _ _
theorem rot5_w (x : Int) : W32 (rot5 x) := bits32_lt _ _ _
theorem rot30_w (x : Int) : W32 (rot30 x) := bits32_lt _ _ _
theorem sched_w {M : Nat → Int} (h : ∀ t, t < 16 → W32 (M t)) (t : Nat) : W32 (sched M t) := by
  by_cases ht : t < 16
  · rw [sched_lo M ht]; exact h t ht
  · rw [sched_hi M (by omega)]; exact rot1_w _
/-- A ring of sixteen words that holds the last sixteen ahead of round i. -/
def Ring (M r : Nat → Int) (i : Nat) : Prop := ∀ t, i ≤ t + 16 → t < i → r (t % 16) = sched M t
theorem Ring.start {M r : Nat → Int} (h : ∀ j, j < 16 → r j = M j) : Ring M r 16 := fun t _ h2 => by
  rw [Nat.mod_eq_of_lt h2, h t h2, sched_lo M h2]
theorem Ring.new {M r : Nat → Int} {i : Nat} (h : Ring M r i) (hi : 16 ≤ i) : rot1 (bits .xor .u32 (bits .xor .u32 (bits .xor .u32 (r ((i - 3) % 16)) (r ((i - 8) % 16))) (r ((i - 14) % 16))) (r (i % 16))) = sched M i := by
  rw [sched_hi M hi, h (i - 3) (by omega) (by omega), h (i - 8) (by omega) (by omega), h (i - 14) (by omega) (by omega)]
  have e : i % 16 = (i - 16) % 16 := by omega
  rw [e, h (i - 16) (by omega) (by omega)]
theorem Ring.next {M r r' : Nat → Int} {i : Nat} (h : Ring M r i) (hn : r' (i % 16) = sched M i) (ho : ∀ j, j ≠ i % 16 → r' j = r j) : Ring M r' (i + 1) := fun t h1 h2 => by
  by_cases e : t = i
  · subst e; exact hn
  · rw [ho (t % 16) (by omega)]
    exact h t (by omega) (by omega)
/-- The function and the constant of a round. -/
def shaF (t : Nat) (b c d : Int) : Int :=
  if t < 20 then bits .xor .u32 (bits .and .u32 b c) (bits .and .u32 (bits .xor .u32 4294967295 b) d)
  else if t < 40 then bits .xor .u32 (bits .xor .u32 b c) d
  else if t < 60 then bits .xor .u32 (bits .xor .u32 (bits .and .u32 b c) (bits .and .u32 b d)) (bits .and .u32 c d)
  else bits .xor .u32 (bits .xor .u32 b c) d
def shaK (t : Nat) : Int := if t < 20 then 1518500249 else if t < 40 then 1859775393 else if t < 60 then 2400959708 else 3395469782
theorem shaF_w (t : Nat) (b c d : Int) : W32 (shaF t b c d) := by
  unfold shaF
  split
  · exact bits32_lt _ _ _
  · split
    · exact bits32_lt _ _ _
    · split <;> exact bits32_lt _ _ _
theorem shaK_w (t : Nat) : W32 (shaK t) := by
  unfold shaK W32
  split
  · omega
  · split
    · omega
    · split <;> omega
structure W5 where
  a : Int
  b : Int
  c : Int
  d : Int
  e : Int
structure W5.ok (s : W5) : Prop where
  a : W32 s.a
  b : W32 s.b
  c : W32 s.c
  d : W32 s.d
  e : W32 s.e
def W5.round (t : Nat) (w : Int) (s : W5) : W5 := ⟨(rot5 s.a + shaF t s.b s.c s.d + s.e + shaK t + w) % 4294967296, s.a, rot30 s.b, s.c, s.d⟩
/-- So many rounds. -/
def W5.rounds (M : Nat → Int) : Nat → W5 → W5
  | 0, s => s
  | n + 1, s => (W5.rounds M n s).round n (sched M n)
def W5.add (s v : W5) : W5 := ⟨(s.a + v.a) % 4294967296, (s.b + v.b) % 4294967296, (s.c + v.c) % 4294967296, (s.d + v.d) % 4294967296, (s.e + v.e) % 4294967296⟩
theorem mod32_w (x : Int) : W32 (x % 4294967296) := by unfold W32; omega
theorem W5.round_ok {s : W5} (h : s.ok) (t : Nat) (w : Int) : (s.round t w).ok := ⟨mod32_w _, h.a, rot30_w _, h.c, h.d⟩
theorem W5.rounds_ok {s : W5} (h : s.ok) (M : Nat → Int) : ∀ n, (W5.rounds M n s).ok
  | 0 => h
  | n + 1 => W5.round_ok (W5.rounds_ok h M n) n _
theorem W5.rounds_succ (M : Nat → Int) (n : Nat) (s : W5) : W5.rounds M (n + 1) s = (W5.rounds M n s).round n (sched M n) := rfl
theorem W5.rounds_zero (M : Nat → Int) (s : W5) : W5.rounds M 0 s = s := rfl
theorem W5.rounds_congr {M M' : Nat → Int} (h : ∀ t, t < 16 → M t = M' t) (s : W5) : ∀ n, W5.rounds M n s = W5.rounds M' n s
  | 0 => rfl
  | n + 1 => by rw [W5.rounds_succ, W5.rounds_succ, W5.rounds_congr h s n, sched_congr h n]
theorem W5.add_ok (s v : W5) : (s.add v).ok := ⟨mod32_w _, mod32_w _, mod32_w _, mod32_w _, mod32_w _⟩

/-! ### Blocks of bytes -/
/-- The word of four bytes from place i on. -/
def word4 (g : Nat → Int) (i : Nat) : Int := bits .or .u32 (bits .or .u32 (bits .or .u32 (g i * 16777216) (g (i + 1) * 65536)) (g (i + 2) * 256)) (g (i + 3))
theorem word4_w (g : Nat → Int) (i : Nat) : W32 (word4 g i) := bits32_lt _ _ _
/-- What the block from place o on makes of the five words; n rounds. -/
def W5.blockN (n : Nat) (g : Nat → Int) (o : Nat) (s : W5) : W5 := W5.add s (W5.rounds (fun t => word4 g (o + 4 * t)) n s)
theorem W5.blockN_congr (n : Nat) {g g' : Nat → Int} {o o' : Nat} (h : ∀ i, i < 64 → g (o + i) = g' (o' + i)) (s : W5) : W5.blockN n g o s = W5.blockN n g' o' s := by
  unfold W5.blockN
  rw [W5.rounds_congr (M' := fun t => word4 g' (o' + 4 * t)) (fun t ht => by
    have h0 := h (4 * t) (by omega)
    have h1 := h (4 * t + 1) (by omega)
    have h2 := h (4 * t + 2) (by omega)
    have h3 := h (4 * t + 3) (by omega)
    simp only [← Nat.add_assoc] at h1 h2 h3
    show word4 g (o + 4 * t) = word4 g' (o' + 4 * t)
    unfold word4
    rw [h0, h1, h2, h3])]
theorem W5.blockN_ok (n : Nat) (g : Nat → Int) (o : Nat) (s : W5) : (W5.blockN n g o s).ok := W5.add_ok _ _
/-- So many blocks, of n rounds each. -/
def W5.blocksN (n : Nat) (g : Nat → Int) : Nat → W5 → W5
  | 0, s => s
  | k + 1, s => W5.blockN n g (64 * k) (W5.blocksN n g k s)
theorem W5.blocksN_zero (n : Nat) (g : Nat → Int) (s : W5) : W5.blocksN n g 0 s = s := rfl
theorem W5.blocksN_succ (n : Nat) (g : Nat → Int) (k : Nat) (s : W5) : W5.blocksN n g (k + 1) s = W5.blockN n g (64 * k) (W5.blocksN n g k s) := rfl
theorem W5.blocksN_ok (n : Nat) (g : Nat → Int) {s : W5} (h : s.ok) : ∀ k, (W5.blocksN n g k s).ok
  | 0 => h
  | k + 1 => W5.blockN_ok _ _ _ _
theorem W5.blocksN_congr (n : Nat) {g g' : Nat → Int} (s : W5) : ∀ k, (∀ i, i < 64 * k → g i = g' i) → W5.blocksN n g k s = W5.blocksN n g' k s
  | 0, _ => rfl
  | k + 1, h => by
    rw [W5.blocksN_succ, W5.blocksN_succ, W5.blocksN_congr n s k (fun i hi => h i (by omega)), W5.blockN_congr n (fun i hi => h (64 * k + i) (by omega))]
theorem W5.blocksN_add (n : Nat) {g g' g'' : Nat → Int} (s : W5) (a : Nat) : ∀ k, (∀ i, i < 64 * a → g i = g' i) → (∀ i, i < 64 * k → g (64 * a + i) = g'' i) → W5.blocksN n g (a + k) s = W5.blocksN n g'' k (W5.blocksN n g' a s)
  | 0, h, _ => W5.blocksN_congr n s a h
  | k + 1, h, h2 => by
    rw [← Nat.add_assoc, W5.blocksN_succ, W5.blocksN_succ, W5.blocksN_add n s a k h (fun i hi => h2 i (by omega)), W5.blockN_congr n (o' := 64 * k) (g' := g'') (fun i hi => by
      have := h2 (64 * k + i) (by omega)
      rw [← this]
      congr 1
      omega)]
/-- The bytes of a list, as numbers. -/
def lb (l : List UInt8) (i : Nat) : Int := ((l.getD i 0).toNat : Int)
theorem lb_at {l : List UInt8} {i : Nat} (h : i < l.length) : lb l i = (l[i].toNat : Int) := by
  unfold lb
  rw [List.getD_eq_getElem?_getD, List.getElem?_eq_getElem h]; rfl
theorem lb_left {l r : List UInt8} {i : Nat} (h : i < l.length) : lb (l ++ r) i = lb l i := by
  unfold lb
  rw [List.getD_eq_getElem?_getD, List.getD_eq_getElem?_getD, List.getElem?_append_left h]
theorem lb_right {l r : List UInt8} {n i : Nat} (h : l.length = n) : lb (l ++ r) (n + i) = lb r i := by
  unfold lb
  rw [List.getD_eq_getElem?_getD, List.getD_eq_getElem?_getD, List.getElem?_append_right (by omega), show n + i - l.length = i by omega]
theorem lb_drop (l : List UInt8) (n i : Nat) : lb (l.drop n) i = lb l (n + i) := by
  unfold lb
  rw [List.getD_eq_getElem?_getD, List.getD_eq_getElem?_getD, List.getElem?_drop]
theorem lb_take {l : List UInt8} {n i : Nat} (h : i < n) : lb (l.take n) i = lb l i := by
  unfold lb
  rw [List.getD_eq_getElem?_getD, List.getD_eq_getElem?_getD, List.getElem?_take, if_pos h]
theorem lb_byte (l : List UInt8) (i : Nat) : 0 ≤ lb l i ∧ lb l i ≤ 255 := by
  unfold lb
  have := (l.getD i 0).toNat_lt
  omega
/-- The number of rounds. -/
def nR : Nat := 80
/-- The five words at the beginning. -/
def shaInit : W5 := ⟨1732584193, 4023233417, 2562383102, 271733878, 3285377520⟩
theorem shaInit_ok : shaInit.ok := by constructor <;> exact ⟨by decide, by decide⟩
/-- The five words behind the whole blocks of some bytes. -/
def shaState (l : List UInt8) : W5 := W5.blocksN nR (lb l) (l.length / 64) shaInit
theorem shaState_ok (l : List UInt8) : (shaState l).ok := W5.blocksN_ok _ _ shaInit_ok _
theorem shaState_nil : shaState [] = shaInit := rfl
/-- Whole blocks more. -/
theorem shaState_app {l r q : List UInt8} {k : Nat} (hl : l.length % 64 + r.length = q.length) (hq : q = l.drop (64 * (l.length / 64)) ++ r) (hk : q.length = 64 * k) : shaState (l ++ r) = W5.blocksN nR (lb q) k (shaState l) := by
  unfold shaState
  have e : (l ++ r).length / 64 = l.length / 64 + k := by rw [List.length_append]; omega
  rw [e, W5.blocksN_add nR (g' := lb l) (g'' := lb q) shaInit (l.length / 64) k (fun i hi => lb_left (by omega)) (fun i hi => by
    have e2 : l ++ r = l.take (64 * (l.length / 64)) ++ q := by rw [hq, ← List.append_assoc, List.take_append_drop]
    rw [e2, lb_right (by rw [List.length_take]; omega)])]
/-- Less than a block more. -/
theorem shaState_more {l r : List UInt8} (h : l.length % 64 + r.length < 64) : shaState (l ++ r) = shaState l := by
  unfold shaState
  have e : (l ++ r).length / 64 = l.length / 64 := by rw [List.length_append]; omega
  rw [e, W5.blocksN_congr nR shaInit _ (fun i hi => lb_left (by omega))]
/-- So many bytes are wanted up to 56 of the last 64. -/
def padT (n : Nat) : Nat := if n % 64 < 56 then 56 - n % 64 else 120 - n % 64
/-- The bytes of a number of bits, the greatest first. -/
def lenBytes (n : Nat) : List UInt8 := (List.range 8).map fun i => UInt8.ofNat (8 * n / 2 ^ (8 * (7 - i)) % 256)
/-- What stands behind n bytes. -/
def shaPad (n : Nat) : List UInt8 := 128 :: (List.replicate (padT n - 1) 0 ++ lenBytes n)
theorem padT_pos (n : Nat) : 1 ≤ padT n ∧ padT n ≤ 64 ∧ (n + padT n) % 64 = 56 := by
  unfold padT
  split <;> omega
theorem lenBytes_length (n : Nat) : (lenBytes n).length = 8 := by simp [lenBytes]
theorem shaPad_length (n : Nat) : (shaPad n).length = padT n + 8 := by
  have := padT_pos n
  simp [shaPad, lenBytes_length]
  omega
/-- A word's four bytes. -/
def wordB (x : Int) : List UInt8 := [UInt8.ofNat (x / 16777216).toNat, UInt8.ofNat (x / 65536 % 256).toNat, UInt8.ofNat (x / 256 % 256).toNat, UInt8.ofNat (x % 256).toNat]
def W5.out (s : W5) : List UInt8 := wordB s.a ++ (wordB s.b ++ (wordB s.c ++ (wordB s.d ++ wordB s.e)))
theorem W5.out_length (s : W5) : s.out.length = 20 := by simp [W5.out, wordB]
/-- The sum. -/
def shaSum (l : List UInt8) : List UInt8 := (shaState (l ++ shaPad l.length)).out
end Go.Proofs.Ytlnidgkcgjlnaaa
