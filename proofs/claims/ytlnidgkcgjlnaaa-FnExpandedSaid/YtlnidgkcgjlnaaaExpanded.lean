/-
  The walk of laws.FnExpanded: bytes brought to a length.
-/
import Derived.Test.YtlnidgkcgjlnaaaOps
import Derived.Lib.AppendStr
namespace Go.Proofs.Ytlnidgkcgjlnaaa
open Go.RowKit
set_option linter.unusedVariables false
set_option linter.unusedSimpArgs false

theorem info_u8 : (Try.prog.info? 5).map (fun i => (i.zero, i.size, i.bytes)) = some (some (.int .u8 0), 1, 1) := by kernel_rfl

set_option maxRecDepth 100000 in
/-- 'make([]byte, n, c)'. -/
theorem run_make_bytes (n c : Nat) (hnc : n ≤ c) (hc : c ≤ 10000) (w : World) :
    (Instr.makeSlice 46 (.int .i64 n) (.int .i64 c)).run Try.prog w = .ok (.slice (some ⟨w.heap.size, 0, none⟩) n c) (w.alloc (.cells (bs (List.replicate c 0)).toArray 5)) := by
  obtain ⟨i0, hi, hz0, hz1, hz2⟩ := info_parts info_u8
  have h := run_make_rowN (P := Try.prog) 46 5 i0 (.int .u8 0) Try.underlying46 hi hz0 .i64 .i64 n c hnc (by rw [hz2]; omega) (by omega) w
  rw [h]
  congr 2
  congr 1
  apply Array.ext'
  rw [hz1, Nat.mul_one]
  have : (Value.int .u8 0).cells = #[.int .u8 0] := rfl
  rw [this, toList_madeCells_one]
  simp [bs]

/-- A row that begins with these bytes. -/
theorem rbytes_alloc (w : World) (l : List UInt8) (T : TypeId) (k : Nat) (hk : w.heap.size = k) : RBytes (w.alloc (.cells (bs l).toArray T)) (some ⟨k, 0, none⟩) l := by
  subst hk
  refine ⟨by simp [bs], fun _ => ⟨_, rfl, by simp, fun j u hu => ?_⟩⟩
  have ha : (⟨w.heap.size, 0, none⟩ : Addr).add j = ⟨w.heap.size, j, none⟩ := by unfold Addr.add; split <;> simp_all
  rw [ha]
  have := (Blk.new w T (bs l).toArray).cell j
  rw [this]
  simpa using hu

/-- What Expand makes. -/
def expandTo (l : List UInt8) (n : Nat) : List UInt8 := if n ≤ l.length then l.take n else List.replicate n 0

set_option maxRecDepth 100000 in
set_option maxHeartbeats 400000 in
theorem expand_any (A : Option Addr) (len cap n : Nat) (l : List UInt8) (w : World) (hcap : l.length = cap) (hlen : len ≤ cap) (hc : cap ≤ 10000) (hn : n ≤ 10000) (h : RBytes w A l) (hA : ∃ ad, A = some ad) :
    Calls Try.prog 25 #[.slice A len cap, .int .i64 n] w fun e w' => ∃ A' cap', e = .returned (.slice A' n cap') ∧ RBytes w' A' (expandTo l n) ∧ Ext w w' := by
  obtain ⟨ad, rfl⟩ := hA
  have hnil := fun w => Lib.run_eql_slice_nil (P := Try.prog) w 46 5 (some ad) len cap 0 0 Try.underlying46
  simp only [Option.isNone_some] at hnil
  by_cases hgt : cap < n
  · have hmk := run_make_bytes n n (Nat.le_refl _) hn
    have hn0 : ((n : Int) == 0) = false := by rw [beq_eq_false_iff_ne]; omega
    have HE : Hid (expandTo l n = List.replicate n 0) := hide (by rw [expandTo, if_neg (by omega)])
    have HW := hide (rbytes_alloc w (List.replicate n 0) 5 _ rfl)
    go_enter Try.func25, Try.ntmps25
    go_wp2
    go_ret
    exact ⟨_, _, rfl, by rw [HE.out]; exact HW.out, (Ext.refl _).alloc _⟩
  · have HR := hide (h.take n)
    have HE : Hid (expandTo l n = l.take n) := hide (by rw [expandTo, if_pos (by omega)])
    clear h
    by_cases h0 : n = 0
    · subst h0
      go_enter Try.func25, Try.ntmps25
      go_wp2
      go_ret
      exact ⟨_, _, rfl, by rw [HE.out]; exact HR.out, Ext.refl _⟩
    · have hn0 : ((n : Int) == 0) = false := by rw [beq_eq_false_iff_ne]; omega
      go_enter Try.func25, Try.ntmps25
      go_wp2
      go_ret
      exact ⟨_, _, rfl, by rw [HE.out]; exact HR.out, Ext.refl _⟩

theorem expanded_idle (args : Array Value) (w : World) : CallsD Try.prog 24 args .returning w fun e u' w' => e = .returned (.tuple #[]) ∧ u' = .returning ∧ w' = w :=
  idle_of w nilTest_any Try.func24 rfl rfl (by decide) (by decide)

/-- Bytes in room for so many. -/
def inRoom (l : List UInt8) (c : Nat) : List UInt8 := l ++ List.replicate (c - l.length) 0

set_option maxRecDepth 100000 in
/-- 'append(make([]byte, 0, c), s...)'. -/
theorem run_append_str (s : ByteArray) (c : Nat) (hs : s.size ≤ c) (w : World) (k : Nat) (hk : w.heap.size = k) :
    (Builtin.append_ #[46, 9] 46 #[.slice (some ⟨k, 0, none⟩) 0 c, .string s]).run Try.prog (w.alloc (.cells (bs (List.replicate c 0)).toArray 5)) =
      .ok (.slice (some ⟨k, 0, none⟩) s.size c) (w.alloc (.cells (bs (inRoom s.data.toList c)).toArray 5)) := by
  subst hk
  obtain ⟨i0, hi, hz0, hz1, hz2⟩ := info_parts info_u8
  have h := Lib.run_append_room_string (P := Try.prog) (w.alloc (.cells (bs (List.replicate c 0)).toArray 5)) 46 9 46 5 i0 Try.underlying46 Try.underlying9 hi hz1 w.heap.size 0 c _ (Blk.new w _ _) s (by omega) (by simp [bs]; omega)
  rw [Nat.zero_add] at h
  rw [h]
  rw [setRow_alloc]
  have e : ((bs (List.replicate c 0)).toArray.toList.take 0 ++ Lib.strCells s ++ (bs (List.replicate c 0)).toArray.toList.drop s.size) = bs (inRoom s.data.toList c) := by
    rw [strCells_bs]
    simp only [List.take_zero, List.nil_append, inRoom, bs_append, size_data]
    congr 1
    rw [← bs_drop, List.drop_replicate]
  rw [e]

theorem inRoom_length (l : List UInt8) (c : Nat) (h : l.length ≤ c) : (inRoom l c).length = c := by simp [inRoom]; omega
theorem expandTo_length (l : List UInt8) (n : Nat) : (expandTo l n).length = n := by
  unfold expandTo; split <;> simp; omega

set_option maxRecDepth 100000 in
set_option maxHeartbeats 1000000 in
theorem implExpanded_core (s : ByteArray) (room : Int) (n c : Nat) (w : World) (hs : s.size ≤ 500) (hr0 : 0 ≤ room) (hr : room ≤ 5000) (hn : n ≤ 5000) (hc : s.size ≤ c) (hc2 : c ≤ 5000) (hm : (room < s.size ∧ s.size = c) ∨ (¬ room < s.size ∧ room = (c : Int))) :
    Calls Try.prog 9 #[.string s, .int .i64 room, .int .i64 n] w fun e w' => e = .returned (.tuple #[.string ⟨(expandTo (inRoom s.data.toList c) n).toArray⟩, .bool true]) ∧ Ext w w' := by
  have hmf : ∀ (fn : Fn) (first cap : Array Value) (w : World), (Instr.makeFunc fn first cap).run Try.prog w = .ok (.func fn first cap) w := fun _ _ _ _ => rfl
  have hmk : ∀ w, (Instr.makeSlice 46 (.int .i64 0) (.int .i64 c)).run Try.prog w = .ok (.slice (some ⟨w.heap.size, 0, none⟩) 0 c) (w.alloc (.cells (bs (List.replicate c 0)).toArray 5)) :=
    fun w => by have := run_make_bytes 0 c (Nat.zero_le _) (by omega) w; simpa using this
  have HLEN := hide (inRoom_length s.data.toList c (by rw [size_data]; exact hc))
  have HLE := hide (expandTo_length (inRoom s.data.toList c) n)
  have key : ∀ w1 A' cap', Ext w w1 → RBytes w1 A' (expandTo (inRoom s.data.toList c) n) → (convert 46 9 (.slice A' n cap')).run Try.prog w1 = .ok (.string ⟨(expandTo (inRoom s.data.toList c) n).toArray⟩) w1 :=
    fun w1 A' cap' _ h => run_string_n w1 _ _ _ Try.underlying46 Try.underlying5 Try.underlying9 n cap' HLE.out h
  have HKEY := hide key
  clear key
  obtain ⟨L, hL⟩ : ∃ L, L = inRoom s.data.toList c := ⟨_, rfl⟩
  rw [← hL] at HLEN HLE HKEY ⊢
  obtain ⟨r, hrr⟩ : ∃ r : ByteArray, r = ⟨(expandTo L n).toArray⟩ := ⟨_, rfl⟩
  rw [← hrr] at HKEY ⊢
  have HA : Hid (∀ (w : World) (k : Nat), w.heap.size = k → (Builtin.append_ #[46, 9] 46 #[.slice (some ⟨k, 0, none⟩) 0 c, .string s]).run Try.prog (w.alloc (.cells (bs (List.replicate c 0)).toArray 5)) =
      .ok (.slice (some ⟨k, 0, none⟩) s.size c) (w.alloc (.cells (bs L).toArray 5))) := hide (fun w k hk => by rw [hL]; exact run_append_str s c hc w k hk)
  have HZ : Hid (Var ((w.alloc (.cells #[.string ⟨#[]⟩] 9)).alloc (.cells #[.bool false] 4)) w.heap.size (.string ⟨#[]⟩)) := hide ((Var.new w (.string ⟨#[]⟩) _).ext ((Ext.refl _).alloc _))
  have HY : Hid (Var ((w.alloc (.cells #[.string ⟨#[]⟩] 9)).alloc (.cells #[.bool false] 4)) (w.heap.size + 1) (.bool false)) := hide (Var.new_at _ (.bool false) _ _ (by simp))
  clear hL hrr
  rcases hm with ⟨hlt, he⟩ | ⟨hlt, he⟩
  all_goals
    first | (obtain rfl := he) | (subst he)
    go_enter_defers Try.func9, Try.ntmps9
    go_wp2_with (at_builtin; refine wpList_append_run rfl _ _ _ _ rfl _ _ _ rfl rfl (HA.out _ _ (by simp)) ?_)
    refine (expand_any _ _ _ n L _ HLEN.out (by omega) (by omega) (by omega) (rbytes_alloc _ _ _ _ (by simp)) ⟨_, rfl⟩).mono ?_
    rintro e w1 ⟨A', cap', rfl, hrb, hx⟩
    have hx2 : Ext w w1 := (((Ext.refl w).alloc _).alloc _ |>.alloc _).trans hx
    have hst := HKEY.out w1 A' cap' hx2 hrb
    obtain ⟨s2, c2, f2⟩ := (HZ.out.ext ((Ext.refl _).alloc _)).ext hx
    obtain ⟨s3, c3, f3⟩ := (HY.out.ext ((Ext.refl _).alloc _)).ext hx
    have HX := hide hx2
    clear hx hx2 hrb
    go_wp2
    refine door_idle (expanded_idle _ _) (by simp [go_sem]) ?_
    have HXo := HX.out
    simp [results, Try.results9, go_sem, c2, c3, f2, f3]
    repeat (first | exact Ext.refl _ | assumption | refine Ext.drew ?_ | refine Ext.drewN ?_ _ | refine Ext.alloc ?_ _ | refine ext_bytesWorld ?_ _ _ | refine Ext.setCell ?_ (by first | (simp; done) | (simp; omega)) _)

end Go.Proofs.Ytlnidgkcgjlnaaa
