/-
  Bytes in slices: what a slice of bytes reads as, strings out of such, the conversion of a string to bytes. Over any program. Nothing is assumed.
-/
import Derived.Test.YtlnidgkcgjlnaaaBase
namespace Go.Proofs.Ytlnidgkcgjlnaaa
open Go.RowKit

theorem snoc_ind {α : Type} {P : List α → Prop} (h0 : P []) (h1 : ∀ l c, P l → P (l ++ [c])) (l : List α) : P l := by
  have key : ∀ (n : Nat) (l : List α), l.length = n → P l := by
    intro n
    induction n with
    | zero => intro l hl; rw [List.eq_nil_of_length_eq_zero hl]; exact h0
    | succ n ih =>
      intro l hl
      rcases List.eq_nil_or_concat l with rfl | ⟨m, c, rfl⟩
      · exact h0
      · rw [List.concat_eq_append] at hl ⊢
        exact h1 m c (ih m (by simpa using hl))
  exact key _ l rfl
/-- Bytes as cells. -/
def bs (l : List UInt8) : List Value := l.map fun b => .int .u8 b.toNat
theorem bs_length (l : List UInt8) : (bs l).length = l.length := by simp [bs]
theorem bs_getElem? (l : List UInt8) (i : Nat) : (bs l)[i]? = l[i]?.map fun b => Value.int .u8 b.toNat := by simp [bs]
theorem bs_append (l m : List UInt8) : bs (l ++ m) = bs l ++ bs m := by simp [bs]
theorem bs_drop (l : List UInt8) (k : Nat) : bs (l.drop k) = (bs l).drop k := by simp [bs]
theorem bs_take (l : List UInt8) (k : Nat) : bs (l.take k) = (bs l).take k := by simp [bs]
theorem bs_oneCell (l : List UInt8) : ∀ u ∈ bs l, u.oneCell' = true := by
  intro u hu
  simp only [bs, List.mem_map] at hu
  obtain ⟨b, _, rfl⟩ := hu
  rfl
theorem strCells_bs (s : ByteArray) : Lib.strCells s = bs s.data.toList := rfl

/-- A slice value that reads as bytes. -/
def RBytes (w : World) (A : Option Addr) (l : List UInt8) : Prop := Reads w w.heap.size 1 A l.length (bs l)
theorem RBytes.nil (w : World) : RBytes w none [] := ⟨by simp [bs], fun h => absurd h (by simp)⟩
theorem RBytes.empty (w : World) (A : Option Addr) : RBytes w A [] := ⟨by simp [bs], fun h => absurd h (by simp)⟩
theorem RBytes.ext {w w' : World} {A : Option Addr} {l : List UInt8} (h : RBytes w A l) (hx : Ext w w') : RBytes w' A l := (Reads.below h hx).more hx.sizes
theorem RBytes.at_ {w : World} {A : Option Addr} {l : List UInt8} {k : Nat} (h : RBytes w A l) (hk : k < l.length) : ∃ ad, A = some ad ∧ ad.block < w.heap.size ∧ w.cell? (ad.add k) = some (.int .u8 (l[k].toNat)) := by
  obtain ⟨ad, u, e, hb, hu, hc⟩ := Reads.at_ h hk
  rw [bs_getElem?, List.getElem?_eq_getElem hk] at hu
  simp at hu
  exact ⟨ad, e, hb, by rw [hc, ← hu]⟩
theorem RBytes.addr {w : World} {A : Option Addr} {l : List UInt8} (h : RBytes w A l) (hl : 0 < l.length) : ∃ ad, A = some ad ∧ ad.block < w.heap.size ∧ ∀ k (hk : k < l.length), w.cell? (ad.add k) = some (.int .u8 (l[k].toNat)) := by
  obtain ⟨ad, e, hb, hc⟩ := h.at_ hl
  refine ⟨ad, e, hb, fun k hk => ?_⟩
  obtain ⟨ad', e', _, hc'⟩ := h.at_ hk
  rw [e] at e'
  injection e' with e'
  subst e'
  exact hc'
theorem RBytes.cut {w : World} {A : Option Addr} {l : List UInt8} {k cap : Nat} (h : RBytes w A l) (hk : k ≤ l.length) (hc : l.length ≤ cap) : RBytes w (if cap = k then A else A.map (·.add k)) (l.drop k) := by
  have := Reads.cut h (k := k) (cap := cap) hk hc
  unfold RBytes
  rw [bs_drop]
  simpa using this
theorem RBytes.take {w : World} {A : Option Addr} {l : List UInt8} (h : RBytes w A l) (k : Nat) : RBytes w A (l.take k) := by
  refine ⟨by simp [bs], fun hn => ?_⟩
  have hl : 0 < l.length := by simp at hn; omega
  obtain ⟨ad, e, hb, hc⟩ := h.2 hl
  refine ⟨ad, e, hb, fun j u hu => hc j u ?_⟩
  rw [bs_take, List.getElem?_take] at hu
  split at hu
  · exact hu
  · cases hu

section
variable {P : Program}
/-- 'string(b)'. -/
theorem run_string_of (w : World) (src dst e : TypeId) (hs : P.underlying src = some (.slice e)) (he : P.underlying e = some (.int .u8)) (hd : P.underlying dst = some .string) {A : Option Addr} {l : List UInt8} (cap : Nat)
    (h : RBytes w A l) : (convert src dst (.slice A l.length cap)).run P w = .ok (.string ⟨l.toArray⟩) w := by
  rcases A with _ | ad
  · have hl : l = [] := by
      rcases l with _ | ⟨x, l⟩
      · rfl
      · obtain ⟨ad, e, _⟩ := h.2 (by simp)
        cases e
    subst hl
    exact run_convert_bytes_nil w src e hs he _ _ dst hd
  · have hl : (loadCells ad l.length).run P w = .ok ((l.map fun b => (b.toNat : Int)).map (Value.int .u8)).toArray w := by
      have := run_loadCells_list (P := P) w ad (bs l) (fun j v hj => by
        have hj' : j < l.length := by
          have := (List.getElem?_eq_some_iff.1 hj).1
          rwa [bs_length] at this
        obtain ⟨ad', e', _, hc⟩ := h.2 (show 0 < l.length by omega)
        injection e' with e'
        subst e'
        exact hc j v hj)
      rw [bs_length] at this
      rw [this]
      simp [bs, Function.comp_def]
    rw [run_convert_bytes_string w src dst e _ l.length cap hs he hd, run_bytesToString w _ l.length cap _ hl, foldl_push_bytes]
    have h2 : (l.map fun b => (b.toNat : Int)).map (fun n => UInt8.ofNat n.toNat) = l := by
      rw [List.map_map]
      conv => rhs; rw [← List.map_id l]
      apply List.map_congr_left
      intro b _
      simp
    rw [h2]
    simp [ByteArray.empty, ByteArray.emptyWithCapacity]
    rfl

theorem run_string_n (w : World) (src dst e : TypeId) (hs : P.underlying src = some (.slice e)) (he : P.underlying e = some (.int .u8)) (hd : P.underlying dst = some .string) {A : Option Addr} {l : List UInt8} (n cap : Nat) (hn : l.length = n)
    (h : RBytes w A l) : (convert src dst (.slice A n cap)).run P w = .ok (.string ⟨l.toArray⟩) w := by
  subst hn; exact run_string_of w src dst e hs he hd cap h

theorem ext_bytesWorld {a b : World} (h : Ext a b) (e : TypeId) (s : ByteArray) : Ext a (Lib.bytesWorld b e s) :=
  h.trans ⟨rfl, rfl, rfl, by rw [Lib.bytesWorld_size]; omega, fun k hk => Lib.bytesWorld_at_old b e s k hk⟩
/-- '[]byte(s)': what it reads as. -/
theorem rbytes_bytesWorld (w : World) (e : TypeId) (s : ByteArray) : RBytes (Lib.bytesWorld w e s) (some ⟨w.heap.size, 0, none⟩) s.data.toList := by
  refine ⟨by simp [bs], fun _ => ⟨_, rfl, by rw [Lib.bytesWorld_size]; simp, fun j u hu => ?_⟩⟩
  have hj : j < s.size := by
    have := (List.getElem?_eq_some_iff.1 hu).1
    rw [bs_length, Array.length_toList] at this
    exact this
  have ha : (⟨w.heap.size, 0, none⟩ : Addr).add j = ⟨w.heap.size, j, none⟩ := by unfold Addr.add; split <;> simp_all
  rw [ha, Lib.bytesWorld_cell w e s j hj]
  rw [bs_getElem?] at hu
  have hj' : j < s.data.toList.length := by rw [Array.length_toList]; exact hj
  rw [List.getElem?_eq_getElem hj'] at hu
  simp only [List.getD, List.getElem?_eq_getElem hj']
  simpa using hu
theorem rbytes_bytesWorld_at (w : World) (e : TypeId) (s : ByteArray) (k : Nat) (hk : w.heap.size = k) : RBytes (Lib.bytesWorld w e s) (some ⟨k, 0, none⟩) s.data.toList := by
  subst hk; exact rbytes_bytesWorld w e s
/-- A variable of the call's own: one cell, not frozen. -/
def Var (w : World) (b : Nat) (v : Value) : Prop := b < w.heap.size ∧ w.cell? ⟨b, 0, none⟩ = some v ∧ w.frozen? ⟨b, 0, none⟩ = false
theorem Var.ext {w w' : World} {b : Nat} {v : Value} (h : Var w b v) (hx : Ext w w') : Var w' b v :=
  ⟨Nat.lt_of_lt_of_le h.1 hx.sizes, (hx.cell (p := ⟨b, 0, none⟩) h.1).trans h.2.1, (hx.frozen (p := ⟨b, 0, none⟩) h.1).trans h.2.2⟩
theorem Var.new (w : World) (v : Value) (T : TypeId) : Var (w.alloc (.cells #[v] T)) w.heap.size v := by
  refine ⟨by simp, ?_, ?_⟩ <;> simp [go_sem]
theorem Var.new_at (w : World) (v : Value) (T : TypeId) (k : Nat) (hk : w.heap.size = k) : Var (w.alloc (.cells #[v] T)) k v := by subst hk; exact Var.new w v T
/-- A builtin append whose run is known. -/
theorem wpList_append_run {w w' : World} {ops : Array Oper} {rest : List Oper} {o : Oper} {a : Act} {Q : Exit → Act → World → Prop} (hgd : o.guard = none) (sl x : Operand) (t u : TypeId)
    (ho : o.op = .call { callee := .builtin .append, args := #[sl, x], argTypes := #[t, u] }) (v1 v2 r : Value) (hs : a.eval sl = v1) (hx : a.eval x = v2)
    (hr : (Builtin.append_ #[t, u] o.type #[v1, v2]).run P w = .ok r w') (h : wpList P ops Q rest (a.put o.dst r) w') : wpList P ops Q (o :: rest) a w := by
  refine wpList_plain hgd fun K hK => ?_
  unfold Oper.wp execOp
  simp only [ho, resolve, invoke, builtin, Sem.run_bind, Sem.run_pure, Result.andThen_ok, List.map_toArray, List.map_cons, List.map_nil, hs, hx, hr]
  exact hK _ _ h
theorem setRow_alloc (w : World) (cur cs : Array Value) (T : TypeId) : (w.alloc (.cells cur T)).setRow w.heap.size cs = w.alloc (.cells cs T) := by
  have h : ((w.alloc (.cells cur T)).setRow w.heap.size cs).heap = (w.alloc (.cells cs T)).heap := by
    apply Array.ext_getElem?
    intro i
    show ((w.heap.push _).modify _ _)[i]? = (w.heap.push _)[i]?
    rw [Array.getElem?_modify, Array.getElem?_push, Array.getElem?_push]
    by_cases e : i = w.heap.size
    · subst e; simp
    · rw [if_neg (by omega), if_neg e, if_neg e]
  have e : ∀ u v : World, u.heap = v.heap → u.tape = v.tape → u.drawn = v.drawn → u.os = v.os → u.output = v.output → u = v := by
    rintro ⟨a, b, c, d, e⟩ ⟨a', b', c', d', e'⟩ rfl rfl rfl rfl rfl; rfl
  exact e _ _ h rfl rfl rfl rfl
theorem size_data (s : ByteArray) : s.data.toList.length = s.size := by rw [Array.length_toList]; rfl
end
end Go.Proofs.Ytlnidgkcgjlnaaa
