/-
  Rows of bytes that grow by append: the frame is the row itself and new blocks.
-/
import Derived.Test.YtlnidgkcgjlnaaaStrs
namespace Go.Proofs.Ytlnidgkcgjlnaaa
open Go.RowKit Go.Lib
set_option linter.unusedVariables false
set_option linter.unusedSimpArgs false

theorem info_u8g : (Try.prog.info? 5).map (fun i => (i.zero, i.size, i.bytes)) = some (some (.int .u8 0), 1, 1) := by kernel_rfl
theorem bs_one_g (l : List UInt8) : ∀ u ∈ bs l, u.oneCell' = true := by
  intro u hu
  simp only [bs, List.mem_map] at hu
  obtain ⟨b, _, rfl⟩ := hu
  rfl
theorem own_ext {w w' : World} {B e size n : Nat} {v : Value} {xs : List Value} (h : w.ownsRow B e size v n xs) (hb : Below w.heap.size w w') : w'.ownsRow B e size v n xs :=
  ⟨h.1, by
    rcases h.2 with hn | ⟨g, cap, cur, rfl, hbg, hg, rest⟩
    · exact .inl hn
    · exact .inr ⟨g, cap, cur, rfl, hbg, (hb.block g (Blk.lt (t := e) hg)).trans hg, rest⟩⟩
/-- The row stays, or is new. -/
def SameOrNew (w : World) (v v' : Value) : Prop := v'.ownBlock = v.ownBlock ∨ ∃ k, v'.ownBlock = some k ∧ w.heap.size ≤ k
theorem SameOrNew.rfl_ (w : World) (v : Value) : SameOrNew w v v := .inl rfl
theorem grown_refl (w : World) (r : Option Nat) : w.grownBy w r := ⟨rfl, rfl, rfl, Nat.le_refl _, fun _ _ _ => rfl⟩
theorem grown_then {a b c : World} {v v' : Value} (h : a.grownBy b v.ownBlock) (hn : SameOrNew a v v') (k : b.grownBy c v'.ownBlock) : a.grownBy c v.ownBlock :=
  ⟨k.os.trans h.os, k.tape.trans h.tape, k.output.trans h.output, Nat.le_trans h.size k.size, fun i hi hne => (k.block i (Nat.lt_of_lt_of_le hi h.size) (by
    rcases hn with e | ⟨j, e, hj⟩
    · rw [e]; exact hne
    · rw [e]; intro e2; injection e2 with e2; omega)).trans (h.block i hi hne)⟩
theorem SameOrNew.then {a b : World} {v v' v'' : Value} (h : SameOrNew a v v') (hs : a.heap.size ≤ b.heap.size) (k : SameOrNew b v' v'') : SameOrNew a v v'' := by
  rcases k with e | ⟨j, e, hj⟩
  · rcases h with e1 | ⟨i, e1, hi⟩
    · exact .inl (e.trans e1)
    · exact .inr ⟨i, e.trans e1, hi⟩
  · exact .inr ⟨j, e, Nat.le_trans hs hj⟩
theorem own_base {w : World} {B B' e size n : Nat} {v : Value} {xs : List Value} (h : w.ownsRow B e size v n xs) (hb : ∀ k, v.ownBlock = some k → B' ≤ k) : w.ownsRow B' e size v n xs := by
  refine ⟨h.1, ?_⟩
  rcases h.2 with hn | ⟨g, cap, cur, rfl, _, rest⟩
  · exact .inl hn
  · exact .inr ⟨g, cap, cur, rfl, hb g rfl, rest⟩
theorem own_base_new {w w' : World} {B e size n n' : Nat} {v v' : Value} {xs xs' : List Value} (h : w.ownsRow B e size v n xs) (hB : B ≤ w.heap.size) (h' : w'.ownsRow 0 e size v' n' xs') (hn : SameOrNew w v v') : w'.ownsRow B e size v' n' xs' :=
  own_base h' fun k hk => by
    rcases hn with e | ⟨j, e, hj⟩
    · exact (h.lt k (e ▸ hk)).1
    · rw [e] at hk; injection hk with hk; omega

section
variable {P : Program}
theorem append_own_more (base : Nat) (w : World) (t ty e : TypeId) (i : TypeInfo) (z : Value) (size bytes : Nat) (ht : P.underlying t = some (.slice e)) (hi : P.info? e = some i) (hz : i.zero = some z)
    (hsize : i.size = size) (hby : i.bytes = bytes) (hzs : z.cells.size = size) (hsz : 0 < size)
    (v : Value) (n : Nat) (xs : List Value) (hown : w.ownsRow base e size v n xs)
    (a : Addr) (m c : Nat) (news : List Value) (hl : news.length = m * size) (hnews : ∀ j u, news[j]? = some u → w.cell? (a.add j) = some u) (h1 : ∀ u ∈ news, u.oneCell' = true)
    (h63 : n + m ≤ maxLen) (hbytes : (n + m) * bytes ≤ 140737488355328) (hbase : base ≤ w.heap.size) :
    ∃ v' w', (Builtin.append_ #[t, t] ty #[v, .slice (some a) m c]).run P w = .ok v' w' ∧ w'.ownsRow base e size v' (n + m) (xs ++ news) ∧ w.grownBy w' v.ownBlock ∧ SameOrNew w v v' := by
  obtain ⟨v', w', hr, ho, hg, _⟩ := run_append_own (P := P) w base t ty e i z size bytes ht hi hz hsize hby hzs hsz v n xs hown a m c news hl hnews h1 h63 hbytes hbase
  refine ⟨v', w', hr, ho, hg, ?_⟩
  rcases hown.2 with ⟨rfl, rfl⟩ | ⟨g, cap, cur, rfl, hbg, hgg, hnc, hcm, hcs, htake⟩
  · obtain ⟨v2, w2, hr2, ho2, _, _⟩ := run_append_own (P := P) w w.heap.size t ty e i z size bytes ht hi hz hsize hby hzs hsz (.slice none 0 0) 0 xs ⟨hown.1, .inl ⟨rfl, rfl⟩⟩ a m c news hl hnews h1 h63 hbytes (Nat.le_refl _)
    rw [hr] at hr2
    injection hr2 with e1 e2
    subst e1 e2
    rcases ho2.2 with ⟨rfl, _⟩ | ⟨k, _, _, rfl, hk, _⟩
    · exact .inl rfl
    · exact .inr ⟨k, rfl, hk⟩
  · subst hsize
    by_cases hroom : n + m ≤ cap
    · have hfit : n * i.size + news.length ≤ cur.size := by rw [hl, hcs, ← Nat.add_mul]; exact Nat.mul_le_mul_right _ hroom
      have hr2 := run_append_room (P := P) w t ty e i ht hi g n cap cur hgg a m c news hl hnews h1 hroom hfit
      rw [hr] at hr2
      injection hr2 with e1 e2
      subst e1
      exact .inl rfl
    · have holds : ∀ j u, xs[j]? = some u → w.cell? ((⟨g, 0, none⟩ : Addr).add j) = some u := hown.cells (g := g) rfl
      have hr2 := run_append_grow (P := P) w t ty e i z ht hi hz ⟨g, 0, none⟩ n cap xs hown.1 holds a m c news hl hnews (by omega) (by simp only [maxLen] at h63; omega) (growslice_fits (by omega) (by rw [hby]; exact hbytes))
      rw [hr] at hr2
      injection hr2 with e1 e2
      subst e1
      exact .inr ⟨_, rfl, Nat.le_refl _⟩
theorem append_own_string_more (base : Nat) (w : World) (t u ty e : TypeId) (i : TypeInfo) (ht : P.underlying t = some (.slice e)) (hu : P.underlying u = some .string) (hi : P.info? e = some i) (hz : i.zero = some (.int .u8 0))
    (hsize : i.size = 1) (hby : i.bytes = 1)
    (v : Value) (n : Nat) (xs : List Value) (hown : w.ownsRow base e 1 v n xs) (s : ByteArray)
    (h63 : n + s.size ≤ maxLen) (hbytes : n + s.size ≤ 140737488355328) (hbase : base ≤ w.heap.size) :
    ∃ v' w', (Builtin.append_ #[t, u] ty #[v, .string s]).run P w = .ok v' w' ∧ w'.ownsRow base e 1 v' (n + s.size) (xs ++ strCells s) ∧ w.grownBy w' v.ownBlock ∧ SameOrNew w v v' := by
  obtain ⟨v', w', hr, ho, hg, _⟩ := run_append_own_string (P := P) w base t u ty e i ht hu hi hz hsize hby v n xs hown s h63 hbytes hbase
  refine ⟨v', w', hr, ho, hg, ?_⟩
  rcases hown.2 with ⟨rfl, rfl⟩ | ⟨g, cap, cur, rfl, hbg, hgg, hnc, hcm, hcs, htake⟩
  · obtain ⟨v2, w2, hr2, ho2, _, _⟩ := run_append_own_string (P := P) w w.heap.size t u ty e i ht hu hi hz hsize hby (.slice none 0 0) 0 xs ⟨hown.1, .inl ⟨rfl, rfl⟩⟩ s h63 hbytes (Nat.le_refl _)
    rw [hr] at hr2
    injection hr2 with e1 e2
    subst e1 e2
    rcases ho2.2 with ⟨rfl, _⟩ | ⟨k, _, _, rfl, hk, _⟩
    · exact .inl rfl
    · exact .inr ⟨k, rfl, hk⟩
  · by_cases hroom : n + s.size ≤ cap
    · have hcs' : cur.size = cap := by simpa using hcs
      have hr2 := run_append_room_string (P := P) w t u ty e i ht hu hi hsize g n cap cur hgg s hroom (by omega)
      rw [hr] at hr2
      injection hr2 with e1 e2
      subst e1
      exact .inl rfl
    · have holds : ∀ j u, xs[j]? = some u → w.cell? ((⟨g, 0, none⟩ : Addr).add j) = some u := hown.cells (g := g) rfl
      have hxl : xs.length = n := by simpa using hown.1
      have hr2 := run_append_grow_string (P := P) w t u ty e i (.int .u8 0) ht hu hi hz ⟨g, 0, none⟩ n cap xs (by rw [hsize]; simpa using hxl) holds s (by omega) (by simp only [maxLen] at h63; omega) (by rw [hby]; exact growslice_fits (by omega) (by omega))
      rw [hr] at hr2
      injection hr2 with e1 e2
      subst e1
      exact .inr ⟨_, rfl, Nat.le_refl _⟩
end

theorem own_form {w : World} {base : Nat} {e : TypeId} {size n : Nat} {v : Value} {xs : List Value} (hown : w.ownsRow base e size v n xs) : ∃ A c, v = .slice A n c ∧ n ≤ c ∧ c ≤ maxLen := by
  rcases hown.2 with ⟨rfl, rfl⟩ | ⟨g, cap, cur, rfl, _, _, h1, h2, _⟩
  · exact ⟨_, _, rfl, Nat.le_refl _, Nat.zero_le _⟩
  · exact ⟨_, _, rfl, h1, h2⟩
/-- What an append leaves. -/
def AppR (T : TypeId) (v : Value) (n : Nat) (xs : List Value) (w : World) (v' : Value) (w' : World) : Prop := w'.ownsRow 0 T 1 v' n xs ∧ w.grownBy w' v.ownBlock ∧ SameOrNew w v v'
/-- A builtin append of which one knows that it runs. -/
theorem wpList_append_ex {P : Program} {w : World} {ops : Array Oper} {rest : List Oper} {o : Oper} {a : Act} {Q : Exit → Act → World → Prop} (hgd : o.guard = none) (sl x : Operand) (t u : TypeId)
    (ho : o.op = .call { callee := .builtin .append, args := #[sl, x], argTypes := #[t, u] }) (v1 v2 : Value) (hs : a.eval sl = v1) (hx : a.eval x = v2) (R : World → Value → World → Prop)
    (hr : Hid (∃ v' w', (Builtin.append_ #[t, u] o.type #[v1, v2]).run P w = .ok v' w' ∧ R w v' w')) (h : ∀ v' w', R w v' w' → wpList P ops Q rest (a.put o.dst v') w') : wpList P ops Q (o :: rest) a w := by
  obtain ⟨v', w', h1, h2⟩ := hr.out
  exact wpList_append_run hgd sl x t u ho v1 v2 v' hs hx h1 (h v' w' h2)
/-- The same in a region that draws its order. -/
theorem step_append_ex {P : Program} {ops : Array Oper} {o : Oper} {a : Act} {w : World} {K : Act → World → Prop} {Q : Exit → Act → World → Prop} {E : Prop}
    (hgd : o.guard = none) (sl x : Operand) (t u : TypeId) (ho : o.op = .call { callee := .builtin .append, args := #[sl, x], argTypes := #[t, u] }) (v1 v2 : Value) (hs : a.eval sl = v1) (hx : a.eval x = v2) (R : World → Value → World → Prop)
    (hr : Hid (∃ v' w', (Builtin.append_ #[t, u] o.type #[v1, v2]).run P w = .ok v' w' ∧ R w v' w')) (h : ∀ v' w', R w v' w' → K (a.put o.dst v') w') : if Region.wanted o (yielded ops a.tmps) = true then Oper.wp P o a w K Q else E := by
  obtain ⟨v', w', h1, h2⟩ := hr.out
  have hw : Region.wanted o (yielded ops a.tmps) = true := by simp [Region.wanted, hgd]
  rw [if_pos hw]
  unfold Oper.wp execOp
  simp only [ho, resolve, invoke, builtin, Sem.run_bind, Sem.run_pure, Result.andThen_ok, List.map_toArray, List.map_cons, List.map_nil, hs, hx, h1]
  exact h v' w' h2

/-- A slice value that owns its row of bytes. -/
def OwnB (w : World) (v : Value) (l : List UInt8) : Prop := w.ownsRow 0 5 1 v l.length (bs l)
/-- 'append(v, m...)' where both are bytes, m lies anywhere. -/
theorem append_bytes (w : World) (v : Value) (l m : List UInt8) (n : Nat) (a : Addr) (c : Nat) (hown : OwnB w v l) (hR : ∀ j (hj : j < m.length), w.cell? (a.add j) = some (.int .u8 (m[j].toNat))) (hn : m.length = n) (hl : l.length + n ≤ 100000000) :
    ∃ v' w', (Builtin.append_ #[46, 46] 46 #[v, .slice (some a) n c]).run Try.prog w = .ok v' w' ∧ OwnB w' v' (l ++ m) ∧ w.grownBy w' v.ownBlock ∧ SameOrNew w v v' := by
  obtain ⟨i0, hi, hz0, hz1, hz2⟩ := info_parts info_u8g
  subst hn
  obtain ⟨v', w', h1, h2, h3, h4⟩ := append_own_more (P := Try.prog) 0 w 46 46 5 i0 (.int .u8 0) 1 1 Try.underlying46 hi hz0 hz1 hz2 rfl (by decide) v l.length (bs l) hown a m.length c (bs m) (by simp [bs]) (fun j u hu => by
    have hj : j < m.length := by
      have := (List.getElem?_eq_some_iff.1 hu).1
      rwa [bs_length] at this
    rw [bs_getElem?, List.getElem?_eq_getElem hj] at hu
    simp at hu
    rw [hR j hj, hu]) (bs_one_g m) (by unfold maxLen; omega) (by omega) (Nat.zero_le _)
  refine ⟨v', w', h1, ?_, h3, h4⟩
  unfold OwnB
  have e : bs (l ++ m) = bs l ++ bs m := by simp [bs]
  rw [e, List.length_append]
  exact h2
theorem append_str (w : World) (v : Value) (l : List UInt8) (s : ByteArray) (hown : OwnB w v l) (hl : l.length + s.size ≤ 100000000) :
    ∃ v' w', (Builtin.append_ #[46, 9] 46 #[v, .string s]).run Try.prog w = .ok v' w' ∧ OwnB w' v' (l ++ s.data.toList) ∧ w.grownBy w' v.ownBlock ∧ SameOrNew w v v' := by
  obtain ⟨i0, hi, hz0, hz1, hz2⟩ := info_parts info_u8g
  obtain ⟨v', w', h1, h2, h3, h4⟩ := append_own_string_more (P := Try.prog) 0 w 46 9 46 5 i0 Try.underlying46 Try.underlying9 hi hz0 hz1 hz2 v l.length (bs l) hown s (by unfold maxLen; omega) (by omega) (Nat.zero_le _)
  refine ⟨v', w', h1, ?_, h3, h4⟩
  unfold OwnB
  have e : bs (l ++ s.data.toList) = bs l ++ strCells s := by simp [bs, strCells]
  have e2 : (l ++ s.data.toList).length = l.length + s.size := by rw [List.length_append, Array.length_toList]; rfl
  rw [e, e2]
  exact h2
theorem OwnB.grown {w w' : World} {v : Value} {l : List UInt8} {r : Option Nat} (h : OwnB w v l) (hg : w.grownBy w' r) (hne : v.ownBlock = none ∨ v.ownBlock ≠ r) : OwnB w' v l := h.kept hg hne
theorem OwnB.cells {w : World} {A : Addr} {n c : Nat} {l : List UInt8} (h : OwnB w (.slice (some A) n c) l) : ∀ j (hj : j < l.length), w.cell? (A.add j) = some (.int .u8 (l[j].toNat)) := by
  intro j hj
  rcases h.2 with ⟨e, _⟩ | ⟨g, cap, cur, e, _⟩
  · cases e
  · injection e with e1 e2 e3
    injection e1 with e1
    subst e1
    exact World.ownsRow.cells h (g := g) rfl j _ (by rw [bs_getElem?, List.getElem?_eq_getElem hj]; rfl)
end Go.Proofs.Ytlnidgkcgjlnaaa
