/-
  What FnValueDigits' row lists, opened; a world that holds it.
-/
import Derived.Test.YtkockmpncocjhaaGreatDoorFnVD2
import Derived.Test.YtkockmpncocjhaaGreatDoorRows
import Derived.Test.YtkockmpncocjhaaGreatDoorCards
import Derived.Stop.LaidErr
import Derived.Stop.LaidTwo
import Derived.Lib.LaidTab
import Derived.Lib.LaidIn
import Derived.PinnedBridge
import Derived.Deep.DeepWitnessRowRef
namespace Go.Proofs.YtkockmpncocjhaaGreatDoor
open Go.RowKit Go.ChangeShapes Go.Lib
set_option linter.unusedVariables false
set_option linter.unusedSimpArgs false

noncomputable def put (h : Array Obj) (g : Nat) (cs : Array Value) : Array Obj := h.modify g fun
  | .cells _ t frozen => .cells cs t frozen
  | o => o
def cells1 : DataW Unit → List Value
  | .lit (.int k z) => [.int k z]
  | .lit (.float k b) => [.float k b]
  | .lit (.bool b) => [.bool b]
  | .lit (.string l) => [.string ⟨l.toArray⟩]
  | _ => []
def cells2 : DataW Unit → List Value
  | .agg l => l.flatMap cells1
  | d => cells1 d
def cells3 : DataW Unit → Array Value
  | .agg l => (l.flatMap cells2).toArray
  | .slice l _ => (l.flatMap cells2).toArray
  | d => (cells1 d).toArray
def errText : DataW Unit → Array Value
  | .iface _ (.ptr d) => cells3 d
  | _ => #[]
def slV (n len : Nat) : Array Value := #[.slice (some ⟨n, 0, none⟩) len len]
def erC (n : Nat) : Array Value := #[.iface 87 (.pointer (some ⟨n, 0, none⟩))]
/-! ### The errors, opened -/
theorem starErr : "*" ++ "errors.errorString" = "*errors.errorString" := by decide
theorem rowErr (u : TypeId) (h : Tryz.prog.typeName? 3 u = some "*errors.errorString") : u = 87 :=
  typeName_ptr_named (nm := "errors.errorString") (by rw [starErr]; kernel_rfl) (by kernel_rfl) (by decide) u (by rw [starErr]; exact h)
theorem open_of {w : World} {b : Nat} {c : Array Value} {t : TypeId} (h : w.heap[b]? = some (.cells c t (0, 0))) : Open w b := ⟨c, t, h⟩
theorem laidPow : (Rows.laid_internal_strconv_uint64pow10 : DataW Unit) = Lib.tabData .u64 Lib.pow10Tab := by rfl
theorem vdOf {W : World} (h : laidMetH Tryz.prog Rows.fnValueDigitsRow.laid W) : ∃ a1 a2 a3, ErrsW W a1 a2 a3 ∧ TabP W := by
  have h1 : laidMet Tryz.prog Rows.fnValueDigitsRow.laid W := h
  have hE : laidMet Tryz.prog (("strconv.ErrRange", Rows.laid_strconv_ErrRange) :: ("strconv.ErrSyntax", Rows.laid_strconv_ErrSyntax) :: ("pub-teleprinter/pub/lineprotocol/lineprotocol.errInvalidBool", Rows.laid_pub_teleprinter_pub_lineprotocol_lineprotocol_errInvalidBool) :: ("pub-teleprinter/pub/lineprotocol/lineprotocol.ErrValueOutOfRange", Rows.laid_pub_teleprinter_pub_lineprotocol_lineprotocol_ErrValueOutOfRange) :: Rows.fnValueDigitsRow.laid.drop 14) W := h1.tail.tail.tail.tail.tail.tail.tail.tail.tail.tail
  have hP : laidMet Tryz.prog (("internal/strconv.uint64pow10", Lib.tabData .u64 Lib.pow10Tab) :: Rows.fnValueDigitsRow.laid.drop 9) W := by
    have h2 : laidMet Tryz.prog (("internal/strconv.uint64pow10", Rows.laid_internal_strconv_uint64pow10) :: Rows.fnValueDigitsRow.laid.drop 9) W := h1.tail.tail.tail.tail.tail.tail.tail.tail
    rwa [laidPow] at h2
  obtain ⟨a1, a2, _, _, c0, c1, t0, t1, v1, v2, _, _, _, _, _, _, hne, b1, b2⟩ := laid_sentinels2 (g0 := 2) (g1 := 9) hE (by kernel_rfl) (by kernel_rfl) (by kernel_rfl) (by kernel_rfl) Tryz.underlying37 rowErr Tryz.underlying87 Tryz.underlying89 rfl rfl Tryz.underlying9 (by kernel_rfl) (by kernel_rfl)
  obtain ⟨_, a3, _, _, d0, d1, s0, s1, _, v3, _, _, _, _, _, _, _, _, b3⟩ := laid_sentinels2 (g0 := 4) (g1 := 0) hE.tail.tail (by kernel_rfl) (by kernel_rfl) (by kernel_rfl) (by kernel_rfl) Tryz.underlying37 rowErr Tryz.underlying87 Tryz.underlying89 rfl rfl Tryz.underlying9 (by kernel_rfl) (by kernel_rfl)
  have e1 := World.var?_cell (g := 2) (by kernel_rfl) v1 0
  have e2 := World.var?_cell (g := 9) (by kernel_rfl) v2 0
  have e3 := World.var?_cell (g := 0) (by kernel_rfl) v3 0
  exact ⟨a1, a2, a3, ⟨e1, e2, e3, hne, open_of b1, open_of b2, open_of b3⟩, Lib.tabIs_of_head (g := 1) (by kernel_rfl) (by kernel_rfl) Tryz.underlying53 Tryz.underlying25 (by kernel_rfl) (by kernel_rfl) hP⟩
/-! ### The great table of powers of ten -/
def pr (x : Nat × Nat) : List Value := [.int .u64 (x.1 : Nat), .int .u64 (x.2 : Nat)]
def rowD (x : Nat × Nat) : DataW Unit := .agg [.lit (.int .u64 (x.1 : Nat)), .lit (.int .u64 (x.2 : Nat))]
theorem pr_piece : ∀ (l : List (Nat × Nat)) (i : Nat) (x : Nat × Nat), l[i]? = some x → ((l.flatMap pr).drop (i * 2)).take 2 = pr x
  | [], i, x, h => by simp at h
  | y :: t, 0, x, h => by
    simp at h
    subst h
    simp [pr]
  | y :: t, i + 1, x, h => by
    simp at h
    have e : (i + 1) * 2 = i * 2 + 2 := by omega
    rw [List.flatMap_cons, e]
    have h2 : (pr y ++ t.flatMap pr).drop (i * 2 + 2) = (t.flatMap pr).drop (i * 2) := by
      show (Value.int .u64 (y.1 : Nat) :: Value.int .u64 (y.2 : Nat) :: t.flatMap pr).drop (i * 2 + 2) = _
      rw [List.drop_succ_cons, List.drop_succ_cons]
    rw [h2]
    exact pr_piece t i x h
theorem pr_length (l : List (Nat × Nat)) : (l.flatMap pr).length = l.length * 2 := by
  induction l with
  | nil => rfl
  | cons y t ih => rw [List.flatMap_cons, List.length_append, ih, List.length_cons]; simp [pr]; omega
theorem range_rows {α β : Type} (f : α → β) (d : α) (l : List α) : (List.range l.length).map (fun i => f (l.getD i d)) = l.map f := by
  apply List.ext_getElem
  · simp
  · intro i h1 h2
    simp at h1 h2
    simp [List.getD_eq_getElem?_getD, h2]
theorem mapM_some' {α β : Type} (g : α → Option β) (h : α → β) (l : List α) (given : ∀ a ∈ l, g a = some (h a)) : l.mapM g = some (l.map h) := by
  induction l with
  | nil => rfl
  | cons x r ih => rw [List.mapM_cons, given x (.head _), ih fun a ha => given a (.tail _ ha)]; rfl
def pairWf (x : Nat × Nat) : Bool := (Lit.int .u64 (x.1 : Nat)).wf && (Lit.int .u64 (x.2 : Nat)).wf
theorem row_reads (w : World) (x : Nat × Nat) (hw : pairWf x = true) : DataW.trod (fun _ => ()) Tryz.prog w 0 (fun _ => true) false 3 153 (pr x) = some (rowD x, []) := by
  simp only [pairWf, Bool.and_eq_true] at hw
  have c1 : Tryz.prog.cellsOf 153 = 2 := by kernel_rfl
  have c2 : Tryz.prog.cellsOf 25 = 1 := by kernel_rfl
  simp [DataW.trod, Tryz.underlying153, Tryz.underlying25, c1, c2, pr, rowD, hw.1, hw.2]
theorem tab_reads (w : World) (R : List (Nat × Nat)) (hn : R.length = 696) (hw : R.all pairWf = true) : DataW.trod (fun _ => ()) Tryz.prog w 0 (fun _ => true) false 4 154 (R.flatMap pr) = some (.agg (R.map rowD), []) := by
  have c1 : Tryz.prog.cellsOf 153 = 2 := by kernel_rfl
  have c2 : Tryz.prog.cellsOf 154 = 1392 := by kernel_rfl
  have he : ∀ i ∈ List.range R.length, DataW.trod (fun _ => ()) Tryz.prog w 0 (fun _ => true) false 3 153 (((R.flatMap pr).drop (i * 2)).take 2) = some ((fun i => (rowD (R.getD i (0, 0)), ([] : List MemPlace))) i) := by
    intro i hi
    have hi' := List.mem_range.1 hi
    rw [pr_piece R i (R[i]) (by simp [hi'])]
    have e : R.getD i (0, 0) = R[i] := by simp [List.getD_eq_getElem?_getD, hi']
    simp only [e]
    exact row_reads w _ (List.all_eq_true.1 hw _ (List.getElem_mem hi'))
  have hm := mapM_some' _ _ _ he
  show DataW.trod _ _ _ _ _ _ (3 + 1) _ _ = _
  unfold DataW.trod
  rw [Tryz.underlying154]
  simp only [c1]
  rw [if_pos (by rw [pr_length, hn, c2]), ← hn, hm]
  simp only [Option.map_some, List.map_map]
  have h1 : (List.range R.length).map ((fun x : DataW Unit × List MemPlace => x.1) ∘ fun i => (rowD (R.getD i (0, 0)), ([] : List MemPlace))) = R.map rowD := range_rows rowD (0, 0) R
  rw [h1]
  have h2 : ((List.range R.length).map fun i => (rowD (R.getD i (0, 0)), ([] : List MemPlace))).flatMap (fun x => x.2) = [] := by
    rw [List.flatMap_map]
    exact List.flatMap_eq_nil_iff.2 (fun _ _ => rfl)
  rw [h2]
theorem pr_int : ∀ (l : List (Nat × Nat)) (v : Value), v ∈ l.flatMap pr → ∃ z, v = .int .u64 z := by
  intro l v hv
  obtain ⟨x, _, h⟩ := List.mem_flatMap.1 hv
  simp [pr] at h
  rcases h with rfl | rfl <;> exact ⟨_, rfl⟩
theorem pr_wf (R : List (Nat × Nat)) (hw : R.all pairWf = true) (v : Value) (hv : v ∈ R.flatMap pr) : ∃ z, v = .int .u64 z ∧ (Lit.int .u64 z).wf = true := by
  obtain ⟨x, hx, h⟩ := List.mem_flatMap.1 hv
  have h2 := List.all_eq_true.1 hw x hx
  simp only [pairWf, Bool.and_eq_true] at h2
  simp [pr] at h
  rcases h with rfl | rfl
  · exact ⟨_, rfl, h2.1⟩
  · exact ⟨_, rfl, h2.2⟩
theorem all_but (f : Nat → Bool) (n k : Nat) (h1 : ((List.range n).filter (fun g => g != k)).all f = true) (h2 : f k = true) : (List.range n).all f = true := by
  rw [List.all_eq_true]
  intro g hg
  by_cases e : g = k
  · rw [e]; exact h2
  · exact List.all_eq_true.1 h1 g (List.mem_filter.2 ⟨hg, by simp [e]⟩)
theorem cell_ok (w : World) (z : Int) (h : (Lit.int .u64 z).wf = true) : Cell.okRefB Tryz.prog w 25 (.int .u64 z) = true := by
  unfold Cell.okRefB
  simp [Tryz.underlying25]
  unfold Cell.okB
  simp [Tryz.underlying25]
  first | exact h | (simp [Lit.wf] at h; first | exact h | (simp [IntKind.has, IntKind.min, IntKind.max, IntKind.signed, IntKind.bits] at h ⊢; omega))
theorem rows_ok (w : World) (R : List (Nat × Nat)) (hn : R.length = 696) (hw : R.all pairWf = true) : Row.okRefB Tryz.prog w 154 (R.flatMap pr).toArray = true := by
  have hts : (Tryz.prog.cellTypes Tryz.prog.depth 154).map (fun ts => (ts.length, ts.all (· == 25))) = some (1392, true) := by kernel_rfl
  obtain ⟨ts, h1, h2⟩ := Option.map_eq_some_iff.1 hts
  simp only [Prod.mk.injEq] at h2
  unfold Row.okRefB
  rw [h1]
  simp only [Bool.and_eq_true, List.all_eq_true]
  have hsz : (R.flatMap pr).toArray.size = 1392 := by rw [List.size_toArray, pr_length, hn]
  refine ⟨by rw [hsz, h2.1]; rfl, fun i hi => ?_⟩
  have hi' : i < 1392 := by rw [hsz] at hi; exact List.mem_range.1 hi
  have hlt : i < (R.flatMap pr).length := by rw [pr_length, hn]; exact hi'
  have hm : i % ts.length < ts.length := Nat.mod_lt _ (by rw [h2.1]; decide)
  obtain ⟨z, e, hz⟩ := pr_wf R hw _ (List.getElem_mem hlt)
  have hu : ts[i % ts.length] = 25 := by simpa using List.all_eq_true.1 h2.2 _ (List.getElem_mem hm)
  rw [List.getElem?_toArray, List.getElem?_eq_getElem hlt, List.getElem?_eq_getElem hm, e, hu]
  exact cell_ok w z hz
theorem not_iface {u : TypeId} {v : Value} (h : ∃ z, Value.iface u v = .int .u64 z) : False := by
  match h with
  | ⟨z, hz⟩ => simp at hz
theorem fit_of (w : World) (g n : Nat) (T : TypeId) (L : List Value) (hI : ∀ v ∈ L, ∃ z, v = .int .u64 z) (hh : w.heap[g]? = some (.cells L.toArray T (0, 0))) : RowsFit Tryz.prog w (MemPlace.row ⟨g, 0, none⟩ n) := by
  intro b off hm
  obtain ⟨i, hi, e⟩ := MemPlace.mem_row.1 hm
  injection e with e1 e2
  subst e1
  refine ⟨⟨_, _, hh⟩, fun u v hc => ?_⟩
  simp only [World.cell?, hh] at hc
  have hc' : L.toArray[off]? = some (.iface u v) := by simpa using hc
  rw [List.getElem?_toArray] at hc'
  have hm2 := List.mem_of_getElem? hc'
  exact (not_iface (hI _ hm2)).elim
namespace fnValueDigits
/-- A WORLD FOR THE WITNESS. -/
noncomputable def laidWorld (os : Os) : World :=
  let w0 := World.holding Tryz.prog os ⟨#[.cells (cells3 Rows.laid_internal_strconv_powtab) 3, .cells (cells3 Rows.laid_internal_strconv_float64pow10) 26, .cells (cells3 Rows.laid_internal_strconv_float32pow10) 108,
    .cells (errText Rows.laid_strconv_ErrRange) 89, .cells (errText Rows.laid_strconv_ErrSyntax) 89, .cells (errText Rows.laid_pub_teleprinter_pub_lineprotocol_lineprotocol_errInvalidBool) 89, .cells (errText Rows.laid_pub_teleprinter_pub_lineprotocol_lineprotocol_ErrValueOutOfRange) 89,
    .cells (cells3 Rows.laid_internal_strconv_leftcheats) 160], #[], []⟩
  let N := (World.settled Tryz.prog os).heap.size
  let h0 := put w0.heap 7 (cells3 Rows.laid_math_bits_deBruijn32tab)
  let h1 := put h0 8 (cells3 Rows.laid_math_bits_deBruijn64tab)
  let h2 := put h1 10 (cells3 Rows.laid_internal_strconv_float32info)
  let h3 := put h2 12 (cells3 Rows.laid_internal_strconv_float64info)
  let h4 := put h3 11 (cells3 Rows.laid_internal_strconv_optimize)
  let h5 := put h4 14 (slV N 9)
  let h6 := put h5 15 (slV (N + 1) 23)
  let h7 := put h6 13 (slV (N + 2) 11)
  let h8 := put h7 1 (cells3 Rows.laid_internal_strconv_uint64pow10)
  let h9 := put h8 6 (cells3 Rows.laid_unicode_utf8_acceptRanges)
  let h10 := put h9 2 (erC (N + 3))
  let h11 := put h10 9 (erC (N + 4))
  let h12 := put h11 4 (erC (N + 5))
  let h13 := put h12 0 (erC (N + 6))
  let h14 := put h13 17 (slV (N + 7) 61)
  let h15 := put h14 16 (Go.Pinned.pow10Rows.flatMap pr).toArray
  let h16 := put h15 5 (cells3 Rows.laid_unicode_utf8_first)
  { w0 with heap := h16 }
theorem rd1 (os : Os) (args : Array Value) : LaidIn Tryz.prog ((laidWorld os).forCall (fun _ _ => 0) ⟨#[], args, []⟩).memory [("math/bits.deBruijn32tab", Rows.laid_math_bits_deBruijn32tab), ("math/bits.deBruijn64tab", Rows.laid_math_bits_deBruijn64tab), ("internal/strconv.float32info", Rows.laid_internal_strconv_float32info), ("internal/strconv.float64info", Rows.laid_internal_strconv_float64info), ("internal/strconv.optimize", Rows.laid_internal_strconv_optimize), ("internal/strconv.powtab", Rows.laid_internal_strconv_powtab), ("internal/strconv.float64pow10", Rows.laid_internal_strconv_float64pow10), ("internal/strconv.float32pow10", Rows.laid_internal_strconv_float32pow10), ("internal/strconv.uint64pow10", Rows.laid_internal_strconv_uint64pow10), ("unicode/utf8.acceptRanges", Rows.laid_unicode_utf8_acceptRanges), ("strconv.ErrRange", Rows.laid_strconv_ErrRange), ("strconv.ErrSyntax", Rows.laid_strconv_ErrSyntax), ("pub-teleprinter/pub/lineprotocol/lineprotocol.errInvalidBool", Rows.laid_pub_teleprinter_pub_lineprotocol_lineprotocol_errInvalidBool), ("pub-teleprinter/pub/lineprotocol/lineprotocol.ErrValueOutOfRange", Rows.laid_pub_teleprinter_pub_lineprotocol_lineprotocol_ErrValueOutOfRange)] [7, 8, 10, 12, 11, 14, 23, 15, 24, 13, 25, 1, 6, 2, 26, 9, 27, 4, 28, 0, 29] :=
  LaidIn.of_run _ 8 (by kernel_rfl) (by kernel_rfl) (by kernel_rfl) (by kernel_rfl)
theorem rd2 (os : Os) (args : Array Value) : LaidIn Tryz.prog ((laidWorld os).forCall (fun _ _ => 0) ⟨#[], args, []⟩).memory [("internal/strconv.leftcheats", Rows.laid_internal_strconv_leftcheats)] [17, 30] :=
  LaidIn.of_run _ 8 (by kernel_rfl) (by kernel_rfl) (by kernel_rfl) (by kernel_rfl)
theorem rd4 (os : Os) (args : Array Value) : LaidIn Tryz.prog ((laidWorld os).forCall (fun _ _ => 0) ⟨#[], args, []⟩).memory [("unicode/utf8.first", Rows.laid_unicode_utf8_first)] [5] :=
  LaidIn.of_run _ 8 (by kernel_rfl) (by kernel_rfl) (by kernel_rfl) (by kernel_rfl)
theorem rd3 (os : Os) (args : Array Value) : LaidIn Tryz.prog ((laidWorld os).forCall (fun _ _ => 0) ⟨#[], args, []⟩).memory [("internal/strconv.pow10Tab", Rows.laid_internal_strconv_pow10Tab)] [16] := by
  have hh : ((laidWorld os).forCall (fun _ _ => 0) ⟨#[], args, []⟩).memory.heap[16]? = some (.cells (Go.Pinned.pow10Rows.flatMap pr).toArray 154 (0, 0)) := by kernel_rfl
  have hv : ((laidWorld os).forCall (fun _ _ => 0) ⟨#[], args, []⟩).memory.var? Tryz.prog "internal/strconv.pow10Tab" = some (Go.Pinned.pow10Rows.flatMap pr).toArray := by kernel_rfl
  generalize ((laidWorld os).forCall (fun _ _ => 0) ⟨#[], args, []⟩).memory = w at hh hv
  have hr := tab_reads w Go.Pinned.pow10Rows (by kernel_rfl) (by kernel_rfl)
  have hd : Rows.laid_internal_strconv_pow10Tab = (.agg (Go.Pinned.pow10Rows.map rowD) : DataW Unit) := rfl
  rw [hd]
  refine LaidIn.one (g := 16) (t := 154) (fuel := 4) (p := []) [16] (by kernel_rfl) (by kernel_rfl) hv hr ?_ ?_ ?_
  · rw [List.append_nil]; exact rowP_nodup _ _
  · rw [List.append_nil]
    exact fit_of w 16 _ _ _ (fun v hv2 => pr_int _ v hv2) hh
  · rw [List.append_nil]
    intro x hx
    obtain ⟨i, _, rfl⟩ := MemPlace.mem_row.1 hx
    simp [MemPlace.block]
theorem vars_ok (os : Os) (args : Array Value) : ((laidWorld os).forCall (fun _ _ => 0) ⟨#[], args, []⟩).variablesRefB Tryz.prog = true := by
  have hh : ((laidWorld os).forCall (fun _ _ => 0) ⟨#[], args, []⟩).heap[16]? = some (.cells (Go.Pinned.pow10Rows.flatMap pr).toArray 154 (0, 0)) := by kernel_rfl
  have hz : ((begin Tryz.prog (fun _ _ => 0) default).world.heap[16]?.bind Obj.row?).map (fun x => (x.1.size, x.2)) = some (1392, 154) := by kernel_rfl
  have hg : Tryz.prog.globals.size = 18 := by kernel_rfl
  have ho := rows_ok ((laidWorld os).forCall (fun _ _ => 0) ⟨#[], args, []⟩) Go.Pinned.pow10Rows (by kernel_rfl) (by kernel_rfl)
  have hs : (Go.Pinned.pow10Rows.flatMap pr).toArray.size = 1392 := by rw [List.size_toArray, pr_length]; kernel_rfl
  obtain ⟨zt, h1, h2⟩ := Option.map_eq_some_iff.1 hz
  obtain ⟨zero, t⟩ := zt
  simp only [Prod.mk.injEq] at h2
  unfold World.variablesRefB
  rw [hg]
  refine all_but _ 18 16 (by kernel_rfl) ?_
  simp only [h1, hh, h2.1, h2.2, hs, ho]
  simp
theorem laid_met (os : Os) (args : Array Value) : laidMet Tryz.prog Rows.fnValueDigitsRow.laid ((laidWorld os).forCall (fun _ _ => 0) ⟨#[], args, []⟩).memory :=
  ((((rd1 os args).append (rd2 os args) (by kernel_rfl)).append (rd3 os args) (by kernel_rfl)).append (rd4 os args) (by kernel_rfl)).met
end fnValueDigits
end Go.Proofs.YtkockmpncocjhaaGreatDoor
