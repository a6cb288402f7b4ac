/-
  What stands while messages are written: the options, the pool, the buffer, the scratch; the frame.
-/
import Derived.Test.YtepeokoeempfgaaDoorBufX
import Derived.Test.YtepeokoeempfgaaDoorAInt
namespace Go.Proofs.YtepeokoeempfgaaDoor
open Go.RowKit
set_option linter.unusedVariables false
set_option linter.unusedSimpArgs false

/-- The types that are written. -/
def TT (t : TypeId) : Prop := t = 133 ∨ t = 50 ∨ t = 91 ∨ t = 5 ∨ t = 54
structure Fr (B : Nat) (w w' : World) : Prop where
  below : Below B w w'
  kept : ∀ (k : Nat) (cs : Array Value) (t : TypeId), Blk w k t cs → ¬ TT t → Blk w' k t cs
theorem Fr.refl (B : Nat) (w : World) : Fr B w w := ⟨Below.refl _ _, fun _ _ _ h _ => h⟩
theorem Fr.trans {B : Nat} {a b c : World} (h : Fr B a b) (k : Fr B b c) : Fr B a c := ⟨h.below.trans k.below, fun i cs t hi ht => k.kept i cs t (h.kept i cs t hi ht) ht⟩
theorem Fr.size {B : Nat} {a b : World} (h : Fr B a b) : a.heap.size ≤ b.heap.size := h.below.size
theorem Fr.of_chg {B : Nat} {S : List Nat} {w w' : World} (h : Chg S w w') (hB : B ≤ w.heap.size) (hS : ∀ i ∈ S, B ≤ i ∧ (w.heap.size ≤ i ∨ ∃ (cs : Array Value) (t : TypeId), Blk w i t cs ∧ TT t)) : Fr B w w' :=
  ⟨h.below (fun i hi => (hS i hi).1) hB, fun k cs t hk ht => by
    have hlt : k < w.heap.size := hk.lt
    exact (h.block k hlt (fun hm => by
      rcases (hS k hm).2 with h1 | ⟨cs', t', h1, h2⟩
      · omega
      · by_cases e : t = t'
        · subst e; exact ht h2
        · exact Blk.ne_ hk h1 e rfl)).trans hk⟩
theorem Fr.of_ext {B : Nat} {w w' : World} (h : Ext w w') (hB : B ≤ w.heap.size) : Fr B w w' := Fr.of_chg (S := []) (Chg.of_ext h _) hB (by simp)
theorem Fr.blk {B : Nat} {w w' : World} {k : Nat} {t : TypeId} {cs : Array Value} (h : Fr B w w') (hb : Blk w k t cs) (ht : ¬ TT t) : Blk w' k t cs := h.kept k cs t hb ht
theorem Fr.opts {B : Nat} {w w' : World} {o p r : Nat} (h : Fr B w w') (hb : OptsB w o p r) : OptsB w' o p r := h.blk hb (by unfold TT; decide)

def Tab10 (B : Nat) (w : World) : Prop := Lib.TabBelow Tryd.prog B w "internal/strconv.uint64pow10" .u64 Lib.pow10Tab
theorem Tab10.fr {B : Nat} {w w' : World} (h : Tab10 B w) (k : Fr B w w') : Tab10 B w' := Lib.TabBelow.on h k.below

/-- All but the scratch and what waits in the pool. -/
structure Rest (B : Nat) (w : World) (o p r b : Nat) (h : Option Nat) (bv : Value) (l : List UInt8) : Prop where
  hB : B ≤ w.heap.size
  tab : Tab10 B w
  opts : OptsB w o p r
  buf : ∃ lr, BufB w b bv lr
  own : OwnB w bv l
  hz : bv.ownBlock ≠ none → 1 ≤ l.length
  gp : B ≤ p
  gb : B ≤ b
  gh : ∀ k, h = some k → B ≤ k
  gv : ∀ k, bv.ownBlock = some k → B ≤ k
/-- A message is under way: the scratch holds li. -/
structure Mid (B : Nat) (w : World) (o p r b : Nat) (h : Option Nat) (bv : Value) (l : List UInt8) (sc : Nat) (v : Value) (li : List UInt8) : Prop where
  rest : Rest B w o p r b h bv l
  pool : PoolW w p h none
  scr : Scr w sc v li
  ne : bv.ownBlock ≠ v.ownBlock
  gs : B ≤ sc
  gw : ∀ k, v.ownBlock = some k → B ≤ k
/-- Between messages: l has been written. -/
def St (B : Nat) (w : World) (o p r b : Nat) (l : List UInt8) : Prop := ∃ h bv q, Rest B w o p r b h bv l ∧ PoolW w p h q ∧ ∀ sc, q = some sc → ∃ v, Scr w sc v [] ∧ bv.ownBlock ≠ v.ownBlock ∧ B ≤ sc ∧ ∀ k, v.ownBlock = some k → B ≤ k

theorem mem_toList {x : Option Nat} {i : Nat} (h : i ∈ x.toList) : x = some i := by
  cases x with
  | none => simp at h
  | some k => simp at h; rw [h]
theorem PoolW.chg {S : List Nat} {w w' : World} {p : Nat} {h q : Option Nat} (hp : PoolW w p h q) (hc : Chg S w w') (h1 : p ∉ S) (h2 : ∀ k, h = some k → k ∉ S) : PoolW w' p h q := by
  obtain ⟨used, ps, hb, rfl, ho⟩ := hp
  refine ⟨used, ps, Blk.chg (show Blk w p _ _ from hb) hc h1, rfl, ?_⟩
  cases q with
  | none => exact own_chg ho hc h2
  | some sc => exact own_chg ho hc h2
theorem PoolW.blk {w : World} {p : Nat} {h q : Option Nat} (hp : PoolW w p h q) : ∃ cs, Blk w p 133 cs := by
  obtain ⟨used, ps, hb, _⟩ := hp
  exact ⟨_, hb⟩
theorem PoolW.row {w : World} {p k : Nat} {h q : Option Nat} (hp : PoolW w p h q) (hk : h = some k) : ∃ cs, Blk w k 91 cs := by
  obtain ⟨used, ps, hb, rfl, ho⟩ := hp
  cases q with
  | none => exact own_blk ho hk
  | some sc => exact own_blk ho hk
theorem Scr.chg {S : List Nat} {w w' : World} {sc : Nat} {v : Value} {li : List UInt8} (hs : Scr w sc v li) (hc : Chg S w w') (h1 : sc ∉ S) (h2 : ∀ k, v.ownBlock = some k → k ∉ S) : Scr w' sc v li :=
  ⟨hs.1.chg hc h1, own_chg hs.2.1 hc h2, hs.2.2⟩
theorem Rest.chg {S : List Nat} {B : Nat} {w w' : World} {o p r b : Nat} {h : Option Nat} {bv : Value} {l : List UInt8} (hr : Rest B w o p r b h bv l) (hc : Chg S w w') (hf : Fr B w w') (h1 : b ∉ S) (h2 : ∀ k, bv.ownBlock = some k → k ∉ S) : Rest B w' o p r b h bv l :=
  ⟨Nat.le_trans hr.hB hc.size, hr.tab.fr hf, hf.opts hr.opts, by obtain ⟨lr, hb⟩ := hr.buf; exact ⟨lr, Blk.chg (show Blk w b _ _ from hb) hc h1⟩, own_chg hr.own hc h2, hr.hz, hr.gp, hr.gb, hr.gh, hr.gv⟩
theorem St.chg_ext {B : Nat} {w w' : World} {o p r b : Nat} {l : List UInt8} (hs : St B w o p r b l) (hx : Ext w w') : St B w' o p r b l ∧ Fr B w w' := by
  obtain ⟨h, bv, q, hr, hp, hq⟩ := hs
  have hf := Fr.of_ext hx hr.hB
  have hc := Chg.of_ext hx []
  refine ⟨⟨h, bv, q, hr.chg hc hf (by simp) (by simp), hp.chg hc (by simp) (by simp), fun sc e => ?_⟩, hf⟩
  obtain ⟨v, h1, h2⟩ := hq sc e
  exact ⟨v, h1.chg hc (by simp) (by simp), h2⟩
theorem Mid.ext {B : Nat} {w w' : World} {o p r b : Nat} {h : Option Nat} {bv : Value} {l : List UInt8} {sc : Nat} {v : Value} {li : List UInt8} (hm : Mid B w o p r b h bv l sc v li) (hx : Ext w w') : Mid B w' o p r b h bv l sc v li :=
  have hc := Chg.of_ext hx []
  ⟨hm.rest.chg hc (Fr.of_ext hx hm.rest.hB) (by simp) (by simp), hm.pool.chg hc (by simp) (by simp), hm.scr.chg hc (by simp) (by simp), hm.ne, hm.gs, hm.gw⟩

/-- One append to the scratch, and the store. -/
theorem Mid.step {B : Nat} {w w1 : World} {o p r b : Nat} {h : Option Nat} {bv : Value} {l : List UInt8} {sc : Nat} {v v' : Value} {li li' : List UInt8} (hm : Mid B w o p r b h bv l sc v li) (ho : OwnB w1 v' li') (hg : w.grownBy w1 v.ownBlock) (hn : SameOrNew w v v') (hl : li' ≠ []) :
    Mid B (w1.setCell ⟨sc, 0, none⟩ v') o p r b h bv l sc v' li' ∧ Fr B w (w1.setCell ⟨sc, 0, none⟩ v') := by
  obtain ⟨hr, hp, hs, hne, gs, gw⟩ := hm
  obtain ⟨g, hgv⟩ : ∃ g, v.ownBlock = some g := by
    cases hq : v.ownBlock with
    | none => exact absurd hq hs.2.2
    | some g => exact ⟨g, rfl⟩
  obtain ⟨cur, hgb⟩ := own_blk hs.2.1 hgv
  have hc : Chg [sc, g] w (w1.setCell ⟨sc, 0, none⟩ v') := ((chg_of_grown hg).more (fun i hi => .inl (by rw [hgv] at hi; simp at hi; simp [hi]))).setCell (.inl (by simp)) _
  have hf : Fr B w (w1.setCell ⟨sc, 0, none⟩ v') := Fr.of_chg hc hr.hB (by
    intro i hi
    simp at hi
    rcases hi with rfl | rfl
    · exact ⟨gs, .inr ⟨_, _, hs.1, by unfold TT; simp⟩⟩
    · exact ⟨gw _ hgv, .inr ⟨_, _, hgb, by unfold TT; simp⟩⟩)
  obtain ⟨lr, hb⟩ := hr.buf
  have hb' : Blk w b 54 _ := hb
  obtain ⟨pc, hpb⟩ := hp.blk
  have n1 : b ≠ sc := Blk.ne_ hb' hs.1 (by decide)
  have n2 : b ≠ g := Blk.ne_ hb' hgb (by decide)
  have n3 : p ≠ sc := Blk.ne_ hpb hs.1 (by decide)
  have n4 : p ≠ g := Blk.ne_ hpb hgb (by decide)
  have hsc1 : Blk w1 sc 50 #[v] := hs.1.chg (chg_of_grown hg) (fun hm => by
    have e := mem_toList hm
    rw [hgv] at e
    injection e with e
    exact Blk.ne_ hgb hs.1 (by decide) e)
  have hvn : v'.ownBlock ≠ none := by
    intro e
    rcases ho.2 with ⟨e2, e3⟩ | ⟨g2, _, _, e2, _⟩
    · exact hl (List.eq_nil_of_length_eq_zero e3)
    · rw [e2] at e; simp [Value.ownBlock] at e
  refine ⟨⟨hr.chg hc hf (by simp [n1, n2]) (fun k hk => by
      simp
      refine ⟨own_blk_ne' hr.own hk hs.1 (by decide), fun e => hne ?_⟩
      subst e
      rw [hk, hgv]), hp.chg hc (by simp [n3, n4]) (fun k hk => ?_), ⟨by simpa using hsc1.set_ 0 v', ?_, hvn⟩, ?_, gs, ?_⟩, hf⟩
  · obtain ⟨rc, hrb⟩ := hp.row hk
    simp
    exact ⟨Blk.ne_ hrb hs.1 (by decide), Blk.ne_ hrb hgb (by decide)⟩
  · exact own_keep ho (fun k hk => Below.heap_setCell w1 _ _ k (own_blk_ne' ho hk hsc1 (by decide)))
  · rcases hn with e | ⟨j, e, hj⟩
    · rw [e]; exact hne
    · rw [e]
      intro e2
      have := (hr.own.lt j e2).2
      omega
  · intro k hk
    rcases hn with e | ⟨j, e, hj⟩
    · exact gw k (by rw [← e]; exact hk)
    · rw [e] at hk
      injection hk with hk
      subst hk
      exact Nat.le_trans hr.hB hj
/-- What a Write of the scratch leaves. -/
theorem Mid.written {B : Nat} {w w1 : World} {o p r b : Nat} {h : Option Nat} {bv : Value} {l : List UInt8} {sc : Nat} {v : Value} {li m : List UInt8} (hm : Mid B w o p r b h bv l sc v li) (hw : WritePost w w1 b bv l m) (hl : m ≠ []) :
    ∃ bv', Mid B w1 o p r b h bv' (l ++ m) sc v li ∧ Fr B w w1 := by
  obtain ⟨hr, hp, hs, hne, gs, gw⟩ := hm
  obtain ⟨bv', lr', h1, h2, h3, h4, h5⟩ := hw
  obtain ⟨lr, hb⟩ := hr.buf
  have hb' : Blk w b 54 _ := hb
  obtain ⟨pc, hpb⟩ := hp.blk
  have nn : ∀ {k : Nat} {t : TypeId} {cs : Array Value}, Blk w k t cs → t ≠ 54 → (t ≠ 5 ∨ bv.ownBlock ≠ some k) → k ∉ b :: bv.ownBlock.toList := by
    intro k t cs hk ht ht2 hmem
    rw [List.mem_cons] at hmem
    rcases hmem with e | e
    · exact Blk.ne_ hk hb' ht e
    · have e := mem_toList e
      rcases ht2 with ht2 | ht2
      · exact own_blk_ne' hr.own e hk (fun h => ht2 h.symm) rfl
      · exact ht2 e
  have hf : Fr B w w1 := Fr.of_chg h5 hr.hB (by
    intro i hi
    rw [List.mem_cons] at hi
    rcases hi with rfl | hi
    · exact ⟨hr.gb, .inr ⟨_, _, hb', by unfold TT; simp⟩⟩
    · have e := mem_toList hi
      obtain ⟨cur, hg⟩ := own_blk hr.own e
      exact ⟨hr.gv i e, .inr ⟨_, _, hg, by unfold TT; simp⟩⟩)
  refine ⟨bv', ⟨⟨Nat.le_trans hr.hB h5.size, hr.tab.fr hf, hf.opts hr.opts, ⟨lr', h1⟩, h2, fun _ => ?_, hr.gp, hr.gb, hr.gh, fun k hk => ?_⟩, hp.chg h5 (nn hpb (by decide) (.inl (by decide))) (fun k hk => ?_), hs.chg h5 (nn hs.1 (by decide) (.inl (by decide))) (fun k hk => ?_), ?_, gs, gw⟩, hf⟩
  · rw [List.length_append]
    have : 0 < m.length := List.length_pos_iff.2 hl
    omega
  · rcases h4 with e | ⟨j, e, hj⟩
    · exact hr.gv k (by rw [← e]; exact hk)
    · rw [e] at hk; injection hk with hk; subst hk; exact Nat.le_trans hr.hB hj
  · obtain ⟨rc, hrb⟩ := hp.row hk
    exact nn hrb (by decide) (.inl (by decide))
  · obtain ⟨cur, hg⟩ := own_blk hs.2.1 hk
    exact nn hg (by decide) (.inr (by rw [← hk]; exact hne))
  · rcases h4 with e | ⟨j, e, hj⟩
    · rw [e]; exact hne
    · rw [e]
      intro e2
      have := (hs.2.1.lt j e2.symm).2
      omega
/-- What get leaves. -/
theorem St.got {B : Nat} {w : World} {o p r b : Nat} {l : List UInt8} (hs : St B w o p r b l) :
    Calls Tryd.prog 42 #[.pointer (some ⟨p, 0, none⟩)] w fun e w' => ∃ sc h bv v, e = .returned (.pointer (some ⟨sc, 0, none⟩)) ∧ Mid B w' o p r b h bv l sc v [] ∧ Fr B w w' := by
  obtain ⟨h, bv, q, hr, hp, hq⟩ := hs
  obtain ⟨lr, hb⟩ := hr.buf
  have hb' : Blk w b 54 _ := hb
  obtain ⟨pc, hpb⟩ := hp.blk
  cases q with
  | some sc =>
    obtain ⟨v, h1, h2, h3, h4⟩ := hq sc rfl
    refine (get_some p sc h w hp).mono ?_
    rintro e w' ⟨rfl, hp', hc⟩
    have hf : Fr B w w' := Fr.of_chg hc hr.hB (by
      intro i hi
      simp at hi
      subst hi
      exact ⟨hr.gp, .inr ⟨_, _, hpb, by unfold TT; simp⟩⟩)
    have n1 : b ≠ p := Blk.ne_ hb' hpb (by decide)
    have n2 : sc ≠ p := Blk.ne_ h1.1 hpb (by decide)
    exact ⟨sc, h, bv, v, rfl, ⟨hr.chg hc hf (by simp [n1]) (fun k hk => by simp; exact own_blk_ne' hr.own hk hpb (by decide)), hp', h1.chg hc (by simp [n2]) (fun k hk => by simp; exact own_blk_ne' h1.2.1 hk hpb (by decide)), h2, h3, h4⟩, hf⟩
  | none =>
    obtain ⟨used, ps, hpp, rfl, ho⟩ := hp
    obtain ⟨A, c, rfl, hc0, _⟩ := own_form ho
    refine (getFresh_any p used w A c hpp).mono ?_
    rintro e w' ⟨g, rfl, rfl, h1, h2, h3⟩
    have hf := Fr.of_ext h3 hr.hB
    have hc := Chg.of_ext h3 []
    have hown : OwnB w' (.slice (some ⟨w.heap.size, 0, none⟩) 0 32) [] := own_base h2 (fun _ _ => Nat.zero_le _)
    refine ⟨_, _, bv, _, rfl, ⟨hr.chg hc hf (by simp) (by simp), ⟨used, _, Blk.chg (show Blk w p _ _ from hpp) hc (by simp), rfl, own_chg ho hc (by simp)⟩, ⟨h1, hown, by simp [Value.ownBlock]⟩, ?_, by have := hr.hB; omega, ?_⟩, hf⟩
    · intro e
      exact absurd (hr.own.lt _ e).2 (Nat.lt_irrefl _)
    · intro k hk
      simp [Value.ownBlock] at hk
      subst hk
      exact hr.hB
/-- What put leaves. -/
theorem Mid.putBack {B : Nat} {w : World} {o p r b : Nat} {h : Option Nat} {bv : Value} {l : List UInt8} {sc : Nat} {v : Value} {li : List UInt8} (hm : Mid B w o p r b h bv l sc v li) (u : FrameMode) :
    CallsD Tryd.prog 43 #[.pointer (some ⟨p, 0, none⟩), .pointer (some ⟨sc, 0, none⟩)] u w fun e u' w' => e = .returned (.tuple #[]) ∧ u' = u ∧ St B w' o p r b l ∧ Fr B w w' := by
  obtain ⟨hr, hp, hs, hne, gs, gw⟩ := hm
  refine (put_any p sc h v li u w hp hs).mono ?_
  rintro e u' w' ⟨rfl, rfl, h', q, hp', hq, hh', hc⟩
  obtain ⟨lr, hb⟩ := hr.buf
  have hb' : Blk w b 54 _ := hb
  obtain ⟨pc, hpb⟩ := hp.blk
  have hf : Fr B w w' := Fr.of_chg hc hr.hB (by
    intro i hi
    rw [List.mem_cons, List.mem_cons] at hi
    rcases hi with rfl | rfl | hi
    · exact ⟨hr.gp, .inr ⟨_, _, hpb, by unfold TT; simp⟩⟩
    · exact ⟨gs, .inr ⟨_, _, hs.1, by unfold TT; simp⟩⟩
    · have e := mem_toList hi
      obtain ⟨rc, hrb⟩ := hp.row e
      exact ⟨hr.gh i e, .inr ⟨_, _, hrb, by unfold TT; simp⟩⟩)
  have nn : ∀ {k : Nat} {t : TypeId} {cs : Array Value}, Blk w k t cs → t ≠ 133 → t ≠ 50 → t ≠ 91 → k ∉ p :: sc :: h.toList := by
    intro k t cs hk t1 t2 t3 hmem
    rw [List.mem_cons, List.mem_cons] at hmem
    rcases hmem with e | e | e
    · exact Blk.ne_ hk hpb t1 e
    · exact Blk.ne_ hk hs.1 t2 e
    · obtain ⟨rc, hrb⟩ := hp.row (mem_toList e)
      exact Blk.ne_ hk hrb t3 rfl
  have hr' := hr.chg hc hf (nn hb' (by decide) (by decide) (by decide)) (fun k hk => by
    obtain ⟨cur, hg⟩ := own_blk hr.own hk
    exact nn hg (by decide) (by decide) (by decide))
  refine ⟨rfl, rfl, ⟨h', bv, q, ⟨hr'.hB, hr'.tab, hr'.opts, hr'.buf, hr'.own, hr'.hz, hr'.gp, hr'.gb, fun k hk => ?_, hr'.gv⟩, hp', fun sc' e => ?_⟩, hf⟩
  · rcases hh' with e | ⟨j, e, hj⟩
    · exact hr.gh k (by rw [← e]; exact hk)
    · rw [e] at hk; injection hk with hk; subst hk; exact Nat.le_trans hr.hB hj
  · rcases hq with e2 | ⟨e2, v', h1, h2⟩
    · rw [e2] at e; cases e
    · rw [e2] at e
      injection e with e
      subst e
      exact ⟨v', h1, by rw [h2]; exact hne, gs, fun k hk => gw k (by rw [← h2]; exact hk)⟩
end Go.Proofs.YtepeokoeempfgaaDoor
