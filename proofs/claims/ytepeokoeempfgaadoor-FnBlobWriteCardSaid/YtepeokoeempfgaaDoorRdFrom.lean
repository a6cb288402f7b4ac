/-
  (*bytes.Buffer).ReadFrom over io.LimitedReader.
-/
import Derived.Test.YtepeokoeempfgaaDoorLim
import Derived.Test.YtepeokoeempfgaaDoorBufX
namespace Go.Proofs.YtepeokoeempfgaaDoor
open Go.RowKit
set_option linter.unusedVariables false
set_option linter.unusedSimpArgs false

set_option maxRecDepth 100000 in
set_option maxHeartbeats 2000000 in
theorem grow_room (b g l cap n : Nat) (lr : Int) (cur : Array Value) (w : World) (hb : BufB w b (.slice (some ⟨g, 0, none⟩) l cap) lr) (hg : Blk w g 5 cur) (hl : 1 ≤ l) (hlc : l ≤ cap) (hcs : cur.size = cap) (hmax : cap ≤ maxLen) (hroom : n ≤ cap - l) (hn2 : n ≤ 100000000) :
    Calls Tryd.prog 125 #[.pointer (some ⟨b, 0, none⟩), .int .i64 n] w fun e w' => e = .returned (.int .i64 l) ∧ BufB w' b (.slice (some ⟨g, 0, none⟩) (l + n) cap) lr ∧ Blk w' g 5 cur ∧ Chg [b] w w' := by
  have hlen : (cur.toList.take l).length = l := by simp; omega
  have hgb : g ≠ b := Blk.ne_ hg hb (by decide)
  have hIs : Lib.IsBuffer 54 5 0 b (cur.toList.take l) w := ⟨Nat.zero_le _, _, _, hb, ⟨by simp, .inr ⟨g, cap, cur, by rw [hlen], Nat.zero_le _, hg, by omega, hmax, by omega, by rw [hlen, Nat.mul_one]⟩⟩, by simp [Value.ownBlock]; exact hgb⟩
  have LN := Tryd.Buffer_Len 0 b _ w hIs
  rw [hlen] at LN
  have LN := hide LN
  clear hIs
  go_enter Tryd.func125, Tryd.ntmps125
  go_wp2_with fail
  refine LN.out.mono ?_
  rintro e W0 ⟨rfl, k, rfl⟩
  have hb0 : BufB (w.drewN k) b (.slice (some ⟨g, 0, none⟩) l cap) lr := Blk.drewN hb k
  have hg0 : Blk (w.drewN k) g 5 cur := hg.drewN k
  have c0 := Blk.cell hb0 0
  have c1 := Blk.cell hb0 1
  have f0 := Blk.frozen hb0 0
  simp at c0 c1
  have TG := hide (Tryd.Buffer_tryGrow_room b (some ⟨g, 0, none⟩) l cap n (w.drewN k) (by simpa using c0) f0 hlc hmax hroom)
  have i1 : (1 : Int) ≤ l := by omega
  have END : Hid (BufB ((w.drewN k).setCell ⟨b, 0, none⟩ (.slice (some ⟨g, 0, none⟩) (l + n) cap)) b (.slice (some ⟨g, 0, none⟩) (l + n) cap) lr ∧ Blk ((w.drewN k).setCell ⟨b, 0, none⟩ (.slice (some ⟨g, 0, none⟩) (l + n) cap)) g 5 cur ∧ Chg [b] w ((w.drewN k).setCell ⟨b, 0, none⟩ (.slice (some ⟨g, 0, none⟩) (l + n) cap))) := hide ⟨by unfold BufB; simpa using (show Blk (w.drewN k) b _ _ from hb0).set_ 0 (.slice (some ⟨g, 0, none⟩) (l + n) cap), hg0.far (by simpa using hgb) _, ((Chg.refl _ _).drewN k).setCell (.inl (by simp)) _⟩
  clear hb0 hg0 hb hg LN
  go_wp2_with fail
  refine TG.out.mono ?_
  rintro e W1 ⟨rfl, hW1⟩
  rw [← hW1] at END
  clear hW1
  go_wp2
  go_ret
  exact ⟨rfl, END.out⟩

def GrowAny (w w' : World) (b : Nat) (bv : Value) (lr : Int) (l : List UInt8) (n : Nat) : Prop := ∃ k cap cells, BufB w' b (.slice (some ⟨k, 0, none⟩) (l.length + n) cap) lr ∧ Blk w' k 5 cells ∧ cells.size = cap ∧ cells.toList.take l.length = bs l ∧ l.length + n ≤ cap ∧ cap ≤ maxLen ∧ SameOrNew w bv (.slice (some ⟨k, 0, none⟩) (l.length + n) cap) ∧ Chg [b] w w'
theorem grow_any (b n : Nat) (bv : Value) (lr : Int) (l : List UInt8) (w : World) (hb : BufB w b bv lr) (ho : OwnB w bv l) (hl : 1 ≤ l.length) (hn : 1 ≤ n) (hlim : l.length + n ≤ 100000000) :
    Calls Tryd.prog 125 #[.pointer (some ⟨b, 0, none⟩), .int .i64 n] w fun e w' => e = .returned (.int .i64 l.length) ∧ GrowAny w w' b bv lr l n := by
  rcases ho.2 with ⟨_, h0⟩ | ⟨g, cap, cur, rfl, _, hg, hle, hcm, hcs, htk⟩
  · omega
  have hcs' : cur.size = cap := by omega
  have htk' : cur.toList.take l.length = bs l := by simpa using htk
  by_cases hroom : n ≤ cap - l.length
  · refine (grow_room b g l.length cap n lr cur w hb hg hl hle hcs' hcm hroom (by omega)).mono ?_
    rintro e w' ⟨rfl, h1, h2, h3⟩
    exact ⟨rfl, g, cap, cur, h1, h2, hcs', htk', by omega, hcm, .inl rfl, h3⟩
  · refine (grow_row b g l.length cap n lr cur w hb hg hl hle hcs' (by rw [htk']; exact bs_one_g l) hn (by omega) (by omega)).mono ?_
    rintro e w' ⟨rfl, k, cap2, cells, h1, h2, h3, h4, h5, h6, h7, h8⟩
    rw [htk', bs_length] at h2 h5 h6
    exact ⟨rfl, k, cap2, cells, h2, h3, h4, h5, h6, h7, .inr ⟨k, rfl, h1⟩, h8⟩

/-- In the loop of ReadFrom: j bytes have been read. -/
structure RdI (w wr : World) (B b q k g : Nat) (bv0 : Value) (l text : List UInt8) (n : Nat) (L : Int) (ad : Addr) (j : Nat) : Prop where
  buf : ∃ bv lr, BufB wr b bv lr ∧ OwnB wr bv (l ++ text.take j) ∧ SameOrNew w bv0 bv
  lim : Lim wr B q k g ((n - j : Nat) : Int) (L - j) (text.drop j)
  eof : EofAt wr B ad
  chg : Chg (b :: q :: k :: g :: bv0.ownBlock.toList) w wr
  jn : j ≤ n
  jt : j ≤ text.length
theorem RdI.lt {w wr : World} {B b q k g n j : Nat} {bv0 : Value} {l text : List UInt8} {L : Int} {ad : Addr} (h : RdI w wr B b q k g bv0 l text n L ad j) : w.heap.size ≤ wr.heap.size := h.chg.size

/-- One round: grow, cut, read, cut. -/
theorem rd_step {w wr w1 w3 : World} {B b q k g n j kk cap m : Nat} {bv0 bv : Value} {lr : Int} {l text : List UInt8} {L : Int} {ad : Addr} {cells : Array Value} {I : Nat} {e : Ending}
    (h : RdI w wr B b q k g bv0 l text n L ad j) (hbv : SameOrNew w bv0 bv) (hbB : B ≤ b) (hv0 : ∀ x, bv0.ownBlock = some x → B ≤ x) (hwB : B ≤ w.heap.size) (hI : (l ++ text.take j).length = I)
    (hb1 : BufB w1 b (.slice (some ⟨kk, 0, none⟩) (I + 512) cap) lr) (hg1 : Blk w1 kk 5 cells) (hcs : cells.size = cap) (htk : cells.toList.take I = bs (l ++ text.take j)) (hcap : I + 512 ≤ cap) (hmax : cap ≤ maxLen) (hsn : SameOrNew wr bv (.slice (some ⟨kk, 0, none⟩) (I + 512) cap)) (hch : Chg [b] wr w1)
    (hS : LimS ((w1.setCell ⟨b, 0, none⟩ (.slice (some ⟨kk, 0, none⟩) I cap)).drew) B q k g kk I (cap - I) ((n - j : Nat) : Int) (L - j) 5 cells (text.drop j) ad e w3) :
    (e = .returned (.tuple #[.int .i64 0, .iface 215 (.pointer (some ad))]) ∧ j = min n text.length ∧ w3.cell? ⟨b, 0, none⟩ = some (.slice (some ⟨kk, 0, none⟩) I cap) ∧ w3.frozen? ⟨b, 0, none⟩ = false ∧ RdI w (w3.setCell ⟨b, 0, none⟩ (.slice (some ⟨kk, 0, none⟩) I cap)) B b q k g bv0 l text n L ad j) ∨
    ∃ m : Nat, 0 < m ∧ m ≤ 1000000 ∧ j + m ≤ n ∧ j + m ≤ text.length ∧ I + m ≤ cap ∧ e = .returned (.tuple #[.int .i64 (m : Nat), .nilIface]) ∧ w3.cell? ⟨b, 0, none⟩ = some (.slice (some ⟨kk, 0, none⟩) I cap) ∧ w3.frozen? ⟨b, 0, none⟩ = false ∧ RdI w (w3.setCell ⟨b, 0, none⟩ (.slice (some ⟨kk, 0, none⟩) (I + m) cap)) B b q k g bv0 l text n L ad (j + m) := by
  have hkb : kk ≠ b := Blk.ne_ hg1 hb1 (by decide)
  obtain ⟨gc, hgb⟩ := h.lim.r_.blk
  have hbr : ∀ {bb : Nat} {tt : TypeId} {cs : Array Value}, Blk wr bb tt cs → tt ≠ 54 → bb ≠ b := fun hx ht => by
    obtain ⟨bv', lr', hb', _⟩ := h.buf
    exact Blk.ne_ hx hb' ht
  have nqb := hbr h.lim.q_ (by decide)
  have nkb := hbr h.lim.k_ (by decide)
  have ngb := hbr hgb (by decide)
  have hq1 := h.lim.q_.chg hch (by simp [nqb])
  have hk1 := h.lim.k_.chg hch (by simp [nkb])
  have hg1' := hgb.chg hch (by simp [ngb])
  have nqk : q ≠ kk := Blk.ne_ hq1 hg1 (by decide)
  have nkk : k ≠ kk := Blk.ne_ hk1 hg1 (by decide)
  have ngk : g ≠ kk := Blk.ne_ hg1' hg1 (by decide)
  have hb2 : BufB ((w1.setCell ⟨b, 0, none⟩ (.slice (some ⟨kk, 0, none⟩) I cap)).drew) b (.slice (some ⟨kk, 0, none⟩) I cap) lr := by
    unfold BufB
    simpa using ((show Blk w1 b _ _ from hb1).set_ 0 (.slice (some ⟨kk, 0, none⟩) I cap)).drew
  have hcw2 : Chg [b] wr ((w1.setCell ⟨b, 0, none⟩ (.slice (some ⟨kk, 0, none⟩) I cap)).drew) := (hch.setCell (.inl (by simp)) _).drew
  have hkB : kk ∈ b :: q :: k :: g :: bv0.ownBlock.toList ∨ w.heap.size ≤ kk := by
    have h1 := hbv.then h.lt hsn
    rcases h1 with e | ⟨x, e, hx⟩
    · left
      have : bv0.ownBlock = some kk := by rw [← e]; rfl
      rw [this]; simp
    · right
      injection e with e
      subst e
      exact hx
  have hsame : SameOrNew w bv0 (.slice (some ⟨kk, 0, none⟩) I cap) := hbv.then h.lt hsn
  have hBall : ∀ i ∈ b :: q :: k :: g :: bv0.ownBlock.toList, B ≤ i := fun i hi => by
    simp only [List.mem_cons] at hi
    rcases hi with rfl | rfl | rfl | rfl | hi
    · exact hbB
    · exact h.lim.bq
    · exact h.lim.bk
    · exact h.lim.bg
    · exact hv0 i (mem_toList hi)
  have heof : ∀ {wz : World}, (∃ S, Chg S wr wz ∧ ∀ i ∈ S, B ≤ i) → EofAt wz B ad := fun ⟨S, hc, hS⟩ => h.eof.chg hc hS
  rcases hS with ⟨h0, rfl, hl3, hr3, hc3⟩ | ⟨m, hm0, hm1, hm2, hm3, rfl, hl3, hr3, hc3⟩
  · left
    have hb3 : Blk w3 b _ _ := Blk.chg (show Blk _ b _ _ from hb2) hc3 (by simp [Ne.symm nqb, Ne.symm nkb])
    have c0 := hb3.cell 0
    simp at c0
    refine ⟨rfl, ?_, c0, hb3.frozen 0, ⟨⟨.slice (some ⟨kk, 0, none⟩) I cap, lr, by unfold BufB; simpa using hb3.set_ 0 (.slice (some ⟨kk, 0, none⟩) I cap), ?_, hsame⟩, hl3.chg ((Chg.refl [b] w3).setCell (.inl (by simp)) _) (by simp [nqb]) (by simp [nkb]) (by simp [ngb]), ?_, ?_, h.jn, h.jt⟩⟩
    · have := h.jn
      have := h.jt
      rcases h0 with h0 | h0
      · omega
      · have := congrArg List.length h0
        simp at this
        omega
    · refine ⟨by simp [bs], .inr ⟨kk, cap, cells, by rw [hI], Nat.zero_le _, (hr3.far (by simpa using hkb) _), by omega, hmax, by omega, by rw [Nat.mul_one, hI]; exact htk⟩⟩
    · exact heof ⟨[b, q, k], (hcw2.more (by simp)).trans ((hc3.more (fun i hi => .inl (by simp at hi ⊢; rcases hi with rfl | rfl <;> simp))).setCell (.inl (by simp)) _), fun i hi => by
        simp at hi
        rcases hi with rfl | rfl | rfl
        · exact hbB
        · exact h.lim.bq
        · exact h.lim.bk⟩
    · refine (h.chg.then (hcw2) (fun i hi => .inl (by simp at hi; simp [hi]))).then ((hc3.more (S' := [q, k, b]) (fun i hi => .inl (by simp at hi ⊢; rcases hi with rfl | rfl <;> simp))).setCell (.inl (by simp)) _) (fun i hi => .inl (by simp at hi; rcases hi with rfl | rfl | rfl <;> simp))
  · right
    have hb3 : Blk w3 b _ _ := Blk.chg (show Blk _ b _ _ from hb2) hc3 (by simp [Ne.symm nqb, Ne.symm nkb, Ne.symm ngb, Ne.symm hkb])
    have c0 := hb3.cell 0
    simp at c0
    have hm4 : m ≤ text.length - j := by simpa using hm3
    have hjn := h.jn
    have hjt := h.jt
    have hmx : m ≤ 1000000 := by
      obtain ⟨s, _, h1, h2⟩ := h.lim.r_
      have : (text.drop j).length ≤ 1000000 := h2
      simp at this
      omega
    have e1 : (l ++ text.take (j + m)) = (l ++ text.take j) ++ (text.drop j).take m := by rw [List.append_assoc, List.take_add]
    have hlm : (bs ((text.drop j).take m)).length = m := by rw [bs_length, List.length_take, List.length_drop]; omega
    refine ⟨m, hm0, hmx, by omega, by omega, by omega, rfl, c0, hb3.frozen 0, ⟨⟨.slice (some ⟨kk, 0, none⟩) (I + m) cap, lr, by unfold BufB; simpa using hb3.set_ 0 (.slice (some ⟨kk, 0, none⟩) (I + m) cap), ?_, hsame⟩, ?_, ?_, ?_, by omega, by omega⟩⟩
    · have hlen : (l ++ text.take (j + m)).length = I + m := by rw [e1, List.length_append, hI, List.length_take, List.length_drop]; omega
      refine ⟨by simp [bs], .inr ⟨kk, cap, _, by rw [hlen], Nat.zero_le _, (hr3.far (by simpa using hkb) _), by omega, hmax, by rw [ovr_size (by rw [hlm]; omega)]; omega, ?_⟩⟩
      rw [Nat.mul_one, hlen, e1]
      have e2 : bs ((l ++ text.take j) ++ (text.drop j).take m) = bs (l ++ text.take j) ++ bs ((text.drop j).take m) := by simp [bs]
      rw [e2, ← htk]
      unfold ovr
      have e3 : (cells.toList.take I ++ bs ((text.drop j).take m)).length = I + m := by rw [List.length_append, hlm, List.length_take, Array.length_toList]; omega
      rw [List.toList_toArray, ← e3]
      exact List.take_left
    · have := hl3.chg ((Chg.refl [b] w3).setCell (p := ⟨b, 0, none⟩) (.inl (by simp)) (.slice (some ⟨kk, 0, none⟩) (I + m) cap)) (by simp [nqb]) (by simp [nkb]) (by simp [ngb])
      rw [List.drop_drop] at this
      have e2 : ((n - j : Nat) : Int) - (m : Int) = ((n - (j + m) : Nat) : Int) := by omega
      have e3 : L - (j : Int) - (m : Int) = L - ((j + m : Nat) : Int) := by omega
      rw [e2, e3] at this
      exact this
    · refine heof ⟨b :: [q, k, g, kk], (hcw2.more (by simp)).trans ((hc3.more (fun i hi => .inl (by simp at hi ⊢; rcases hi with rfl | rfl | rfl | rfl <;> simp))).setCell (.inl (by simp)) _), fun i hi => ?_⟩
      simp at hi
      rcases hi with rfl | rfl | rfl | rfl | rfl
      · exact hbB
      · exact h.lim.bq
      · exact h.lim.bk
      · exact h.lim.bg
      · rcases hkB with h1 | h1
        · exact hBall _ h1
        · omega
    · refine (h.chg.then (hcw2) (fun i hi => .inl (by simp at hi; simp [hi]))).then ((hc3.more (S' := [q, k, g, kk, b]) (fun i hi => .inl (by simp at hi ⊢; rcases hi with rfl | rfl | rfl | rfl <;> simp))).setCell (.inl (by simp)) _) (fun i hi => ?_)
      simp only [List.mem_cons, List.not_mem_nil, or_false] at hi
      rcases hi with rfl | rfl | rfl | rfl | rfl
      · exact .inl (by simp)
      · exact .inl (by simp)
      · exact .inl (by simp)
      · rcases hkB with h1 | h1
        · exact .inl h1
        · exact .inr h1
      · exact .inl (by simp)
end Go.Proofs.YtepeokoeempfgaaDoor
